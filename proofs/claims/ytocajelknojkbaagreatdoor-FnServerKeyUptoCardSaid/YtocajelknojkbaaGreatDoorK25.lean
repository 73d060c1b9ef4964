import Derived.Test.YtocajelknojkbaaGreatDoorK23
set_option maxRecDepth 100000
set_option maxHeartbeats 16000000
set_option linter.all false
namespace Go.Proofs.YtocajelknojkbaaGreatDoor
open Go.Lib (hid)
open Go.RowKit
theorem message_reqR (N : Nat) (method : Bytes) (u : LUri) (code : Int) (reason : Bytes) (heads : List LHead) (body : Bytes) (cs : List Value) (w : World) (hG : Gl N w) (hM : LM w ⟨false, method, u, code, reason, sip20B, heads, body, true, false⟩ cs) (hl : reason.length ≤ 70368744177664 ∧ method.length ≤ 70368744177664) (hbl : body.length < 4294967296) (hhl : heads.length ≤ 1000) (hH : ∀ h ∈ heads, HMs h) (hU : UBd u ∧ u.raw = []) : Calls Tryz.prog 45 #[.agg cs.toArray] w (MPostR ⟨false, method, u, code, reason, sip20B, heads, body, true, false⟩ w) := by
 obtain ⟨va, ul, vb, vc, vh, vd, rfl, hm, hu, hr, hv, hh, hbo, hcode⟩ := hM
 have HLU := hid hu
 obtain ⟨u0, u1, u4, u5, u6, u8, u9, rfl, q0, q1, q4, q5, q6, q8, q9, q7⟩ := hu
 dsimp only at *
 simp only [List.cons_append, List.nil_append]
 have HX := hid (And.intro hm (And.intro hr (And.intro hv (And.intro hh (And.intro hbo hcode)))))
 have HGL := hid hG
 have HNB := hid (And.intro hl (And.intro hbl (And.intro hhl hH)))
 have HUB := hid hU
 obtain ⟨Am, cm, rfl, -⟩ := hm.form
 obtain ⟨Ar, cr, rfl, -⟩ := hr.form
 obtain ⟨Av, cv, rfl, -⟩ := hv.form
 obtain ⟨Ah, ch, rfl, -⟩ := hh
 obtain ⟨Ab, cb, rfl, -⟩ := hbo.form
 clear hm hr hv hbo hcode hG hl hbl hhl hH q0 q1 q4 q5 q6 q7 q8 q9 hU
 have hlen7 : sip20B.length = 7 := rfl
 rw [hlen7] at HX ⊢
 obtain ⟨wb, hwb⟩ : ∃ wb, wb = w.alloc (.cells #[.bool false, .slice Am method.length cm, u0, u1, .bool u.star, .bool u.slashes, u4, u5, u6, .int .i64 u.port, u8, u9, .int .i64 code, .slice Ar reason.length cr, .slice Av 7 cv, .slice Ah heads.length ch, .slice Ab body.length cb, .bool true, .bool false] 28) := ⟨_, rfl⟩
 have HWB1 := hid (show wb.heap[w.heap.size]? = some (.cells ([.bool false, .slice Am method.length cm, u0, u1, .bool u.star, .bool u.slashes, u4, u5, u6, .int .i64 u.port, u8, u9, .int .i64 code, .slice Ar reason.length cr, .slice Av 7 cv, .slice Ah heads.length ch, .slice Ab body.length cb, .bool true, .bool false] : List Value).toArray 28 (0, 0)) by rw [hwb]; exact heap_alloc_new w _)
 have HB0 := hid (show Below w.heap.size w wb by rw [hwb]; exact (Below.refl _ w).alloc (Nat.le_refl _) _)
 have HSZ := hid (show wb.heap.size = w.heap.size + 1 by rw [hwb]; simp)
 go_enter Tryz.func45, Tryz.ntmps45
 go_upto_region 1 with fail
 rw [← hwb]
 generalize Value.agg #[.bool false, .slice Am method.length cm, u0, u1, .bool u.star, .bool u.slashes, u4, u5, u6, .int .i64 u.port, u8, u9, .int .i64 code, .slice Ar reason.length cr, .slice Av 7 cv, .slice Ah heads.length ch, .slice Ab body.length cb, .bool true, .bool false] = arg0
 clear hwb
 have c0 := row_at HWB1.out 0 _ rfl
 go_upto_region 8 with fail
 refine wp_region_grow 6 (CK wb.heap.size) (IW wb)
  (fun i v w' => match i with
   | 0 => v = .pointer (some ⟨w.heap.size, 1, none⟩)
   | 1 => v = .slice Am method.length cm
   | 2 => v = .string (bs method)
   | 3 => v = .pointer (some ⟨w.heap.size, 2, none⟩)
   | 4 => v = .agg #[u0, u1, .bool u.star, .bool u.slashes, u4, u5, u6, .int .i64 u.port, u8, u9]
   | 5 => UVal w' v (toS u)
   | _ => True)
  [[], [0], [1], [], [3], [4]] rfl (by kernel_rfl) (by kernel_rfl) (fun _ _ => IW.step) ?_ ?_ ?_ ?_
 ·intro j hj v w'
  match j, hj with
  | j + 6, _ => trivial
 ·exact CK.of_below (Below.refl _ _).drew (Nat.le_refl _)
 ·simp only [List.take_succ_cons, List.take_zero, fillAll]
  have c1 := row_at HWB1.out 1 _ rfl
  have HC1 := hid c1
  clear c0 c1
  refine ⟨⟨?_, ?_⟩, ⟨?_, ?_⟩, ⟨?_, ?_⟩, ⟨?_, ?_⟩, ⟨?_, ?_⟩, ⟨?_, ?_⟩, trivial⟩
  ·exact fun v w1 w2 h k => h
  ·intro vals w1 hI hd
   unfold GStep
   go_wp2
   exact CK.refl _ _
  ·exact fun v w1 w2 h k => h
  ·intro vals w1 hI hd
   have h1 : vals 0 = _ := hd.1
   have dc := hI.cell HC1.out
   unfold GStep
   go_wp2
   exact CK.refl _ _
  ·exact fun v w1 w2 h k => h
  ·intro vals w1 hI hd
   have h1 : vals 1 = _ := hd.1
   have hcv := ((HX.out.1.below HB0.out).ck hI).conv 82 Tryz.underlying82
   have HI := hid hI
   clear hd hI
   unfold GStep
   go_wp2
   first | exact CK.refl _ _ | exact ⟨CK.refl _ _, rfl⟩
  ·exact fun v w1 w2 h k => h
  ·intro vals w1 hI hd
   unfold GStep
   go_wp2
   exact CK.refl _ _
  ·exact fun v w1 w2 h k => h
  ·intro vals w1 hI hd
   have h1 : vals 3 = _ := hd.1
   have hrs := row_sub (pre := [.bool false, .slice Am method.length cm]) (mid := [u0, u1, .bool u.star, .bool u.slashes, u4, u5, u6, .int .i64 u.port, u8, u9]) (by have := hI.same HWB1.out (by decide); exact this) 2 rfl
   have HRS := hid hrs
   clear hrs hd
   unfold GStep
   dsimp only
   rw [h1]
   go_simp
   refine wpList_load_any (by rfl) 25 (.tmp 39) (by rfl) ⟨w.heap.size, 2, none⟩ (by rfl) [u0, u1, .bool u.star, .bool u.slashes, u4, u5, u6, .int .i64 u.port, u8, u9] _ HRS.out Tryz.underlying25 rfl (by rw [uri_size]; rfl) ?_
   go_wp2
   exact CK.refl _ _
  ·rintro v w1 w2 ⟨vp, vh, h1, h2, h3⟩ k
   exact ⟨vp, vh, h1, h2.ck k, h3.ck k⟩
  ·intro vals w1 hI hd
   have h1 : vals 4 = _ := hd.1
   have HC := hid (address_any N u [u0, u1, .bool u.star, .bool u.slashes, u4, u5, u6, .int .i64 u.port, u8, u9] w1 (HGL.out.below (HB0.out.trans (hI.below.mono HB0.out.size)) HGL.out.le) ((HLU.out.below HB0.out).ck hI) HUB.out.1)
   have HI := hid hI.size
   clear hd hI
   unfold GStep
   go_wp2_with (go_at_call 75; refine HC.out.mono ?_; rintro e w3 ⟨v, su, rfl, huv, hsu, hb⟩)
   have hsu2 := hsu HUB.out.2
   subst hsu2
   have HF := hid (show CK wb.heap.size w1 w3 ∧ UVal w3 v (toS u) from ⟨CK.of_below hb HI.out, huv⟩)
   clear huv hb hsu
   go_wp2
   exact HF.out
 ·intro vals w1 hI hR
  simp only [List.drop_succ_cons, List.drop_zero, List.take_succ_cons, List.take_zero, fillAll]
  obtain ⟨-, -, r2, -, -, r5, -⟩ := hR
  have e2 : vals 2 = _ := r2
  rw [e2]
  generalize vals 5 = x5 at r5 ⊢
  have HC := hid (newreq_any (bs method) (toS u) x5 w1 r5 (by simpa [toS, strKVs] using HUB.out.1.params) (by simpa [toS, strKVs] using HUB.out.1.hdrs))
  have HI := hid hI
  clear r5 hI c0 r2 e2
  go_upto_region 9 with (go_at_call 79; refine HC.out.mono ?_; rintro e wn ⟨mm, vp, vh, rfl, hm0, hpv, hph, hb⟩)
  obtain ⟨n0, hn0⟩ : ∃ n0, n0 = w1.heap.size := ⟨_, rfl⟩
  have HMM := hid (show wb.heap.size ≤ n0 by have := HI.out.size; omega)
  have HM0 := hid (show MRep n0 wn mm _ _ _ _ by rw [hn0]; exact hm0)
  have HPV := hid (And.intro hpv hph)
  have HB := hid (show Below wb.heap.size wb wn from HI.out.below.trans (hb.mono HI.out.size))
  clear hm0 hpv hph hb hn0 HI HC
  have HBN := hid (show ∀ wz, Below n0 wn wz → Below w.heap.size w wz from fun wz h => HB0.out.trans ((HB.out.trans (h.mono (by have := HMM.out; omega))).mono HB0.out.size))
  have HBX := hid (show ∀ wz, Below n0 wn wz → wz.heap[w.heap.size]? = some (.cells ([.bool false, .slice Am method.length cm, u0, u1, .bool u.star, .bool u.slashes, u4, u5, u6, .int .i64 u.port, u8, u9, .int .i64 code, .slice Ar reason.length cr, .slice Av 7 cv, .slice Ah heads.length ch, .slice Ab body.length cb, .bool true, .bool false] : List Value).toArray 28 (0, 0)) from fun wz h => by
   have h1 := HB.out.block w.heap.size (by have := HSZ.out; omega)
   have h2 := h.block w.heap.size (by have := HSZ.out; have := HMM.out; omega)
   rw [h2, h1]; exact HWB1.out)
  have HWX := hid (show ∀ wz, Below n0 wn wz → wn.heap.size ≤ wz.heap.size from fun wz h => h.size)
  obtain ⟨v0, hmn, hmb, hmo, hmT⟩ := HM0.out.at_
  have e13 : (mcells v0 (fun _ => none) (msgX (.slice none 0 0) ++ .string (bs method) :: uriV (toS u) vp vh))[13]? = some (.string sip2) := rfl
  have e12 : (mcells v0 (fun _ => none) (msgX (.slice none 0 0) ++ .string (bs method) :: uriV (toS u) vp vh))[12]? = some (.bool false) := rfl
  have s13 := setCell_same hmb e13
  have s12 := setCell_same hmb e12
  have m13 := (blk_cell hmb 13).trans e13
  have m12 := (blk_cell hmb 12).trans e12
  have f13 := blk_frozen hmb 13
  have f12 := blk_frozen hmb 12
  have hmlt := heap_lt hmb
  clear e12 e13 hmn hmb hmo hmT
  have b1 := HBX.out wn (Below.refl _ _)
  have c14 := row_at b1 14 _ rfl
  have c18 := row_at b1 18 _ rfl
  clear b1
  have v1 := (HX.out.2.2.1.below (HBN.out wn (Below.refl _ _))).conv 9 Tryz.underlying9
  have hS2 : (⟨sip20B.toArray⟩ : ByteArray) = sip2 := rfl
  rw [hS2] at v1
  go_upto_region 11 with fail
  try rw [s13]
  go_upto_region 12 with fail
  try rw [s12]
  clear s12 s13 m12 m13 f12 f13 hmlt c14 c18 v1 hS2
  have HNN := hid (show n0 ≤ wn.heap.size from by have := HM0.out.at_; obtain ⟨_, h1, hb, _⟩ := this; exact Nat.le_trans h1 (Nat.le_of_lt (heap_lt hb)))
  have b1 := HBX.out wn (Below.refl _ _)
  have c15 := row_at b1 15 _ rfl
  clear b1
  go_wp2_with fail
  go_loopw [7, 66] (fun _ i wr => ∃ (k : Nat) (hk : List (Nat × SH)) (R : Nat → Option Nat), k ≤ heads.length ∧ i = .int .i64 k ∧ hk.map (·.2) = (heads.take k).map hdrS ∧ MRep n0 wr mm 136 hk R (msgX (.slice none 0 0) ++ .string (bs method) :: uriV (toS u) vp vh) ∧ (R 7 = none ∧ R = refsOf hk) ∧ Below n0 wn wr ∧ KT wn wr) (fun _ i _ => heads.length - (intOf i).toNat)
  case atStart => exact ⟨0, [], fun _ => none, Nat.zero_le _, rfl, rfl, HM0.out, ⟨rfl, rfl⟩, Below.refl _ _, KT.refl _⟩
  case round =>
   obtain ⟨k, hk, R, hkl, rfl, hmap, hmr, hr7, hb, hkt⟩ := hrel
   have HKT := hid hkt
   obtain ⟨wo, rfl⟩ : ∃ wo : World, wo = wr := ⟨_, rfl⟩
   have HMP := hid hmap
   have HMR := hid hmr
   have HR7 := hid hr7
   have HBW := hid hb
   have HKL := hid (show hk.length = k by have := congrArg List.length hmap; simpa [Nat.min_eq_left hkl] using this)
   have HNO := hid (Nat.le_trans HNN.out (HWX.out wo hb))
   have hl64 : (heads.length : Int) ≤ 1000 := by have := HNB.out.2.2.1; omega
   clear hmap hmr hr7 hb hkt c15
   by_cases hlt : k < heads.length
   ·obtain ⟨ad, c', hcs, h, e1, hh, hL, hcell⟩ := HX.out.2.2.2.1.at_ k hlt
    cases e1
    have HH := hid hh
    have HHM := hid (HNB.out.2.2.2 h (List.mem_of_getElem? hh))
    have HLH := hid (hL.below (HBN.out wo HBW.out))
    have HON := hid (hL.x w).one
    have HCL := hid (show ∀ j v, hcs[j]? = some v → wo.cell? ((ad.add (k * 21)).add j) = some v from fun j v hj => cell_at_below (hcell j v hj) (HBN.out wo HBW.out))
    have HLN := hid hL.len
    have HIN := hid (show (Tryz.prog.info? 35).map (·.size) = some hcs.length by rw [hL.len]; exact head_size)
    have hi1 : (k : Int) < heads.length := by omega
    have hi0 : (0 : Int) ≤ k := by omega
    clear hL hcell hh
    go_upto_region 16 with (first
     | (refine wpList_load_any_w (by rfl) 35 (.tmp 68) (by rfl) _ (by rfl) hcs _ HCL.out Tryz.underlying35 (by rfl) HIN.out ?_)
     | (refine wpList_store_blk (by rfl) 35 (.tmp 7) (.tmp 69) (by rfl) wo.heap.size 35 [.int .i64 0, .slice none 0 0, .slice none 0 0, .slice none 0 0, .slice none 0 0, .slice none 0 0, .bool false, .bool false, .slice none 0 0, .slice none 0 0, .slice none 0 0, .int .i64 0, .slice none 0 0, .slice none 0 0, .slice none 0 0, .int .u32 0, .slice none 0 0, .slice none 0 0, .slice none 0 0, .slice none 0 0, .int .i64 0] hcs (by rfl) (by rfl) (by rw [HLN.out]; rfl) (heap_alloc_new wo _) 21 head_size HLN.out HON.out ?_; intro W3 hst3)
     | fail)
    have HST := hid hst3
    have HB3 := hid (show Below wo.heap.size wo W3 from ((Below.refl _ wo).alloc (Nat.le_refl _) _).trans hst3.below)
    obtain ⟨g7, hg7⟩ : ∃ g7, g7 = wo.heap.size := ⟨_, rfl⟩
    rw [← hg7] at HST hst3 ⊢
    have HG7 := hid hst3.blk
    clear hst3 HST
    have HB4 := hid (HBW.out.trans (HB3.out.mono HNO.out))
    have HG4 := hid (HGL.out.below (HBN.out W3 HB4.out) HGL.out.le)
    have HLH3 := hid (HLH.out.below HB3.out)
    have HMR3 := hid (HMR.out.below HB3.out)
    have HN3 := hid (Nat.le_trans HNO.out HB3.out.size)
    clear HCL HIN HON hi0 hi1 HX HGL
    refine wp_region_grow 6 (CK W3.heap.size) (IW W3)
     (fun i v w' => match i with
      | 0 => v = .iface 85 (.pointer (some ⟨mm, 0, none⟩))
      | 1 => v = .agg hcs.toArray
      | 2 => ∃ g, v = (hdrS h).v g ∧ (hdrS h).rep w' g ∧ W3.heap.size ≤ g ∧ g < w'.heap.size
      | 3 => v = .func (Fn.method "AppendHeader") #[.iface 85 (.pointer (some ⟨mm, 0, none⟩))] #[]
      | 5 => v = .iface 85 (.pointer (some ⟨mm, 0, none⟩))
      | _ => True)
     [[], [], [1], [0], [3], [0]] rfl (by kernel_rfl) (by kernel_rfl) (fun _ _ => IW.step) ?_ ?_ ?_ ?_
    ·intro j hj v w'
     match j, hj with
     | j + 6, _ => trivial
    ·exact CK.of_below (Below.refl _ _).drew (Nat.le_refl _)
    ·simp only [List.take_succ_cons, List.take_zero, fillAll]
     refine ⟨⟨?_, ?_⟩, ⟨?_, ?_⟩, ⟨?_, ?_⟩, ⟨?_, ?_⟩, ⟨?_, ?_⟩, ⟨?_, ?_⟩, trivial⟩
     ·exact fun v w1 w2 h k => h
     ·intro vals w1 hI hd
      unfold GStep
      go_wp2
      exact CK.refl _ _
     ·exact fun v w1 w2 h k => h
     ·intro vals w1 hI hd
      have hg := hI.same HG7.out (by decide)
      unfold GStep
      go_wp2_with (refine wpList_load_blk (by rfl) 35 (.tmp 7) (by rfl) g7 35 (0, 0) hcs (by rfl) hg _ Tryz.underlying35 rfl 21 head_size HLN.out ?_)
      exact CK.refl _ _
     ·rintro v w1 w2 ⟨g, h1, h2, h3, h4⟩ k
      exact ⟨g, h1, SH.rep_ck h2 k, h3, Nat.lt_of_lt_of_le h4 k.1.size⟩
     ·intro vals w1 hI hd
      have h1 : vals 1 = _ := hd.1
      have HC := hid (header_any N h hcs w1 (HG4.out.below hI.below HG4.out.le) HHM.out.bd (HLH3.out.below hI.below) HHM.out.u HHM.out.t)
      have HI := hid hI.size
      clear hd
      unfold GStep
      go_wp2_with (go_at_call 74; refine HC.out.mono ?_; rintro e w3 ⟨g, rfl, hr, h1, h2, hb⟩)
      have HF := hid (show CK W3.heap.size w1 w3 ∧ ∃ g', (hdrS h).v g = (hdrS h).v g' ∧ (hdrS h).rep w3 g' ∧ W3.heap.size ≤ g' ∧ g' < w3.heap.size from ⟨CK.of_below hb HI.out, g, rfl, hr, Nat.le_trans HI.out h1, h2⟩)
      clear hr h1 h2 hb
      go_wp2
      exact HF.out
     ·exact fun v w1 w2 h k => h
     ·intro vals w1 hI hd
      have h1 : vals 0 = _ := hd.1
      unfold GStep
      go_wp2
      exact CK.refl _ _
     ·exact fun v w1 w2 h k => trivial
     ·intro vals w1 hI hd
      have h1 : vals 3 = _ := hd.1
      have na := req_na_ah
      unfold GStep
      go_wp2
      exact CK.refl _ _
     ·exact fun v w1 w2 h k => h
     ·intro vals w1 hI hd
      have h1 : vals 0 = _ := hd.1
      unfold GStep
      go_wp2
      exact CK.refl _ _
    ·intro vals w1 hI hR
     simp only [List.drop_succ_cons, List.drop_zero, List.take_succ_cons, List.take_zero, fillAll]
     obtain ⟨-, -, ⟨g, e2, hrep, hg1, hg2⟩, -, -, r5, -⟩ := hR
     have e5 : vals 5 = _ := r5
     rw [e2, e5]
     have HI := hid hI
     have na := req_na_ah
     have me := req_me_ah
     have en := enters_of Tryz.func218 (by kernel_rfl) rfl
     have HC := hid (ah_any n0 mm g 136 hk R (msgX (.slice none 0 0) ++ .string (bs method) :: uriV (toS u) vp vh) (hdrS h) w1 (Nat.le_trans HN3.out hI.size) (HMR3.out.below hI.below) hrep ⟨Nat.le_trans HN3.out hg1, hg2⟩ (by rw [HKL.out]; have := HNB.out.2.2.1; omega))
     clear hI hrep hg1 hg2 e2 e5 r5
     unfold SH.v at HC ⊢
     go_wp2_with fail
     refine HC.out.mono ?_
     rintro e w5 ⟨rfl, hM5, hK5⟩
     have HM5 := hid hM5
     have HKT5 := hid (HKT.out.trans ((KT.of_below HB3.out).trans (HI.out.kt.trans (by obtain ⟨_, _, h1, _, h2⟩ := (HMR3.out.below HI.out.below).at_; exact hK5.kt h1 h2))))
     have HB5 := hid (HB4.out.trans ((HI.out.below.mono HN3.out).trans hK5.1))
     clear hM5 hK5
     go_wp2_with fail
     go_roundw
     case rel =>
      refine ⟨k + 1, hk ++ [(g, hdrS h)], addRef R (hdrS h) g, hlt, by simp, ?_, HM5.out, ?_, HB5.out, HKT5.out⟩
      ·rw [List.take_add_one, HH.out, List.map_append, HMP.out]; simp
      ·exact ⟨addRef7 R (hdrS h) g HR7.out.1 HHM.out.n7, by rw [refsOf_snoc, ← HR7.out.2]⟩
     case measure => exact meas_step hlt (by simp)
   ·have hkk : k = heads.length := by omega
    have b1 := HBX.out wo HBW.out
    have c17 := row_at b1 17 _ rfl
    have HC16 := hid (row_at b1 16 _ rfl)
    clear b1
    have hi2 : ¬ (k : Int) < heads.length := by omega
    go_upto_region 19 with fail
    clear c17 hi2
    have HSB := hid (HX.out.2.2.2.2.1.below (HBN.out wo HBW.out))
    refine wp_region_grow 8 (CE wo.heap.size) (IE wo)
     (fun i v w' => match i with
      | 0 => v = .iface 85 (.pointer (some ⟨mm, 0, none⟩))
      | 1 => ∃ g, v = .slice (some ⟨g, 0, none⟩) 0 0 ∧ wo.heap.size ≤ g ∧ w'.heap[g]? = some (Obj.cells #[] 5 (0, 0))
      | 2 => v = .pointer (some ⟨w.heap.size, 16, none⟩)
      | 3 => v = .slice Ab body.length cb
      | 4 => SBn wo.heap.size w' v body
      | 5 => v = .func (Fn.method "SetBody") #[.iface 85 (.pointer (some ⟨mm, 0, none⟩))] #[]
      | 7 => v = .iface 85 (.pointer (some ⟨mm, 0, none⟩))
      | _ => True)
     [[], [], [], [2], [1, 3], [0], [5], [0]] rfl (by kernel_rfl) (by kernel_rfl) (fun _ _ => IE.step) ?_ ?_ ?_ ?_
    ·intro j hj v w'
     match j, hj with
     | j + 8, _ => trivial
    ·exact CE.of_below (Below.refl _ _).drew (Nat.le_refl _)
    ·simp only [List.take_succ_cons, List.take_zero, fillAll]
     refine ⟨⟨?_, ?_⟩, ⟨?_, ?_⟩, ⟨?_, ?_⟩, ⟨?_, ?_⟩, ⟨?_, ?_⟩, ⟨?_, ?_⟩, ⟨?_, ?_⟩, ⟨?_, ?_⟩, trivial⟩
     ·exact fun v w1 w2 h k => h
     ·intro vals w1 hI hd
      unfold GStep
      go_wp2
      exact CE.refl _ _
     ·rintro v w1 w2 ⟨g, h1, h2, h3⟩ k
      exact ⟨g, h1, h2, k.2 g h3⟩
     ·intro vals w1 hI hd
      unfold GStep
      go_wp2
      first | exact ⟨CE.of_below ((Below.refl _ _).alloc (Nat.le_refl _) _) hI.ck.size, _, rfl, hI.ck.size, heap_alloc_new w1 _⟩ | exact ⟨CE.of_below ((Below.refl _ _).alloc (Nat.le_refl _) _) hI.ck.size, hI.ck.size, heap_alloc_new w1 _⟩ | exact ⟨CE.of_below ((Below.refl _ _).alloc (Nat.le_refl _) _) hI.ck.size, hI.ck.size, (Array.getElem?_eq_some_iff.1 (heap_alloc_new w1 (.cells #[] 5))).2⟩
     ·exact fun v w1 w2 h k => h
     ·intro vals w1 hI hd
      unfold GStep
      go_wp2
      exact CE.refl _ _
     ·exact fun v w1 w2 h k => h
     ·intro vals w1 hI hd
      have h1 : vals 2 = _ := hd.1
      have dc := hI.ck.cell HC16.out
      unfold GStep
      go_wp2
      exact CE.refl _ _
     ·exact fun v w1 w2 h k => h.ck k.1
     ·intro vals w1 hI hd
      obtain ⟨g, e1, hg1, hg2⟩ := hd.1
      have e3 : vals 3 = _ := hd.2.1
      have HS := hid (HSB.out.ck hI.ck)
      have HI := hid hI.ck.size
      clear hd hI
      unfold GStep
      dsimp only
      rw [e1, e3]
      go_simp
      refine wpList_app0 wo.heap.size g (by rfl) _ _ (by rfl) _ body (by rfl) (by rfl) hg2 hg1 HS.out (by have := HNB.out.2.1; omega) ?_
      intro v1 w3 h1 h2
      have HF := hid (And.intro (CE.of_below h2 HI.out) h1)
      clear h1 h2
      go_wp2
      exact HF.out
     ·exact fun v w1 w2 h k => h
     ·intro vals w1 hI hd
      have h1 : vals 0 = _ := hd.1
      unfold GStep
      go_wp2
      exact CE.refl _ _
     ·exact fun v w1 w2 h k => trivial
     ·intro vals w1 hI hd
      have h1 : vals 5 = _ := hd.1
      have na := req_na_sb
      unfold GStep
      go_wp2
      exact CE.refl _ _
     ·exact fun v w1 w2 h k => h
     ·intro vals w1 hI hd
      have h1 : vals 0 = _ := hd.1
      unfold GStep
      go_wp2
      exact CE.refl _ _
    ·intro vals w1 hI hR
     simp only [List.drop_succ_cons, List.drop_zero, List.take_succ_cons, List.take_zero, fillAll]
     obtain ⟨-, -, -, -, r4, -, -, r7, -⟩ := hR
     have e7 : vals 7 = _ := r7
     rw [e7]
     generalize vals 4 = vb at r4 ⊢
     have HVB := hid r4
     obtain ⟨kb, capb, csb, fzb, rfl, -⟩ := r4
     have HI := hid hI.ck
     have na := req_na_sb
     have me := req_me_sb
     have en := enters_of Tryz.func237 (by kernel_rfl) rfl
     have HMS := hid (hms_all HMP.out (fun x hx => HNB.out.2.2.2 x (List.mem_of_mem_take hx)))
     have HC := hid (setbody_any n0 mm 136 hk R (msgX (.slice none 0 0) ++ .string (bs method) :: uriV (toS u) vp vh) ⟨kb, 0, none⟩ body.length capb w1 (Nat.le_trans HNO.out hI.ck.size) (HMR.out.below hI.ck.below) HMS.out.1 (by rw [HKL.out]; have := HNB.out.2.2.1; omega) HMS.out.2.1 HR7.out.1 (by simp [msgX]) HNB.out.2.1)
     clear hI e7 r7
     go_wp2_with fail
     refine HC.out.mono ?_
     rintro e w5 ⟨rfl, hM5, hK5⟩
     have HM5 := hid hM5
     have HVB5 := hid (show Below n0 w1 w5 from hK5.1)
     have HKT5 := hid (HKT.out.trans (HI.out.kt.trans (by obtain ⟨_, _, h1, _, h2⟩ := (HMR.out.below HI.out.below).at_; exact hK5.kt h1 h2)))
     have HKB := hid hK5.2
     clear hM5 hK5
     go_wp2
     go_ret
     have hlen : (hk ++ [(w1.heap.size, SH.clen body.length)]).length ≤ 4294967296 := by rw [List.length_append, HKL.out]; have := HNB.out.2.2.1; simp; omega
     have HMM5 : MRep n0 w5 mm (MTy (msgS ⟨false, method, u, code, reason, sip20B, heads, body, true, false⟩ (hk ++ [(w1.heap.size, SH.clen body.length)]))) (msgS ⟨false, method, u, code, reason, sip20B, heads, body, true, false⟩ (hk ++ [(w1.heap.size, SH.clen body.length)])).heads (addRef R (SH.clen body.length) w1.heap.size) (((msgX (.slice none 0 0) ++ .string (bs method) :: uriV (toS u) vp vh) : List Value).set 2 (.slice (some ⟨kb, 0, none⟩) body.length capb)) := HM5.out
     have HBD : BodyAt w5.heap.size w5 (.slice (some ⟨kb, 0, none⟩) body.length capb) (some body) := HVB.out.mk (HMR.out.below HI.out.below) HKB.out (by have := HNB.out.2.1; omega)
     refine ⟨mm, hk ++ [(w1.heap.size, SH.clen body.length)], rfl, mat_of (msgS ⟨false, method, u, code, reason, sip20B, heads, body, true, false⟩ (hk ++ [(w1.heap.size, SH.clen body.length)])) HMM5 rfl rfl rfl HBD ⟨rfl, rfl, rfl, rfl, rfl, rfl, rfl, rfl, rfl, vp, vh, rfl, rfl, HPV.out.1.kt HKT5.out, HPV.out.2.kt HKT5.out⟩ (ok_more _ _ HMS.out.2.2 HNB.out.2.1) hlen, ?_, HBN.out w5 (HBW.out.trans ((HI.out.below.mono HNO.out).trans HVB5.out)), n0, _, by rw [refsOf_snoc, ← HR7.out.2]; exact HM5.out⟩
     rw [List.map_append, HMP.out, hkk, List.take_length]
     rfl
theorem disp_valC (N : Nat) (h : SH) (n : Int) (m : ByteArray) (e : h = .cseq n m) (g : Nat) (w : World) (hG : Gl N w) (hr : h.rep w g) (ho : h.ok) (hl : (h.val).length ≤ 70368744177664) :
  ∃ f r, (∀ args w, (callFunc f args).run Tryz.prog w = .ok (.enter f args) w) ∧ (∀ w, (nilAhead 467 h.ty (.pointer (some ⟨g, 0, none⟩)) "Value").run Tryz.prog w = .ok (some false) w) ∧ (method 467 h.ty (.pointer (some ⟨g, 0, none⟩)) "Value").run Tryz.prog w = .ok (f, r) w ∧
   Calls Tryz.prog f #[r] w (StrPost (h.val) w) := by
 subst e
 exact ⟨_, _, enters_of Tryz.func328 (by kernel_rfl) rfl, cseq_na_Value _, cseq_me_Value _ _, cseq_val N g n m w hG hr ho hl⟩
theorem disp_strC (N : Nat) (h : SH) (n : Int) (m : ByteArray) (e : h = .cseq n m) (g : Nat) (w : World) (hG : Gl N w) (hr : h.rep w g) (ho : h.ok) (hl : (h.line).length ≤ 70368744177664) :
  ∃ f r, (∀ args w, (callFunc f args).run Tryz.prog w = .ok (.enter f args) w) ∧ (∀ w, (nilAhead 467 h.ty (.pointer (some ⟨g, 0, none⟩)) "String").run Tryz.prog w = .ok (some false) w) ∧ (method 467 h.ty (.pointer (some ⟨g, 0, none⟩)) "String").run Tryz.prog w = .ok (f, r) w ∧
   Calls Tryz.prog f #[r] w (StrPost (h.line) w) := by
 subst e
 exact ⟨_, _, enters_of Tryz.func326 (by kernel_rfl) rfl, cseq_na_String _, cseq_me_String _ _, cseq_str N g n m w hG hr ho hl⟩
theorem headtext_cs (N : Nat) (n : Int) (m : ByteArray) (h : LHead) (he : hdrS h = .cseq n m) (cs : List Value) (w : World) (hG : Gl N w) (hB : HBd2 h) (hH : LH w h cs) (hu : HOkU h) (ht : 0 ≤ h.t ∧ h.t ≤ 14) (ho : (hdrS h).ok) (hl : (hdrS h).line.length ≤ 70368744177664) (hv : (hdrS h).val.length ≤ 70368744177664) :
  Calls Tryz.prog 40 #[.agg cs.toArray] w (fun e w' => ∃ v1 v2, e = .returned (.tuple #[v1, v2]) ∧ SBu w' v1 (hdrS h).line ∧ Below w.heap.size w w') := by
 obtain ⟨x0, x1, x2, x3, x4, x5, x6, x7, x8, x9, x10, x11, x12, x13, x14, x15, x16, x17, x18, x19, x20, rfl⟩ := list21 hH.len
 obtain ⟨wb, hwb⟩ : ∃ wb, wb = w.alloc (.cells #[x0, x1, x2, x3, x4, x5, x6, x7, x8, x9, x10, x11, x12, x13, x14, x15, x16, x17, x18, x19, x20] 35) := ⟨_, rfl⟩
 have HWB1 := hid (show wb.heap[w.heap.size]? = some (.cells ([x0, x1, x2, x3, x4, x5, x6, x7, x8, x9, x10, x11, x12, x13, x14, x15, x16, x17, x18, x19, x20] : List Value).toArray 35 (0, 0)) by rw [hwb]; exact heap_alloc_new w _)
 have HB0 := hid (show Below w.heap.size w wb by rw [hwb]; exact (Below.refl _ w).alloc (Nat.le_refl _) _)
 have HMD := hid (header_any N h _ wb (hG.below HB0.out hG.le) hB (hH.below HB0.out) hu ht)
 have HGL := hid hG
 have HOK := hid (And.intro ho (And.intro hl hv))
 obtain ⟨sh, hsh⟩ : ∃ sh, sh = hdrS h := ⟨_, rfl⟩
 rw [← hsh] at HMD HOK he ⊢
 have HE := hid he
 clear hG hB hH hu ht ho hl hv hsh he
 go_enter Tryz.func40, Tryz.ntmps40
 go_upto_region 1 with fail
 rw [← hwb]
 generalize Value.agg #[x0, x1, x2, x3, x4, x5, x6, x7, x8, x9, x10, x11, x12, x13, x14, x15, x16, x17, x18, x19, x20] = arg0
 clear hwb
 go_upto_region 2 with (first
  | (refine wpList_load_blk (by rfl) 35 (.tmp 1) (by rfl) w.heap.size 35 (0, 0) [x0, x1, x2, x3, x4, x5, x6, x7, x8, x9, x10, x11, x12, x13, x14, x15, x16, x17, x18, x19, x20] (by rfl) HWB1.out _ Tryz.underlying35 rfl 21 head_size rfl ?_)
  | (go_at_call 74; refine HMD.out.mono ?_; rintro e w2 ⟨g, rfl, hr, h1, h2, hb⟩; unfold SH.v))
 have HR := hid hr
 have HG2 := hid (HGL.out.below (HB0.out.trans (hb.mono HB0.out.size)) HGL.out.le)
 have HB2 := hid (HB0.out.trans (hb.mono HB0.out.size))
 clear hr h1 h2 hb
 obtain ⟨f1, r1, en1, na1, me1, hcall1⟩ := disp_strC N sh n m HE.out g w2 HG2.out HR.out HOK.out.1 HOK.out.2.1
 have HC1 := hid hcall1
 clear hcall1
 go_wp2_with fail
 refine HC1.out.mono ?_
 rintro e w3 ⟨rfl, hb3⟩
 have HB3 := hid (show Below w2.heap.size w2 w3 from hb3)
 clear hb3
 have hr3 := Lib.run_convert_string_bytes (P := Tryz.prog) w3 9 22 5 ⟨sh.line.toArray⟩ Tryz.underlying9 Tryz.underlying22 Tryz.underlying5
 have X := hid (conv_sbu w3 ⟨sh.line.toArray⟩ (by rw [sz]; exact HOK.out.2.1))
 obtain ⟨w4, hw4⟩ : ∃ w4, w4 = Lib.bytesWorld w3 5 ⟨sh.line.toArray⟩ := ⟨_, rfl⟩
 rw [← hw4] at hr3 X
 clear hw4
 have HB4 := hid (show Below w2.heap.size w2 w4 from HB3.out.trans (X.out.2.mono HB3.out.size))
 obtain ⟨f2, r2, en2, na2, me2, hcall2⟩ := disp_valC N sh n m HE.out g w4 (HG2.out.below HB4.out HG2.out.le) (SH.rep_below HR.out HB4.out) HOK.out.1 HOK.out.2.2
 have HC2 := hid hcall2
 clear hcall2
 go_wp2_with fail
 refine HC2.out.mono ?_
 rintro e w5 ⟨rfl, hb5⟩
 have HB5 := hid hb5
 clear hb5
 have hr5 := Lib.run_convert_string_bytes (P := Tryz.prog) w5 9 22 5 ⟨sh.val.toArray⟩ Tryz.underlying9 Tryz.underlying22 Tryz.underlying5
 have Y := hid (conv_sbu w5 ⟨sh.val.toArray⟩ (by rw [sz]; exact HOK.out.2.2))
 obtain ⟨w6, hw6⟩ : ∃ w6, w6 = Lib.bytesWorld w5 5 ⟨sh.val.toArray⟩ := ⟨_, rfl⟩
 rw [← hw6] at hr5 Y
 clear hw6
 go_wp2
 go_ret2
 refine ⟨_, _, rfl, X.out.1.ku (KU.of_below (HB5.out.trans (Y.out.2.mono HB5.out.size)) (Nat.le_refl _)), ?_⟩
 exact HB2.out.trans ((HB4.out.trans ((HB5.out.trans (Y.out.2.mono HB5.out.size)).mono HB4.out.size)).mono HB2.out.size)
