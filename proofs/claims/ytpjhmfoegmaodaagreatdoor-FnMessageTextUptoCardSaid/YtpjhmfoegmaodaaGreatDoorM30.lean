import Derived.Test.YtpjhmfoegmaodaaGreatDoorM25
set_option maxRecDepth 100000
set_option maxHeartbeats 16000000
set_option linter.all false
namespace Go.Proofs.YtpjhmfoegmaodaaGreatDoor
open Go.Lib (hid)
open Go.RowKit
theorem starttext_res (m : LMsg) (cs : List Value) (w : World) (hM : LM w m cs) (hr : m.resp = true) (hp : 0 ≤ m.code) (hrl : m.reason.length ≤ 8192) : Calls Tryz.prog 13 #[.agg cs.toArray] w (JPost ((sip20B ++ [32]) ++ Lib.itoa m.code ++ [32] ++ m.reason) w) := by
 obtain ⟨resp, method, u, code, reason, version, heads, body, hasBody, compact⟩ := m
 dsimp only at hr hp ⊢
 subst hr
 obtain ⟨va, ul, vb, vc, vh, vd, rfl, hm, hu, hrs, hv, hh, hbo, hcode⟩ := hM
 obtain ⟨ua, ub, uc, ud, ue, up, uq, rfl, k1, k2, k3, k4, k5, k6, k7, k8⟩ := hu
 dsimp only at *
 simp only [List.cons_append, List.nil_append]
 obtain ⟨wb, hwb⟩ : ∃ wb, wb = w.alloc (.cells #[.bool true, va, ua, ub, .bool u.star, .bool u.slashes, uc, ud, ue, .int .i64 u.port, up, uq, .int .i64 code, vb, vc, vh, vd, .bool hasBody, .bool compact] 28) := ⟨_, rfl⟩
 have HWB := hid (show wb.heap[w.heap.size]? = some (.cells #[.bool true, va, ua, ub, .bool u.star, .bool u.slashes, uc, ud, ue, .int .i64 u.port, up, uq, .int .i64 code, vb, vc, vh, vd, .bool hasBody, .bool compact] 28 (0, 0)) by rw [hwb]; exact heap_alloc_new w _)
 have HB0 := hid (show Below w.heap.size w wb by rw [hwb]; exact (Below.refl _ w).alloc (Nat.le_refl _) _)
 have hgt : w.heap.size < wb.heap.size := by rw [hwb]; simp
 have HGT := hid hgt
 clear hgt
 have HRL := hid hrl
 have HCO := hid (And.intro hcode hp)
 have HRS := hid hrs
 obtain ⟨p, hpre⟩ : ∃ p : Bytes, p = sip20B ++ [32] := ⟨_, rfl⟩
 have HP := hid hpre
 have HPL := hid (show p.length = 8 by rw [hpre]; rfl)
 clear hm k1 k2 k3 k4 k5 k6 k7 k8 hv hh hbo hcode hp hrl hpre
 go_enter Tryz.func13, Tryz.ntmps13
 go_wp2_with fail
 rw [← hwb]
 generalize Value.agg #[.bool true, va, ua, ub, .bool u.star, .bool u.slashes, uc, ud, ue, .int .i64 u.port, up, uq, .int .i64 code, vb, vc, vh, vd, .bool hasBody, .bool compact] = arg0
 have hR3 := hrs.form
 clear hwb hrs
 refine wp_region_grow 8 (CK wb.heap.size) (IW wb)
  (fun i v w' => match i with
   | 0 => ∃ g, wb.heap.size ≤ g ∧ v = .slice (some ⟨g, 0, none⟩) 8 8 ∧ ∃ fz, w'.heap[g]? = some (.cells #[.int .u8 83, .int .u8 73, .int .u8 80, .int .u8 47, .int .u8 50, .int .u8 46, .int .u8 48, .int .u8 32] 5 fz)
   | 1 => SB w' v p
   | 2 => v = .pointer (some ⟨w.heap.size, 12, none⟩)
   | 3 => v = .int .i64 code
   | 4 => SB w' v (Lib.itoa code)
   | 5 => SB w' v [32]
   | 6 => v = .pointer (some ⟨w.heap.size, 13, none⟩)
   | 7 => v = vb
   | _ => True)
  [[], [0], [], [2], [3], [], [], [6]] rfl (by kernel_rfl) (by kernel_rfl) (fun _ _ => IW.step) ?_ ?_ ?_ ?_
 ·intro j hj v w'
  match j, hj with
  | j + 8, _ => trivial
 ·exact CK.of_below (Below.refl _ _).drew (Nat.le_refl _)
 ·simp only [List.take_succ_cons, List.take_zero, fillAll]
  have c12 := (blk19 HWB.out).2.2.2.2.2.2.2.2.2.2.2.2.1
  have c13 := (blk19 HWB.out).2.2.2.2.2.2.2.2.2.2.2.2.2.1
  refine ⟨⟨?_, ?_⟩, ⟨?_, ?_⟩, ⟨?_, ?_⟩, ⟨?_, ?_⟩, ⟨?_, ?_⟩, ⟨?_, ?_⟩, ⟨?_, ?_⟩, ⟨?_, ?_⟩, trivial⟩
  ·rintro v w1 w2 ⟨g, h1, h2, h3⟩ h
   exact ⟨g, h1, h2, h.blk h3⟩
  ·intro vals w1 hI hd
   unfold GStep
   go_wp2
   exact ⟨CK.new hI.size _, _, hI.size, rfl, 0, 0, heap_alloc_new w1 _⟩
  ·exact fun v w1 w2 h k => SB.ck h k
  ·intro vals w1 hI hd
   obtain ⟨⟨g, h1, h2, fz, h3⟩, -⟩ := hd
   unfold GStep
   obtain ⟨w2, hr, hk⟩ := conv_lit h3 wb.heap.size 8 8 h1
   have X := hid (show SB w2 (Value.slice (some ⟨g, 0, none⟩) 8 8) p by rw [HP.out]; exact SB.litB (l := sip20B ++ [32]) (hk.blk ⟨_, h3⟩) (by decide))
   go_wp2
   first | exact X.out | exact ⟨hk, X.out⟩
  ·exact fun v w1 w2 h k => h
  ·intro vals w1 hI hd
   unfold GStep
   go_wp2
   exact CK.refl _ _
  ·exact fun v w1 w2 h k => h
  ·intro vals w1 hI hd
   have h1 : vals 2 = _ := hd.1
   have dc12 := hI.cell c12
   unfold GStep
   go_wp2
   exact CK.refl _ _
  ·exact fun v w1 w2 h k => SB.ck h k
  ·intro vals w1 hI hd
   have h1 : vals 3 = _ := hd.1
   have HD := hid (decimal_any code w1 HCO.out.1)
   unfold GStep
   go_wp2_with (go_at_call 32; refine HD.out.mono ?_; rintro e w2 ⟨v, l, rfl, hO, hl, hn, hb⟩)
   rw [hl HCO.out.2] at hO
   exact ⟨CK.of_below hb hI.size, hO.sb⟩
  ·exact fun v w1 w2 h k => SB.ck h k
  ·intro vals w1 hI hd
   unfold GStep
   go_wp2
   exact ⟨CK.new hI.size _, SB.litB (l := [32]) ⟨_, heap_alloc_new w1 _⟩ (by decide)⟩
  ·exact fun v w1 w2 h k => h
  ·intro vals w1 hI hd
   unfold GStep
   go_wp2
   exact CK.refl _ _
  ·exact fun v w1 w2 h k => h
  ·intro vals w1 hI hd
   have h1 : vals 6 = _ := hd.1
   have dc13 := hI.cell c13
   unfold GStep
   go_wp2
   exact CK.refl _ _
 ·intro vals w' hI hR
  simp only [List.drop_succ_cons, List.drop_zero, List.take_succ_cons, List.take_zero, fillAll]
  obtain ⟨-, r1, -, -, r4, r5, -, r7, -⟩ := hR
  have e7 : vals 7 = vb := r7
  rw [e7]
  clear e7 r7
  generalize vals 1 = x1 at r1 ⊢
  generalize vals 4 = x4 at r4 ⊢
  generalize vals 5 = x5 at r5 ⊢
  have R1 := hid r1
  have R4 := hid r4
  have R5 := hid r5
  obtain ⟨A1, c1, rfl, n1⟩ := r1.form
  obtain ⟨A4, c4, rfl, n4⟩ := r4.form
  obtain ⟨A5, c5, rfl, n5⟩ := r5.form
  obtain ⟨A7, c7, rfl, n7⟩ := hR3
  have R7 := hid ((HRS.out.below HB0.out).ck hI)
  clear r1 r4 r5 n1 n4 n5 n7
  have HS := hid (show ∀ o, CK w'.heap.size w' (w'.alloc o) from fun o => CK.new (Nat.le_refl _) o)
  have HJ := hid (joined_any _ [p, Lib.itoa code, [32], reason] _ (SBs.four (heap_alloc_new w' (.cells #[.slice A1 p.length c1, .slice A4 (Lib.itoa code).length c4, .slice A5 1 c5, .slice A7 reason.length c7] 22)) (R1.out.ck (HS.out _)) (R4.out.ck (HS.out _)) (R5.out.ck (HS.out _)) (R7.out.ck (HS.out _)))
   (by have h1 := HPL.out; have h2 := itoa_len code HCO.out.1; have h3 := HRL.out; simp; omega))
  go_wp2_with (go_at_call 12; refine HJ.out.mono ?_; rintro e w2 ⟨v, rfl, ho, hb⟩)
  have HF := hid (show Below w.heap.size w w2 from HB0.out.trans ((hI.below.trans ((((Below.refl w'.heap.size w').alloc (Nat.le_refl _) _).trans (hb.mono (by simp))).mono hI.size)).mono (by have := HGT.out; omega)))
  have HO := hid (ho.less (b2 := w.heap.size) (by have h1 := HGT.out; have h2 := hI.size; simp; omega))
  obtain ⟨A9, c9, rfl⟩ := ho.slice
  clear ho hb
  go_wp2
  go_ret
  exact ⟨_, rfl, HO.out.text (by rw [HP.out]; simp), HF.out⟩
theorem starttext_req (m : LMsg) (cs : List Value) (w : World) (hM : LM w m cs) (hr : m.resp = false) (hp : 0 ≤ m.uri.port) (hrl : m.method.length ≤ 8192) (hul : luriN m.uri ≤ 70368744177664) : Calls Tryz.prog 13 #[.agg cs.toArray] w (JPost (m.method ++ [32] ++ luriT m.uri ++ ([32] ++ sip20B)) w) := by
 obtain ⟨resp, method, u, code, reason, version, heads, body, hasBody, compact⟩ := m
 dsimp only at hr hp hul ⊢
 subst hr
 obtain ⟨va, ul, vb, vc, vh, vd, rfl, hm, hu, hrs, hv, hh, hbo, hcode⟩ := hM
 have HLU := hid hu
 obtain ⟨ua, ub, uc, ud, ue, up, uq, rfl, k1, k2, k3, k4, k5, k6, k7, k8⟩ := hu
 dsimp only at *
 simp only [List.cons_append, List.nil_append]
 obtain ⟨wb, hwb⟩ : ∃ wb, wb = w.alloc (.cells #[.bool false, va, ua, ub, .bool u.star, .bool u.slashes, uc, ud, ue, .int .i64 u.port, up, uq, .int .i64 code, vb, vc, vh, vd, .bool hasBody, .bool compact] 28) := ⟨_, rfl⟩
 have HWB := hid (show wb.heap[w.heap.size]? = some (.cells #[.bool false, va, ua, ub, .bool u.star, .bool u.slashes, uc, ud, ue, .int .i64 u.port, up, uq, .int .i64 code, vb, vc, vh, vd, .bool hasBody, .bool compact] 28 (0, 0)) by rw [hwb]; exact heap_alloc_new w _)
 have HB0 := hid (show Below w.heap.size w wb by rw [hwb]; exact (Below.refl _ w).alloc (Nat.le_refl _) _)
 have hgt : w.heap.size < wb.heap.size := by rw [hwb]; simp
 have HGT := hid hgt
 clear hgt
 have HRL := hid hrl
 have HCO := hid (And.intro hul hp)
 have HRS := hid hm
 obtain ⟨p, hpre⟩ : ∃ p : Bytes, p = [32] ++ sip20B := ⟨_, rfl⟩
 have HP := hid hpre
 have HPL := hid (show p.length = 8 by rw [hpre]; rfl)
 clear k1 k2 k3 k4 k5 k6 k7 k8 hrs hv hh hbo hcode hp hrl hul hpre
 go_enter Tryz.func13, Tryz.ntmps13
 go_wp2_with fail
 rw [← hwb]
 generalize Value.agg #[.bool false, va, ua, ub, .bool u.star, .bool u.slashes, uc, ud, ue, .int .i64 u.port, up, uq, .int .i64 code, vb, vc, vh, vd, .bool hasBody, .bool compact] = arg0
 have hR3 := hm.form
 clear hwb hm
 refine wp_region_grow 8 (CK wb.heap.size) (IW wb)
  (fun i v w' => match i with
   | 0 => v = .pointer (some ⟨w.heap.size, 1, none⟩)
   | 1 => v = va
   | 2 => SB w' v [32]
   | 3 => v = .pointer (some ⟨w.heap.size, 2, none⟩)
   | 4 => v = .agg #[ua, ub, .bool u.star, .bool u.slashes, uc, ud, ue, .int .i64 u.port, up, uq]
   | 5 => SB w' v (luriT u) ∧ (luriT u).length ≤ luriN u
   | 6 => ∃ g, wb.heap.size ≤ g ∧ v = .slice (some ⟨g, 0, none⟩) 8 8 ∧ ∃ fz, w'.heap[g]? = some (.cells #[.int .u8 32, .int .u8 83, .int .u8 73, .int .u8 80, .int .u8 47, .int .u8 50, .int .u8 46, .int .u8 48] 5 fz)
   | 7 => SB w' v p
   | _ => True)
  [[], [0], [], [], [3], [4], [], [6]] rfl (by kernel_rfl) (by kernel_rfl) (fun _ _ => IW.step) ?_ ?_ ?_ ?_
 ·intro j hj v w'
  match j, hj with
  | j + 8, _ => trivial
 ·exact CK.of_below (Below.refl _ _).drew (Nat.le_refl _)
 ·simp only [List.take_succ_cons, List.take_zero, fillAll]
  obtain ⟨-, c1, c2, c3, c4, c5, c6, c7, c8, c9, c10, c11, -⟩ := blk19 HWB.out
  refine ⟨⟨?_, ?_⟩, ⟨?_, ?_⟩, ⟨?_, ?_⟩, ⟨?_, ?_⟩, ⟨?_, ?_⟩, ⟨?_, ?_⟩, ⟨?_, ?_⟩, ⟨?_, ?_⟩, trivial⟩
  ·exact fun v w1 w2 h k => h
  ·intro vals w1 hI hd
   unfold GStep
   go_wp2
   exact CK.refl _ _
  ·exact fun v w1 w2 h k => h
  ·intro vals w1 hI hd
   have h1 : vals 0 = _ := hd.1
   have dc1 := hI.cell c1
   unfold GStep
   go_wp2
   exact CK.refl _ _
  ·exact fun v w1 w2 h k => SB.ck h k
  ·intro vals w1 hI hd
   unfold GStep
   go_wp2
   exact ⟨CK.new hI.size _, SB.litB (l := [32]) ⟨_, heap_alloc_new w1 _⟩ (by decide)⟩
  ·exact fun v w1 w2 h k => h
  ·intro vals w1 hI hd
   unfold GStep
   go_wp2
   exact CK.refl _ _
  ·exact fun v w1 w2 h k => h
  ·intro vals w1 hI hd
   have h1 : vals 3 = _ := hd.1
   have dc2 := hI.cell c2
   have dc3 := hI.cell c3
   have dc4 := hI.cell c4
   have dc5 := hI.cell c5
   have dc6 := hI.cell c6
   have dc7 := hI.cell c7
   have dc8 := hI.cell c8
   have dc9 := hI.cell c9
   have dc10 := hI.cell c10
   have dc11 := hI.cell c11
   unfold GStep
   go_wp2
   exact CK.refl _ _
  ·exact fun v w1 w2 h k => ⟨SB.ck h.1 k, h.2⟩
  ·intro vals w1 hI hd
   have h1 : vals 4 = _ := hd.1
   have HD := hid (uritext_any u _ w1 ((HLU.out.below HB0.out).ck hI) HCO.out.1)
   unfold GStep
   go_wp2_with (go_at_call 33; refine HD.out.mono ?_; rintro e w2 ⟨v, l, rfl, hO, hl, hn, hb⟩)
   have hl' := hl HCO.out.2
   subst hl'
   exact ⟨CK.of_below hb hI.size, hO.sb, hn⟩
  ·rintro v w1 w2 ⟨g, h1, h2, h3⟩ h
   exact ⟨g, h1, h2, h.blk h3⟩
  ·intro vals w1 hI hd
   unfold GStep
   go_wp2
   exact ⟨CK.new hI.size _, _, hI.size, rfl, 0, 0, heap_alloc_new w1 _⟩
  ·exact fun v w1 w2 h k => SB.ck h k
  ·intro vals w1 hI hd
   obtain ⟨⟨g, h1, h2, fz, h3⟩, -⟩ := hd
   unfold GStep
   obtain ⟨w2, hr, hk⟩ := conv_lit h3 wb.heap.size 8 8 h1
   have X := hid (show SB w2 (Value.slice (some ⟨g, 0, none⟩) 8 8) p by rw [HP.out]; exact SB.litB (l := [32] ++ sip20B) (hk.blk ⟨_, h3⟩) (by decide))
   go_wp2
   first | exact X.out | exact ⟨hk, X.out⟩
 ·intro vals w' hI hR
  simp only [List.drop_succ_cons, List.drop_zero, List.take_succ_cons, List.take_zero, fillAll]
  obtain ⟨-, r1, r2, -, -, ⟨r5, r5'⟩, -, r7, -⟩ := hR
  have e1 : vals 1 = va := r1
  rw [e1]
  clear e1 r1
  generalize vals 2 = x2 at r2 ⊢
  generalize vals 5 = x5 at r5 ⊢
  generalize vals 7 = x7 at r7 ⊢
  have R2 := hid r2
  have R5 := hid r5
  have R7 := hid r7
  have R5L := hid r5'
  obtain ⟨A2, c2, rfl, n2⟩ := r2.form
  obtain ⟨A5, c5, rfl, n5⟩ := r5.form
  obtain ⟨A7, c7, rfl, n7⟩ := r7.form
  obtain ⟨A1, c1, rfl, n1⟩ := hR3
  have R1 := hid ((HRS.out.below HB0.out).ck hI)
  clear r2 r5 r7 n1 n2 n5 n7 r5'
  have HS := hid (show ∀ o, CK w'.heap.size w' (w'.alloc o) from fun o => CK.new (Nat.le_refl _) o)
  have HJ := hid (joined_any _ [method, [32], luriT u, p] _ (SBs.four (heap_alloc_new w' (.cells #[.slice A1 method.length c1, .slice A2 1 c2, .slice A5 (luriT u).length c5, .slice A7 p.length c7] 22)) (R1.out.ck (HS.out _)) (R2.out.ck (HS.out _)) (R5.out.ck (HS.out _)) (R7.out.ck (HS.out _)))
   (by have h1 := HPL.out; have h2 := HCO.out.1; have h3 := HRL.out; have h4 := R5L.out; simp; omega))
  go_wp2_with (go_at_call 12; refine HJ.out.mono ?_; rintro e w2 ⟨v, rfl, ho, hb⟩)
  have HF := hid (show Below w.heap.size w w2 from HB0.out.trans ((hI.below.trans ((((Below.refl w'.heap.size w').alloc (Nat.le_refl _) _).trans (hb.mono (by simp))).mono hI.size)).mono (by have := HGT.out; omega)))
  have HO := hid (ho.less (b2 := w.heap.size) (by have h1 := HGT.out; have h2 := hI.size; simp; omega))
  obtain ⟨A9, c9, rfl⟩ := ho.slice
  clear ho hb
  go_wp2
  go_ret
  exact ⟨_, rfl, HO.out.text (by rw [HP.out]; simp), HF.out⟩
theorem heard_step {hs : List LHead} {j : Nat} (h : j < hs.length) : ((hs.take (j + 1)).map heardH ++ hs.drop (j + 1)) = ((hs.take j).map heardH ++ hs.drop j).set j (heardH hs[j]) := by
 apply List.ext_getElem?
 intro q
 have h1 : ((hs.take j).map heardH).length = j := by simp; omega
 have h2 : ((hs.take (j + 1)).map heardH).length = j + 1 := by simp; omega
 by_cases hq : q = j
 ·subst hq
  rw [List.getElem?_append_left (by omega), List.getElem?_set_self (by simp; omega), List.getElem?_map, List.getElem?_take_of_lt (by omega), List.getElem?_eq_getElem h]
  rfl
 ·rw [List.getElem?_set_ne (Ne.symm hq)]
  by_cases hl : q < j
  ·rw [List.getElem?_append_left (by omega), List.getElem?_append_left (by omega), List.getElem?_map, List.getElem?_map, List.getElem?_take_of_lt hl, List.getElem?_take_of_lt (by omega)]
  ·rw [List.getElem?_append_right (by omega), List.getElem?_append_right (by omega), h1, h2, List.getElem?_drop, List.getElem?_drop]
   congr 1
   omega
theorem read_of (w0 : World) (cs pre post : List Value) (w : World) (hs : List LHead) (hlen : cs.length = 19) (hpre : pre.length = 15) (hpost : post.length = 3) (hone : ∀ A n c, (pre ++ .slice A n c :: post).all (·.oneCell') = true) (hw : Sub w0 w) (ht : ∀ h ∈ hs, 0 ≤ h.t ∧ h.t ≤ 14) (hl : hs.length ≤ 1000)
  (hmade : ∀ wz, Below w.heap.size w wz → Calls Tryz.prog 30 #[.agg cs.toArray] wz fun e w' => ∃ v, e = .returned (.agg (pre ++ v :: post).toArray) ∧ OHs w0 wz.heap.size w' v hs ∧ Below wz.heap.size wz w') :
  Calls Tryz.prog 11 #[.agg cs.toArray] w fun e w' => ∃ v, e = .returned (.agg (pre ++ v :: post).toArray) ∧ OHs w0 w.heap.size w' v (hs.map heardH) ∧ Below w.heap.size w w' := by
 obtain ⟨x0, x1, x2, x3, x4, x5, x6, x7, x8, x9, x10, x11, x12, x13, x14, x15, x16, x17, x18, rfl⟩ := list19 hlen
 have HMD := hid hmade
 have HW := hid hw
 have HT := hid ht
 have HL := hid hl
 have HONE := hid hone
 have HFL := hid (show ∀ v, (pre ++ v :: post).length = 19 from fun v => by simp [hpre, hpost])
 have HP15 := hid (show ∀ v, (pre ++ v :: post)[15]? = some v from fun v => by rw [List.getElem?_append_right (by omega), hpre]; rfl)
 clear hmade hw ht hl hone hpre hpost hlen
 obtain ⟨wb, hwb⟩ : ∃ wb, wb = (w.alloc (.cells #[x0, x1, x2, x3, x4, x5, x6, x7, x8, x9, x10, x11, x12, x13, x14, x15, x16, x17, x18] 28)).alloc (.cells #[.bool false, .slice none 0 0, .slice none 0 0, .slice none 0 0, .bool false, .bool false, .slice none 0 0, .slice none 0 0, .slice none 0 0, .int .i64 0, .slice none 0 0, .slice none 0 0, .int .i64 0, .slice none 0 0, .slice none 0 0, .slice none 0 0, .slice none 0 0, .bool false, .bool false] 28) := ⟨_, rfl⟩
 have HWB1 := hid (show wb.heap[w.heap.size]? = some (.cells ([x0, x1, x2, x3, x4, x5, x6, x7, x8, x9, x10, x11, x12, x13, x14, x15, x16, x17, x18] : List Value).toArray 28 (0, 0)) by rw [hwb]; exact ((Below.refl _ _).alloc (Nat.le_refl _) _).block w.heap.size (by simp) |>.trans (heap_alloc_new w _))
 have HWB2 := hid (show wb.heap[w.heap.size + 1]? = some (.cells ([.bool false, .slice none 0 0, .slice none 0 0, .slice none 0 0, .bool false, .bool false, .slice none 0 0, .slice none 0 0, .slice none 0 0, .int .i64 0, .slice none 0 0, .slice none 0 0, .int .i64 0, .slice none 0 0, .slice none 0 0, .slice none 0 0, .slice none 0 0, .bool false, .bool false] : List Value).toArray 28 (0, 0)) by rw [hwb]; have := heap_alloc_new (w.alloc (.cells #[x0, x1, x2, x3, x4, x5, x6, x7, x8, x9, x10, x11, x12, x13, x14, x15, x16, x17, x18] 28)) (.cells #[.bool false, .slice none 0 0, .slice none 0 0, .slice none 0 0, .bool false, .bool false, .slice none 0 0, .slice none 0 0, .slice none 0 0, .int .i64 0, .slice none 0 0, .slice none 0 0, .int .i64 0, .slice none 0 0, .slice none 0 0, .slice none 0 0, .slice none 0 0, .bool false, .bool false] 28); rwa [World.size_alloc] at this)
 have HB0 := hid (show Below w.heap.size w wb by rw [hwb]; exact ((Below.refl _ w).alloc (Nat.le_refl _) _).alloc (by simp) _)
 have HSZ := hid (show wb.heap.size = w.heap.size + 2 by rw [hwb]; simp)
 go_enter Tryz.func11, Tryz.ntmps11
 go_upto_region 1 with fail
 rw [← hwb]
 generalize Value.agg #[x0, x1, x2, x3, x4, x5, x6, x7, x8, x9, x10, x11, x12, x13, x14, x15, x16, x17, x18] = arg0
 clear hwb
 go_upto_region 2 with (first
  | (refine wpList_load_blk (by rfl) 28 (.tmp 1) (by rfl) w.heap.size 28 (0, 0) _ (by rfl) HWB1.out _ Tryz.underlying28 rfl 19 msg_size rfl ?_)
  | (go_at_call 30; refine (HMD.out _ HB0.out).mono ?_; rintro e w2 ⟨v, rfl, hoh, hb⟩; have OH := hid hoh; have HB := hid hb; obtain ⟨A1, c1, rfl⟩ := hoh.form; clear hoh hb)
  | (refine wpList_store_blk (by rfl) 28 (.tmp 3) (.tmp 6) (by rfl) w2.heap.size 28 [.bool false, .slice none 0 0, .slice none 0 0, .slice none 0 0, .bool false, .bool false, .slice none 0 0, .slice none 0 0, .slice none 0 0, .int .i64 0, .slice none 0 0, .slice none 0 0, .int .i64 0, .slice none 0 0, .slice none 0 0, .slice none 0 0, .slice none 0 0, .bool false, .bool false] (pre ++ .slice A1 hs.length c1 :: post) (by rfl) (by rfl) (by rw [HFL.out]; rfl) (heap_alloc_new w2 _) 19 msg_size (HFL.out _) (HONE.out _ _ _) ?_; intro W3 hst3)
  | fail)
 obtain ⟨k, hk⟩ : ∃ k, k = w2.heap.size := ⟨_, rfl⟩
 rw [← hk] at hst3 ⊢
 have HKB := hid (show wb.heap.size ≤ k by rw [hk]; exact HB.out.size)
 have HA3 := hid (show Below w2.heap.size w2 (w2.alloc (.cells #[.bool false, .slice none 0 0, .slice none 0 0, .slice none 0 0, .bool false, .bool false, .slice none 0 0, .slice none 0 0, .slice none 0 0, .int .i64 0, .slice none 0 0, .slice none 0 0, .int .i64 0, .slice none 0 0, .slice none 0 0, .slice none 0 0, .slice none 0 0, .bool false, .bool false] 28)) from (Below.refl _ _).alloc (Nat.le_refl _) _)
 have OH3 := hid ((OH.out.kept HA3.out).stored hst3 (by rw [hk]; exact heap_alloc_new w2 (.cells #[.bool false, .slice none 0 0, .slice none 0 0, .slice none 0 0, .bool false, .bool false, .slice none 0 0, .slice none 0 0, .slice none 0 0, .int .i64 0, .slice none 0 0, .slice none 0 0, .int .i64 0, .slice none 0 0, .slice none 0 0, .slice none 0 0, .slice none 0 0, .bool false, .bool false] 28)) (by decide) (by decide))
 have HG3 := hid hst3.blk
 have HB3 := hid (show Below wb.heap.size wb W3 from HB.out.trans ((HA3.out.mono HB.out.size).trans (hst3.below.mono HKB.out)))
 clear hst3 hk
 go_wp2_with fail
 go_loopw [4] (fun i wr => ∃ j : Nat, j ≤ hs.length ∧ i = .int .i64 j ∧ OHs w0 wb.heap.size wr (.slice A1 hs.length c1) ((hs.take j).map heardH ++ hs.drop j) ∧ wr.heap[k]? = some (.cells (pre ++ .slice A1 hs.length c1 :: post).toArray 28 (0, 0)) ∧ Below wb.heap.size wb wr) (fun i _ => hs.length - (intOf i).toNat)
 case atStart => exact ⟨0, Nat.zero_le _, rfl, by simpa using OH3.out, HG3.out, HB3.out⟩
 case round =>
  obtain ⟨j, hj, rfl, hoh, hg, hb⟩ := hrel
  obtain ⟨wo, rfl⟩ : ∃ wo : World, wo = wr := ⟨_, rfl⟩
  have OHJ := hid hoh
  have HG := hid hg
  have HBJ := hid hb
  have c15 := row_at hg 15 _ (HP15.out _)
  have hln : (hs.length : Int) ≤ 1000 := by have := HL.out; omega
  clear hoh hg hb
  by_cases hlt : j < hs.length
  ·have hi1 : (j : Int) < hs.length := by omega
   have hi0 : (0 : Int) ≤ j := by omega
   have hjl : ((hs.take j).map heardH ++ hs.drop j).length = hs.length := by simp; omega
   obtain ⟨rb, rc, ec, rpre, rsuf, rpost, hv, hbl, hbh, hp1, hp2, hp3, hx, hput⟩ := OHJ.out.at_ j (by omega)
   rw [hjl] at hv
   obtain ⟨hj2, e1⟩ : ∃ hj2, ((hs.take j).map heardH ++ hs.drop j)[j]'(by omega) = hj2 := ⟨_, rfl⟩
   rw [e1] at hx
   have e2 : hs[j]? = some hj2 := by
    have h1 : ((hs.take j).map heardH).length = j := by simp; omega
    have e3 : ((hs.take j).map heardH ++ hs.drop j)[j]? = some hj2 := by rw [List.getElem?_eq_getElem (by omega), e1]
    rw [List.getElem?_append_right (by omega), h1, List.getElem?_drop, Nat.sub_self, Nat.add_zero] at e3
    exact e3
   obtain ⟨hj, rfl⟩ : ∃ hj, hj = hj2 := ⟨_, rfl⟩
   obtain ⟨rfl, rfl⟩ : A1 = some ⟨rb, 0, none⟩ ∧ c1 = rc := by simpa using hv
   subst hp3
   have HLX := hid hx
   have HCELL := hid (show ∀ q u, rsuf[q]? = some u → wo.cell? ((⟨rb, j * 21, none⟩ : Addr).add q) = some u from fun q u hq => by
    rw [Addr.add_lit, blk_cell hbh]
    have hql : q < rsuf.length := (List.getElem?_eq_some_iff.1 hq).1
    simp only [List.getElem?_toArray]
    rw [List.append_assoc, List.getElem?_append_right (by omega), List.getElem?_append_left (by omega), hp1, show j * 21 + q - j * 21 = q by omega]
    exact hq)
   have HWO := hid (HW.out.trans ((HB0.out.trans (HBJ.out.mono (by have := HSZ.out; omega))).mono HW.out.size))
   have HTJ := hid (HT.out hj (List.mem_of_getElem? e2))
   have HBH := hid hbh
   have HPL := hid (And.intro hp1 (And.intro hp2 (And.intro hbl hlt)))
   have HPUT := hid hput
   have HE2 := hid e2
   have HKW := hid (heap_lt HG.out)
   clear hx hbh hp1 hp2 hbl hput e1 e2 hv hjl hlt
   go_wp2_with fail
   refine wp_region_grow 10 (CK wo.heap.size) (IW wo)
    (fun i v w' => match i with
     | 0 => v = .pointer (some ⟨k, 15, none⟩)
     | 1 => v = .slice (some ⟨rb, 0, none⟩) hs.length c1
     | 2 => v = .int .i64 (j : Int)
     | 3 => v = .pointer (some ⟨k, 15, none⟩)
     | 4 => v = .slice (some ⟨rb, 0, none⟩) hs.length c1
     | 5 => v = .int .i64 (j : Int)
     | 6 => v = .pointer (some ⟨rb, j * 21, none⟩)
     | 7 => v = .agg rsuf.toArray
     | 8 => ∃ e2 : List Value, v = .agg e2.toArray ∧ LHx w0 w' (heardH hj) e2
     | 9 => v = .pointer (some ⟨rb, j * 21, none⟩)
     | _ => True)
    [[], [0], [], [], [3], [], [4, 5], [6], [7], [1, 2]] rfl (by kernel_rfl) (by kernel_rfl) (fun _ _ => IW.step) ?_ ?_ ?_ ?_
   ·intro j hj v w'
    match j, hj with
    | j + 10, _ => trivial
   ·exact CK.of_below (Below.refl _ _).drew (Nat.le_refl _)
   ·simp only [List.take_succ_cons, List.take_zero, fillAll]
    have c15 := row_at HG.out 15 _ (HP15.out _)
    refine ⟨⟨?_, ?_⟩, ⟨?_, ?_⟩, ⟨?_, ?_⟩, ⟨?_, ?_⟩, ⟨?_, ?_⟩, ⟨?_, ?_⟩, ⟨?_, ?_⟩, ⟨?_, ?_⟩, ⟨?_, ?_⟩, ⟨?_, ?_⟩, trivial⟩
    ·exact fun v w1 w2 h k => h
    ·intro vals w1 hI hd
     unfold GStep
     go_wp2
     exact CK.refl _ _
    ·exact fun v w1 w2 h k => h
    ·intro vals w1 hI hd
     have h1 : vals 0 = _ := hd.1
     have dc15 := hI.cell c15
     unfold GStep
     go_wp2
     exact CK.refl _ _
    ·exact fun v w1 w2 h k => h
    ·intro vals w1 hI hd
     unfold GStep
     go_wp2
     exact CK.refl _ _
    ·exact fun v w1 w2 h k => h
    ·intro vals w1 hI hd
     unfold GStep
     go_wp2
     exact CK.refl _ _
    ·exact fun v w1 w2 h k => h
    ·intro vals w1 hI hd
     have h1 : vals 3 = _ := hd.1
     have dc15 := hI.cell c15
     unfold GStep
     go_wp2
     exact CK.refl _ _
    ·exact fun v w1 w2 h k => h
    ·intro vals w1 hI hd
     unfold GStep
     go_wp2
     exact CK.refl _ _
    ·exact fun v w1 w2 h k => h
    ·intro vals w1 hI hd
     have h1 : vals 4 = _ := hd.1
     have h2 : vals 5 = _ := hd.2.1
     unfold GStep
     go_wp2
     exact CK.refl _ _
    ·exact fun v w1 w2 h k => h
    ·intro vals w1 hI hd
     have h1 : vals 6 = _ := hd.1
     have HCE := hid (fun q u hq => hI.cell (HCELL.out q u hq))
     clear hd
     unfold GStep
     dsimp only
     rw [h1]
     clear h1
     go_simp
     refine wpList_load_any (by rfl) 41 (.tmp 20) (by rfl) ⟨rb, j * 21, none⟩ (by rfl) rsuf _ HCE.out Tryz.underlying41 rfl (by rw [head_size, HLX.out.len]) ?_
     go_wp2
     exact CK.refl _ _
    ·rintro v w1 w2 ⟨e2, h1, h2⟩ q
     exact ⟨e2, h1, h2.ku q.ku⟩
    ·intro vals w1 hI hd
     have h1 : vals 7 = _ := hd.1
     have HP := hid (heard_any w0 hj rsuf w1 (HLX.out.ku (CK.ku hI)) (HWO.out.trans (hI.below.mono HWO.out.size)) HTJ.out)
     unfold GStep
     go_wp2_with (go_at_call 31; refine HP.out.mono ?_; rintro e w2 ⟨e2, rfl, hx, hb⟩)
     have hk := CK.of_below hb hI.size
     first | exact hk | exact ⟨hk, _, rfl, hx⟩ | exact ⟨hk, hx⟩
    ·exact fun v w1 w2 h k => h
    ·intro vals w1 hI hd
     have h1 : vals 1 = _ := hd.1
     have h2 : vals 2 = _ := hd.2.1
     unfold GStep
     go_wp2
     exact CK.refl _ _
   ·intro vals w1 hI hR
    simp only [List.drop_succ_cons, List.drop_zero, List.take_succ_cons, List.take_zero, fillAll]
    obtain ⟨-, -, -, -, -, -, -, -, r8, r9, -⟩ := hR
    have e9 : vals 9 = _ := r9
    rw [e9]
    clear e9 r9
    generalize vals 8 = x8 at r8 ⊢
    obtain ⟨e2, rfl, hx2⟩ := r8
    have HX2 := hid hx2
    have hjl : ((hs.take j).map heardH ++ hs.drop j).length = hs.length := by have := HPL.out.2.2.2; simp; omega
    obtain ⟨rb2, rc2, ec2, pre2, suf2, post2, hv2, hbl2, hbh2, hp21, hp22, hp23, -, hput2⟩ := (OHJ.out.ck hI).at_ j (by have := HPL.out.2.2.2; omega)
    rw [hjl] at hv2
    obtain rfl : rb = rb2 := by
     injection hv2 with h1 _ _
     injection h1 with h1
     injection h1
    have HBH2 := hid hbh2
    have HPUT := hid hput2
    have HS1 := hid (show suf2.length = e2.length by rw [hp22, hx2.len])
    have HS2 := hid hp21.symm
    have HI := hid hI
    clear hx2 hv2 hbl2 hbh2 hp21 hp22 hp23 hput2 hjl hI
    go_simp
    go_wp2_with (refine wpList_store_part (by rfl) 41 (.tmp 23) (.tmp 22) (by rfl) rb (j * 21) 41 pre2 suf2 post2 e2 (by rfl) (by rfl) HS1.out HS2.out HBH2.out 21 head_size HX2.out.len HX2.out.one ?_; intro W5 hst; have HST := hid hst; clear hst)
    have HK5 := hid (show W5.heap[k]? = some (.cells (pre ++ .slice (some ⟨rb, 0, none⟩) hs.length c1 :: post).toArray 28 (0, 0)) by
     have h1 := (HI.out.below.block k HKW.out).trans HG.out
     rw [HST.out.other k (fun e => by rw [e, HBH2.out] at h1; injection h1 with h1; injection h1 with _ h1 _; exact absurd h1 (by decide))]
     exact h1)
    have HB5 := hid (show Below wb.heap.size wb W5 from (HBJ.out.trans (HI.out.below.mono HBJ.out.size)).trans (HST.out.below.mono HPL.out.2.2.1))
    have HO5 := hid (HPUT.out W5 (heardH hj) e2 HST.out (HX2.out.ku (HST.out.ku (N := 0) (Nat.zero_le _) HBH2.out (by decide))))
    go_roundw
    case rel =>
     refine ⟨j + 1, HPL.out.2.2.2, by simp, ?_, HK5.out, HB5.out⟩
     rw [heard_step HPL.out.2.2.2, show hs[j]'HPL.out.2.2.2 = hj from by have := HE2.out; rw [List.getElem?_eq_getElem HPL.out.2.2.2] at this; exact Option.some.inj this]
     exact HO5.out
    case measure => exact meas_step HPL.out.2.2.2 (by simp)
  ·have hje : j = hs.length := by omega
   subst hje
   have HOF := hid (show OHs w0 wb.heap.size wo (.slice A1 hs.length c1) (hs.map heardH) by simpa using OHJ.out)
   have HZ := hid ((HBJ.out.block (w.heap.size + 1) (by have := HSZ.out; omega)).trans HWB2.out)
   go_wp2_with (first
    | (refine wpList_load_blk (by rfl) 28 (.tmp 3) (by rfl) k 28 (0, 0) (pre ++ .slice A1 hs.length c1 :: post) (by rfl) HG.out _ Tryz.underlying28 rfl 19 msg_size (HFL.out _) ?_)
    | (refine wpList_store_blk (by rfl) 28 (.tmp 2) (.tmp 24) (by rfl) (w.heap.size + 1) 28 [.bool false, .slice none 0 0, .slice none 0 0, .slice none 0 0, .bool false, .bool false, .slice none 0 0, .slice none 0 0, .slice none 0 0, .int .i64 0, .slice none 0 0, .slice none 0 0, .int .i64 0, .slice none 0 0, .slice none 0 0, .slice none 0 0, .slice none 0 0, .bool false, .bool false] (pre ++ .slice A1 hs.length c1 :: post) (by rfl) (by rfl) (by rw [HFL.out]; rfl) HZ.out 19 msg_size (HFL.out _) (HONE.out _ _ _) ?_; intro W4 hst4; have HST4 := hid hst4; clear hst4))
   exact ret_cell 2 28 ⟨w.heap.size + 1, 0, none⟩ (pre ++ .slice A1 hs.length c1 :: post) _ rfl rfl (row_cells HST4.out.blk) Tryz.underlying28 rfl 19 msg_size (HFL.out _) rfl ⟨_, rfl, (HOF.out.stored HST4.out HZ.out (by decide) (by decide)).less (by have := HSZ.out; omega), (HB0.out.trans (HBJ.out.mono (by have := HSZ.out; omega))).trans (HST4.out.below.mono (by omega))⟩
def readHs (m : LMsg) : List LHead := (m.heads.map plainH ++ [lenH m.body.length]).map heardH
theorem plainH_t (h : LHead) : (plainH h).t = h.t := by
 unfold plainH
 repeat' split
 all_goals rfl
theorem made_ts {l : List LHead} (h : ∀ x ∈ l, 0 ≤ x.t ∧ x.t ≤ 14) (n : Int) : ∀ x ∈ l.map plainH ++ [lenH n], 0 ≤ x.t ∧ x.t ≤ 14 := by
 intro x hx
 rcases List.mem_append.1 hx with h1 | h1
 ·obtain ⟨y, hy, rfl⟩ := List.mem_map.1 h1
  rw [plainH_t]
  exact h y hy
 ·simp only [List.mem_cons, List.not_mem_nil, or_false] at h1
  subst h1
  show (0 : Int) ≤ 8 ∧ (8 : Int) ≤ 14
  omega
def ReadPost (w0 : World) (hs : List LHead) (w : World) (e : Ending) (w' : World) : Prop := ∃ pre v post, e = .returned (.agg (pre ++ v :: post).toArray) ∧ pre.length = 15 ∧ post.length = 3 ∧ OHs w0 w.heap.size w' v hs ∧ Below w.heap.size w w'
theorem read_any (w0 : World) (m : LMsg) (cs : List Value) (w : World) (hM : LM w0 m cs) (hw : Sub w0 w) (ht : ∀ h ∈ m.heads, 0 ≤ h.t ∧ h.t ≤ 14) (hl : m.heads.length ≤ 64) (hbl : m.body.length ≤ 8192) : Calls Tryz.prog 11 #[.agg cs.toArray] w (ReadPost w0 (readHs m) w) := by
 obtain ⟨resp, method, u, code, reason, version, heads, body, hasBody, compact⟩ := m
 dsimp only at ht hl hbl
 have hlen : cs.length = 19 := by
  obtain ⟨va, ul, vb, vc, vh, vd, rfl, hm, hu, _⟩ := hM
  simp [hu.len]
 have hts := made_ts ht body.length
 cases resp
 ·obtain ⟨a, ul, c, d, h1, h2, h3, h4, h5⟩ := made_req w0 method u code reason version heads body hasBody compact cs hM ht hl hbl
  have e : ∀ v : Value, ([.bool false, a] ++ ul ++ [.int .i64 0, .slice none 0 0, c]) ++ v :: [d, .bool false, .bool false] = .bool false :: a :: (ul ++ [.int .i64 0, .slice none 0 0, c, v, d, .bool false, .bool false]) := fun v => by simp
  have key := read_of w0 cs ([.bool false, a] ++ ul ++ [.int .i64 0, .slice none 0 0, c]) [d, .bool false, .bool false] w (heads.map plainH ++ [lenH body.length]) hlen (by simp [h2.len]) rfl (fun A n c' => by
    have o1 := h2.one
    simp only [List.all_append, List.all_cons, List.all_nil, h1.one, h3.one, h4.one, o1]
    rfl) hw hts (by simp; omega) (fun wz hz => (h5 wz (hw.trans (hz.mono hw.size))).mono (fun e1 w' ⟨v, k1, k2⟩ => ⟨v, by rw [e v]; exact k1, k2⟩))
  refine key.mono (fun e1 w' ⟨v, k1, k2, k3⟩ => ⟨_, v, _, k1, by simp [h2.len], rfl, k2, k3⟩)
 ·obtain ⟨b, c, d, h1, h3, h4, h5⟩ := made_res w0 method u code reason version heads body hasBody compact cs hM ht hl hbl
  have key := read_of w0 cs [.bool true, .slice none 0 0, .slice none 0 0, .slice none 0 0, .bool false, .bool false, .slice none 0 0, .slice none 0 0, .slice none 0 0, .int .i64 0, .slice none 0 0, .slice none 0 0, .int .i64 code, b, c] [d, .bool false, .bool false] w (heads.map plainH ++ [lenH body.length]) hlen rfl rfl (fun A n c' => by
    simp only [List.all_append, List.all_cons, List.all_nil, h1.one, h3.one, h4.one]
    rfl) hw hts (by simp; omega) (fun wz hz => (h5 wz (hw.trans (hz.mono hw.size))).mono (fun e1 w' ⟨v, k1, k2⟩ => ⟨v, k1, k2⟩))
  refine key.mono (fun e1 w' ⟨v, k1, k2, k3⟩ => ⟨_, v, _, k1, rfl, rfl, k2, k3⟩)
