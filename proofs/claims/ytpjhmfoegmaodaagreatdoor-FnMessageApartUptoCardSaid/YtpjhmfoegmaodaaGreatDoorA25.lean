import Derived.Test.YtpjhmfoegmaodaaGreatDoorA23
set_option maxRecDepth 100000
set_option maxHeartbeats 16000000
set_option linter.all false
namespace Go.Proofs.YtpjhmfoegmaodaaGreatDoor
open Go.Lib (hid)
open Go.RowKit
theorem made_req (w0 : World) (method : Bytes) (u : LUri) (code : Int) (reason version : Bytes) (heads : List LHead) (body : Bytes) (hasBody compact : Bool) (cs : List Value) (hM : LM w0 ⟨false, method, u, code, reason, version, heads, body, hasBody, compact⟩ cs) (ht : ∀ h ∈ heads, 0 ≤ h.t ∧ h.t ≤ 14) (hl : heads.length ≤ 64) (hbl : body.length ≤ 8192) :
  ∃ a ul c d, SB w0 a method ∧ LU w0 u ul ∧ SB w0 c version ∧ SB w0 d body ∧ ∀ w : World, Sub w0 w → Calls Tryz.prog 30 #[.agg cs.toArray] w fun e w' => ∃ v, e = .returned (.agg (.bool false :: a :: (ul ++ [.int .i64 0, .slice none 0 0, c, v, d, .bool false, .bool false]) : List Value).toArray) ∧ OHs w0 w.heap.size w' v ((heads.map plainH) ++ [lenH body.length]) ∧ Below w.heap.size w w' := by
 obtain ⟨va, ul, vb, vc, vh, vd, rfl, hm, hu, hrs, hv, hh, hbo, hcode⟩ := hM
 have HLU := hid hu
 refine ⟨va, ul, vc, vd, hm, hu, hv, hbo, fun w hw => ?_⟩
 obtain ⟨u0, u1, u4, u5, u6, u8, u9, rfl, k1, k2, k3, k4, k5, k6, k7, k8⟩ := hu
 dsimp only at *
 have HHS := hid hh
 have HW := hid hw
 have HT := hid ht
 have HL := hid (And.intro hl hbl)
 obtain ⟨Am, cm, rfl, -⟩ := hm.form
 obtain ⟨Ar, cr, rfl, -⟩ := hrs.form
 obtain ⟨Av, cv, rfl, -⟩ := hv.form
 obtain ⟨Ah, ch, rfl, -⟩ := hh.form
 obtain ⟨Ab, cb, rfl, -⟩ := hbo.form
 have HO := hid (show u0.oneCell' = true ∧ u1.oneCell' = true ∧ u4.oneCell' = true ∧ u5.oneCell' = true ∧ u6.oneCell' = true ∧ u8.oneCell' = true ∧ u9.oneCell' = true from ⟨k1.one, k2.one, k3.one, k4.one, k5.one, k6.one, k7.one⟩)
 simp only [List.cons_append, List.nil_append]
 clear k1 k2 k3 k4 k5 k6 k7 k8 hm hrs hv hh hbo hcode hw ht hl hbl
 obtain ⟨wb, hwb⟩ : ∃ wb, wb = (w.alloc (.cells #[.bool false, .slice Am method.length cm, u0, u1, .bool u.star, .bool u.slashes, u4, u5, u6, .int .i64 u.port, u8, u9, .int .i64 code, .slice Ar reason.length cr, .slice Av version.length cv, .slice Ah heads.length ch, .slice Ab body.length cb, .bool hasBody, .bool compact] 28)).alloc (.cells #[.bool false, .slice none 0 0, .slice none 0 0, .slice none 0 0, .bool false, .bool false, .slice none 0 0, .slice none 0 0, .slice none 0 0, .int .i64 0, .slice none 0 0, .slice none 0 0, .int .i64 0, .slice none 0 0, .slice none 0 0, .slice none 0 0, .slice none 0 0, .bool false, .bool false] 28) := ⟨_, rfl⟩
 have HWB1 := hid (show wb.heap[w.heap.size]? = some (.cells (_ : List Value).toArray 28 (0, 0)) by rw [hwb]; exact ((Below.refl _ _).alloc (Nat.le_refl _) _).block w.heap.size (by simp) |>.trans (heap_alloc_new w _))
 have HWB2 := hid (show wb.heap[w.heap.size + 1]? = some (.cells (_ : List Value).toArray 28 (0, 0)) by rw [hwb]; have := heap_alloc_new (w.alloc (.cells #[.bool false, .slice Am method.length cm, u0, u1, .bool u.star, .bool u.slashes, u4, u5, u6, .int .i64 u.port, u8, u9, .int .i64 code, .slice Ar reason.length cr, .slice Av version.length cv, .slice Ah heads.length ch, .slice Ab body.length cb, .bool hasBody, .bool compact] 28)) (.cells #[.bool false, .slice none 0 0, .slice none 0 0, .slice none 0 0, .bool false, .bool false, .slice none 0 0, .slice none 0 0, .slice none 0 0, .int .i64 0, .slice none 0 0, .slice none 0 0, .int .i64 0, .slice none 0 0, .slice none 0 0, .slice none 0 0, .slice none 0 0, .bool false, .bool false] 28); rwa [World.size_alloc] at this)
 have HB0 := hid (show Below w.heap.size w wb by rw [hwb]; exact ((Below.refl _ w).alloc (Nat.le_refl _) _).alloc (by simp) _)
 have HSZ := hid (show wb.heap.size = w.heap.size + 2 by rw [hwb]; simp)
 have HNM := hid (show ((⟨(nameS 8).toArray⟩ : ByteArray).size ≤ 70368744177664) from by rw [sz]; have := nameS_len 8; omega)
 go_enter Tryz.func30, Tryz.ntmps30
 go_wp2_with fail
 rw [← hwb]
 generalize Value.agg _ = arg0
 clear hwb
 refine wp_region_grow 11 (CK wb.heap.size) (IW wb)
  (fun i v w' => match i with
   | 0 => v = .pointer (some ⟨w.heap.size, 0, none⟩)
   | 1 => v = .bool false
   | 2 => v = .pointer (some ⟨w.heap.size, 14, none⟩)
   | 3 => v = .slice Av version.length cv
   | 4 => v = .pointer (some ⟨w.heap.size, 16, none⟩)
   | 5 => v = .slice Ab body.length cb
   | 6 => v = .pointer (some ⟨w.heap.size, 15, none⟩)
   | 7 => v = .slice Ah heads.length ch
   | 8 => OHs w0 wb.heap.size w' v (heads.map plainH)
   | 9 => ∃ v', v = .agg #[.bool false, .slice none 0 0, .slice none 0 0, .slice none 0 0, .bool false, .bool false, .slice none 0 0, .slice none 0 0, .slice none 0 0, .int .i64 0, .slice none 0 0, .slice none 0 0, .int .i64 0, .slice none 0 0, .slice Av version.length cv, v', .slice Ab body.length cb, .bool false, .bool false] ∧ OHs w0 wb.heap.size w' v' (heads.map plainH)
   | 10 => ∃ g, wb.heap.size ≤ g ∧ v = .pointer (some ⟨g, 0, none⟩) ∧ w'.heap[g]? = some (.cells ([.bool false, .slice none 0 0, .slice none 0 0, .slice none 0 0, .bool false, .bool false, .slice none 0 0, .slice none 0 0, .slice none 0 0, .int .i64 0, .slice none 0 0, .slice none 0 0, .int .i64 0, .slice none 0 0, .slice none 0 0, .slice none 0 0, .slice none 0 0, .bool false, .bool false] : List Value).toArray 28 (0, 0))
   | _ => True)
  [[], [0], [], [2], [], [4], [], [6], [7], [1, 3, 5, 8], []] rfl (by kernel_rfl) (by kernel_rfl) (fun _ _ => IW.step) ?_ ?_ ?_ ?_
 ·intro j hj v w'
  match j, hj with
  | j + 11, _ => trivial
 ·exact CK.of_below (Below.refl _ _).drew (Nat.le_refl _)
 ·simp only [List.take_succ_cons, List.take_zero, fillAll]
  have c0 := row_at HWB1.out 0 _ rfl
  have c14 := row_at HWB1.out 14 _ rfl
  have c15 := row_at HWB1.out 15 _ rfl
  have c16 := row_at HWB1.out 16 _ rfl
  refine ⟨⟨?_, ?_⟩, ⟨?_, ?_⟩, ⟨?_, ?_⟩, ⟨?_, ?_⟩, ⟨?_, ?_⟩, ⟨?_, ?_⟩, ⟨?_, ?_⟩, ⟨?_, ?_⟩, ⟨?_, ?_⟩, ⟨?_, ?_⟩, ⟨?_, ?_⟩, trivial⟩
  ·exact fun v w1 w2 h k => h
  ·intro vals w1 hI hd
   unfold GStep
   go_wp2
   exact CK.refl _ _
  ·exact fun v w1 w2 h k => h
  ·intro vals w1 hI hd
   have h1 : vals 0 = _ := hd.1
   have dc0 := hI.cell c0
   unfold GStep
   go_wp2
   exact CK.refl _ _
  ·exact fun v w1 w2 h k => h
  ·intro vals w1 hI hd
   unfold GStep
   go_wp2
   exact CK.refl _ _
  ·exact fun v w1 w2 h k => h
  ·intro vals w1 hI hd
   have h1 : vals 2 = _ := hd.1
   have dc14 := hI.cell c14
   unfold GStep
   go_wp2
   exact CK.refl _ _
  ·exact fun v w1 w2 h k => h
  ·intro vals w1 hI hd
   unfold GStep
   go_wp2
   exact CK.refl _ _
  ·exact fun v w1 w2 h k => h
  ·intro vals w1 hI hd
   have h1 : vals 4 = _ := hd.1
   have dc16 := hI.cell c16
   unfold GStep
   go_wp2
   exact CK.refl _ _
  ·exact fun v w1 w2 h k => h
  ·intro vals w1 hI hd
   unfold GStep
   go_wp2
   exact CK.refl _ _
  ·exact fun v w1 w2 h k => h
  ·intro vals w1 hI hd
   have h1 : vals 6 = _ := hd.1
   have dc15 := hI.cell c15
   unfold GStep
   go_wp2
   exact CK.refl _ _
  ·exact fun v w1 w2 h k => h.ck k
  ·intro vals w1 hI hd
   have h1 : vals 7 = _ := hd.1
   have HP := hid (plainall_any w0 _ heads w1 HHS.out (HW.out.trans ((HB0.out.trans (hI.below.mono (by have := HSZ.out; omega))).mono HW.out.size)) HT.out (by have := HL.out; omega))
   unfold GStep
   go_wp2_with (go_at_call 59; refine HP.out.mono ?_; rintro e w2 ⟨v2, rfl, ho, hb⟩)
   exact ⟨CK.of_below hb hI.size, ho.less hI.size⟩
  ·rintro v w1 w2 ⟨v', h1, h2⟩ k
   exact ⟨v', h1, h2.ck k⟩
  ·intro vals w1 hI hd
   have h1 : vals 1 = _ := hd.1
   have h3 : vals 3 = _ := hd.2.1
   have h5 : vals 5 = _ := hd.2.2.1
   have h8 : OHs w0 wb.heap.size w1 (vals 8) _ := hd.2.2.2.1
   clear hd
   unfold GStep
   dsimp only
   rw [h1, h3, h5]
   clear h1 h3 h5
   generalize vals 8 = x8 at h8 ⊢
   have H8 := hid h8
   obtain ⟨A8, c8, e8⟩ := h8.form
   rw [List.length_map] at e8
   clear h8
   subst e8
   go_wp2
   first | exact ⟨CK.refl _ _, _, rfl, H8.out⟩ | exact ⟨CK.refl _ _, H8.out⟩
  ·rintro v w1 w2 ⟨k, h1, h2, h3⟩ h
   exact ⟨k, h1, h2, h.same h3 (by decide)⟩
  ·intro vals w1 hI hd
   unfold GStep
   go_wp2
   first | exact ⟨CK.new hI.size _, _, hI.size, rfl, heap_alloc_new w1 _⟩ | exact ⟨CK.new hI.size _, hI.size, heap_alloc_new w1 _⟩
 ·intro vals w1 hI hR
  simp only [List.drop_succ_cons, List.drop_zero, List.take_succ_cons, List.take_zero, fillAll]
  obtain ⟨-, -, -, -, -, -, -, -, -, r9, r10, -⟩ := hR
  generalize vals 9 = x9 at r9 ⊢
  generalize vals 10 = x10 at r10 ⊢
  obtain ⟨v8, rfl, hoh⟩ := r9
  obtain ⟨k, hk, rfl, hg7⟩ := r10
  obtain ⟨A8, c8, e8⟩ := hoh.form
  rw [List.length_map] at e8
  subst e8
  have OH1 := hid hoh
  have HB1 := hid ((hI.below.block w.heap.size (by have := HSZ.out; omega)).trans HWB1.out)
  have HB2 := hid ((hI.below.block (w.heap.size + 1) (by have := HSZ.out; omega)).trans HWB2.out)
  have HBW := hid (HB0.out.trans (hI.below.mono (by have := HSZ.out; omega)))
  have HK := hid (show w.heap.size + 1 < k by have := HSZ.out; omega)
  have HG7 := hid hg7
  have HONE := hid (show ([.bool false, .slice none 0 0, .slice none 0 0, .slice none 0 0, .bool false, .bool false, .slice none 0 0, .slice none 0 0, .slice none 0 0, .int .i64 0, .slice none 0 0, .slice none 0 0, .int .i64 0, .slice none 0 0, .slice Av version.length cv, .slice A8 heads.length c8, .slice Ab body.length cb, .bool false, .bool false] : List Value).all (·.oneCell') = true from rfl)
  clear hoh hk hg7 hI
  go_simp
  go_upto_region 2 with (refine wpList_store_blk (by rfl) 28 (.tmp 3) (.tmp 13) (by rfl) k 28 _ _ (by rfl) (by rfl) (by rfl) HG7.out 19 msg_size (by rfl) HONE.out ?_; intro W2 hst2)
  have OH2 := hid (OH1.out.stored hst2 HG7.out (by decide) (by decide))
  have HG2 := hid hst2.blk
  have HB21 := hid ((hst2.other w.heap.size (by have := HK.out; omega)).trans HB1.out)
  have HB22 := hid ((hst2.other (w.heap.size + 1) (by have := HK.out; omega)).trans HB2.out)
  have HBW2 := hid (HBW.out.trans (hst2.below.mono (by have := HK.out; omega)))
  clear hst2
  have c0 := row_at HB21.out 0 _ rfl
  go_wp2_with fail
  clear c0
  refine wp_region_grow 7 (CG k 28 _) (CG k 28 [.bool false, .slice Am method.length cm, u0, u1, .bool u.star, .bool u.slashes, u4, u5, u6, .int .i64 u.port, u8, u9, .int .i64 0, .slice none 0 0, .slice Av version.length cv, .slice A8 heads.length c8, .slice Ab body.length cb, .bool false, .bool false] W2)
   (fun i v w' => match i with
    | 0 => v = .pointer (some ⟨w.heap.size, 1, none⟩)
    | 1 => v = .slice Am method.length cm
    | 2 => v = .pointer (some ⟨w.heap.size, 2, none⟩)
    | 3 => v = .agg #[u0, u1, .bool u.star, .bool u.slashes, u4, u5, u6, .int .i64 u.port, u8, u9]
    | 4 => v = .pointer (some ⟨k, 1, none⟩)
    | 5 => Wr k 28 [.bool false, .slice Am method.length cm, u0, u1, .bool u.star, .bool u.slashes, u4, u5, u6, .int .i64 u.port, u8, u9, .int .i64 0, .slice none 0 0, .slice Av version.length cv, .slice A8 heads.length c8, .slice Ab body.length cb, .bool false, .bool false] 1 w'
    | 6 => v = .pointer (some ⟨k, 2, none⟩)
    | _ => True)
   [[], [0], [], [2], [], [4, 1], []] rfl (by kernel_rfl) (by kernel_rfl) (fun _ _ h k => h.trans k) ?_ ?_ ?_ ?_
  ·intro j hj v w'
   match j, hj with
   | j + 7, _ => trivial
  ·exact CG.of_below (Below.refl _ _).drew (heap_lt HG2.out)
  ·simp only [List.take_succ_cons, List.take_zero, fillAll]
   refine ⟨⟨?_, ?_⟩, ⟨?_, ?_⟩, ⟨?_, ?_⟩, ⟨?_, ?_⟩, ⟨?_, ?_⟩, ⟨?_, ?_⟩, ⟨?_, ?_⟩, trivial⟩
   ·exact fun v w1 w2 h k => h
   ·intro vals w1 hI hd
    unfold GStep
    go_wp2
    exact CG.refl _ _ _ _
   ·exact fun v w1 w2 h k => h
   ·intro vals w1 hI hd
    have h1 : vals 0 = _ := hd.1
    have d1 := row_at ((hI.1.block w.heap.size (by have := HK.out; omega)).trans HB21.out) 1 _ rfl
    unfold GStep
    go_wp2
    exact CG.refl _ _ _ _
   ·exact fun v w1 w2 h k => h
   ·intro vals w1 hI hd
    unfold GStep
    go_wp2
    exact CG.refl _ _ _ _
   ·exact fun v w1 w2 h k => h
   ·intro vals w1 hI hd
    have h1 : vals 2 = _ := hd.1
    have d2 := row_at ((hI.1.block w.heap.size (by have := HK.out; omega)).trans HB21.out) 2 _ rfl
    have d3 := row_at ((hI.1.block w.heap.size (by have := HK.out; omega)).trans HB21.out) 3 _ rfl
    have d4 := row_at ((hI.1.block w.heap.size (by have := HK.out; omega)).trans HB21.out) 4 _ rfl
    have d5 := row_at ((hI.1.block w.heap.size (by have := HK.out; omega)).trans HB21.out) 5 _ rfl
    have d6 := row_at ((hI.1.block w.heap.size (by have := HK.out; omega)).trans HB21.out) 6 _ rfl
    have d7 := row_at ((hI.1.block w.heap.size (by have := HK.out; omega)).trans HB21.out) 7 _ rfl
    have d8 := row_at ((hI.1.block w.heap.size (by have := HK.out; omega)).trans HB21.out) 8 _ rfl
    have d9 := row_at ((hI.1.block w.heap.size (by have := HK.out; omega)).trans HB21.out) 9 _ rfl
    have d10 := row_at ((hI.1.block w.heap.size (by have := HK.out; omega)).trans HB21.out) 10 _ rfl
    have d11 := row_at ((hI.1.block w.heap.size (by have := HK.out; omega)).trans HB21.out) 11 _ rfl
    unfold GStep
    go_wp2
    exact CG.refl _ _ _ _
   ·exact fun v w1 w2 h k => h
   ·intro vals w1 hI hd
    unfold GStep
    go_wp2
    exact CG.refl _ _ _ _
   ·exact fun v w1 w2 h k => h.cg k
   ·intro vals w1 hI hd
    have h1 : vals 4 = _ := hd.1
    have h2 : vals 1 = _ := hd.2.1
    obtain ⟨l, hl, hlen, -⟩ := hI.2.2 (_ : List Value) HG2.out
    have f0 := blk_frozen hl 1
    have g0 : ∃ x, w1.cell? ⟨k, 1, none⟩ = some x := ⟨l[1]'(by rw [hlen]; simp), row_at hl 1 _ (List.getElem?_eq_getElem _)⟩
    obtain ⟨x, g0⟩ := g0
    have X := hid (CG.set (tgt := [.bool false, .slice Am method.length cm, u0, u1, .bool u.star, .bool u.slashes, u4, u5, u6, .int .i64 u.port, u8, u9, .int .i64 0, .slice none 0 0, .slice Av version.length cv, .slice A8 heads.length c8, .slice Ab body.length cb, .bool false, .bool false]) hl 1 (.slice Am method.length cm : Value) rfl (by rw [hlen]; simp))
    clear hlen hl
    unfold GStep
    go_wp2
    exact X.out
   ·exact fun v w1 w2 h k => h
   ·intro vals w1 hI hd
    unfold GStep
    go_wp2
    exact CG.refl _ _ _ _
  ·intro vals w1 hI hR
   simp only [List.drop_succ_cons, List.drop_zero, List.take_succ_cons, List.take_zero, fillAll]
   obtain ⟨-, -, -, rv, -, z0, ra, -⟩ := hR
   have ea : vals 6 = _ := ra
   have ev : vals 3 = _ := rv
   rw [ea, ev]
   clear ea ev ra rv
   have HI := hid hI
   have HWR := hid (show ∀ j ∈ ([1] : List Nat), Wr k 28 _ j w1 from fun j hj => by
    simp only [List.mem_cons, List.not_mem_nil, or_false] at hj
    subst hj
    exact z0)
   obtain ⟨l, hl, hlen, -⟩ := HI.out.2.2 (_ : List Value) HG2.out
   have HGL := hid hl
   have HZ1 := hid ((HI.out.1.block (w.heap.size + 1) (by have := HK.out; omega)).trans HB22.out)
   have HY1 := hid ((HI.out.1.block w.heap.size (by have := HK.out; omega)).trans HB21.out)
   have OH3 := hid (OHs.cg OH2.out HI.out HG2.out (by decide) (by decide))
   have hl2 : l = l.take 2 ++ (l.drop 2).take 10 ++ l.drop (2 + 10) := by rw [List.append_assoc, ← List.drop_drop, List.take_append_drop, List.take_append_drop]
   have HS1 := hid (show (l.take 2).length = 2 by rw [List.length_take, hlen]; rfl)
   have HS2 := hid (show ((l.drop 2).take 10).length = ([u0, u1, .bool u.star, .bool u.slashes, u4, u5, u6, .int .i64 u.port, u8, u9] : List Value).length by rw [List.length_take, List.length_drop, hlen]; rfl)
   have HLL := hid (hl2 ▸ hl)
   have HOU := hid (LU.one HLU.out)
   clear hl hlen hl2 hI z0
   go_simp
   go_upto_region 5 with (refine wpList_store_part (by rfl) 25 (.tmp 27) (.tmp 25) (by rfl) k 2 28 _ _ _ [u0, u1, .bool u.star, .bool u.slashes, u4, u5, u6, .int .i64 u.port, u8, u9] (by rfl) (by rfl) HS2.out HS1.out.symm HLL.out 10 uri_size rfl HOU.out ?_; intro W3 hst3)
   have HST := hid (CG.done_part (tgt := _) (l0 := _) (ty := 28) HI.out HG2.out HGL.out [1] HWR.out 2 [u0, u1, .bool u.star, .bool u.slashes, u4, u5, u6, .int .i64 u.port, u8, u9] hst3 (fun i hi => by
    match i, hi with
    | 0, _ => rfl
    | 1, _ => rfl
    | 2, _ => rfl
    | 3, _ => rfl
    | 4, _ => rfl
    | 5, _ => rfl
    | 6, _ => rfl
    | 7, _ => rfl
    | 8, _ => rfl
    | 9, _ => rfl
    | i + 10, hi => exact absurd hi (by simp)) rfl (by simp) (fun j h1 h2 h3 => by
    rcases tab19 j h1 with rfl | rfl | rfl | rfl | rfl | rfl | rfl | rfl | rfl | rfl | rfl | rfl | rfl | rfl | rfl | rfl | rfl | rfl | rfl <;> first | rfl | exact absurd rfl h3 | exact absurd (by decide) h2 | exact absurd (by simp) h3))
   clear hst3
   have HG3 := hid HST.out.blk
   have OH4 := hid (OH3.out.stored HST.out HGL.out (by decide) (by decide))
   have HB31 := hid ((HST.out.other w.heap.size (by have := HK.out; omega)).trans HY1.out)
   have HB32 := hid ((HST.out.other (w.heap.size + 1) (by have := HK.out; omega)).trans HZ1.out)
   have HBW3 := hid ((HBW2.out.trans (HI.out.1.mono (by have := HK.out; omega))).trans (HST.out.below.mono (by have := HK.out; omega)))
   clear HST HI HWR HGL HZ1 HY1 OH3
   have HKL := hid (heap_lt HG3.out)
   go_wp2_with fail
   refine wp_region_grow 10 (CK W3.heap.size) (IW W3)
    (fun i v w' => match i with
     | 0 => v = .pointer (some ⟨k, 15, none⟩)
     | 1 => v = .slice A8 heads.length c8
     | 2 => v = .string ⟨(nameS 8).toArray⟩
     | 3 => SBf w0.heap.size w' v (nameS 8)
     | 4 => v = .pointer (some ⟨w.heap.size, 16, none⟩)
     | 5 => v = .slice Ab body.length cb
     | 6 => v = .int .i64 (body.length : Int)
     | 7 => v = .int .u32 (body.length : Int)
     | 8 => ∃ nm, v = .agg #[.int .i64 8, nm, .slice none 0 0, .slice none 0 0, .slice none 0 0, .slice none 0 0, .bool false, .bool false, .slice none 0 0, .slice none 0 0, .slice none 0 0, .int .i64 0, .slice none 0 0, .slice none 0 0, .slice none 0 0, .int .u32 (body.length : Int), .slice none 0 0, .slice none 0 0, .slice none 0 0, .slice none 0 0, .int .i64 0] ∧ SBf w0.heap.size w' nm (nameS 8)
     | 9 => ∃ g2 nm, v = .slice (some ⟨g2, 0, none⟩) 1 1 ∧ w'.heap[g2]? = some (.cells ([.int .i64 8, nm, .slice none 0 0, .slice none 0 0, .slice none 0 0, .slice none 0 0, .bool false, .bool false, .slice none 0 0, .slice none 0 0, .slice none 0 0, .int .i64 0, .slice none 0 0, .slice none 0 0, .slice none 0 0, .int .u32 (body.length : Int), .slice none 0 0, .slice none 0 0, .slice none 0 0, .slice none 0 0, .int .i64 0] : List Value).toArray 41 (0, 0)) ∧ SBf w0.heap.size w' nm (nameS 8)
     | _ => True)
    [[], [0], [], [2], [], [4], [5], [6], [3, 7], [8]] rfl (by kernel_rfl) (by kernel_rfl) (fun _ _ => IW.step) ?_ ?_ ?_ ?_
   ·intro j hj v w'
    match j, hj with
    | j + 10, _ => trivial
   ·exact CK.of_below (Below.refl _ _).drew (Nat.le_refl _)
   ·simp only [List.take_succ_cons, List.take_zero, fillAll]
    have c15 := row_at HG3.out 15 _ rfl
    have c16 := row_at HB31.out 16 _ rfl
    refine ⟨⟨?_, ?_⟩, ⟨?_, ?_⟩, ⟨?_, ?_⟩, ⟨?_, ?_⟩, ⟨?_, ?_⟩, ⟨?_, ?_⟩, ⟨?_, ?_⟩, ⟨?_, ?_⟩, ⟨?_, ?_⟩, ⟨?_, ?_⟩, trivial⟩
    ·exact fun v w1 w2 h k => h
    ·intro vals w1 hI hd
     unfold GStep
     go_wp2
     exact CK.refl _ _
    ·exact fun v w1 w2 h k => h
    ·intro vals w1 hI hd
     have h1 : vals 0 = _ := hd.1
     have dc15 := hI.cell c15
     unfold GStep
     go_wp2
     exact CK.refl _ _
    ·exact fun v w1 w2 h k => h
    ·intro vals w1 hI hd
     unfold GStep
     go_wp2_with (go_at_call 60; refine (nameof_any 8 _).mono ?_; rintro e w2 ⟨rfl, rfl⟩)
     exact CK.refl _ _
    ·exact fun v w1 w2 h k => SBf.ku h k.ku
    ·intro vals w1 hI hd
     have h4 : vals 2 = _ := hd.1
     have hr := Lib.run_convert_string_bytes (P := Tryz.prog) w1 9 22 5 ⟨(nameS 8).toArray⟩ Tryz.underlying9 Tryz.underlying22 Tryz.underlying5
     have X := hid (conv_sbf w0.heap.size w1 ⟨(nameS 8).toArray⟩ HNM.out (Nat.le_trans (Nat.le_trans HW.out.size HBW3.out.size) hI.size))
     unfold GStep
     go_wp2
     exact ⟨CK.of_below X.out.2 hI.size, X.out.1⟩
    ·exact fun v w1 w2 h k => h
    ·intro vals w1 hI hd
     unfold GStep
     go_wp2
     exact CK.refl _ _
    ·exact fun v w1 w2 h k => h
    ·intro vals w1 hI hd
     have h1 : vals 4 = _ := hd.1
     have dc16 := hI.cell c16
     unfold GStep
     go_wp2
     exact CK.refl _ _
    ·exact fun v w1 w2 h k => h
    ·intro vals w1 hI hd
     have h1 : vals 5 = _ := hd.1
     unfold GStep
     go_wp2
     exact CK.refl _ _
    ·exact fun v w1 w2 h k => h
    ·intro vals w1 hI hd
     have h1 : vals 6 = _ := hd.1
     have b1 : (body.length : Int) ≤ 8192 := by have := HL.out; omega
     unfold GStep
     go_wp2
     exact CK.refl _ _
    ·rintro v w1 w2 ⟨nm, h1, h2⟩ k
     exact ⟨nm, h1, h2.ku k.ku⟩
    ·intro vals w1 hI hd
     have h3 : SBf w0.heap.size w1 (vals 3) _ := hd.1
     have h7 : vals 7 = _ := hd.2.1
     clear hd
     unfold GStep
     dsimp only
     rw [h7]
     clear h7
     generalize vals 3 = x3 at h3 ⊢
     have H3 := hid h3
     obtain ⟨k1, cap1, cs1, fz1, rfl, -⟩ := h3
     go_wp2
     first | exact ⟨CK.refl _ _, _, rfl, H3.out⟩ | exact ⟨CK.refl _ _, H3.out⟩
    ·rintro v w1 w2 ⟨g2, nm, h1, h2, h3⟩ k
     exact ⟨g2, nm, h1, k.same h2 (by decide), h3.ku k.ku⟩
    ·intro vals w1 hI hd
     obtain ⟨nm, h8, hn⟩ := hd.1
     have H3 := hid hn
     obtain ⟨k1, cap1, cs1, fz1, rfl, -⟩ := hn
     clear hd
     unfold GStep
     dsimp only
     rw [h8]
     clear h8
     go_wp2
     have hk := CK.new hI.size (.cells #[.int .i64 8, .slice (some ⟨k1, 0, none⟩) (nameS 8).length cap1, .slice none 0 0, .slice none 0 0, .slice none 0 0, .slice none 0 0, .bool false, .bool false, .slice none 0 0, .slice none 0 0, .slice none 0 0, .int .i64 0, .slice none 0 0, .slice none 0 0, .slice none 0 0, .int .u32 (body.length : Int), .slice none 0 0, .slice none 0 0, .slice none 0 0, .slice none 0 0, .int .i64 0] 41)
     first | exact ⟨hk, _, _, rfl, heap_alloc_new w1 _, H3.out.ku hk.ku⟩ | exact ⟨hk, _, rfl, _, heap_alloc_new w1 _, H3.out.ku hk.ku⟩ | exact ⟨hk, _, (Array.getElem?_eq_some_iff.1 (heap_alloc_new w1 _)).2, H3.out.ku hk.ku⟩
   ·intro vals w4 hI4 hR
    simp only [List.drop_succ_cons, List.drop_zero, List.take_succ_cons, List.take_zero, fillAll]
    obtain ⟨-, r1, -, -, -, -, -, -, -, r9, -⟩ := hR
    have e1 : vals 1 = _ := r1
    rw [e1]
    clear e1 r1
    generalize vals 9 = x9 at r9 ⊢
    obtain ⟨g2, nm, rfl, hg2, hnm⟩ := r9
    have HG2B := hid hg2
    have NM := hid hnm
    have OH5 := hid (OH4.out.ck hI4)
    have HG4 := hid ((hI4.below.block k HKL.out).trans HG3.out)
    have HB42 := hid ((hI4.below.block (w.heap.size + 1) (by have := HKL.out; have := HK.out; omega)).trans HB32.out)
    have HBW4 := hid (HBW3.out.trans (hI4.below.mono (by have := HKL.out; have := HK.out; omega)))
    have HKL4 := hid (heap_lt HG4.out)
    obtain ⟨css, hc1, hc2, hc3⟩ := OH5.out
    rw [List.length_map] at hc2
    have HC1 := hid hc1
    have HC2 := hid hc2
    have HC3 := hid hc3
    have HONE := hid (show ([.int .i64 8, nm, .slice none 0 0, .slice none 0 0, .slice none 0 0, .slice none 0 0, .bool false, .bool false, .slice none 0 0, .slice none 0 0, .slice none 0 0, .int .i64 0, .slice none 0 0, .slice none 0 0, .slice none 0 0, .int .u32 (body.length : Int), .slice none 0 0, .slice none 0 0, .slice none 0 0, .slice none 0 0, .int .i64 0] : List Value).all (·.oneCell') = true by simp only [List.all_cons, List.all_nil, (SBf.x (w0 := w0) hnm).one]; rfl)
    have HKB := hid (show (heads.length + 1) * 400 ≤ 140737488355328 by have := HL.out; omega)
    have HBS := hid (show wb.heap.size ≤ w4.heap.size by have := HKL4.out; have := HK.out; have := HSZ.out; omega)
    clear hg2 hnm hI4 hc1 hc2 hc3
    have d15 := row_at HG4.out 15 _ rfl
    have f15 := blk_frozen HG4.out 15
    go_simp
    go_upto_region 6 with (at_builtin; refine app_box wb.heap.size rfl (.tmp 29) (.tmp 37) 26 41 (.agg zeroH.toArray) 21 400 rfl Tryz.underlying26 head_info rfl (by decide) (by decide) (.slice A8 heads.length c8) heads.length css.flatten _ g2 41 (0, 0) rfl rfl HG2B.out rfl (List.all_eq_true.1 HONE.out) HC2.out HBS.out HKB.out ?_; intro v5 w5 ho5 hg5; have HG5 := hid ((hg5.block k HKL4.out (own_ne_block HC2.out HG4.out (by decide))).trans HG4.out); have d15 := row_at HG5.out 15 _ rfl; have f15 := blk_frozen HG5.out 15; have HO5 := hid ho5; have HGR := hid hg5; obtain ⟨A5, c5, rfl⟩ := own_slice ho5; clear ho5 hg5)
    have HST := hid (CG.done (tgt := [.bool false, .slice Am method.length cm, u0, u1, .bool u.star, .bool u.slashes, u4, u5, u6, .int .i64 u.port, u8, u9, .int .i64 0, .slice none 0 0, .slice Av version.length cv, .slice A5 (heads.length + 1) c5, .slice Ab body.length cb, .bool false, .bool false]) (l0 := _) (ty := 28) (CG.refl k _ _ w5) HG5.out [] (fun _ h => by simp at h) 15 (.slice A5 (heads.length + 1) c5 : Value) rfl rfl (fun j h1 h2 h3 => by
     rcases tab19 j h1 with rfl | rfl | rfl | rfl | rfl | rfl | rfl | rfl | rfl | rfl | rfl | rfl | rfl | rfl | rfl | rfl | rfl | rfl | rfl <;> first | rfl | exact absurd rfl h3 | exact absurd (by decide) h2 | exact absurd (by simp) h3))
    obtain ⟨W6, hW6⟩ : ∃ W6, W6 = w5.setCell ⟨k, 15, none⟩ (.slice A5 (heads.length + 1) c5 : Value) := ⟨_, rfl⟩
    rw [← hW6] at HST ⊢
    have HROW := hid HST.out.blk
    have HB52 := hid ((HGR.out.block (w.heap.size + 1) (by have := HKL4.out; have := HK.out; omega) (own_ne_block HC2.out HB42.out (by decide))).trans HB42.out)
    have HZ3 := hid ((HST.out.other (w.heap.size + 1) (by have := HK.out; omega)).trans HB52.out)
    have HBW5 := hid ((HBW4.out.grown HGR.out (by have := HBS.out; have := HSZ.out; omega) (fun q hq => Nat.le_trans (by have := HSZ.out; omega) (HC2.out.lt q hq).1)).trans (HST.out.below.mono (by have := HK.out; omega)))
    have HKU5 := hid (grown_ku HGR.out HC2.out (by decide))
    have OH6 := hid (show OHs w0 wb.heap.size w5 (.slice A5 (heads.length + 1) c5) ((heads.map plainH) ++ [lenH body.length]) from
     OHs.snoc (w := w4) (h := lenH body.length) HC1.out HC3.out ⟨nm, .slice none 0 0, .slice none 0 0, _, .slice none 0 0, .slice none 0 0, .slice none 0 0, .slice none 0 0, .slice none 0 0, rfl, .inr NM.out, .inl (SB.nil _), SB.nil _, LU.empty _, SK.nil _, SB.nil _, SB.nil _, SB.nil _, SB.nil _, (by show I64 8; unfold I64; omega), ⟨(by show (0 : Int) ≤ (body.length : Int); omega), (by show (body.length : Int) < 4294967296; have := HL.out; omega)⟩, (by show I64 0; unfold I64; omega)⟩ HKU5.out (by rw [List.length_map]; exact HO5.out))
    have OH7 := hid ((OH6.out.stored HST.out HG5.out (by decide) (by decide)).less (b2 := w.heap.size) (by have := HSZ.out; omega))
    have HONE3 := hid (show ([.bool false, .slice Am method.length cm, u0, u1, .bool u.star, .bool u.slashes, u4, u5, u6, .int .i64 u.port, u8, u9, .int .i64 0, .slice none 0 0, .slice Av version.length cv, .slice A5 (heads.length + 1) c5, .slice Ab body.length cb, .bool false, .bool false] : List Value).all (·.oneCell') = true by
     obtain ⟨o0, o1, o4, o5, o6, o8, o9⟩ := HO.out; simp only [List.all_cons, List.all_nil, o0, o1, o4, o5, o6, o8, o9]; rfl)
    clear hW6 d15 f15
    go_wp2_with (first
     | (refine wpList_load_blk (by rfl) 28 (.tmp 3) (by rfl) k 28 (0, 0) _ (by rfl) HROW.out _ Tryz.underlying28 rfl 19 msg_size rfl ?_)
     | (refine wpList_store_blk (by rfl) 28 (.tmp 2) (.tmp 40) (by rfl) (w.heap.size + 1) 28 _ _ (by rfl) (by rfl) (by rfl) HZ3.out 19 msg_size (by rfl) HONE3.out ?_; intro W4 hst4; have HST4 := hid hst4; clear hst4))
    exact ret_cell 2 28 ⟨(w.heap.size + 1), 0, none⟩ _ _ rfl rfl (row_cells HST4.out.blk) Tryz.underlying28 rfl 19 msg_size rfl rfl ⟨_, rfl, OH7.out.stored HST4.out HZ3.out (by decide) (by decide), HBW5.out.trans (HST4.out.below.mono (by omega))⟩
theorem list19 {l : List Value} (h : l.length = 19) : ∃ x0 x1 x2 x3 x4 x5 x6 x7 x8 x9 x10 x11 x12 x13 x14 x15 x16 x17 x18, l = [x0, x1, x2, x3, x4, x5, x6, x7, x8, x9, x10, x11, x12, x13, x14, x15, x16, x17, x18] := by
 match l, h with
 | [x0, x1, x2, x3, x4, x5, x6, x7, x8, x9, x10, x11, x12, x13, x14, x15, x16, x17, x18], _ => exact ⟨x0, x1, x2, x3, x4, x5, x6, x7, x8, x9, x10, x11, x12, x13, x14, x15, x16, x17, x18, rfl⟩
theorem flat_len (s : Nat) : ∀ (css : List (List Value)), (∀ c ∈ css, c.length = s) → css.flatten.length = css.length * s
 | [], _ => by simp
 | c :: r, h => by
  rw [List.flatten_cons, List.length_append, h c (by simp), flat_len s r (fun d hd => h d (by simp [hd])), List.length_cons, Nat.succ_mul]
  omega
theorem flat_set (s : Nat) : ∀ (css : List (List Value)) (i : Nat) (d : List Value), (∀ c ∈ css, c.length = s) → i < css.length → d.length = s → (css.set i d).flatten = css.flatten.take (i * s) ++ d ++ css.flatten.drop (i * s + s)
 | [], i, _, _, h, _ => absurd h (by simp)
 | c :: r, 0, d, hc, _, hd => by
  have h1 := hc c (by simp)
  rw [List.set_cons_zero, List.flatten_cons, List.flatten_cons, Nat.zero_mul, List.take_zero, List.nil_append, Nat.zero_add, List.drop_left' h1]
 | c :: r, i + 1, d, hc, hi, hd => by
  have h1 := hc c (by simp)
  rw [List.set_cons_succ, List.flatten_cons, List.flatten_cons, flat_set s r i d (fun e he => hc e (by simp [he])) (by simpa using hi) hd]
  have e0 : (i + 1) * s = c.length + i * s := by rw [h1, Nat.succ_mul]; omega
  have e1 : (c ++ r.flatten).take ((i + 1) * s) = c ++ r.flatten.take (i * s) := by
   rw [List.take_append, List.take_of_length_le (l := c) (by omega), e0, show c.length + i * s - c.length = i * s by omega]
  have e2 : (c ++ r.flatten).drop ((i + 1) * s + s) = r.flatten.drop (i * s + s) := by
   rw [List.drop_append, show c.drop ((i + 1) * s + s) = [] from List.drop_eq_nil_of_le (by omega), e0, show c.length + i * s + s - c.length = i * s + s by omega, List.nil_append]
  rw [e1, e2]
  simp [List.append_assoc]
theorem OHs.at_ {w0 w : World} {base : Nat} {v : Value} {hs : List LHead} (H : OHs w0 base w v hs) (i : Nat) (hi : i < hs.length) : ∃ b c cs pre suf post, v = .slice (some ⟨b, 0, none⟩) hs.length c ∧ base ≤ b ∧ w.heap[b]? = some (Obj.cells (pre ++ suf ++ post).toArray 41 (0, 0)) ∧ pre.length = i * 21 ∧ suf.length = 21 ∧ suf = cs ∧ LHx w0 w hs[i] cs ∧
  ∀ (w' : World) (h' : LHead) (cs' : List Value), Stored b 41 (pre ++ cs' ++ post) w w' → LHx w0 w' h' cs' → OHs w0 base w' v (hs.set i h') := by
 obtain ⟨css, h1, h2, h3⟩ := H
 have hall : ∀ c ∈ css, c.length = 21 := by
  intro c hc
  obtain ⟨j, hj, rfl⟩ := List.mem_iff_getElem.1 hc
  obtain ⟨cs, e1, e2⟩ := h3 j (by omega)
  rw [List.getElem?_eq_getElem hj] at e1
  injection e1 with e1
  rw [e1]
  exact e2.len
 have hfl := flat_len 21 css hall
 obtain ⟨cs, hcs, hx⟩ := h3 i hi
 rcases h2 with ⟨k1, ⟨k2, k3⟩ | ⟨b, cap, cur, k3, k4, k5, k6, k7, k8, k9⟩⟩
 ·omega
 ·obtain ⟨lc, rfl⟩ : ∃ lc : List Value, cur = lc.toArray := ⟨cur.toList, by simp⟩
  simp only [List.size_toArray] at k8
  have k9' : lc.take (hs.length * 21) = css.flatten := by simpa using k9
  have hll : hs.length * 21 ≤ lc.length := by rw [k8]; exact Nat.mul_le_mul_right _ k6
  have hin : i * 21 + 21 ≤ hs.length * 21 := by omega
  have hcl := hx.len
  have hget : (lc.drop (i * 21)).take 21 = cs := by
   apply List.ext_getElem?
   intro j
   by_cases hj : j < 21
   ·rw [List.getElem?_take_of_lt hj, List.getElem?_drop]
    have e1 : (css.flatten)[i * 21 + j]? = lc[i * 21 + j]? := by rw [← k9', List.getElem?_take_of_lt (by omega)]
    rw [← e1]
    have e2 : css.set i cs = css := by
     apply List.ext_getElem?
     intro q
     by_cases hq : q = i
     ·subst hq
      rw [List.getElem?_set_self (by omega), hcs]
     ·rw [List.getElem?_set_ne (Ne.symm hq)]
    have e3 := flat_set 21 css i cs hall (by omega) hcl
    rw [e2] at e3
    rw [e3, List.getElem?_append_left (by simp [hfl, hcl]; omega), List.getElem?_append_right (by simp [hfl]; omega)]
    congr 1
    simp [hfl]
    omega
   ·rw [List.getElem?_eq_none (by simp; omega), List.getElem?_eq_none (by omega)]
  refine ⟨b, cap, cs, lc.take (i * 21), (lc.drop (i * 21)).take 21, lc.drop (i * 21 + 21), k3, k4, ?_, by rw [List.length_take]; omega, by rw [hget, hcl], hget, hx, ?_⟩
  ·rw [k5, List.append_assoc, ← List.drop_drop, List.take_append_drop, List.take_append_drop]
  ·intro w' h' cs' hst hx'
   have hcl' := hx'.len
   refine ⟨css.set i cs', by simp [h1], ⟨?_, .inr ⟨b, cap, _, by rw [List.length_set]; exact k3, k4, hst.blk, by rw [List.length_set]; exact k6, k7, ?_, ?_⟩⟩, fun j hj => ?_⟩
   ·rw [List.length_set, flat_len 21 (css.set i cs') (fun c hc => by
     rcases List.mem_or_eq_of_mem_set hc with h | h
     ·exact hall c h
     ·rw [h, hcl'])]
    simp [h1]
   ·simp only [List.size_toArray, List.length_append, List.length_take, List.length_drop, hcl']
    omega
   ·rw [List.length_set, flat_set 21 css i cs' hall (by omega) hcl', ← k9']
    simp only [List.toList_toArray]
    apply List.ext_getElem?
    intro q
    have q1 : (lc.take (i * 21)).length = i * 21 := by rw [List.length_take]; omega
    by_cases hq : q < hs.length * 21
    ·rw [List.getElem?_take_of_lt hq]
     by_cases h4 : q < i * 21
     ·rw [List.append_assoc, List.append_assoc, List.getElem?_append_left (by omega), List.getElem?_append_left (by rw [List.length_take, List.length_take]; omega), List.getElem?_take_of_lt h4, List.getElem?_take_of_lt h4, List.getElem?_take_of_lt hq]
     ·by_cases h5 : q < i * 21 + 21
      ·rw [List.getElem?_append_left (by rw [List.length_append, q1, hcl']; omega), List.getElem?_append_right (by omega), List.getElem?_append_left (by rw [List.length_append, List.length_take, List.length_take, hcl']; omega), List.getElem?_append_right (by rw [List.length_take, List.length_take]; omega)]
       congr 1
       rw [List.length_take, List.length_take, List.length_take]
       omega
      ·rw [List.getElem?_append_right (by rw [List.length_append, q1, hcl']; omega), List.getElem?_append_right (by rw [List.length_append, List.length_take, List.length_take, hcl']; omega), List.getElem?_drop, List.getElem?_drop, List.length_append, List.length_append, q1, hcl', List.length_take, List.length_take]
       rw [List.getElem?_take_of_lt (by omega)]
       congr 1
       omega
    ·rw [List.getElem?_eq_none (by rw [List.length_take]; omega), List.getElem?_eq_none]
     simp only [List.length_append, List.length_take, List.length_drop, hcl']
     omega
   ·rw [List.length_set] at hj
    by_cases hji : j = i
    ·subst hji
     exact ⟨cs', by simp [h1, hi], by simpa using hx'⟩
    ·obtain ⟨c, e1, e2⟩ := h3 j hj
     refine ⟨c, by rw [List.getElem?_set_ne (Ne.symm hji)]; exact e1, ?_⟩
     rw [List.getElem_set_ne (Ne.symm hji)]
     exact e2.ku (hst.ku (N := 0) (Nat.zero_le _) (l0 := lc) k5 (by decide))
theorem SB.drewN {w : World} {v : Value} {l : Bytes} (h : SB w v l) (n : Nat) : SB (w.drewN n) v l := h
theorem SK.drewN {w : World} {v : Value} {l : BKVs} (h : SK w v l) (n : Nat) : SK (w.drewN n) v l := h
theorem below_drewN {B : Nat} {w w' : World} (h : Below B w w') (n : Nat) : Below B w (w'.drewN n) := ⟨h.os, h.tape, h.output, h.size, h.block⟩
def Quiet (b : Bool) (w : World) (e : Ending) (w' : World) : Prop := e = .returned (.bool b) ∧ ∃ n, w' = w.drewN n
theorem equal_q (v u : Value) (l m : Bytes) (w : World) (hS : SB w v l) (hT : SB w u m) : Calls Tryz.prog 9 #[v, u] w (Quiet (decide (l = m)) w) := by
 have HS := hid hS
 have HT := hid hT
 obtain ⟨A, c, rfl, hlen⟩ := hS.form
 obtain ⟨A2, c2, rfl, hlen2⟩ := hT.form
 clear hS hT
 by_cases hlm : l.length = m.length
 ·have HLM := hid hlm
  have hz : ((l.length : Int) == m.length) = true := by simp [hlm]
  rw [← hlm] at hlen2 ⊢
  clear hlm hlen2 hz
  go_enter Tryz.func9, Tryz.ntmps9
  go_wp2_with fail
  go_loopw [5] (fun i wr => ∃ k n : Nat, k ≤ l.length ∧ i = .int .i64 k ∧ l.take k = m.take k ∧ wr = w.drewN n) (fun i _ => l.length - (intOf i).toNat)
  case atStart => exact ⟨0, 0, Nat.zero_le _, rfl, by simp, rfl⟩
  case round =>
   obtain ⟨k, n, hk, rfl, hall, hb⟩ := hrel
   have HA := hid hall
   have HB := hid hb
   obtain ⟨wo, rfl⟩ : ∃ wo : World, wo = wr := ⟨_, rfl⟩
   clear hall hb
   by_cases hlt : k < l.length
   ·obtain ⟨a, c', e1, hc⟩ := HS.out.at_ k hlt
    cases e1
    have hlt2 : k < m.length := by rw [← HLM.out]; exact hlt
    obtain ⟨a2, c2', e2, hc2⟩ := HT.out.at_ k hlt2
    rw [← HLM.out] at e2
    cases e2
    have d1 : wo.cell? (a.add k) = some (.int .u8 l[k].toNat) := by rw [HB.out]; exact hc
    have d2 : wo.cell? (a2.add k) = some (.int .u8 m[k].toNat) := by rw [HB.out]; exact hc2
    have HLT := hid hlt
    have HLT2 := hid hlt2
    have hk1 : (k : Int) < l.length := by omega
    have hk2 : (0 : Int) ≤ k := by omega
    clear hc hc2
    by_cases hq : l[k] = m[k]
    ·have hq2 : ((l[k].toNat : Int) == m[k].toNat) = true := by simp [hq]
     have HQ := hid hq
     clear hq
     go_wp2_with fail
     go_still (by kernel_rfl)
     go_wp2
     go_roundw
     case rel => exact ⟨k + 1, n + 1, HLT.out, by simp, by rw [take_step l k HLT.out, take_step m k HLT2.out, HA.out]; exact congrArg (fun x => _ ++ [x]) HQ.out, by rw [HB.out]; rfl⟩
     case measure => exact meas_step HLT.out (by simp)
    ·have hq2 : ((l[k].toNat : Int) == m[k].toNat) = false := by
      rw [beq_eq_false_iff_ne]
      intro e
      exact hq (UInt8.toNat_inj.1 (by omega))
     have HQ := hid hq
     clear hq
     go_wp2_with fail
     go_still (by kernel_rfl)
     go_wp2
     go_ret
     refine ⟨ret_bool ?_, n + 1, by rw [HB.out]; rfl⟩
     symm
     rw [decide_eq_false_iff_not]
     intro e
     subst e
     exact HQ.out rfl
   ·have HLT := hid hlt
    go_wp2
    go_ret
    refine ⟨ret_bool ?_, n, HB.out⟩
    have := HA.out
    rw [List.take_of_length_le (by have := HLT.out; omega), List.take_of_length_le (by have := HLT.out; have := HLM.out; omega)] at this
    simp [this]
 ·have hz : ((l.length : Int) == m.length) = false := by simp; omega
  have HLM := hid hlm
  have hne : ¬ (l.length : Int) = m.length := by omega
  clear hlm
  go_enter Tryz.func9, Tryz.ntmps9
  go_wp2
  go_ret
  refine ⟨ret_bool ?_, 0, rfl⟩
  symm
  rw [decide_eq_false_iff_not]
  exact fun e => HLM.out (by rw [e])
theorem take_eq_step {α : Type} {l m : List α} {k : Nat} {p q : α} (hp : l[k]? = some p) (hq : m[k]? = some q) (h : l.take k = m.take k) (e : p = q) : l.take (k + 1) = m.take (k + 1) := by
 rw [List.take_add_one, List.take_add_one, hp, hq, h, e]
theorem samekvs_any (v u : Value) (l m : BKVs) (w : World) (hS : SK w v l) (hT : SK w u m) : Calls Tryz.prog 53 #[v, u] w (Quiet (decide (l = m)) w) := by
 have HS := hid hS
 have HT := hid hT
 obtain ⟨A, c, rfl, hlen⟩ := hS.form
 obtain ⟨A2, c2, rfl, hlen2⟩ := hT.form
 clear hS hT
 by_cases hlm : l.length = m.length
 ·have HLM := hid hlm
  rw [← hlm] at hlen2 ⊢
  clear hlm hlen2
  go_enter Tryz.func53, Tryz.ntmps53
  go_wp2_with fail
  go_loopw [5] (fun i wr => ∃ k n : Nat, k ≤ l.length ∧ i = .int .i64 k ∧ l.take k = m.take k ∧ wr = w.drewN n) (fun i _ => l.length - (intOf i).toNat)
  case atStart => exact ⟨0, 0, Nat.zero_le _, rfl, by simp, rfl⟩
  case round =>
   obtain ⟨k, n, hk, rfl, hall, hb⟩ := hrel
   have HA := hid hall
   have HB := hid hb
   obtain ⟨wo, rfl⟩ : ∃ wo : World, wo = wr := ⟨_, rfl⟩
   clear hall hb
   by_cases hlt : k < l.length
   ·obtain ⟨a, c', vk, vv, p, e1, hc0, hc1, hk1, hv1, hp⟩ := HS.out.at_ k hlt
    cases e1
    obtain ⟨a2, c2', vk2, vv2, q, e2, hd0, hd1, hk2, hv2, hq⟩ := HT.out.at_ k (by rw [← HLM.out]; exact hlt)
    rw [← HLM.out] at e2
    cases e2
    have HLT := hid (And.intro (Nat.succ_le_of_lt hlt) (And.intro hp hq))
    obtain ⟨Ak, ck, rfl, nk⟩ := hk1.form
    obtain ⟨Av, cv, rfl, nv⟩ := hv1.form
    obtain ⟨Bk, dk, rfl, nk2⟩ := hk2.form
    obtain ⟨Bv, dv, rfl, nv2⟩ := hv2.form
    have D := hid (And.intro (And.intro hk1 hv1) (And.intro hk2 hv2))
    have x0 : wo.cell? (a.add (k * 2)) = some (.slice Ak p.1.length ck) := by rw [HB.out]; exact hc0
    have x1 : wo.cell? ⟨(a.add (k * 2)).block, (a.add (k * 2)).off + 1, none⟩ = some (.slice Av p.2.length cv) := by rw [HB.out]; exact hc1
    have x2 : wo.cell? (a2.add (k * 2)) = some (.slice Bk q.1.length dk) := by rw [HB.out]; exact hd0
    have x3 : wo.cell? ⟨(a2.add (k * 2)).block, (a2.add (k * 2)).off + 1, none⟩ = some (.slice Bv q.2.length dv) := by rw [HB.out]; exact hd1
    have HE1 := hid (show ∀ n, Calls Tryz.prog 9 #[.slice Ak p.1.length ck, .slice Bk q.1.length dk] (wo.drewN n) (Quiet (decide (p.1 = q.1)) (wo.drewN n)) from fun n => equal_q _ _ p.1 q.1 _ (by rw [HB.out]; exact D.out.1.1) (by rw [HB.out]; exact D.out.2.1))
    have HE2 := hid (show ∀ n, Calls Tryz.prog 9 #[.slice Av p.2.length cv, .slice Bv q.2.length dv] (wo.drewN n) (Quiet (decide (p.2 = q.2)) (wo.drewN n)) from fun n => equal_q _ _ p.2 q.2 _ (by rw [HB.out]; exact D.out.1.2) (by rw [HB.out]; exact D.out.2.2))
    have b1 : (k : Int) < l.length := by omega
    have b2 : (0 : Int) ≤ k := by omega
    clear hc0 hc1 hd0 hd1 hk1 hv1 hk2 hv2 hp hq nk nv nk2 nv2
    by_cases h1 : p.1 = q.1
    ·rw [decide_eq_true h1] at HE1
     have H1 := hid h1
     clear h1
     by_cases h2 : p.2 = q.2
     ·rw [decide_eq_true h2] at HE2
      have H2 := hid h2
      clear h2
      go_wp2_with fail
      go_quiet (first | (go_at_call_of 9 (Value.slice Ak p.1.length ck); exact Calls.quiet_of (HE1.out _)) | (go_at_call_of 9 (Value.slice Av p.2.length cv); exact Calls.quiet_of (HE2.out _)))
      go_wp2
      go_roundw
      case rel => exact ⟨k + 1, n + nq, HLT.out.1, by simp, take_eq_step HLT.out.2.1 HLT.out.2.2 HA.out (Prod.ext H1.out H2.out), by rw [HB.out, World.drewN_drewN]⟩
      case measure => exact meas_step HLT.out.1 (by simp)
     ·rw [decide_eq_false h2] at HE2
      have H2 := hid h2
      clear h2
      go_wp2_with fail
      go_quiet (first | (go_at_call_of 9 (Value.slice Ak p.1.length ck); exact Calls.quiet_of (HE1.out _)) | (go_at_call_of 9 (Value.slice Av p.2.length cv); exact Calls.quiet_of (HE2.out _)))
      go_wp2
      go_ret
      refine ⟨ret_bool ?_, n + nq, by rw [HB.out, World.drewN_drewN]⟩
      symm
      rw [decide_eq_false_iff_not]
      intro e
      subst e
      exact H2.out (by rw [Option.some.inj (HLT.out.2.1.symm.trans HLT.out.2.2)])
    ·rw [decide_eq_false h1] at HE1
     have H1 := hid h1
     clear h1
     go_wp2_with fail
     go_quiet (first | (go_at_call_of 9 (Value.slice Ak p.1.length ck); exact Calls.quiet_of (HE1.out _)))
     go_wp2
     go_ret
     refine ⟨ret_bool ?_, n + nq, by rw [HB.out, World.drewN_drewN]⟩
     symm
     rw [decide_eq_false_iff_not]
     intro e
     subst e
     exact H1.out (by rw [Option.some.inj (HLT.out.2.1.symm.trans HLT.out.2.2)])
   ·have HLT := hid hlt
    go_wp2
    go_ret
    refine ⟨ret_bool ?_, n, HB.out⟩
    have := HA.out
    rw [List.take_of_length_le (by have := HLT.out; omega), List.take_of_length_le (by have := HLT.out; have := HLM.out; omega)] at this
    simp [this]
 ·have hne : ¬ (l.length : Int) = m.length := by omega
  have HLM := hid hlm
  clear hlm
  go_enter Tryz.func53, Tryz.ntmps53
  go_wp2
  go_ret
  refine ⟨ret_bool ?_, 0, rfl⟩
  symm
  rw [decide_eq_false_iff_not]
  exact fun e => HLM.out (by rw [e])
