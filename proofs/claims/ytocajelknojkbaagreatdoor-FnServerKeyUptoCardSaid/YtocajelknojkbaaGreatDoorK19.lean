import Derived.Test.YtocajelknojkbaaGreatDoorK18
import Derived.Test.YtocajelknojkbaaGreatDoorK12
set_option maxRecDepth 100000
set_option maxHeartbeats 16000000
set_option linter.all false
namespace Go.Proofs.YtocajelknojkbaaGreatDoor
open Go.Lib (hid)
open Go.RowKit
def toS (u : LUri) : SUri := ⟨⟨u.scheme.toArray⟩, ⟨#[]⟩, u.star, u.slashes, ⟨u.user.toArray⟩, ⟨u.pass.toArray⟩, ⟨u.host.toArray⟩, u.port, strKVs u.params, strKVs u.hdrs⟩
structure UBd (u : LUri) : Prop where
 scheme : u.scheme.length ≤ 536870000
 raw : u.raw.length ≤ 536870000
 params : u.params.length ≤ 1073741824
 hdrs : u.hdrs.length ≤ 1073741824
def APost (u : LUri) (w : World) (e : Ending) (w' : World) : Prop := ∃ v su, e = .returned v ∧ UVal w' v su ∧ (u.raw = [] → su = toS u) ∧ Below w.heap.size w w'
theorem suri_size : (Tryz.prog.info? 107).map (·.size) = some 10 := by kernel_rfl
theorem PRep.ck {N : Nat} {w w' : World} {v : Value} {l : KVs} (h : PRep w v l) (k : CK N w w') : PRep w' v l := by
 rcases h with h | ⟨g, cap, cs, h1, h2, h2', h3, h4⟩
 ·exact .inl h
 ·exact .inr ⟨g, cap, cs, h1, h2, h2', k.same h3 (by decide), h4⟩
theorem PRep.stored {w w' : World} {g : Nat} {ty : TypeId} {l0 l : List Value} {v : Value} {ps : KVs} (h : PRep w v ps) (k : Stored g ty l w w') (hg : w.heap[g]? = some (Obj.cells l0.toArray ty (0, 0))) (hne : ty ≠ 207) : PRep w' v ps := by
 rcases h with h | ⟨b, cap, cs, h1, h2, h2', h3, h4⟩
 ·exact .inl h
 ·refine .inr ⟨b, cap, cs, h1, h2, h2', ?_, h4⟩
  rw [k.other b]
  ·exact h3
  ·rintro rfl
   rw [hg] at h3
   injection h3 with h3
   injection h3 with _ h3 _
   exact hne h3
theorem PRep.form {w : World} {v : Value} {l : KVs} (h : PRep w v l) : ∃ A c, v = .slice A l.length c := by
 obtain ⟨A, c, e, _⟩ := h.slice
 exact ⟨A, c, e⟩
theorem UVal.one {w : World} {su : SUri} {vp vh : Value} (h1 : PRep w vp su.params) (h2 : PRep w vh su.hdrs) : (uriV su vp vh).all (·.oneCell') = true := by
 obtain ⟨A, c, rfl⟩ := h1.form
 obtain ⟨B, d, rfl⟩ := h2.form
 rfl
theorem address_0 (N : Nat) (u : LUri) (cs : List Value) (w : World) (hG : Gl N w) (hU : LU w u cs) (hB : UBd u) (hr : u.raw = []) : Calls Tryz.prog 75 #[.agg cs.toArray] w (APost u w) := by
 obtain ⟨a, b, c, d, e, p, h, rfl, k0, k1, k4, k5, k6, k8, k9, k7⟩ := hU
 have HK := hid (And.intro k0 (And.intro k1 (And.intro k4 (And.intro k5 (And.intro k6 (And.intro k8 k9))))))
 have HBD := hid hB
 have HG := hid hG
 obtain ⟨A0, c0, rfl, -⟩ := k0.form
 obtain ⟨A1, c1, rfl, n1⟩ := k1.form
 obtain ⟨A4, c4, rfl, -⟩ := k4.form
 obtain ⟨A5, c5, rfl, -⟩ := k5.form
 obtain ⟨A6, c6, rfl, -⟩ := k6.form
 obtain ⟨A8, c8, rfl, -⟩ := k8.form
 obtain ⟨A9, c9, rfl, -⟩ := k9.form
 clear k0 k1 k4 k5 k6 k7 k8 k9 hB hG
 obtain ⟨wb, hwb⟩ : ∃ wb, wb = (w.alloc (.cells #[.slice A0 u.scheme.length c0, .slice A1 u.raw.length c1, .bool u.star, .bool u.slashes, .slice A4 u.user.length c4, .slice A5 u.pass.length c5, .slice A6 u.host.length c6, .int .i64 u.port, .slice A8 u.params.length c8, .slice A9 u.hdrs.length c9] 25)).alloc (.cells #[.string ⟨#[]⟩, .string ⟨#[]⟩, .bool false, .bool false, .string ⟨#[]⟩, .string ⟨#[]⟩, .string ⟨#[]⟩, .int .i64 0, .slice none 0 0, .slice none 0 0] 107) := ⟨_, rfl⟩
 have HWB1 := hid (show wb.heap[w.heap.size]? = some (.cells ([.slice A0 u.scheme.length c0, .slice A1 u.raw.length c1, .bool u.star, .bool u.slashes, .slice A4 u.user.length c4, .slice A5 u.pass.length c5, .slice A6 u.host.length c6, .int .i64 u.port, .slice A8 u.params.length c8, .slice A9 u.hdrs.length c9] : List Value).toArray 25 (0, 0)) by rw [hwb]; exact ((Below.refl _ _).alloc (Nat.le_refl _) _).block w.heap.size (by simp) |>.trans (heap_alloc_new w _))
 have HWB2 := hid (show wb.heap[w.heap.size + 1]? = some (.cells ([.string ⟨#[]⟩, .string ⟨#[]⟩, .bool false, .bool false, .string ⟨#[]⟩, .string ⟨#[]⟩, .string ⟨#[]⟩, .int .i64 0, .slice none 0 0, .slice none 0 0] : List Value).toArray 107 (0, 0)) by rw [hwb]; have := heap_alloc_new (w.alloc (.cells #[.slice A0 u.scheme.length c0, .slice A1 u.raw.length c1, .bool u.star, .bool u.slashes, .slice A4 u.user.length c4, .slice A5 u.pass.length c5, .slice A6 u.host.length c6, .int .i64 u.port, .slice A8 u.params.length c8, .slice A9 u.hdrs.length c9] 25)) (.cells #[.string ⟨#[]⟩, .string ⟨#[]⟩, .bool false, .bool false, .string ⟨#[]⟩, .string ⟨#[]⟩, .string ⟨#[]⟩, .int .i64 0, .slice none 0 0, .slice none 0 0] 107); rwa [World.size_alloc] at this)
 have HB0 := hid (show Below w.heap.size w wb by rw [hwb]; exact ((Below.refl _ w).alloc (Nat.le_refl _) _).alloc (by simp) _)
 have HSZ := hid (show wb.heap.size = w.heap.size + 2 by rw [hwb]; simp)
 have hr0 : ¬ (0 : Int) < u.raw.length := by rw [hr]; simp
 have HR := hid hr
 clear hr n1
 go_enter Tryz.func75, Tryz.ntmps75
 go_upto_region 1 with fail
 rw [← hwb]
 generalize Value.agg #[.slice A0 u.scheme.length c0, .slice A1 u.raw.length c1, .bool u.star, .bool u.slashes, .slice A4 u.user.length c4, .slice A5 u.pass.length c5, .slice A6 u.host.length c6, .int .i64 u.port, .slice A8 u.params.length c8, .slice A9 u.hdrs.length c9] = arg0
 clear hwb
 have c1' := row_at HWB1.out 1 _ rfl
 go_wp2_with fail
 clear c1'
 refine wp_region_grow 25 (CK wb.heap.size) (IW wb)
  (fun i v w' => match i with
   | 0 => v = .pointer (some ⟨w.heap.size, 0, none⟩)
   | 1 => v = .slice A0 u.scheme.length c0
   | 2 => v = .string ⟨u.scheme.toArray⟩
   | 3 => v = .pointer (some ⟨w.heap.size, 2, none⟩)
   | 4 => v = .bool u.star
   | 5 => v = .pointer (some ⟨w.heap.size, 3, none⟩)
   | 6 => v = .bool u.slashes
   | 7 => v = .pointer (some ⟨w.heap.size, 4, none⟩)
   | 8 => v = .slice A4 u.user.length c4
   | 9 => v = .string ⟨u.user.toArray⟩
   | 10 => v = .pointer (some ⟨w.heap.size, 5, none⟩)
   | 11 => v = .slice A5 u.pass.length c5
   | 12 => v = .string ⟨u.pass.toArray⟩
   | 13 => v = .pointer (some ⟨w.heap.size, 6, none⟩)
   | 14 => v = .slice A6 u.host.length c6
   | 15 => v = .string ⟨u.host.toArray⟩
   | 16 => v = .pointer (some ⟨w.heap.size, 7, none⟩)
   | 17 => v = .int .i64 u.port
   | 18 => v = .pointer (some ⟨w.heap.size, 8, none⟩)
   | 19 => v = .slice A8 u.params.length c8
   | 20 => PRep w' v (strKVs u.params)
   | 21 => v = .pointer (some ⟨w.heap.size, 9, none⟩)
   | 22 => v = .slice A9 u.hdrs.length c9
   | 23 => PRep w' v (strKVs u.hdrs)
   | 24 => ∃ vp vh, v = .agg (uriV (toS u) vp vh).toArray ∧ PRep w' vp (strKVs u.params) ∧ PRep w' vh (strKVs u.hdrs)
   | _ => True)
  [[], [0], [1], [], [3], [], [5], [], [7], [8], [], [10], [11], [], [13], [14], [], [16], [], [18], [19], [], [21], [22], [2, 4, 6, 9, 12, 15, 17, 20, 23]] rfl (by kernel_rfl) (by kernel_rfl) (fun _ _ => IW.step) ?_ ?_ ?_ ?_
 ·intro j hj v w'
  match j, hj with
  | j + 25, _ => trivial
 ·exact CK.of_below (Below.refl _ _).drew (Nat.le_refl _)
 ·simp only [List.take_succ_cons, List.take_zero, fillAll]
  have c0 := row_at HWB1.out 0 _ rfl
  have c2 := row_at HWB1.out 2 _ rfl
  have c3 := row_at HWB1.out 3 _ rfl
  have c4 := row_at HWB1.out 4 _ rfl
  have c5 := row_at HWB1.out 5 _ rfl
  have c6 := row_at HWB1.out 6 _ rfl
  have c7 := row_at HWB1.out 7 _ rfl
  have c8 := row_at HWB1.out 8 _ rfl
  have c9 := row_at HWB1.out 9 _ rfl
  refine ⟨⟨?_, ?_⟩, ⟨?_, ?_⟩, ⟨?_, ?_⟩, ⟨?_, ?_⟩, ⟨?_, ?_⟩, ⟨?_, ?_⟩, ⟨?_, ?_⟩, ⟨?_, ?_⟩, ⟨?_, ?_⟩, ⟨?_, ?_⟩, ⟨?_, ?_⟩, ⟨?_, ?_⟩, ⟨?_, ?_⟩, ⟨?_, ?_⟩, ⟨?_, ?_⟩, ⟨?_, ?_⟩, ⟨?_, ?_⟩, ⟨?_, ?_⟩, ⟨?_, ?_⟩, ⟨?_, ?_⟩, ⟨?_, ?_⟩, ⟨?_, ?_⟩, ⟨?_, ?_⟩, ⟨?_, ?_⟩, ⟨?_, ?_⟩, trivial⟩
  ·exact fun v w1 w2 h k => h
  ·intro vals w1 hI hd
   unfold GStep
   go_wp2
   exact CK.refl _ _
  ·exact fun v w1 w2 h k => h
  ·intro vals w1 hI hd
   have h1 : vals 0 = _ := hd.1
   have dc0 := hI.cell c0
   unfold GStep
   go_wp2
   exact CK.refl _ _
  ·exact fun v w1 w2 h k => h
  ·intro vals w1 hI hd
   have h1 : vals 1 = _ := hd.1
   have hcv := ((HK.out.1.below HB0.out).ck hI).conv 9 Tryz.underlying9
   unfold GStep
   go_wp2
   exact CK.refl _ _
  ·exact fun v w1 w2 h k => h
  ·intro vals w1 hI hd
   unfold GStep
   go_wp2
   exact CK.refl _ _
  ·exact fun v w1 w2 h k => h
  ·intro vals w1 hI hd
   have h1 : vals 3 = _ := hd.1
   have dc2 := hI.cell c2
   unfold GStep
   go_wp2
   exact CK.refl _ _
  ·exact fun v w1 w2 h k => h
  ·intro vals w1 hI hd
   unfold GStep
   go_wp2
   exact CK.refl _ _
  ·exact fun v w1 w2 h k => h
  ·intro vals w1 hI hd
   have h1 : vals 5 = _ := hd.1
   have dc3 := hI.cell c3
   unfold GStep
   go_wp2
   exact CK.refl _ _
  ·exact fun v w1 w2 h k => h
  ·intro vals w1 hI hd
   unfold GStep
   go_wp2
   exact CK.refl _ _
  ·exact fun v w1 w2 h k => h
  ·intro vals w1 hI hd
   have h1 : vals 7 = _ := hd.1
   have dc4 := hI.cell c4
   unfold GStep
   go_wp2
   exact CK.refl _ _
  ·exact fun v w1 w2 h k => h
  ·intro vals w1 hI hd
   have h1 : vals 8 = _ := hd.1
   have hcv := ((HK.out.2.2.1.below HB0.out).ck hI).conv 9 Tryz.underlying9
   unfold GStep
   go_wp2
   exact CK.refl _ _
  ·exact fun v w1 w2 h k => h
  ·intro vals w1 hI hd
   unfold GStep
   go_wp2
   exact CK.refl _ _
  ·exact fun v w1 w2 h k => h
  ·intro vals w1 hI hd
   have h1 : vals 10 = _ := hd.1
   have dc5 := hI.cell c5
   unfold GStep
   go_wp2
   exact CK.refl _ _
  ·exact fun v w1 w2 h k => h
  ·intro vals w1 hI hd
   have h1 : vals 11 = _ := hd.1
   have hcv := ((HK.out.2.2.2.1.below HB0.out).ck hI).conv 9 Tryz.underlying9
   unfold GStep
   go_wp2
   exact CK.refl _ _
  ·exact fun v w1 w2 h k => h
  ·intro vals w1 hI hd
   unfold GStep
   go_wp2
   exact CK.refl _ _
  ·exact fun v w1 w2 h k => h
  ·intro vals w1 hI hd
   have h1 : vals 13 = _ := hd.1
   have dc6 := hI.cell c6
   unfold GStep
   go_wp2
   exact CK.refl _ _
  ·exact fun v w1 w2 h k => h
  ·intro vals w1 hI hd
   have h1 : vals 14 = _ := hd.1
   have hcv := ((HK.out.2.2.2.2.1.below HB0.out).ck hI).conv 9 Tryz.underlying9
   unfold GStep
   go_wp2
   exact CK.refl _ _
  ·exact fun v w1 w2 h k => h
  ·intro vals w1 hI hd
   unfold GStep
   go_wp2
   exact CK.refl _ _
  ·exact fun v w1 w2 h k => h
  ·intro vals w1 hI hd
   have h1 : vals 16 = _ := hd.1
   have dc7 := hI.cell c7
   unfold GStep
   go_wp2
   exact CK.refl _ _
  ·exact fun v w1 w2 h k => h
  ·intro vals w1 hI hd
   unfold GStep
   go_wp2
   exact CK.refl _ _
  ·exact fun v w1 w2 h k => h
  ·intro vals w1 hI hd
   have h1 : vals 18 = _ := hd.1
   have dc8 := hI.cell c8
   unfold GStep
   go_wp2
   exact CK.refl _ _
  ·exact fun v w1 w2 h k => h.ck k
  ·intro vals w1 hI hd
   have h1 : vals 19 = _ := hd.1
   have HP := hid (params_any _ u.params w1 ((HK.out.2.2.2.2.2.1.below HB0.out).ck hI) HBD.out.params)
   unfold GStep
   go_wp2_with (go_at_call 98; refine HP.out.mono ?_; rintro e w2 ⟨v2, rfl, hp, hb⟩)
   have hk := CK.of_below hb hI.size
   first | exact hk | exact ⟨hk, hp⟩
  ·exact fun v w1 w2 h k => h
  ·intro vals w1 hI hd
   unfold GStep
   go_wp2
   exact CK.refl _ _
  ·exact fun v w1 w2 h k => h
  ·intro vals w1 hI hd
   have h1 : vals 21 = _ := hd.1
   have dc9 := hI.cell c9
   unfold GStep
   go_wp2
   exact CK.refl _ _
  ·exact fun v w1 w2 h k => h.ck k
  ·intro vals w1 hI hd
   have h1 : vals 22 = _ := hd.1
   have HP := hid (params_any _ u.hdrs w1 ((HK.out.2.2.2.2.2.2.below HB0.out).ck hI) HBD.out.hdrs)
   unfold GStep
   go_wp2_with (go_at_call 98; refine HP.out.mono ?_; rintro e w2 ⟨v2, rfl, hp, hb⟩)
   have hk := CK.of_below hb hI.size
   first | exact hk | exact ⟨hk, hp⟩
  ·rintro v w1 w2 ⟨vp, vh, h1, h2, h3⟩ k
   exact ⟨vp, vh, h1, h2.ck k, h3.ck k⟩
  ·intro vals w1 hI hd
   have h2 : vals 2 = _ := hd.1
   have h4 : vals 4 = _ := hd.2.1
   have h6 : vals 6 = _ := hd.2.2.1
   have h9 : vals 9 = _ := hd.2.2.2.1
   have h12 : vals 12 = _ := hd.2.2.2.2.1
   have h15 : vals 15 = _ := hd.2.2.2.2.2.1
   have h17 : vals 17 = _ := hd.2.2.2.2.2.2.1
   have h20 : PRep w1 (vals 20) _ := hd.2.2.2.2.2.2.2.1
   have h23 : PRep w1 (vals 23) _ := hd.2.2.2.2.2.2.2.2.1
   clear hd
   unfold GStep
   dsimp only
   rw [h2, h4, h6, h9, h12, h15, h17]
   clear h2 h4 h6 h9 h12 h15 h17
   generalize vals 20 = x20 at h20 ⊢
   generalize vals 23 = x23 at h23 ⊢
   have H20 := hid h20
   have H23 := hid h23
   obtain ⟨A20, c20, rfl⟩ := h20.form
   obtain ⟨A23, c23, rfl⟩ := h23.form
   clear h20 h23
   unfold uriV toS
   go_wp2
   first | exact ⟨CK.refl _ _, _, _, rfl, H20.out, H23.out⟩ | exact ⟨CK.refl _ _, _, _, ⟨rfl, rfl⟩, H20.out, H23.out⟩ | exact ⟨CK.refl _ _, H20.out, H23.out⟩
 ·intro vals w1 hI hR
  simp only [List.drop_succ_cons, List.drop_zero, List.take_succ_cons, List.take_zero, fillAll]
  obtain ⟨-, -, -, -, -, -, -, -, -, -, -, -, -, -, -, -, -, -, -, -, -, -, -, -, r24, -⟩ := hR
  generalize vals 24 = x24 at r24 ⊢
  obtain ⟨vp, vh, rfl, hvp, hvh⟩ := r24
  have HVP := hid hvp
  have HVH := hid hvh
  have HB2 := hid ((hI.below.block (w.heap.size + 1) (by have := HSZ.out; omega)).trans HWB2.out)
  have HBW := hid (HB0.out.trans (hI.below.mono (by have := HSZ.out; omega)))
  have HONE := hid (UVal.one (su := toS u) hvp hvh)
  clear hvp hvh hI
  go_simp
  go_wp2_with (refine wpList_store_blk (by rfl) 107 (.tmp 2) (.tmp 42) (by rfl) (w.heap.size + 1) 107 [.string ⟨#[]⟩, .string ⟨#[]⟩, .bool false, .bool false, .string ⟨#[]⟩, .string ⟨#[]⟩, .string ⟨#[]⟩, .int .i64 0, .slice none 0 0, .slice none 0 0] (uriV (toS u) vp vh) (by rfl) (by rfl) rfl HB2.out 10 suri_size rfl HONE.out ?_; intro W4 hst4; have HST4 := hid hst4; clear hst4)
  exact ret_cell 2 107 ⟨(w.heap.size + 1), 0, none⟩ (uriV (toS u) vp vh) _ rfl rfl (row_cells HST4.out.blk) Tryz.underlying107 rfl 10 suri_size rfl rfl ⟨_, toS u, rfl, ⟨vp, vh, rfl, HVP.out.stored HST4.out HB2.out (by decide), HVH.out.stored HST4.out HB2.out (by decide)⟩, fun _ => rfl, HBW.out.trans (HST4.out.below.mono (by omega))⟩
theorem address_x (N : Nat) (u : LUri) (cs : List Value) (w : World) (hG : Gl N w) (hU : LU w u cs) (hB : UBd u) (hr : u.raw ≠ []) : Calls Tryz.prog 75 #[.agg cs.toArray] w (APost u w) := by
 obtain ⟨a, b, c, d, e, p, h, rfl, k0, k1, k4, k5, k6, k8, k9, k7⟩ := hU
 have HK := hid (And.intro k0 (And.intro k1 (And.intro k4 (And.intro k5 (And.intro k6 (And.intro k8 k9))))))
 have HBD := hid hB
 have HG := hid hG
 obtain ⟨A0, c0, rfl, -⟩ := k0.form
 obtain ⟨A1, c1, rfl, n1⟩ := k1.form
 obtain ⟨A4, c4, rfl, -⟩ := k4.form
 obtain ⟨A5, c5, rfl, -⟩ := k5.form
 obtain ⟨A6, c6, rfl, -⟩ := k6.form
 obtain ⟨A8, c8, rfl, -⟩ := k8.form
 obtain ⟨A9, c9, rfl, -⟩ := k9.form
 clear k0 k1 k4 k5 k6 k7 k8 k9 hB hG
 obtain ⟨wb, hwb⟩ : ∃ wb, wb = (w.alloc (.cells #[.slice A0 u.scheme.length c0, .slice A1 u.raw.length c1, .bool u.star, .bool u.slashes, .slice A4 u.user.length c4, .slice A5 u.pass.length c5, .slice A6 u.host.length c6, .int .i64 u.port, .slice A8 u.params.length c8, .slice A9 u.hdrs.length c9] 25)).alloc (.cells #[.string ⟨#[]⟩, .string ⟨#[]⟩, .bool false, .bool false, .string ⟨#[]⟩, .string ⟨#[]⟩, .string ⟨#[]⟩, .int .i64 0, .slice none 0 0, .slice none 0 0] 107) := ⟨_, rfl⟩
 have HWB1 := hid (show wb.heap[w.heap.size]? = some (.cells ([.slice A0 u.scheme.length c0, .slice A1 u.raw.length c1, .bool u.star, .bool u.slashes, .slice A4 u.user.length c4, .slice A5 u.pass.length c5, .slice A6 u.host.length c6, .int .i64 u.port, .slice A8 u.params.length c8, .slice A9 u.hdrs.length c9] : List Value).toArray 25 (0, 0)) by rw [hwb]; exact ((Below.refl _ _).alloc (Nat.le_refl _) _).block w.heap.size (by simp) |>.trans (heap_alloc_new w _))
 have HWB2 := hid (show wb.heap[w.heap.size + 1]? = some (.cells ([.string ⟨#[]⟩, .string ⟨#[]⟩, .bool false, .bool false, .string ⟨#[]⟩, .string ⟨#[]⟩, .string ⟨#[]⟩, .int .i64 0, .slice none 0 0, .slice none 0 0] : List Value).toArray 107 (0, 0)) by rw [hwb]; have := heap_alloc_new (w.alloc (.cells #[.slice A0 u.scheme.length c0, .slice A1 u.raw.length c1, .bool u.star, .bool u.slashes, .slice A4 u.user.length c4, .slice A5 u.pass.length c5, .slice A6 u.host.length c6, .int .i64 u.port, .slice A8 u.params.length c8, .slice A9 u.hdrs.length c9] 25)) (.cells #[.string ⟨#[]⟩, .string ⟨#[]⟩, .bool false, .bool false, .string ⟨#[]⟩, .string ⟨#[]⟩, .string ⟨#[]⟩, .int .i64 0, .slice none 0 0, .slice none 0 0] 107); rwa [World.size_alloc] at this)
 have HB0 := hid (show Below w.heap.size w wb by rw [hwb]; exact ((Below.refl _ w).alloc (Nat.le_refl _) _).alloc (by simp) _)
 have HSZ := hid (show wb.heap.size = w.heap.size + 2 by rw [hwb]; simp)
 have hr0 : (0 : Int) < u.raw.length := by have := List.length_pos_iff.2 hr; omega
 have HR := hid hr
 have cv1 := fun (x : World) (hx : Below wb.heap.size wb x) => (HK.out.1.below (HB0.out.trans (hx.mono (by have := HSZ.out; omega)))).conv 9 Tryz.underlying9
 have cv2 := fun (x : World) (hx : Below wb.heap.size wb x) => (HK.out.2.1.below (HB0.out.trans (hx.mono (by have := HSZ.out; omega)))).conv 9 Tryz.underlying9
 clear hr n1
 go_enter Tryz.func75, Tryz.ntmps75
 go_upto_region 1 with fail
 rw [← hwb]
 generalize Value.agg #[.slice A0 u.scheme.length c0, .slice A1 u.raw.length c1, .bool u.star, .bool u.slashes, .slice A4 u.user.length c4, .slice A5 u.pass.length c5, .slice A6 u.host.length c6, .int .i64 u.port, .slice A8 u.params.length c8, .slice A9 u.hdrs.length c9] = arg0
 clear hwb
 have c1' := row_at HWB1.out 1 _ rfl
 go_upto_region 2 with fail
 obtain ⟨wc, hwc⟩ : ∃ wc, wc = wb.alloc (.cells #[.string ⟨#[]⟩, .string ⟨#[]⟩, .bool false, .bool false, .string ⟨#[]⟩, .string ⟨#[]⟩, .string ⟨#[]⟩, .int .i64 0, .slice none 0 0, .slice none 0 0] 107) := ⟨_, rfl⟩
 have HA := hid (show Below wb.heap.size wb wc by rw [hwc]; exact (Below.refl _ _).alloc (Nat.le_refl _) _)
 have q1 := cv1 wc HA.out
 have q2 := cv2 wc HA.out
 have HUR := hid (show URepO wb.heap.size wc wb.heap.size zeroU from ⟨.slice none 0 0, .slice none 0 0, Nat.le_refl _, by rw [hwc]; exact heap_alloc_new wb _, World.ownsRow_nil _ _ _ _, World.ownsRow_nil _ _ _ _, fun k hk => by simp [Value.ownBlock] at hk⟩)
 have HWC1 := hid ((HA.out.block w.heap.size (by have := HSZ.out; omega)).trans HWB1.out)
 have HWC2 := hid ((HA.out.block (w.heap.size + 1) (by have := HSZ.out; omega)).trans HWB2.out)
 have HGC := hid (show Gl N wc from (HG.out.step HB0.out).step HA.out)
 have HNB := hid (show N ≤ wb.heap.size from (HG.out.step HB0.out).le)
 have d0 := row_at HWC1.out 0 _ rfl
 have d1 := row_at HWC1.out 1 _ rfl
 have HPA := hid (show ∀ s : ByteArray, s.size ≤ 1073741000 → Calls Tryz.prog 72 #[.string s, .pointer (some ⟨wb.heap.size, 0, none⟩)] wc (ParsePost wb.heap.size wb.heap.size zeroU s wc) from fun s hs => parse_any N wb.heap.size wb.heap.size zeroU s wc HGC.out HNB.out HUR.out hs)
 have HSS := hid (show (⟨u.scheme.toArray⟩ : ByteArray).size ≤ 536870000 ∧ (⟨u.raw.toArray⟩ : ByteArray).size ≤ 536870000 from ⟨by rw [sz]; exact HBD.out.scheme, by rw [sz]; exact HBD.out.raw⟩)
 clear cv1 cv2 c1'
 go_upto_region 3 with fail
 rw [← hwc]
 clear hwc
 have b1 := HBD.out.scheme
 have b2 := HBD.out.raw
 go_upto_region 4 with (go_at_call 72; refine (HPA.out _ ?_).mono ?_; (have h1 := HSS.out.1; have h2 := HSS.out.2; simp only [ByteArray.size_append]; first | omega | (have h3 : (⟨#[58]⟩ : ByteArray).size = 1 := rfl; omega)); rintro e w2 ⟨ev, su, rfl, hu, hb, -, -⟩)
 have HU2 := hid hu
 have HB2 := hid hb
 have HZ2 := hid ((hb.block (w.heap.size + 1) (by have := HSZ.out; omega)).trans HWC2.out)
 obtain ⟨vp, vh, e1, e2, e3, e4, -⟩ := hu
 have HBK := hid e2
 have HP3 := hid (PRep.of_own e3)
 have HP4 := hid (PRep.of_own e4)
 have HONE := hid (UVal.one (su := su) (PRep.of_own e3) (PRep.of_own e4))
 clear hb e1 e2 e3 e4 d0 d1 q1 q2 b1 b2
 go_wp2_with (first
  | (refine wpList_load_blk (by rfl) 107 (.tmp 3) (by rfl) wb.heap.size 107 (0, 0) (uriV su vp vh) (by rfl) HBK.out _ Tryz.underlying107 rfl 10 suri_size rfl ?_)
  | (refine wpList_store_blk (by rfl) 107 (.tmp 2) (.tmp 17) (by rfl) (w.heap.size + 1) 107 [.string ⟨#[]⟩, .string ⟨#[]⟩, .bool false, .bool false, .string ⟨#[]⟩, .string ⟨#[]⟩, .string ⟨#[]⟩, .int .i64 0, .slice none 0 0, .slice none 0 0] (uriV su vp vh) (by rfl) (by rfl) rfl HZ2.out 10 suri_size rfl HONE.out ?_; intro W4 hst4; have HST4 := hid hst4; clear hst4))
 exact ret_cell 2 107 ⟨(w.heap.size + 1), 0, none⟩ (uriV su vp vh) _ rfl rfl (row_cells HST4.out.blk) Tryz.underlying107 rfl 10 suri_size rfl rfl ⟨_, su, rfl, ⟨vp, vh, rfl, HP3.out.stored HST4.out HZ2.out (by decide), HP4.out.stored HST4.out HZ2.out (by decide)⟩, fun h => absurd h HR.out, ((HB0.out.trans (HA.out.mono (by have := HSZ.out; omega))).trans (HB2.out.mono (by have := HSZ.out; omega))).trans (HST4.out.below.mono (by omega))⟩
theorem address_any (N : Nat) (u : LUri) (cs : List Value) (w : World) (hG : Gl N w) (hU : LU w u cs) (hB : UBd u) : Calls Tryz.prog 75 #[.agg cs.toArray] w (APost u w) := by
 by_cases h : u.raw = []
 ·exact address_0 N u cs w hG hU hB h
 ·exact address_x N u cs w hG hU hB h
structure HBd2 (h : LHead) : Prop where
 uri : UBd h.uri
 params : h.params.length ≤ 1073741824
def NewH (sh : SH) (w : World) (e : Ending) (w' : World) : Prop := ∃ g, e = .returned (sh.v g) ∧ sh.rep w' g ∧ w.heap.size ≤ g ∧ g < w'.heap.size ∧ Below w.heap.size w w'
def bs (l : Bytes) : ByteArray := ⟨l.toArray⟩
theorem UVal.parts {w : World} {v : Value} {su : SUri} (h : UVal w v su) : ∃ vp vh, v = .agg (uriV su vp vh).toArray ∧ PRep w vp su.params ∧ PRep w vh su.hdrs := h
theorem impmade_1 (N : Nat) (name text display : Bytes) (u : LUri) (params : BKVs) (num : Int) (proto version transport host : Bytes) (port : Int) (cs : List Value) (w : World) (hG : Gl N w) (hB : HBd2 ⟨1, name, text, display, u, params, num, proto, version, transport, host, port⟩) (hH : LH w ⟨1, name, text, display, u, params, num, proto, version, transport, host, port⟩ cs) (hr : u.raw = []) : Calls Tryz.prog 96 #[.agg cs.toArray] w (NewH (.to_ (bs display) (toS u) (strKVs params)) w) := by
 obtain ⟨a, b, c, ul0, p, d, e, f, g, rfl, ha, hb, hc, hu, hp, hd, he, hf, hg, ht64, hnum, hport⟩ := hH
 have HLU := hid hu
 obtain ⟨u0, u1, u4, u5, u6, u8, u9, rfl, q0, q1, q4, q5, q6, q8, q9, q7⟩ := hu
 dsimp only at *
 simp only [List.cons_append, List.nil_append]
 have HX := hid (And.intro ha (And.intro hb (And.intro hc (And.intro hp (And.intro hd (And.intro he (And.intro hf hg)))))))
 have HG := hid hG
 have HBD := hid hB
 obtain ⟨Aa, ca, rfl, -⟩ := ha.form
 obtain ⟨Ab, cb, rfl, -⟩ := hb.form
 obtain ⟨Ac, cc, rfl, -⟩ := hc.form
 obtain ⟨Ap, cp, rfl, -⟩ := hp.form
 obtain ⟨Ad, cd, rfl, -⟩ := hd.form
 obtain ⟨Ae, ce, rfl, -⟩ := he.form
 obtain ⟨Af, cf, rfl, -⟩ := hf.form
 obtain ⟨Ag, cg, rfl, -⟩ := hg.form
 have HR := hid hr
 clear hr
 clear ha hb hc hp hd he hf hg ht64 hnum hport q0 q1 q4 q5 q6 q7 q8 q9 hG hB
 obtain ⟨wb, hwb⟩ : ∃ wb, wb = w.alloc (.cells #[.int .i64 1, .slice Aa name.length ca, .slice Ab text.length cb, .slice Ac display.length cc, u0, u1, .bool u.star, .bool u.slashes, u4, u5, u6, .int .i64 u.port, u8, u9, .slice Ap params.length cp, .int .u32 num, .slice Ad proto.length cd, .slice Ae version.length ce, .slice Af transport.length cf, .slice Ag host.length cg, .int .i64 port] 35) := ⟨_, rfl⟩
 have HWB1 := hid (show wb.heap[w.heap.size]? = some (.cells ([.int .i64 1, .slice Aa name.length ca, .slice Ab text.length cb, .slice Ac display.length cc, u0, u1, .bool u.star, .bool u.slashes, u4, u5, u6, .int .i64 u.port, u8, u9, .slice Ap params.length cp, .int .u32 num, .slice Ad proto.length cd, .slice Ae version.length ce, .slice Af transport.length cf, .slice Ag host.length cg, .int .i64 port] : List Value).toArray 35 (0, 0)) by rw [hwb]; exact heap_alloc_new w _)
 have HB0 := hid (show Below w.heap.size w wb by rw [hwb]; exact (Below.refl _ w).alloc (Nat.le_refl _) _)
 have HSZ := hid (show wb.heap.size = w.heap.size + 1 by rw [hwb]; simp)
 go_enter Tryz.func96, Tryz.ntmps96
 go_wp2_with fail
 rw [← hwb]
 generalize Value.agg #[.int .i64 1, .slice Aa name.length ca, .slice Ab text.length cb, .slice Ac display.length cc, u0, u1, .bool u.star, .bool u.slashes, u4, u5, u6, .int .i64 u.port, u8, u9, .slice Ap params.length cp, .int .u32 num, .slice Ad proto.length cd, .slice Ae version.length ce, .slice Af transport.length cf, .slice Ag host.length cg, .int .i64 port] = arg0
 clear hwb
 refine wp_region_grow 10 (CK wb.heap.size) (IW wb)
  (fun i v w' => match i with
   | 0 => v = .pointer (some ⟨w.heap.size, 3, none⟩)
   | 1 => v = .slice Ac display.length cc
   | 2 => v = .string (bs display)
   | 3 => v = .pointer (some ⟨w.heap.size, 4, none⟩)
   | 4 => v = .agg #[u0, u1, .bool u.star, .bool u.slashes, u4, u5, u6, .int .i64 u.port, u8, u9]
   | 5 => ∃ su, UVal w' v su ∧ (u.raw = [] → su = toS u)
   | 6 => v = .pointer (some ⟨w.heap.size, 14, none⟩)
   | 7 => v = .slice Ap params.length cp
   | 8 => PRep w' v (strKVs params)
   | 9 => ∃ k, wb.heap.size ≤ k ∧ v = .pointer (some ⟨k, 0, none⟩) ∧ w'.heap[k]? = some (.cells ([.string ⟨#[]⟩, .string ⟨#[]⟩, .bool false, .bool false, .string ⟨#[]⟩, .string ⟨#[]⟩, .string ⟨#[]⟩, .int .i64 0, .slice none 0 0, .slice none 0 0] : List Value).toArray 107 (0, 0))
   | _ => True)
  [[], [0], [1], [], [3], [4], [], [6], [7], []] rfl (by kernel_rfl) (by kernel_rfl) (fun _ _ => IW.step) ?_ ?_ ?_ ?_
 ·intro j hj v w'
  match j, hj with
  | j + 10, _ => trivial
 ·exact CK.of_below (Below.refl _ _).drew (Nat.le_refl _)
 ·simp only [List.take_succ_cons, List.take_zero, fillAll]
  have c3 := row_at HWB1.out 3 _ rfl
  have c4 := row_at HWB1.out 4 _ rfl
  have c5 := row_at HWB1.out 5 _ rfl
  have c6 := row_at HWB1.out 6 _ rfl
  have c7 := row_at HWB1.out 7 _ rfl
  have c8 := row_at HWB1.out 8 _ rfl
  have c9 := row_at HWB1.out 9 _ rfl
  have c10 := row_at HWB1.out 10 _ rfl
  have c11 := row_at HWB1.out 11 _ rfl
  have c12 := row_at HWB1.out 12 _ rfl
  have c13 := row_at HWB1.out 13 _ rfl
  have c14 := row_at HWB1.out 14 _ rfl
  refine ⟨⟨?_, ?_⟩, ⟨?_, ?_⟩, ⟨?_, ?_⟩, ⟨?_, ?_⟩, ⟨?_, ?_⟩, ⟨?_, ?_⟩, ⟨?_, ?_⟩, ⟨?_, ?_⟩, ⟨?_, ?_⟩, ⟨?_, ?_⟩, trivial⟩
  ·exact fun v w1 w2 h k => h
  ·intro vals w1 hI hd
   unfold GStep
   go_wp2
   exact CK.refl _ _
  ·exact fun v w1 w2 h k => h
  ·intro vals w1 hI hd
   have h1 : vals 0 = _ := hd.1
   have dc3 := hI.cell c3
   unfold GStep
   go_wp2
   exact CK.refl _ _
  ·exact fun v w1 w2 h k => h
  ·intro vals w1 hI hd
   have h1 : vals 1 = _ := hd.1
   have hcv := ((HX.out.2.2.1.below HB0.out).ck hI).conv 9 Tryz.underlying9
   unfold bs
   unfold GStep
   go_wp2
   exact CK.refl _ _
  ·exact fun v w1 w2 h k => h
  ·intro vals w1 hI hd
   unfold GStep
   go_wp2
   exact CK.refl _ _
  ·exact fun v w1 w2 h k => h
  ·intro vals w1 hI hd
   have h1 : vals 3 = _ := hd.1
   have dc4 := hI.cell c4
   have dc5 := hI.cell c5
   have dc6 := hI.cell c6
   have dc7 := hI.cell c7
   have dc8 := hI.cell c8
   have dc9 := hI.cell c9
   have dc10 := hI.cell c10
   have dc11 := hI.cell c11
   have dc12 := hI.cell c12
   have dc13 := hI.cell c13
   unfold GStep
   go_wp2
   exact CK.refl _ _
  ·rintro v w1 w2 ⟨su, ⟨vp, vh, h1, h2, h3⟩, h4⟩ k
   exact ⟨su, ⟨vp, vh, h1, h2.ck k, h3.ck k⟩, h4⟩
  ·intro vals w1 hI hd
   have h1 : vals 4 = _ := hd.1
   have HP := hid (address_any N u _ w1 ((HG.out.step HB0.out).below hI.below (HG.out.step HB0.out).le) ((HLU.out.below HB0.out).ck hI) HBD.out.uri)
   unfold GStep
   go_wp2_with (go_at_call 75; refine HP.out.mono ?_; rintro e w2 ⟨v2, su, rfl, hv, hsu, hb⟩)
   have hk := CK.of_below hb hI.size
   first | exact ⟨hk, su, hv, hsu⟩ | exact hk
  ·exact fun v w1 w2 h k => h
  ·intro vals w1 hI hd
   unfold GStep
   go_wp2
   exact CK.refl _ _
  ·exact fun v w1 w2 h k => h
  ·intro vals w1 hI hd
   have h1 : vals 6 = _ := hd.1
   have dc14 := hI.cell c14
   unfold GStep
   go_wp2
   exact CK.refl _ _
  ·exact fun v w1 w2 h k => h.ck k
  ·intro vals w1 hI hd
   have h1 : vals 7 = _ := hd.1
   have HP := hid (params_any _ params w1 ((HX.out.2.2.2.1.below HB0.out).ck hI) HBD.out.params)
   unfold GStep
   go_wp2_with (go_at_call 98; refine HP.out.mono ?_; rintro e w2 ⟨v2, rfl, hp, hb⟩)
   have hk := CK.of_below hb hI.size
   first | exact ⟨hk, hp⟩ | exact hk
  ·rintro v w1 w2 ⟨k, h1, h2, h3⟩ h
   exact ⟨k, h1, h2, h.same h3 (by decide)⟩
  ·intro vals w1 hI hd
   unfold GStep
   go_wp2
   first | exact ⟨CK.new hI.size _, _, hI.size, rfl, heap_alloc_new w1 _⟩ | exact ⟨CK.new hI.size _, hI.size, heap_alloc_new w1 _⟩
 ·intro vals w1 hI hR
  simp only [List.drop_succ_cons, List.drop_zero, List.take_succ_cons, List.take_zero, fillAll]
  obtain ⟨-, -, r2, -, -, r5, -, -, r8, r9, -⟩ := hR
  have e2 : vals 2 = _ := r2
  rw [e2]
  clear e2 r2
  generalize vals 5 = x5 at r5 ⊢
  generalize vals 8 = x8 at r8 ⊢
  generalize vals 9 = x9 at r9 ⊢
  obtain ⟨su, ⟨vp, vh, rfl, hvp, hvh⟩, hsu⟩ := r5
  obtain ⟨k, hk, rfl, hg9⟩ := r9
  have hpr : PRep w1 x8 (strKVs params) := r8
  obtain ⟨A8, c8, rfl⟩ := hpr.form
  have HVP := hid hvp
  have HVH := hid hvh
  have HPR := hid hpr
  have HSU := hid hsu
  have HK := hid (show w.heap.size < k by have := HSZ.out; omega)
  have HG9 := hid hg9
  have HB1 := hid ((hI.below.block w.heap.size (by have := HSZ.out; omega)).trans HWB1.out)
  have HBW := hid (HB0.out.trans (hI.below.mono (by have := HSZ.out; omega)))
  have HONE := hid (UVal.one (su := su) hvp hvh)
  clear r8 hvp hvh hpr hsu hk hg9 hI
  go_simp
  go_upto_region 2 with (refine wpList_store_blk (by rfl) 107 (.tmp 4) (.tmp 11) (by rfl) k 107 [.string ⟨#[]⟩, .string ⟨#[]⟩, .bool false, .bool false, .string ⟨#[]⟩, .string ⟨#[]⟩, .string ⟨#[]⟩, .int .i64 0, .slice none 0 0, .slice none 0 0] (uriV su vp vh) (by rfl) (by rfl) rfl HG9.out 10 suri_size rfl HONE.out ?_; intro W2 hst2)
  have HG2 := hid hst2.blk
  have HP2 := hid (HVP.out.stored hst2 HG9.out (by decide))
  have HH2 := hid (HVH.out.stored hst2 HG9.out (by decide))
  have HR2 := hid (HPR.out.stored hst2 HG9.out (by decide))
  have HB2 := hid ((hst2.other w.heap.size (by have := HK.out; omega)).trans HB1.out)
  have HBW2 := hid (HBW.out.trans (hst2.below.mono (by have := HK.out; omega)))
  clear hst2
  have c0 := row_at HB2.out 0 _ rfl
  obtain rfl := HSU.out HR.out
  obtain ⟨Avp, cvp, rfl⟩ := HP2.out.form
  obtain ⟨Avh, cvh, rfl⟩ := HH2.out.form
  go_wp2_with (refine wpList_load_blk (by rfl) 107 (.tmp 4) (by rfl) k 107 (0, 0) [.string ⟨u.scheme.toArray⟩, .string ⟨#[]⟩, .bool u.star, .bool u.slashes, .string ⟨u.user.toArray⟩, .string ⟨u.pass.toArray⟩, .string ⟨u.host.toArray⟩, .int .i64 u.port, .slice Avp (strKVs u.params).length cvp, .slice Avh (strKVs u.hdrs).length cvh] (by rfl) HG2.out _ Tryz.underlying107 rfl 10 suri_size rfl ?_)
  go_ret
  have hbn := (Below.refl W2.heap.size W2).alloc (Nat.le_refl _) (.cells #[.string (bs display), .string ⟨u.scheme.toArray⟩, .string ⟨#[]⟩, .bool u.star, .bool u.slashes, .string ⟨u.user.toArray⟩, .string ⟨u.pass.toArray⟩, .string ⟨u.host.toArray⟩, .int .i64 u.port, .slice Avp (strKVs u.params).length cvp, .slice Avh (strKVs u.hdrs).length cvh, .slice A8 (strKVs params).length c8] 185)
  have hsz : w.heap.size ≤ W2.heap.size := HBW2.out.size
  exact ⟨W2.heap.size, rfl, ⟨_, ⟨heap_alloc_new W2 _, by decide, by decide⟩, rfl, ⟨rfl, rfl, rfl, rfl, rfl, rfl, rfl, rfl, _, _, rfl, rfl, HP2.out.below hbn, HH2.out.below hbn⟩, _, rfl, HR2.out.below hbn⟩, hsz, by simp, HBW2.out.trans (hbn.mono hsz)⟩
theorem impmade_2 (N : Nat) (name text display : Bytes) (u : LUri) (params : BKVs) (num : Int) (proto version transport host : Bytes) (port : Int) (cs : List Value) (w : World) (hG : Gl N w) (hB : HBd2 ⟨2, name, text, display, u, params, num, proto, version, transport, host, port⟩) (hH : LH w ⟨2, name, text, display, u, params, num, proto, version, transport, host, port⟩ cs) (hr : u.raw = []) : Calls Tryz.prog 96 #[.agg cs.toArray] w (NewH (.from_ (bs display) (toS u) (strKVs params)) w) := by
 obtain ⟨a, b, c, ul0, p, d, e, f, g, rfl, ha, hb, hc, hu, hp, hd, he, hf, hg, ht64, hnum, hport⟩ := hH
 have HLU := hid hu
 obtain ⟨u0, u1, u4, u5, u6, u8, u9, rfl, q0, q1, q4, q5, q6, q8, q9, q7⟩ := hu
 dsimp only at *
 simp only [List.cons_append, List.nil_append]
 have HX := hid (And.intro ha (And.intro hb (And.intro hc (And.intro hp (And.intro hd (And.intro he (And.intro hf hg)))))))
 have HG := hid hG
 have HBD := hid hB
 obtain ⟨Aa, ca, rfl, -⟩ := ha.form
 obtain ⟨Ab, cb, rfl, -⟩ := hb.form
 obtain ⟨Ac, cc, rfl, -⟩ := hc.form
 obtain ⟨Ap, cp, rfl, -⟩ := hp.form
 obtain ⟨Ad, cd, rfl, -⟩ := hd.form
 obtain ⟨Ae, ce, rfl, -⟩ := he.form
 obtain ⟨Af, cf, rfl, -⟩ := hf.form
 obtain ⟨Ag, cg, rfl, -⟩ := hg.form
 have HR := hid hr
 clear hr
 clear ha hb hc hp hd he hf hg ht64 hnum hport q0 q1 q4 q5 q6 q7 q8 q9 hG hB
 obtain ⟨wb, hwb⟩ : ∃ wb, wb = w.alloc (.cells #[.int .i64 2, .slice Aa name.length ca, .slice Ab text.length cb, .slice Ac display.length cc, u0, u1, .bool u.star, .bool u.slashes, u4, u5, u6, .int .i64 u.port, u8, u9, .slice Ap params.length cp, .int .u32 num, .slice Ad proto.length cd, .slice Ae version.length ce, .slice Af transport.length cf, .slice Ag host.length cg, .int .i64 port] 35) := ⟨_, rfl⟩
 have HWB1 := hid (show wb.heap[w.heap.size]? = some (.cells ([.int .i64 2, .slice Aa name.length ca, .slice Ab text.length cb, .slice Ac display.length cc, u0, u1, .bool u.star, .bool u.slashes, u4, u5, u6, .int .i64 u.port, u8, u9, .slice Ap params.length cp, .int .u32 num, .slice Ad proto.length cd, .slice Ae version.length ce, .slice Af transport.length cf, .slice Ag host.length cg, .int .i64 port] : List Value).toArray 35 (0, 0)) by rw [hwb]; exact heap_alloc_new w _)
 have HB0 := hid (show Below w.heap.size w wb by rw [hwb]; exact (Below.refl _ w).alloc (Nat.le_refl _) _)
 have HSZ := hid (show wb.heap.size = w.heap.size + 1 by rw [hwb]; simp)
 go_enter Tryz.func96, Tryz.ntmps96
 go_wp2_with fail
 rw [← hwb]
 generalize Value.agg #[.int .i64 2, .slice Aa name.length ca, .slice Ab text.length cb, .slice Ac display.length cc, u0, u1, .bool u.star, .bool u.slashes, u4, u5, u6, .int .i64 u.port, u8, u9, .slice Ap params.length cp, .int .u32 num, .slice Ad proto.length cd, .slice Ae version.length ce, .slice Af transport.length cf, .slice Ag host.length cg, .int .i64 port] = arg0
 clear hwb
 refine wp_region_grow 10 (CK wb.heap.size) (IW wb)
  (fun i v w' => match i with
   | 0 => v = .pointer (some ⟨w.heap.size, 3, none⟩)
   | 1 => v = .slice Ac display.length cc
   | 2 => v = .string (bs display)
   | 3 => v = .pointer (some ⟨w.heap.size, 4, none⟩)
   | 4 => v = .agg #[u0, u1, .bool u.star, .bool u.slashes, u4, u5, u6, .int .i64 u.port, u8, u9]
   | 5 => ∃ su, UVal w' v su ∧ (u.raw = [] → su = toS u)
   | 6 => v = .pointer (some ⟨w.heap.size, 14, none⟩)
   | 7 => v = .slice Ap params.length cp
   | 8 => PRep w' v (strKVs params)
   | 9 => ∃ k, wb.heap.size ≤ k ∧ v = .pointer (some ⟨k, 0, none⟩) ∧ w'.heap[k]? = some (.cells ([.string ⟨#[]⟩, .string ⟨#[]⟩, .bool false, .bool false, .string ⟨#[]⟩, .string ⟨#[]⟩, .string ⟨#[]⟩, .int .i64 0, .slice none 0 0, .slice none 0 0] : List Value).toArray 107 (0, 0))
   | _ => True)
  [[], [0], [1], [], [3], [4], [], [6], [7], []] rfl (by kernel_rfl) (by kernel_rfl) (fun _ _ => IW.step) ?_ ?_ ?_ ?_
 ·intro j hj v w'
  match j, hj with
  | j + 10, _ => trivial
 ·exact CK.of_below (Below.refl _ _).drew (Nat.le_refl _)
 ·simp only [List.take_succ_cons, List.take_zero, fillAll]
  have c3 := row_at HWB1.out 3 _ rfl
  have c4 := row_at HWB1.out 4 _ rfl
  have c5 := row_at HWB1.out 5 _ rfl
  have c6 := row_at HWB1.out 6 _ rfl
  have c7 := row_at HWB1.out 7 _ rfl
  have c8 := row_at HWB1.out 8 _ rfl
  have c9 := row_at HWB1.out 9 _ rfl
  have c10 := row_at HWB1.out 10 _ rfl
  have c11 := row_at HWB1.out 11 _ rfl
  have c12 := row_at HWB1.out 12 _ rfl
  have c13 := row_at HWB1.out 13 _ rfl
  have c14 := row_at HWB1.out 14 _ rfl
  refine ⟨⟨?_, ?_⟩, ⟨?_, ?_⟩, ⟨?_, ?_⟩, ⟨?_, ?_⟩, ⟨?_, ?_⟩, ⟨?_, ?_⟩, ⟨?_, ?_⟩, ⟨?_, ?_⟩, ⟨?_, ?_⟩, ⟨?_, ?_⟩, trivial⟩
  ·exact fun v w1 w2 h k => h
  ·intro vals w1 hI hd
   unfold GStep
   go_wp2
   exact CK.refl _ _
  ·exact fun v w1 w2 h k => h
  ·intro vals w1 hI hd
   have h1 : vals 0 = _ := hd.1
   have dc3 := hI.cell c3
   unfold GStep
   go_wp2
   exact CK.refl _ _
  ·exact fun v w1 w2 h k => h
  ·intro vals w1 hI hd
   have h1 : vals 1 = _ := hd.1
   have hcv := ((HX.out.2.2.1.below HB0.out).ck hI).conv 9 Tryz.underlying9
   unfold bs
   unfold GStep
   go_wp2
   exact CK.refl _ _
  ·exact fun v w1 w2 h k => h
  ·intro vals w1 hI hd
   unfold GStep
   go_wp2
   exact CK.refl _ _
  ·exact fun v w1 w2 h k => h
  ·intro vals w1 hI hd
   have h1 : vals 3 = _ := hd.1
   have dc4 := hI.cell c4
   have dc5 := hI.cell c5
   have dc6 := hI.cell c6
   have dc7 := hI.cell c7
   have dc8 := hI.cell c8
   have dc9 := hI.cell c9
   have dc10 := hI.cell c10
   have dc11 := hI.cell c11
   have dc12 := hI.cell c12
   have dc13 := hI.cell c13
   unfold GStep
   go_wp2
   exact CK.refl _ _
  ·rintro v w1 w2 ⟨su, ⟨vp, vh, h1, h2, h3⟩, h4⟩ k
   exact ⟨su, ⟨vp, vh, h1, h2.ck k, h3.ck k⟩, h4⟩
  ·intro vals w1 hI hd
   have h1 : vals 4 = _ := hd.1
   have HP := hid (address_any N u _ w1 ((HG.out.step HB0.out).below hI.below (HG.out.step HB0.out).le) ((HLU.out.below HB0.out).ck hI) HBD.out.uri)
   unfold GStep
   go_wp2_with (go_at_call 75; refine HP.out.mono ?_; rintro e w2 ⟨v2, su, rfl, hv, hsu, hb⟩)
   have hk := CK.of_below hb hI.size
   first | exact ⟨hk, su, hv, hsu⟩ | exact hk
  ·exact fun v w1 w2 h k => h
  ·intro vals w1 hI hd
   unfold GStep
   go_wp2
   exact CK.refl _ _
  ·exact fun v w1 w2 h k => h
  ·intro vals w1 hI hd
   have h1 : vals 6 = _ := hd.1
   have dc14 := hI.cell c14
   unfold GStep
   go_wp2
   exact CK.refl _ _
  ·exact fun v w1 w2 h k => h.ck k
  ·intro vals w1 hI hd
   have h1 : vals 7 = _ := hd.1
   have HP := hid (params_any _ params w1 ((HX.out.2.2.2.1.below HB0.out).ck hI) HBD.out.params)
   unfold GStep
   go_wp2_with (go_at_call 98; refine HP.out.mono ?_; rintro e w2 ⟨v2, rfl, hp, hb⟩)
   have hk := CK.of_below hb hI.size
   first | exact ⟨hk, hp⟩ | exact hk
  ·rintro v w1 w2 ⟨k, h1, h2, h3⟩ h
   exact ⟨k, h1, h2, h.same h3 (by decide)⟩
  ·intro vals w1 hI hd
   unfold GStep
   go_wp2
   first | exact ⟨CK.new hI.size _, _, hI.size, rfl, heap_alloc_new w1 _⟩ | exact ⟨CK.new hI.size _, hI.size, heap_alloc_new w1 _⟩
 ·intro vals w1 hI hR
  simp only [List.drop_succ_cons, List.drop_zero, List.take_succ_cons, List.take_zero, fillAll]
  obtain ⟨-, -, r2, -, -, r5, -, -, r8, r9, -⟩ := hR
  have e2 : vals 2 = _ := r2
  rw [e2]
  clear e2 r2
  generalize vals 5 = x5 at r5 ⊢
  generalize vals 8 = x8 at r8 ⊢
  generalize vals 9 = x9 at r9 ⊢
  obtain ⟨su, ⟨vp, vh, rfl, hvp, hvh⟩, hsu⟩ := r5
  obtain ⟨k, hk, rfl, hg9⟩ := r9
  have hpr : PRep w1 x8 (strKVs params) := r8
  obtain ⟨A8, c8, rfl⟩ := hpr.form
  have HVP := hid hvp
  have HVH := hid hvh
  have HPR := hid hpr
  have HSU := hid hsu
  have HK := hid (show w.heap.size < k by have := HSZ.out; omega)
  have HG9 := hid hg9
  have HB1 := hid ((hI.below.block w.heap.size (by have := HSZ.out; omega)).trans HWB1.out)
  have HBW := hid (HB0.out.trans (hI.below.mono (by have := HSZ.out; omega)))
  have HONE := hid (UVal.one (su := su) hvp hvh)
  clear r8 hvp hvh hpr hsu hk hg9 hI
  go_simp
  go_upto_region 2 with (refine wpList_store_blk (by rfl) 107 (.tmp 4) (.tmp 11) (by rfl) k 107 [.string ⟨#[]⟩, .string ⟨#[]⟩, .bool false, .bool false, .string ⟨#[]⟩, .string ⟨#[]⟩, .string ⟨#[]⟩, .int .i64 0, .slice none 0 0, .slice none 0 0] (uriV su vp vh) (by rfl) (by rfl) rfl HG9.out 10 suri_size rfl HONE.out ?_; intro W2 hst2)
  have HG2 := hid hst2.blk
  have HP2 := hid (HVP.out.stored hst2 HG9.out (by decide))
  have HH2 := hid (HVH.out.stored hst2 HG9.out (by decide))
  have HR2 := hid (HPR.out.stored hst2 HG9.out (by decide))
  have HB2 := hid ((hst2.other w.heap.size (by have := HK.out; omega)).trans HB1.out)
  have HBW2 := hid (HBW.out.trans (hst2.below.mono (by have := HK.out; omega)))
  clear hst2
  have c0 := row_at HB2.out 0 _ rfl
  obtain rfl := HSU.out HR.out
  obtain ⟨Avp, cvp, rfl⟩ := HP2.out.form
  obtain ⟨Avh, cvh, rfl⟩ := HH2.out.form
  go_wp2_with (refine wpList_load_blk (by rfl) 107 (.tmp 4) (by rfl) k 107 (0, 0) [.string ⟨u.scheme.toArray⟩, .string ⟨#[]⟩, .bool u.star, .bool u.slashes, .string ⟨u.user.toArray⟩, .string ⟨u.pass.toArray⟩, .string ⟨u.host.toArray⟩, .int .i64 u.port, .slice Avp (strKVs u.params).length cvp, .slice Avh (strKVs u.hdrs).length cvh] (by rfl) HG2.out _ Tryz.underlying107 rfl 10 suri_size rfl ?_)
  go_ret
  have hbn := (Below.refl W2.heap.size W2).alloc (Nat.le_refl _) (.cells #[.string (bs display), .string ⟨u.scheme.toArray⟩, .string ⟨#[]⟩, .bool u.star, .bool u.slashes, .string ⟨u.user.toArray⟩, .string ⟨u.pass.toArray⟩, .string ⟨u.host.toArray⟩, .int .i64 u.port, .slice Avp (strKVs u.params).length cvp, .slice Avh (strKVs u.hdrs).length cvh, .slice A8 (strKVs params).length c8] 181)
  have hsz : w.heap.size ≤ W2.heap.size := HBW2.out.size
  exact ⟨W2.heap.size, rfl, ⟨_, ⟨heap_alloc_new W2 _, by decide, by decide⟩, rfl, ⟨rfl, rfl, rfl, rfl, rfl, rfl, rfl, rfl, _, _, rfl, rfl, HP2.out.below hbn, HH2.out.below hbn⟩, _, rfl, HR2.out.below hbn⟩, hsz, by simp, HBW2.out.trans (hbn.mono hsz)⟩
theorem impmade_3 (N : Nat) (name text display : Bytes) (u : LUri) (params : BKVs) (num : Int) (proto version transport host : Bytes) (port : Int) (cs : List Value) (w : World) (hG : Gl N w) (hB : HBd2 ⟨3, name, text, display, u, params, num, proto, version, transport, host, port⟩) (hH : LH w ⟨3, name, text, display, u, params, num, proto, version, transport, host, port⟩ cs) (hr : u.raw = []) : Calls Tryz.prog 96 #[.agg cs.toArray] w (NewH (.contact (bs display) (toS u) (strKVs params)) w) := by
 obtain ⟨a, b, c, ul0, p, d, e, f, g, rfl, ha, hb, hc, hu, hp, hd, he, hf, hg, ht64, hnum, hport⟩ := hH
 have HLU := hid hu
 obtain ⟨u0, u1, u4, u5, u6, u8, u9, rfl, q0, q1, q4, q5, q6, q8, q9, q7⟩ := hu
 dsimp only at *
 simp only [List.cons_append, List.nil_append]
 have HX := hid (And.intro ha (And.intro hb (And.intro hc (And.intro hp (And.intro hd (And.intro he (And.intro hf hg)))))))
 have HG := hid hG
 have HBD := hid hB
 obtain ⟨Aa, ca, rfl, -⟩ := ha.form
 obtain ⟨Ab, cb, rfl, -⟩ := hb.form
 obtain ⟨Ac, cc, rfl, -⟩ := hc.form
 obtain ⟨Ap, cp, rfl, -⟩ := hp.form
 obtain ⟨Ad, cd, rfl, -⟩ := hd.form
 obtain ⟨Ae, ce, rfl, -⟩ := he.form
 obtain ⟨Af, cf, rfl, -⟩ := hf.form
 obtain ⟨Ag, cg, rfl, -⟩ := hg.form
 have HR := hid hr
 clear hr
 clear ha hb hc hp hd he hf hg ht64 hnum hport q0 q1 q4 q5 q6 q7 q8 q9 hG hB
 obtain ⟨wb, hwb⟩ : ∃ wb, wb = w.alloc (.cells #[.int .i64 3, .slice Aa name.length ca, .slice Ab text.length cb, .slice Ac display.length cc, u0, u1, .bool u.star, .bool u.slashes, u4, u5, u6, .int .i64 u.port, u8, u9, .slice Ap params.length cp, .int .u32 num, .slice Ad proto.length cd, .slice Ae version.length ce, .slice Af transport.length cf, .slice Ag host.length cg, .int .i64 port] 35) := ⟨_, rfl⟩
 have HWB1 := hid (show wb.heap[w.heap.size]? = some (.cells ([.int .i64 3, .slice Aa name.length ca, .slice Ab text.length cb, .slice Ac display.length cc, u0, u1, .bool u.star, .bool u.slashes, u4, u5, u6, .int .i64 u.port, u8, u9, .slice Ap params.length cp, .int .u32 num, .slice Ad proto.length cd, .slice Ae version.length ce, .slice Af transport.length cf, .slice Ag host.length cg, .int .i64 port] : List Value).toArray 35 (0, 0)) by rw [hwb]; exact heap_alloc_new w _)
 have HB0 := hid (show Below w.heap.size w wb by rw [hwb]; exact (Below.refl _ w).alloc (Nat.le_refl _) _)
 have HSZ := hid (show wb.heap.size = w.heap.size + 1 by rw [hwb]; simp)
 go_enter Tryz.func96, Tryz.ntmps96
 go_wp2_with fail
 rw [← hwb]
 generalize Value.agg #[.int .i64 3, .slice Aa name.length ca, .slice Ab text.length cb, .slice Ac display.length cc, u0, u1, .bool u.star, .bool u.slashes, u4, u5, u6, .int .i64 u.port, u8, u9, .slice Ap params.length cp, .int .u32 num, .slice Ad proto.length cd, .slice Ae version.length ce, .slice Af transport.length cf, .slice Ag host.length cg, .int .i64 port] = arg0
 clear hwb
 refine wp_region_grow 10 (CK wb.heap.size) (IW wb)
  (fun i v w' => match i with
   | 0 => v = .pointer (some ⟨w.heap.size, 3, none⟩)
   | 1 => v = .slice Ac display.length cc
   | 2 => v = .string (bs display)
   | 3 => v = .pointer (some ⟨w.heap.size, 4, none⟩)
   | 4 => v = .agg #[u0, u1, .bool u.star, .bool u.slashes, u4, u5, u6, .int .i64 u.port, u8, u9]
   | 5 => ∃ su, UVal w' v su ∧ (u.raw = [] → su = toS u)
   | 6 => v = .pointer (some ⟨w.heap.size, 14, none⟩)
   | 7 => v = .slice Ap params.length cp
   | 8 => PRep w' v (strKVs params)
   | 9 => ∃ k, wb.heap.size ≤ k ∧ v = .pointer (some ⟨k, 0, none⟩) ∧ w'.heap[k]? = some (.cells ([.string ⟨#[]⟩, .string ⟨#[]⟩, .bool false, .bool false, .string ⟨#[]⟩, .string ⟨#[]⟩, .string ⟨#[]⟩, .int .i64 0, .slice none 0 0, .slice none 0 0] : List Value).toArray 107 (0, 0))
   | _ => True)
  [[], [0], [1], [], [3], [4], [], [6], [7], []] rfl (by kernel_rfl) (by kernel_rfl) (fun _ _ => IW.step) ?_ ?_ ?_ ?_
 ·intro j hj v w'
  match j, hj with
  | j + 10, _ => trivial
 ·exact CK.of_below (Below.refl _ _).drew (Nat.le_refl _)
 ·simp only [List.take_succ_cons, List.take_zero, fillAll]
  have c3 := row_at HWB1.out 3 _ rfl
  have c4 := row_at HWB1.out 4 _ rfl
  have c5 := row_at HWB1.out 5 _ rfl
  have c6 := row_at HWB1.out 6 _ rfl
  have c7 := row_at HWB1.out 7 _ rfl
  have c8 := row_at HWB1.out 8 _ rfl
  have c9 := row_at HWB1.out 9 _ rfl
  have c10 := row_at HWB1.out 10 _ rfl
  have c11 := row_at HWB1.out 11 _ rfl
  have c12 := row_at HWB1.out 12 _ rfl
  have c13 := row_at HWB1.out 13 _ rfl
  have c14 := row_at HWB1.out 14 _ rfl
  refine ⟨⟨?_, ?_⟩, ⟨?_, ?_⟩, ⟨?_, ?_⟩, ⟨?_, ?_⟩, ⟨?_, ?_⟩, ⟨?_, ?_⟩, ⟨?_, ?_⟩, ⟨?_, ?_⟩, ⟨?_, ?_⟩, ⟨?_, ?_⟩, trivial⟩
  ·exact fun v w1 w2 h k => h
  ·intro vals w1 hI hd
   unfold GStep
   go_wp2
   exact CK.refl _ _
  ·exact fun v w1 w2 h k => h
  ·intro vals w1 hI hd
   have h1 : vals 0 = _ := hd.1
   have dc3 := hI.cell c3
   unfold GStep
   go_wp2
   exact CK.refl _ _
  ·exact fun v w1 w2 h k => h
  ·intro vals w1 hI hd
   have h1 : vals 1 = _ := hd.1
   have hcv := ((HX.out.2.2.1.below HB0.out).ck hI).conv 9 Tryz.underlying9
   unfold bs
   unfold GStep
   go_wp2
   exact CK.refl _ _
  ·exact fun v w1 w2 h k => h
  ·intro vals w1 hI hd
   unfold GStep
   go_wp2
   exact CK.refl _ _
  ·exact fun v w1 w2 h k => h
  ·intro vals w1 hI hd
   have h1 : vals 3 = _ := hd.1
   have dc4 := hI.cell c4
   have dc5 := hI.cell c5
   have dc6 := hI.cell c6
   have dc7 := hI.cell c7
   have dc8 := hI.cell c8
   have dc9 := hI.cell c9
   have dc10 := hI.cell c10
   have dc11 := hI.cell c11
   have dc12 := hI.cell c12
   have dc13 := hI.cell c13
   unfold GStep
   go_wp2
   exact CK.refl _ _
  ·rintro v w1 w2 ⟨su, ⟨vp, vh, h1, h2, h3⟩, h4⟩ k
   exact ⟨su, ⟨vp, vh, h1, h2.ck k, h3.ck k⟩, h4⟩
  ·intro vals w1 hI hd
   have h1 : vals 4 = _ := hd.1
   have HP := hid (address_any N u _ w1 ((HG.out.step HB0.out).below hI.below (HG.out.step HB0.out).le) ((HLU.out.below HB0.out).ck hI) HBD.out.uri)
   unfold GStep
   go_wp2_with (go_at_call 75; refine HP.out.mono ?_; rintro e w2 ⟨v2, su, rfl, hv, hsu, hb⟩)
   have hk := CK.of_below hb hI.size
   first | exact ⟨hk, su, hv, hsu⟩ | exact hk
  ·exact fun v w1 w2 h k => h
  ·intro vals w1 hI hd
   unfold GStep
   go_wp2
   exact CK.refl _ _
  ·exact fun v w1 w2 h k => h
  ·intro vals w1 hI hd
   have h1 : vals 6 = _ := hd.1
   have dc14 := hI.cell c14
   unfold GStep
   go_wp2
   exact CK.refl _ _
  ·exact fun v w1 w2 h k => h.ck k
  ·intro vals w1 hI hd
   have h1 : vals 7 = _ := hd.1
   have HP := hid (params_any _ params w1 ((HX.out.2.2.2.1.below HB0.out).ck hI) HBD.out.params)
   unfold GStep
   go_wp2_with (go_at_call 98; refine HP.out.mono ?_; rintro e w2 ⟨v2, rfl, hp, hb⟩)
   have hk := CK.of_below hb hI.size
   first | exact ⟨hk, hp⟩ | exact hk
  ·rintro v w1 w2 ⟨k, h1, h2, h3⟩ h
   exact ⟨k, h1, h2, h.same h3 (by decide)⟩
  ·intro vals w1 hI hd
   unfold GStep
   go_wp2
   first | exact ⟨CK.new hI.size _, _, hI.size, rfl, heap_alloc_new w1 _⟩ | exact ⟨CK.new hI.size _, hI.size, heap_alloc_new w1 _⟩
 ·intro vals w1 hI hR
  simp only [List.drop_succ_cons, List.drop_zero, List.take_succ_cons, List.take_zero, fillAll]
  obtain ⟨-, -, r2, -, -, r5, -, -, r8, r9, -⟩ := hR
  have e2 : vals 2 = _ := r2
  rw [e2]
  clear e2 r2
  generalize vals 5 = x5 at r5 ⊢
  generalize vals 8 = x8 at r8 ⊢
  generalize vals 9 = x9 at r9 ⊢
  obtain ⟨su, ⟨vp, vh, rfl, hvp, hvh⟩, hsu⟩ := r5
  obtain ⟨k, hk, rfl, hg9⟩ := r9
  have hpr : PRep w1 x8 (strKVs params) := r8
  obtain ⟨A8, c8, rfl⟩ := hpr.form
  have HVP := hid hvp
  have HVH := hid hvh
  have HPR := hid hpr
  have HSU := hid hsu
  have HK := hid (show w.heap.size < k by have := HSZ.out; omega)
  have HG9 := hid hg9
  have HB1 := hid ((hI.below.block w.heap.size (by have := HSZ.out; omega)).trans HWB1.out)
  have HBW := hid (HB0.out.trans (hI.below.mono (by have := HSZ.out; omega)))
  have HONE := hid (UVal.one (su := su) hvp hvh)
  clear r8 hvp hvh hpr hsu hk hg9 hI
  go_simp
  go_upto_region 2 with (refine wpList_store_blk (by rfl) 107 (.tmp 4) (.tmp 11) (by rfl) k 107 [.string ⟨#[]⟩, .string ⟨#[]⟩, .bool false, .bool false, .string ⟨#[]⟩, .string ⟨#[]⟩, .string ⟨#[]⟩, .int .i64 0, .slice none 0 0, .slice none 0 0] (uriV su vp vh) (by rfl) (by rfl) rfl HG9.out 10 suri_size rfl HONE.out ?_; intro W2 hst2)
  have HG2 := hid hst2.blk
  have HP2 := hid (HVP.out.stored hst2 HG9.out (by decide))
  have HH2 := hid (HVH.out.stored hst2 HG9.out (by decide))
  have HR2 := hid (HPR.out.stored hst2 HG9.out (by decide))
  have HB2 := hid ((hst2.other w.heap.size (by have := HK.out; omega)).trans HB1.out)
  have HBW2 := hid (HBW.out.trans (hst2.below.mono (by have := HK.out; omega)))
  clear hst2
  have c0 := row_at HB2.out 0 _ rfl
  obtain rfl := HSU.out HR.out
  obtain ⟨Avp, cvp, rfl⟩ := HP2.out.form
  obtain ⟨Avh, cvh, rfl⟩ := HH2.out.form
  go_wp2_with (refine wpList_load_blk (by rfl) 107 (.tmp 4) (by rfl) k 107 (0, 0) [.string ⟨u.scheme.toArray⟩, .string ⟨#[]⟩, .bool u.star, .bool u.slashes, .string ⟨u.user.toArray⟩, .string ⟨u.pass.toArray⟩, .string ⟨u.host.toArray⟩, .int .i64 u.port, .slice Avp (strKVs u.params).length cvp, .slice Avh (strKVs u.hdrs).length cvh] (by rfl) HG2.out _ Tryz.underlying107 rfl 10 suri_size rfl ?_)
  go_ret
  have hbn := (Below.refl W2.heap.size W2).alloc (Nat.le_refl _) (.cells #[.string (bs display), .string ⟨u.scheme.toArray⟩, .string ⟨#[]⟩, .bool u.star, .bool u.slashes, .string ⟨u.user.toArray⟩, .string ⟨u.pass.toArray⟩, .string ⟨u.host.toArray⟩, .int .i64 u.port, .slice Avp (strKVs u.params).length cvp, .slice Avh (strKVs u.hdrs).length cvh, .slice A8 (strKVs params).length c8] 190)
  have hsz : w.heap.size ≤ W2.heap.size := HBW2.out.size
  exact ⟨W2.heap.size, rfl, ⟨_, ⟨heap_alloc_new W2 _, by decide, by decide⟩, rfl, ⟨rfl, rfl, rfl, rfl, rfl, rfl, rfl, rfl, _, _, rfl, rfl, HP2.out.below hbn, HH2.out.below hbn⟩, _, rfl, HR2.out.below hbn⟩, hsz, by simp, HBW2.out.trans (hbn.mono hsz)⟩
theorem impmade_9 (N : Nat) (name text display : Bytes) (u : LUri) (params : BKVs) (num : Int) (proto version transport host : Bytes) (port : Int) (cs : List Value) (w : World) (hG : Gl N w) (hB : HBd2 ⟨9, name, text, display, u, params, num, proto, version, transport, host, port⟩) (hH : LH w ⟨9, name, text, display, u, params, num, proto, version, transport, host, port⟩ cs) : Calls Tryz.prog 96 #[.agg cs.toArray] w (NewH (.via ⟨bs proto, bs version, bs transport, bs host, port, strKVs params⟩) w) := by
 obtain ⟨a, b, c, ul0, p, d, e, f, g, rfl, ha, hb, hc, hu, hp, hd, he, hf, hg, ht64, hnum, hport⟩ := hH
 have HLU := hid hu
 obtain ⟨u0, u1, u4, u5, u6, u8, u9, rfl, q0, q1, q4, q5, q6, q8, q9, q7⟩ := hu
 dsimp only at *
 simp only [List.cons_append, List.nil_append]
 have HX := hid (And.intro ha (And.intro hb (And.intro hc (And.intro hp (And.intro hd (And.intro he (And.intro hf hg)))))))
 have HG := hid hG
 have HBD := hid hB
 obtain ⟨Aa, ca, rfl, -⟩ := ha.form
 obtain ⟨Ab, cb, rfl, -⟩ := hb.form
 obtain ⟨Ac, cc, rfl, -⟩ := hc.form
 obtain ⟨Ap, cp, rfl, -⟩ := hp.form
 obtain ⟨Ad, cd, rfl, -⟩ := hd.form
 obtain ⟨Ae, ce, rfl, -⟩ := he.form
 obtain ⟨Af, cf, rfl, -⟩ := hf.form
 obtain ⟨Ag, cg, rfl, -⟩ := hg.form
 skip
 clear ha hb hc hp hd he hf hg ht64 hnum hport q0 q1 q4 q5 q6 q7 q8 q9 hG hB
 obtain ⟨wb, hwb⟩ : ∃ wb, wb = w.alloc (.cells #[.int .i64 9, .slice Aa name.length ca, .slice Ab text.length cb, .slice Ac display.length cc, u0, u1, .bool u.star, .bool u.slashes, u4, u5, u6, .int .i64 u.port, u8, u9, .slice Ap params.length cp, .int .u32 num, .slice Ad proto.length cd, .slice Ae version.length ce, .slice Af transport.length cf, .slice Ag host.length cg, .int .i64 port] 35) := ⟨_, rfl⟩
 have HWB1 := hid (show wb.heap[w.heap.size]? = some (.cells ([.int .i64 9, .slice Aa name.length ca, .slice Ab text.length cb, .slice Ac display.length cc, u0, u1, .bool u.star, .bool u.slashes, u4, u5, u6, .int .i64 u.port, u8, u9, .slice Ap params.length cp, .int .u32 num, .slice Ad proto.length cd, .slice Ae version.length ce, .slice Af transport.length cf, .slice Ag host.length cg, .int .i64 port] : List Value).toArray 35 (0, 0)) by rw [hwb]; exact heap_alloc_new w _)
 have HB0 := hid (show Below w.heap.size w wb by rw [hwb]; exact (Below.refl _ w).alloc (Nat.le_refl _) _)
 have HSZ := hid (show wb.heap.size = w.heap.size + 1 by rw [hwb]; simp)
 go_enter Tryz.func96, Tryz.ntmps96
 go_wp2_with fail
 rw [← hwb]
 generalize Value.agg #[.int .i64 9, .slice Aa name.length ca, .slice Ab text.length cb, .slice Ac display.length cc, u0, u1, .bool u.star, .bool u.slashes, u4, u5, u6, .int .i64 u.port, u8, u9, .slice Ap params.length cp, .int .u32 num, .slice Ad proto.length cd, .slice Ae version.length ce, .slice Af transport.length cf, .slice Ag host.length cg, .int .i64 port] = arg0
 clear hwb
 refine wp_region_grow 10 (CK wb.heap.size) (IW wb)
  (fun i v w' => match i with
   | 0 => v = .pointer (some ⟨w.heap.size, 3, none⟩)
   | 1 => v = .slice Ac display.length cc
   | 2 => v = .string (bs display)
   | 3 => v = .pointer (some ⟨w.heap.size, 4, none⟩)
   | 4 => v = .agg #[u0, u1, .bool u.star, .bool u.slashes, u4, u5, u6, .int .i64 u.port, u8, u9]
   | 5 => ∃ su, UVal w' v su ∧ (u.raw = [] → su = toS u)
   | 6 => v = .pointer (some ⟨w.heap.size, 14, none⟩)
   | 7 => v = .slice Ap params.length cp
   | 8 => PRep w' v (strKVs params)
   | 9 => ∃ k, wb.heap.size ≤ k ∧ v = .pointer (some ⟨k, 0, none⟩) ∧ w'.heap[k]? = some (.cells ([.string ⟨#[]⟩, .string ⟨#[]⟩, .bool false, .bool false, .string ⟨#[]⟩, .string ⟨#[]⟩, .string ⟨#[]⟩, .int .i64 0, .slice none 0 0, .slice none 0 0] : List Value).toArray 107 (0, 0))
   | _ => True)
  [[], [0], [1], [], [3], [4], [], [6], [7], []] rfl (by kernel_rfl) (by kernel_rfl) (fun _ _ => IW.step) ?_ ?_ ?_ ?_
 ·intro j hj v w'
  match j, hj with
  | j + 10, _ => trivial
 ·exact CK.of_below (Below.refl _ _).drew (Nat.le_refl _)
 ·simp only [List.take_succ_cons, List.take_zero, fillAll]
  have c3 := row_at HWB1.out 3 _ rfl
  have c4 := row_at HWB1.out 4 _ rfl
  have c5 := row_at HWB1.out 5 _ rfl
  have c6 := row_at HWB1.out 6 _ rfl
  have c7 := row_at HWB1.out 7 _ rfl
  have c8 := row_at HWB1.out 8 _ rfl
  have c9 := row_at HWB1.out 9 _ rfl
  have c10 := row_at HWB1.out 10 _ rfl
  have c11 := row_at HWB1.out 11 _ rfl
  have c12 := row_at HWB1.out 12 _ rfl
  have c13 := row_at HWB1.out 13 _ rfl
  have c14 := row_at HWB1.out 14 _ rfl
  refine ⟨⟨?_, ?_⟩, ⟨?_, ?_⟩, ⟨?_, ?_⟩, ⟨?_, ?_⟩, ⟨?_, ?_⟩, ⟨?_, ?_⟩, ⟨?_, ?_⟩, ⟨?_, ?_⟩, ⟨?_, ?_⟩, ⟨?_, ?_⟩, trivial⟩
  ·exact fun v w1 w2 h k => h
  ·intro vals w1 hI hd
   unfold GStep
   go_wp2
   exact CK.refl _ _
  ·exact fun v w1 w2 h k => h
  ·intro vals w1 hI hd
   have h1 : vals 0 = _ := hd.1
   have dc3 := hI.cell c3
   unfold GStep
   go_wp2
   exact CK.refl _ _
  ·exact fun v w1 w2 h k => h
  ·intro vals w1 hI hd
   have h1 : vals 1 = _ := hd.1
   have hcv := ((HX.out.2.2.1.below HB0.out).ck hI).conv 9 Tryz.underlying9
   unfold bs
   unfold GStep
   go_wp2
   exact CK.refl _ _
  ·exact fun v w1 w2 h k => h
  ·intro vals w1 hI hd
   unfold GStep
   go_wp2
   exact CK.refl _ _
  ·exact fun v w1 w2 h k => h
  ·intro vals w1 hI hd
   have h1 : vals 3 = _ := hd.1
   have dc4 := hI.cell c4
   have dc5 := hI.cell c5
   have dc6 := hI.cell c6
   have dc7 := hI.cell c7
   have dc8 := hI.cell c8
   have dc9 := hI.cell c9
   have dc10 := hI.cell c10
   have dc11 := hI.cell c11
   have dc12 := hI.cell c12
   have dc13 := hI.cell c13
   unfold GStep
   go_wp2
   exact CK.refl _ _
  ·rintro v w1 w2 ⟨su, ⟨vp, vh, h1, h2, h3⟩, h4⟩ k
   exact ⟨su, ⟨vp, vh, h1, h2.ck k, h3.ck k⟩, h4⟩
  ·intro vals w1 hI hd
   have h1 : vals 4 = _ := hd.1
   have HP := hid (address_any N u _ w1 ((HG.out.step HB0.out).below hI.below (HG.out.step HB0.out).le) ((HLU.out.below HB0.out).ck hI) HBD.out.uri)
   unfold GStep
   go_wp2_with (go_at_call 75; refine HP.out.mono ?_; rintro e w2 ⟨v2, su, rfl, hv, hsu, hb⟩)
   have hk := CK.of_below hb hI.size
   first | exact ⟨hk, su, hv, hsu⟩ | exact hk
  ·exact fun v w1 w2 h k => h
  ·intro vals w1 hI hd
   unfold GStep
   go_wp2
   exact CK.refl _ _
  ·exact fun v w1 w2 h k => h
  ·intro vals w1 hI hd
   have h1 : vals 6 = _ := hd.1
   have dc14 := hI.cell c14
   unfold GStep
   go_wp2
   exact CK.refl _ _
  ·exact fun v w1 w2 h k => h.ck k
  ·intro vals w1 hI hd
   have h1 : vals 7 = _ := hd.1
   have HP := hid (params_any _ params w1 ((HX.out.2.2.2.1.below HB0.out).ck hI) HBD.out.params)
   unfold GStep
   go_wp2_with (go_at_call 98; refine HP.out.mono ?_; rintro e w2 ⟨v2, rfl, hp, hb⟩)
   have hk := CK.of_below hb hI.size
   first | exact ⟨hk, hp⟩ | exact hk
  ·rintro v w1 w2 ⟨k, h1, h2, h3⟩ h
   exact ⟨k, h1, h2, h.same h3 (by decide)⟩
  ·intro vals w1 hI hd
   unfold GStep
   go_wp2
   first | exact ⟨CK.new hI.size _, _, hI.size, rfl, heap_alloc_new w1 _⟩ | exact ⟨CK.new hI.size _, hI.size, heap_alloc_new w1 _⟩
 ·intro vals w1 hI hR
  simp only [List.drop_succ_cons, List.drop_zero, List.take_succ_cons, List.take_zero, fillAll]
  obtain ⟨-, -, r2, -, -, r5, -, -, r8, r9, -⟩ := hR
  have e2 : vals 2 = _ := r2
  rw [e2]
  clear e2 r2
  generalize vals 5 = x5 at r5 ⊢
  generalize vals 8 = x8 at r8 ⊢
  generalize vals 9 = x9 at r9 ⊢
  obtain ⟨su, ⟨vp, vh, rfl, hvp, hvh⟩, hsu⟩ := r5
  obtain ⟨k, hk, rfl, hg9⟩ := r9
  have hpr : PRep w1 x8 (strKVs params) := r8
  obtain ⟨A8, c8, rfl⟩ := hpr.form
  have HVP := hid hvp
  have HVH := hid hvh
  have HPR := hid hpr
  have HSU := hid hsu
  have HK := hid (show w.heap.size < k by have := HSZ.out; omega)
  have HG9 := hid hg9
  have HB1 := hid ((hI.below.block w.heap.size (by have := HSZ.out; omega)).trans HWB1.out)
  have HBW := hid (HB0.out.trans (hI.below.mono (by have := HSZ.out; omega)))
  have HONE := hid (UVal.one (su := su) hvp hvh)
  clear r8 hvp hvh hpr hsu hk hg9 hI
  go_simp
  go_upto_region 2 with (refine wpList_store_blk (by rfl) 107 (.tmp 4) (.tmp 11) (by rfl) k 107 [.string ⟨#[]⟩, .string ⟨#[]⟩, .bool false, .bool false, .string ⟨#[]⟩, .string ⟨#[]⟩, .string ⟨#[]⟩, .int .i64 0, .slice none 0 0, .slice none 0 0] (uriV su vp vh) (by rfl) (by rfl) rfl HG9.out 10 suri_size rfl HONE.out ?_; intro W2 hst2)
  have HG2 := hid hst2.blk
  have HR2 := hid (HPR.out.stored hst2 HG9.out (by decide))
  have HB2 := hid ((hst2.other w.heap.size (by have := HK.out; omega)).trans HB1.out)
  have HBW2 := hid (HBW.out.trans (hst2.below.mono (by have := HK.out; omega)))
  clear hst2
  have c0 := row_at HB2.out 0 _ rfl
  have c16 := row_at HB2.out 16 _ rfl
  have c17 := row_at HB2.out 17 _ rfl
  have c18 := row_at HB2.out 18 _ rfl
  have c19 := row_at HB2.out 19 _ rfl
  have c20 := row_at HB2.out 20 _ rfl
  have v1 := (HX.out.2.2.2.2.1.below HBW2.out).conv 9 Tryz.underlying9
  have v2 := (HX.out.2.2.2.2.2.1.below HBW2.out).conv 9 Tryz.underlying9
  have v3 := (HX.out.2.2.2.2.2.2.1.below HBW2.out).conv 9 Tryz.underlying9
  have v4 := (HX.out.2.2.2.2.2.2.2.below HBW2.out).conv 9 Tryz.underlying9
  go_wp2
  go_ret
  have hbn := (Below.refl W2.heap.size W2).alloc (Nat.le_refl _) (.cells #[.string ⟨proto.toArray⟩, .string ⟨version.toArray⟩, .string ⟨transport.toArray⟩, .string ⟨host.toArray⟩, .int .i64 port, .slice A8 (strKVs params).length c8] 172)
  have hsz : w.heap.size ≤ W2.heap.size := HBW2.out.size
  exact ⟨W2.heap.size, rfl, ⟨_, ⟨heap_alloc_new W2 _, by decide, by decide⟩, rfl, rfl, rfl, rfl, rfl, _, rfl, HR2.out.below hbn⟩, hsz, by simp, HBW2.out.trans (hbn.mono hsz)⟩
