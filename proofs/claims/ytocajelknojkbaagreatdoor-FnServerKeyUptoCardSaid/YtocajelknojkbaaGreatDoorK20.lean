import Derived.Test.YtocajelknojkbaaGreatDoorK19
set_option maxRecDepth 100000
set_option maxHeartbeats 16000000
set_option linter.all false
namespace Go.Proofs.YtocajelknojkbaaGreatDoor
open Go.Lib (hid)
open Go.RowKit
theorem impmade_11 (N : Nat) (name text display : Bytes) (u : LUri) (params : BKVs) (num : Int) (proto version transport host : Bytes) (port : Int) (cs : List Value) (w : World) (hG : Gl N w) (hB : HBd2 ⟨11, name, text, display, u, params, num, proto, version, transport, host, port⟩) (hH : LH w ⟨11, name, text, display, u, params, num, proto, version, transport, host, port⟩ cs) (hr : u.raw = []) : Calls Tryz.prog 96 #[.agg cs.toArray] w (NewH (.route (toS u)) w) := by
 obtain ⟨a, b, c, ul0, p, d, e, f, g, rfl, ha, hb, hc, hu, hp, hd, he, hf, hg, ht64, hnum, hport⟩ := hH
 have HLU := hid hu
 obtain ⟨u0, u1, u4, u5, u6, u8, u9, rfl, q0, q1, q4, q5, q6, q8, q9, q7⟩ := hu
 dsimp only at *
 simp only [List.cons_append, List.nil_append]
 have HX := hid (And.intro ha (And.intro hb (And.intro hc (And.intro hp (And.intro hd (And.intro he (And.intro hf hg)))))))
 have HG := hid hG
 have HBD := hid hB
 obtain ⟨Aa, ca, rfl, -⟩ := ha.form
 obtain ⟨Ab, cb, rfl, -⟩ := hb.form
 obtain ⟨Ac, cc, rfl, -⟩ := hc.form
 obtain ⟨Ap, cp, rfl, -⟩ := hp.form
 obtain ⟨Ad, cd, rfl, -⟩ := hd.form
 obtain ⟨Ae, ce, rfl, -⟩ := he.form
 obtain ⟨Af, cf, rfl, -⟩ := hf.form
 obtain ⟨Ag, cg, rfl, -⟩ := hg.form
 have HR := hid hr
 clear hr
 clear ha hb hc hp hd he hf hg ht64 hnum hport q0 q1 q4 q5 q6 q7 q8 q9 hG hB
 obtain ⟨wb, hwb⟩ : ∃ wb, wb = w.alloc (.cells #[.int .i64 11, .slice Aa name.length ca, .slice Ab text.length cb, .slice Ac display.length cc, u0, u1, .bool u.star, .bool u.slashes, u4, u5, u6, .int .i64 u.port, u8, u9, .slice Ap params.length cp, .int .u32 num, .slice Ad proto.length cd, .slice Ae version.length ce, .slice Af transport.length cf, .slice Ag host.length cg, .int .i64 port] 35) := ⟨_, rfl⟩
 have HWB1 := hid (show wb.heap[w.heap.size]? = some (.cells ([.int .i64 11, .slice Aa name.length ca, .slice Ab text.length cb, .slice Ac display.length cc, u0, u1, .bool u.star, .bool u.slashes, u4, u5, u6, .int .i64 u.port, u8, u9, .slice Ap params.length cp, .int .u32 num, .slice Ad proto.length cd, .slice Ae version.length ce, .slice Af transport.length cf, .slice Ag host.length cg, .int .i64 port] : List Value).toArray 35 (0, 0)) by rw [hwb]; exact heap_alloc_new w _)
 have HB0 := hid (show Below w.heap.size w wb by rw [hwb]; exact (Below.refl _ w).alloc (Nat.le_refl _) _)
 have HSZ := hid (show wb.heap.size = w.heap.size + 1 by rw [hwb]; simp)
 go_enter Tryz.func96, Tryz.ntmps96
 go_wp2_with fail
 rw [← hwb]
 generalize Value.agg #[.int .i64 11, .slice Aa name.length ca, .slice Ab text.length cb, .slice Ac display.length cc, u0, u1, .bool u.star, .bool u.slashes, u4, u5, u6, .int .i64 u.port, u8, u9, .slice Ap params.length cp, .int .u32 num, .slice Ad proto.length cd, .slice Ae version.length ce, .slice Af transport.length cf, .slice Ag host.length cg, .int .i64 port] = arg0
 clear hwb
 refine wp_region_grow 10 (CK wb.heap.size) (IW wb)
  (fun i v w' => match i with
   | 0 => v = .pointer (some ⟨w.heap.size, 3, none⟩)
   | 1 => v = .slice Ac display.length cc
   | 2 => v = .string (bs display)
   | 3 => v = .pointer (some ⟨w.heap.size, 4, none⟩)
   | 4 => v = .agg #[u0, u1, .bool u.star, .bool u.slashes, u4, u5, u6, .int .i64 u.port, u8, u9]
   | 5 => ∃ su, UVal w' v su ∧ (u.raw = [] → su = toS u)
   | 6 => v = .pointer (some ⟨w.heap.size, 14, none⟩)
   | 7 => v = .slice Ap params.length cp
   | 8 => PRep w' v (strKVs params)
   | 9 => ∃ k, wb.heap.size ≤ k ∧ v = .pointer (some ⟨k, 0, none⟩) ∧ w'.heap[k]? = some (.cells ([.string ⟨#[]⟩, .string ⟨#[]⟩, .bool false, .bool false, .string ⟨#[]⟩, .string ⟨#[]⟩, .string ⟨#[]⟩, .int .i64 0, .slice none 0 0, .slice none 0 0] : List Value).toArray 107 (0, 0))
   | _ => True)
  [[], [0], [1], [], [3], [4], [], [6], [7], []] rfl (by kernel_rfl) (by kernel_rfl) (fun _ _ => IW.step) ?_ ?_ ?_ ?_
 ·intro j hj v w'
  match j, hj with
  | j + 10, _ => trivial
 ·exact CK.of_below (Below.refl _ _).drew (Nat.le_refl _)
 ·simp only [List.take_succ_cons, List.take_zero, fillAll]
  have c3 := row_at HWB1.out 3 _ rfl
  have c4 := row_at HWB1.out 4 _ rfl
  have c5 := row_at HWB1.out 5 _ rfl
  have c6 := row_at HWB1.out 6 _ rfl
  have c7 := row_at HWB1.out 7 _ rfl
  have c8 := row_at HWB1.out 8 _ rfl
  have c9 := row_at HWB1.out 9 _ rfl
  have c10 := row_at HWB1.out 10 _ rfl
  have c11 := row_at HWB1.out 11 _ rfl
  have c12 := row_at HWB1.out 12 _ rfl
  have c13 := row_at HWB1.out 13 _ rfl
  have c14 := row_at HWB1.out 14 _ rfl
  refine ⟨⟨?_, ?_⟩, ⟨?_, ?_⟩, ⟨?_, ?_⟩, ⟨?_, ?_⟩, ⟨?_, ?_⟩, ⟨?_, ?_⟩, ⟨?_, ?_⟩, ⟨?_, ?_⟩, ⟨?_, ?_⟩, ⟨?_, ?_⟩, trivial⟩
  ·exact fun v w1 w2 h k => h
  ·intro vals w1 hI hd
   unfold GStep
   go_wp2
   exact CK.refl _ _
  ·exact fun v w1 w2 h k => h
  ·intro vals w1 hI hd
   have h1 : vals 0 = _ := hd.1
   have dc3 := hI.cell c3
   unfold GStep
   go_wp2
   exact CK.refl _ _
  ·exact fun v w1 w2 h k => h
  ·intro vals w1 hI hd
   have h1 : vals 1 = _ := hd.1
   have hcv := ((HX.out.2.2.1.below HB0.out).ck hI).conv 9 Tryz.underlying9
   unfold bs
   unfold GStep
   go_wp2
   exact CK.refl _ _
  ·exact fun v w1 w2 h k => h
  ·intro vals w1 hI hd
   unfold GStep
   go_wp2
   exact CK.refl _ _
  ·exact fun v w1 w2 h k => h
  ·intro vals w1 hI hd
   have h1 : vals 3 = _ := hd.1
   have dc4 := hI.cell c4
   have dc5 := hI.cell c5
   have dc6 := hI.cell c6
   have dc7 := hI.cell c7
   have dc8 := hI.cell c8
   have dc9 := hI.cell c9
   have dc10 := hI.cell c10
   have dc11 := hI.cell c11
   have dc12 := hI.cell c12
   have dc13 := hI.cell c13
   unfold GStep
   go_wp2
   exact CK.refl _ _
  ·rintro v w1 w2 ⟨su, ⟨vp, vh, h1, h2, h3⟩, h4⟩ k
   exact ⟨su, ⟨vp, vh, h1, h2.ck k, h3.ck k⟩, h4⟩
  ·intro vals w1 hI hd
   have h1 : vals 4 = _ := hd.1
   have HP := hid (address_any N u _ w1 ((HG.out.step HB0.out).below hI.below (HG.out.step HB0.out).le) ((HLU.out.below HB0.out).ck hI) HBD.out.uri)
   unfold GStep
   go_wp2_with (go_at_call 75; refine HP.out.mono ?_; rintro e w2 ⟨v2, su, rfl, hv, hsu, hb⟩)
   have hk := CK.of_below hb hI.size
   first | exact ⟨hk, su, hv, hsu⟩ | exact hk
  ·exact fun v w1 w2 h k => h
  ·intro vals w1 hI hd
   unfold GStep
   go_wp2
   exact CK.refl _ _
  ·exact fun v w1 w2 h k => h
  ·intro vals w1 hI hd
   have h1 : vals 6 = _ := hd.1
   have dc14 := hI.cell c14
   unfold GStep
   go_wp2
   exact CK.refl _ _
  ·exact fun v w1 w2 h k => h.ck k
  ·intro vals w1 hI hd
   have h1 : vals 7 = _ := hd.1
   have HP := hid (params_any _ params w1 ((HX.out.2.2.2.1.below HB0.out).ck hI) HBD.out.params)
   unfold GStep
   go_wp2_with (go_at_call 98; refine HP.out.mono ?_; rintro e w2 ⟨v2, rfl, hp, hb⟩)
   have hk := CK.of_below hb hI.size
   first | exact ⟨hk, hp⟩ | exact hk
  ·rintro v w1 w2 ⟨k, h1, h2, h3⟩ h
   exact ⟨k, h1, h2, h.same h3 (by decide)⟩
  ·intro vals w1 hI hd
   unfold GStep
   go_wp2
   first | exact ⟨CK.new hI.size _, _, hI.size, rfl, heap_alloc_new w1 _⟩ | exact ⟨CK.new hI.size _, hI.size, heap_alloc_new w1 _⟩
 ·intro vals w1 hI hR
  simp only [List.drop_succ_cons, List.drop_zero, List.take_succ_cons, List.take_zero, fillAll]
  obtain ⟨-, -, r2, -, -, r5, -, -, r8, r9, -⟩ := hR
  have e2 : vals 2 = _ := r2
  rw [e2]
  clear e2 r2
  generalize vals 5 = x5 at r5 ⊢
  generalize vals 8 = x8 at r8 ⊢
  generalize vals 9 = x9 at r9 ⊢
  obtain ⟨su, ⟨vp, vh, rfl, hvp, hvh⟩, hsu⟩ := r5
  obtain ⟨k, hk, rfl, hg9⟩ := r9
  have hpr : PRep w1 x8 (strKVs params) := r8
  obtain ⟨A8, c8, rfl⟩ := hpr.form
  have HVP := hid hvp
  have HVH := hid hvh
  have HPR := hid hpr
  have HSU := hid hsu
  have HK := hid (show w.heap.size < k by have := HSZ.out; omega)
  have HG9 := hid hg9
  have HB1 := hid ((hI.below.block w.heap.size (by have := HSZ.out; omega)).trans HWB1.out)
  have HBW := hid (HB0.out.trans (hI.below.mono (by have := HSZ.out; omega)))
  have HONE := hid (UVal.one (su := su) hvp hvh)
  clear r8 hvp hvh hpr hsu hk hg9 hI
  go_simp
  go_upto_region 2 with (refine wpList_store_blk (by rfl) 107 (.tmp 4) (.tmp 11) (by rfl) k 107 [.string ⟨#[]⟩, .string ⟨#[]⟩, .bool false, .bool false, .string ⟨#[]⟩, .string ⟨#[]⟩, .string ⟨#[]⟩, .int .i64 0, .slice none 0 0, .slice none 0 0] (uriV su vp vh) (by rfl) (by rfl) rfl HG9.out 10 suri_size rfl HONE.out ?_; intro W2 hst2)
  have HG2 := hid hst2.blk
  have HP2 := hid (HVP.out.stored hst2 HG9.out (by decide))
  have HH2 := hid (HVH.out.stored hst2 HG9.out (by decide))
  have HB2 := hid ((hst2.other w.heap.size (by have := HK.out; omega)).trans HB1.out)
  have HBW2 := hid (HBW.out.trans (hst2.below.mono (by have := HK.out; omega)))
  clear hst2
  have c0 := row_at HB2.out 0 _ rfl
  obtain rfl := HSU.out HR.out
  obtain ⟨Avp, cvp, rfl⟩ := HP2.out.form
  obtain ⟨Avh, cvh, rfl⟩ := HH2.out.form
  go_wp2_with (refine wpList_load_blk (by rfl) 107 (.tmp 4) (by rfl) k 107 (0, 0) [.string ⟨u.scheme.toArray⟩, .string ⟨#[]⟩, .bool u.star, .bool u.slashes, .string ⟨u.user.toArray⟩, .string ⟨u.pass.toArray⟩, .string ⟨u.host.toArray⟩, .int .i64 u.port, .slice Avp (strKVs u.params).length cvp, .slice Avh (strKVs u.hdrs).length cvh] (by rfl) HG2.out _ Tryz.underlying107 rfl 10 suri_size rfl ?_)
  go_ret
  have hbn := (Below.refl W2.heap.size W2).alloc (Nat.le_refl _) (.cells #[.string ⟨u.scheme.toArray⟩, .string ⟨#[]⟩, .bool u.star, .bool u.slashes, .string ⟨u.user.toArray⟩, .string ⟨u.pass.toArray⟩, .string ⟨u.host.toArray⟩, .int .i64 u.port, .slice Avp (strKVs u.params).length cvp, .slice Avh (strKVs u.hdrs).length cvh] 192)
  have hsz : w.heap.size ≤ W2.heap.size := HBW2.out.size
  exact ⟨W2.heap.size, rfl, ⟨_, ⟨heap_alloc_new W2 _, by decide, by decide⟩, rfl, rfl, rfl, rfl, rfl, rfl, rfl, rfl, _, _, rfl, rfl, HP2.out.below hbn, HH2.out.below hbn⟩, hsz, by simp, HBW2.out.trans (hbn.mono hsz)⟩
theorem impmade_12 (N : Nat) (name text display : Bytes) (u : LUri) (params : BKVs) (num : Int) (proto version transport host : Bytes) (port : Int) (cs : List Value) (w : World) (hG : Gl N w) (hB : HBd2 ⟨12, name, text, display, u, params, num, proto, version, transport, host, port⟩) (hH : LH w ⟨12, name, text, display, u, params, num, proto, version, transport, host, port⟩ cs) (hr : u.raw = []) : Calls Tryz.prog 96 #[.agg cs.toArray] w (NewH (.rroute (toS u)) w) := by
 obtain ⟨a, b, c, ul0, p, d, e, f, g, rfl, ha, hb, hc, hu, hp, hd, he, hf, hg, ht64, hnum, hport⟩ := hH
 have HLU := hid hu
 obtain ⟨u0, u1, u4, u5, u6, u8, u9, rfl, q0, q1, q4, q5, q6, q8, q9, q7⟩ := hu
 dsimp only at *
 simp only [List.cons_append, List.nil_append]
 have HX := hid (And.intro ha (And.intro hb (And.intro hc (And.intro hp (And.intro hd (And.intro he (And.intro hf hg)))))))
 have HG := hid hG
 have HBD := hid hB
 obtain ⟨Aa, ca, rfl, -⟩ := ha.form
 obtain ⟨Ab, cb, rfl, -⟩ := hb.form
 obtain ⟨Ac, cc, rfl, -⟩ := hc.form
 obtain ⟨Ap, cp, rfl, -⟩ := hp.form
 obtain ⟨Ad, cd, rfl, -⟩ := hd.form
 obtain ⟨Ae, ce, rfl, -⟩ := he.form
 obtain ⟨Af, cf, rfl, -⟩ := hf.form
 obtain ⟨Ag, cg, rfl, -⟩ := hg.form
 have HR := hid hr
 clear hr
 clear ha hb hc hp hd he hf hg ht64 hnum hport q0 q1 q4 q5 q6 q7 q8 q9 hG hB
 obtain ⟨wb, hwb⟩ : ∃ wb, wb = w.alloc (.cells #[.int .i64 12, .slice Aa name.length ca, .slice Ab text.length cb, .slice Ac display.length cc, u0, u1, .bool u.star, .bool u.slashes, u4, u5, u6, .int .i64 u.port, u8, u9, .slice Ap params.length cp, .int .u32 num, .slice Ad proto.length cd, .slice Ae version.length ce, .slice Af transport.length cf, .slice Ag host.length cg, .int .i64 port] 35) := ⟨_, rfl⟩
 have HWB1 := hid (show wb.heap[w.heap.size]? = some (.cells ([.int .i64 12, .slice Aa name.length ca, .slice Ab text.length cb, .slice Ac display.length cc, u0, u1, .bool u.star, .bool u.slashes, u4, u5, u6, .int .i64 u.port, u8, u9, .slice Ap params.length cp, .int .u32 num, .slice Ad proto.length cd, .slice Ae version.length ce, .slice Af transport.length cf, .slice Ag host.length cg, .int .i64 port] : List Value).toArray 35 (0, 0)) by rw [hwb]; exact heap_alloc_new w _)
 have HB0 := hid (show Below w.heap.size w wb by rw [hwb]; exact (Below.refl _ w).alloc (Nat.le_refl _) _)
 have HSZ := hid (show wb.heap.size = w.heap.size + 1 by rw [hwb]; simp)
 go_enter Tryz.func96, Tryz.ntmps96
 go_wp2_with fail
 rw [← hwb]
 generalize Value.agg #[.int .i64 12, .slice Aa name.length ca, .slice Ab text.length cb, .slice Ac display.length cc, u0, u1, .bool u.star, .bool u.slashes, u4, u5, u6, .int .i64 u.port, u8, u9, .slice Ap params.length cp, .int .u32 num, .slice Ad proto.length cd, .slice Ae version.length ce, .slice Af transport.length cf, .slice Ag host.length cg, .int .i64 port] = arg0
 clear hwb
 refine wp_region_grow 10 (CK wb.heap.size) (IW wb)
  (fun i v w' => match i with
   | 0 => v = .pointer (some ⟨w.heap.size, 3, none⟩)
   | 1 => v = .slice Ac display.length cc
   | 2 => v = .string (bs display)
   | 3 => v = .pointer (some ⟨w.heap.size, 4, none⟩)
   | 4 => v = .agg #[u0, u1, .bool u.star, .bool u.slashes, u4, u5, u6, .int .i64 u.port, u8, u9]
   | 5 => ∃ su, UVal w' v su ∧ (u.raw = [] → su = toS u)
   | 6 => v = .pointer (some ⟨w.heap.size, 14, none⟩)
   | 7 => v = .slice Ap params.length cp
   | 8 => PRep w' v (strKVs params)
   | 9 => ∃ k, wb.heap.size ≤ k ∧ v = .pointer (some ⟨k, 0, none⟩) ∧ w'.heap[k]? = some (.cells ([.string ⟨#[]⟩, .string ⟨#[]⟩, .bool false, .bool false, .string ⟨#[]⟩, .string ⟨#[]⟩, .string ⟨#[]⟩, .int .i64 0, .slice none 0 0, .slice none 0 0] : List Value).toArray 107 (0, 0))
   | _ => True)
  [[], [0], [1], [], [3], [4], [], [6], [7], []] rfl (by kernel_rfl) (by kernel_rfl) (fun _ _ => IW.step) ?_ ?_ ?_ ?_
 ·intro j hj v w'
  match j, hj with
  | j + 10, _ => trivial
 ·exact CK.of_below (Below.refl _ _).drew (Nat.le_refl _)
 ·simp only [List.take_succ_cons, List.take_zero, fillAll]
  have c3 := row_at HWB1.out 3 _ rfl
  have c4 := row_at HWB1.out 4 _ rfl
  have c5 := row_at HWB1.out 5 _ rfl
  have c6 := row_at HWB1.out 6 _ rfl
  have c7 := row_at HWB1.out 7 _ rfl
  have c8 := row_at HWB1.out 8 _ rfl
  have c9 := row_at HWB1.out 9 _ rfl
  have c10 := row_at HWB1.out 10 _ rfl
  have c11 := row_at HWB1.out 11 _ rfl
  have c12 := row_at HWB1.out 12 _ rfl
  have c13 := row_at HWB1.out 13 _ rfl
  have c14 := row_at HWB1.out 14 _ rfl
  refine ⟨⟨?_, ?_⟩, ⟨?_, ?_⟩, ⟨?_, ?_⟩, ⟨?_, ?_⟩, ⟨?_, ?_⟩, ⟨?_, ?_⟩, ⟨?_, ?_⟩, ⟨?_, ?_⟩, ⟨?_, ?_⟩, ⟨?_, ?_⟩, trivial⟩
  ·exact fun v w1 w2 h k => h
  ·intro vals w1 hI hd
   unfold GStep
   go_wp2
   exact CK.refl _ _
  ·exact fun v w1 w2 h k => h
  ·intro vals w1 hI hd
   have h1 : vals 0 = _ := hd.1
   have dc3 := hI.cell c3
   unfold GStep
   go_wp2
   exact CK.refl _ _
  ·exact fun v w1 w2 h k => h
  ·intro vals w1 hI hd
   have h1 : vals 1 = _ := hd.1
   have hcv := ((HX.out.2.2.1.below HB0.out).ck hI).conv 9 Tryz.underlying9
   unfold bs
   unfold GStep
   go_wp2
   exact CK.refl _ _
  ·exact fun v w1 w2 h k => h
  ·intro vals w1 hI hd
   unfold GStep
   go_wp2
   exact CK.refl _ _
  ·exact fun v w1 w2 h k => h
  ·intro vals w1 hI hd
   have h1 : vals 3 = _ := hd.1
   have dc4 := hI.cell c4
   have dc5 := hI.cell c5
   have dc6 := hI.cell c6
   have dc7 := hI.cell c7
   have dc8 := hI.cell c8
   have dc9 := hI.cell c9
   have dc10 := hI.cell c10
   have dc11 := hI.cell c11
   have dc12 := hI.cell c12
   have dc13 := hI.cell c13
   unfold GStep
   go_wp2
   exact CK.refl _ _
  ·rintro v w1 w2 ⟨su, ⟨vp, vh, h1, h2, h3⟩, h4⟩ k
   exact ⟨su, ⟨vp, vh, h1, h2.ck k, h3.ck k⟩, h4⟩
  ·intro vals w1 hI hd
   have h1 : vals 4 = _ := hd.1
   have HP := hid (address_any N u _ w1 ((HG.out.step HB0.out).below hI.below (HG.out.step HB0.out).le) ((HLU.out.below HB0.out).ck hI) HBD.out.uri)
   unfold GStep
   go_wp2_with (go_at_call 75; refine HP.out.mono ?_; rintro e w2 ⟨v2, su, rfl, hv, hsu, hb⟩)
   have hk := CK.of_below hb hI.size
   first | exact ⟨hk, su, hv, hsu⟩ | exact hk
  ·exact fun v w1 w2 h k => h
  ·intro vals w1 hI hd
   unfold GStep
   go_wp2
   exact CK.refl _ _
  ·exact fun v w1 w2 h k => h
  ·intro vals w1 hI hd
   have h1 : vals 6 = _ := hd.1
   have dc14 := hI.cell c14
   unfold GStep
   go_wp2
   exact CK.refl _ _
  ·exact fun v w1 w2 h k => h.ck k
  ·intro vals w1 hI hd
   have h1 : vals 7 = _ := hd.1
   have HP := hid (params_any _ params w1 ((HX.out.2.2.2.1.below HB0.out).ck hI) HBD.out.params)
   unfold GStep
   go_wp2_with (go_at_call 98; refine HP.out.mono ?_; rintro e w2 ⟨v2, rfl, hp, hb⟩)
   have hk := CK.of_below hb hI.size
   first | exact ⟨hk, hp⟩ | exact hk
  ·rintro v w1 w2 ⟨k, h1, h2, h3⟩ h
   exact ⟨k, h1, h2, h.same h3 (by decide)⟩
  ·intro vals w1 hI hd
   unfold GStep
   go_wp2
   first | exact ⟨CK.new hI.size _, _, hI.size, rfl, heap_alloc_new w1 _⟩ | exact ⟨CK.new hI.size _, hI.size, heap_alloc_new w1 _⟩
 ·intro vals w1 hI hR
  simp only [List.drop_succ_cons, List.drop_zero, List.take_succ_cons, List.take_zero, fillAll]
  obtain ⟨-, -, r2, -, -, r5, -, -, r8, r9, -⟩ := hR
  have e2 : vals 2 = _ := r2
  rw [e2]
  clear e2 r2
  generalize vals 5 = x5 at r5 ⊢
  generalize vals 8 = x8 at r8 ⊢
  generalize vals 9 = x9 at r9 ⊢
  obtain ⟨su, ⟨vp, vh, rfl, hvp, hvh⟩, hsu⟩ := r5
  obtain ⟨k, hk, rfl, hg9⟩ := r9
  have hpr : PRep w1 x8 (strKVs params) := r8
  obtain ⟨A8, c8, rfl⟩ := hpr.form
  have HVP := hid hvp
  have HVH := hid hvh
  have HPR := hid hpr
  have HSU := hid hsu
  have HK := hid (show w.heap.size < k by have := HSZ.out; omega)
  have HG9 := hid hg9
  have HB1 := hid ((hI.below.block w.heap.size (by have := HSZ.out; omega)).trans HWB1.out)
  have HBW := hid (HB0.out.trans (hI.below.mono (by have := HSZ.out; omega)))
  have HONE := hid (UVal.one (su := su) hvp hvh)
  clear r8 hvp hvh hpr hsu hk hg9 hI
  go_simp
  go_upto_region 2 with (refine wpList_store_blk (by rfl) 107 (.tmp 4) (.tmp 11) (by rfl) k 107 [.string ⟨#[]⟩, .string ⟨#[]⟩, .bool false, .bool false, .string ⟨#[]⟩, .string ⟨#[]⟩, .string ⟨#[]⟩, .int .i64 0, .slice none 0 0, .slice none 0 0] (uriV su vp vh) (by rfl) (by rfl) rfl HG9.out 10 suri_size rfl HONE.out ?_; intro W2 hst2)
  have HG2 := hid hst2.blk
  have HP2 := hid (HVP.out.stored hst2 HG9.out (by decide))
  have HH2 := hid (HVH.out.stored hst2 HG9.out (by decide))
  have HB2 := hid ((hst2.other w.heap.size (by have := HK.out; omega)).trans HB1.out)
  have HBW2 := hid (HBW.out.trans (hst2.below.mono (by have := HK.out; omega)))
  clear hst2
  have c0 := row_at HB2.out 0 _ rfl
  obtain rfl := HSU.out HR.out
  obtain ⟨Avp, cvp, rfl⟩ := HP2.out.form
  obtain ⟨Avh, cvh, rfl⟩ := HH2.out.form
  go_wp2_with (refine wpList_load_blk (by rfl) 107 (.tmp 4) (by rfl) k 107 (0, 0) [.string ⟨u.scheme.toArray⟩, .string ⟨#[]⟩, .bool u.star, .bool u.slashes, .string ⟨u.user.toArray⟩, .string ⟨u.pass.toArray⟩, .string ⟨u.host.toArray⟩, .int .i64 u.port, .slice Avp (strKVs u.params).length cvp, .slice Avh (strKVs u.hdrs).length cvh] (by rfl) HG2.out _ Tryz.underlying107 rfl 10 suri_size rfl ?_)
  go_ret
  have hbn := (Below.refl W2.heap.size W2).alloc (Nat.le_refl _) (.cells #[.string ⟨u.scheme.toArray⟩, .string ⟨#[]⟩, .bool u.star, .bool u.slashes, .string ⟨u.user.toArray⟩, .string ⟨u.pass.toArray⟩, .string ⟨u.host.toArray⟩, .int .i64 u.port, .slice Avp (strKVs u.params).length cvp, .slice Avh (strKVs u.hdrs).length cvh] 193)
  have hsz : w.heap.size ≤ W2.heap.size := HBW2.out.size
  exact ⟨W2.heap.size, rfl, ⟨_, ⟨heap_alloc_new W2 _, by decide, by decide⟩, rfl, rfl, rfl, rfl, rfl, rfl, rfl, rfl, _, _, rfl, rfl, HP2.out.below hbn, HH2.out.below hbn⟩, hsz, by simp, HBW2.out.trans (hbn.mono hsz)⟩
theorem impmade_13 (N : Nat) (name text display : Bytes) (u : LUri) (params : BKVs) (num : Int) (proto version transport host : Bytes) (port : Int) (cs : List Value) (w : World) (hG : Gl N w) (hB : HBd2 ⟨13, name, text, display, u, params, num, proto, version, transport, host, port⟩) (hH : LH w ⟨13, name, text, display, u, params, num, proto, version, transport, host, port⟩ cs) (hr : u.raw = []) : Calls Tryz.prog 96 #[.agg cs.toArray] w (NewH (.referto (toS u)) w) := by
 obtain ⟨a, b, c, ul0, p, d, e, f, g, rfl, ha, hb, hc, hu, hp, hd, he, hf, hg, ht64, hnum, hport⟩ := hH
 have HLU := hid hu
 obtain ⟨u0, u1, u4, u5, u6, u8, u9, rfl, q0, q1, q4, q5, q6, q8, q9, q7⟩ := hu
 dsimp only at *
 simp only [List.cons_append, List.nil_append]
 have HX := hid (And.intro ha (And.intro hb (And.intro hc (And.intro hp (And.intro hd (And.intro he (And.intro hf hg)))))))
 have HG := hid hG
 have HBD := hid hB
 obtain ⟨Aa, ca, rfl, -⟩ := ha.form
 obtain ⟨Ab, cb, rfl, -⟩ := hb.form
 obtain ⟨Ac, cc, rfl, -⟩ := hc.form
 obtain ⟨Ap, cp, rfl, -⟩ := hp.form
 obtain ⟨Ad, cd, rfl, -⟩ := hd.form
 obtain ⟨Ae, ce, rfl, -⟩ := he.form
 obtain ⟨Af, cf, rfl, -⟩ := hf.form
 obtain ⟨Ag, cg, rfl, -⟩ := hg.form
 have HR := hid hr
 clear hr
 clear ha hb hc hp hd he hf hg ht64 hnum hport q0 q1 q4 q5 q6 q7 q8 q9 hG hB
 obtain ⟨wb, hwb⟩ : ∃ wb, wb = w.alloc (.cells #[.int .i64 13, .slice Aa name.length ca, .slice Ab text.length cb, .slice Ac display.length cc, u0, u1, .bool u.star, .bool u.slashes, u4, u5, u6, .int .i64 u.port, u8, u9, .slice Ap params.length cp, .int .u32 num, .slice Ad proto.length cd, .slice Ae version.length ce, .slice Af transport.length cf, .slice Ag host.length cg, .int .i64 port] 35) := ⟨_, rfl⟩
 have HWB1 := hid (show wb.heap[w.heap.size]? = some (.cells ([.int .i64 13, .slice Aa name.length ca, .slice Ab text.length cb, .slice Ac display.length cc, u0, u1, .bool u.star, .bool u.slashes, u4, u5, u6, .int .i64 u.port, u8, u9, .slice Ap params.length cp, .int .u32 num, .slice Ad proto.length cd, .slice Ae version.length ce, .slice Af transport.length cf, .slice Ag host.length cg, .int .i64 port] : List Value).toArray 35 (0, 0)) by rw [hwb]; exact heap_alloc_new w _)
 have HB0 := hid (show Below w.heap.size w wb by rw [hwb]; exact (Below.refl _ w).alloc (Nat.le_refl _) _)
 have HSZ := hid (show wb.heap.size = w.heap.size + 1 by rw [hwb]; simp)
 go_enter Tryz.func96, Tryz.ntmps96
 go_wp2_with fail
 rw [← hwb]
 generalize Value.agg #[.int .i64 13, .slice Aa name.length ca, .slice Ab text.length cb, .slice Ac display.length cc, u0, u1, .bool u.star, .bool u.slashes, u4, u5, u6, .int .i64 u.port, u8, u9, .slice Ap params.length cp, .int .u32 num, .slice Ad proto.length cd, .slice Ae version.length ce, .slice Af transport.length cf, .slice Ag host.length cg, .int .i64 port] = arg0
 clear hwb
 refine wp_region_grow 10 (CK wb.heap.size) (IW wb)
  (fun i v w' => match i with
   | 0 => v = .pointer (some ⟨w.heap.size, 3, none⟩)
   | 1 => v = .slice Ac display.length cc
   | 2 => v = .string (bs display)
   | 3 => v = .pointer (some ⟨w.heap.size, 4, none⟩)
   | 4 => v = .agg #[u0, u1, .bool u.star, .bool u.slashes, u4, u5, u6, .int .i64 u.port, u8, u9]
   | 5 => ∃ su, UVal w' v su ∧ (u.raw = [] → su = toS u)
   | 6 => v = .pointer (some ⟨w.heap.size, 14, none⟩)
   | 7 => v = .slice Ap params.length cp
   | 8 => PRep w' v (strKVs params)
   | 9 => ∃ k, wb.heap.size ≤ k ∧ v = .pointer (some ⟨k, 0, none⟩) ∧ w'.heap[k]? = some (.cells ([.string ⟨#[]⟩, .string ⟨#[]⟩, .bool false, .bool false, .string ⟨#[]⟩, .string ⟨#[]⟩, .string ⟨#[]⟩, .int .i64 0, .slice none 0 0, .slice none 0 0] : List Value).toArray 107 (0, 0))
   | _ => True)
  [[], [0], [1], [], [3], [4], [], [6], [7], []] rfl (by kernel_rfl) (by kernel_rfl) (fun _ _ => IW.step) ?_ ?_ ?_ ?_
 ·intro j hj v w'
  match j, hj with
  | j + 10, _ => trivial
 ·exact CK.of_below (Below.refl _ _).drew (Nat.le_refl _)
 ·simp only [List.take_succ_cons, List.take_zero, fillAll]
  have c3 := row_at HWB1.out 3 _ rfl
  have c4 := row_at HWB1.out 4 _ rfl
  have c5 := row_at HWB1.out 5 _ rfl
  have c6 := row_at HWB1.out 6 _ rfl
  have c7 := row_at HWB1.out 7 _ rfl
  have c8 := row_at HWB1.out 8 _ rfl
  have c9 := row_at HWB1.out 9 _ rfl
  have c10 := row_at HWB1.out 10 _ rfl
  have c11 := row_at HWB1.out 11 _ rfl
  have c12 := row_at HWB1.out 12 _ rfl
  have c13 := row_at HWB1.out 13 _ rfl
  have c14 := row_at HWB1.out 14 _ rfl
  refine ⟨⟨?_, ?_⟩, ⟨?_, ?_⟩, ⟨?_, ?_⟩, ⟨?_, ?_⟩, ⟨?_, ?_⟩, ⟨?_, ?_⟩, ⟨?_, ?_⟩, ⟨?_, ?_⟩, ⟨?_, ?_⟩, ⟨?_, ?_⟩, trivial⟩
  ·exact fun v w1 w2 h k => h
  ·intro vals w1 hI hd
   unfold GStep
   go_wp2
   exact CK.refl _ _
  ·exact fun v w1 w2 h k => h
  ·intro vals w1 hI hd
   have h1 : vals 0 = _ := hd.1
   have dc3 := hI.cell c3
   unfold GStep
   go_wp2
   exact CK.refl _ _
  ·exact fun v w1 w2 h k => h
  ·intro vals w1 hI hd
   have h1 : vals 1 = _ := hd.1
   have hcv := ((HX.out.2.2.1.below HB0.out).ck hI).conv 9 Tryz.underlying9
   unfold bs
   unfold GStep
   go_wp2
   exact CK.refl _ _
  ·exact fun v w1 w2 h k => h
  ·intro vals w1 hI hd
   unfold GStep
   go_wp2
   exact CK.refl _ _
  ·exact fun v w1 w2 h k => h
  ·intro vals w1 hI hd
   have h1 : vals 3 = _ := hd.1
   have dc4 := hI.cell c4
   have dc5 := hI.cell c5
   have dc6 := hI.cell c6
   have dc7 := hI.cell c7
   have dc8 := hI.cell c8
   have dc9 := hI.cell c9
   have dc10 := hI.cell c10
   have dc11 := hI.cell c11
   have dc12 := hI.cell c12
   have dc13 := hI.cell c13
   unfold GStep
   go_wp2
   exact CK.refl _ _
  ·rintro v w1 w2 ⟨su, ⟨vp, vh, h1, h2, h3⟩, h4⟩ k
   exact ⟨su, ⟨vp, vh, h1, h2.ck k, h3.ck k⟩, h4⟩
  ·intro vals w1 hI hd
   have h1 : vals 4 = _ := hd.1
   have HP := hid (address_any N u _ w1 ((HG.out.step HB0.out).below hI.below (HG.out.step HB0.out).le) ((HLU.out.below HB0.out).ck hI) HBD.out.uri)
   unfold GStep
   go_wp2_with (go_at_call 75; refine HP.out.mono ?_; rintro e w2 ⟨v2, su, rfl, hv, hsu, hb⟩)
   have hk := CK.of_below hb hI.size
   first | exact ⟨hk, su, hv, hsu⟩ | exact hk
  ·exact fun v w1 w2 h k => h
  ·intro vals w1 hI hd
   unfold GStep
   go_wp2
   exact CK.refl _ _
  ·exact fun v w1 w2 h k => h
  ·intro vals w1 hI hd
   have h1 : vals 6 = _ := hd.1
   have dc14 := hI.cell c14
   unfold GStep
   go_wp2
   exact CK.refl _ _
  ·exact fun v w1 w2 h k => h.ck k
  ·intro vals w1 hI hd
   have h1 : vals 7 = _ := hd.1
   have HP := hid (params_any _ params w1 ((HX.out.2.2.2.1.below HB0.out).ck hI) HBD.out.params)
   unfold GStep
   go_wp2_with (go_at_call 98; refine HP.out.mono ?_; rintro e w2 ⟨v2, rfl, hp, hb⟩)
   have hk := CK.of_below hb hI.size
   first | exact ⟨hk, hp⟩ | exact hk
  ·rintro v w1 w2 ⟨k, h1, h2, h3⟩ h
   exact ⟨k, h1, h2, h.same h3 (by decide)⟩
  ·intro vals w1 hI hd
   unfold GStep
   go_wp2
   first | exact ⟨CK.new hI.size _, _, hI.size, rfl, heap_alloc_new w1 _⟩ | exact ⟨CK.new hI.size _, hI.size, heap_alloc_new w1 _⟩
 ·intro vals w1 hI hR
  simp only [List.drop_succ_cons, List.drop_zero, List.take_succ_cons, List.take_zero, fillAll]
  obtain ⟨-, -, r2, -, -, r5, -, -, r8, r9, -⟩ := hR
  have e2 : vals 2 = _ := r2
  rw [e2]
  clear e2 r2
  generalize vals 5 = x5 at r5 ⊢
  generalize vals 8 = x8 at r8 ⊢
  generalize vals 9 = x9 at r9 ⊢
  obtain ⟨su, ⟨vp, vh, rfl, hvp, hvh⟩, hsu⟩ := r5
  obtain ⟨k, hk, rfl, hg9⟩ := r9
  have hpr : PRep w1 x8 (strKVs params) := r8
  obtain ⟨A8, c8, rfl⟩ := hpr.form
  have HVP := hid hvp
  have HVH := hid hvh
  have HPR := hid hpr
  have HSU := hid hsu
  have HK := hid (show w.heap.size < k by have := HSZ.out; omega)
  have HG9 := hid hg9
  have HB1 := hid ((hI.below.block w.heap.size (by have := HSZ.out; omega)).trans HWB1.out)
  have HBW := hid (HB0.out.trans (hI.below.mono (by have := HSZ.out; omega)))
  have HONE := hid (UVal.one (su := su) hvp hvh)
  clear r8 hvp hvh hpr hsu hk hg9 hI
  go_simp
  go_upto_region 2 with (refine wpList_store_blk (by rfl) 107 (.tmp 4) (.tmp 11) (by rfl) k 107 [.string ⟨#[]⟩, .string ⟨#[]⟩, .bool false, .bool false, .string ⟨#[]⟩, .string ⟨#[]⟩, .string ⟨#[]⟩, .int .i64 0, .slice none 0 0, .slice none 0 0] (uriV su vp vh) (by rfl) (by rfl) rfl HG9.out 10 suri_size rfl HONE.out ?_; intro W2 hst2)
  have HG2 := hid hst2.blk
  have HP2 := hid (HVP.out.stored hst2 HG9.out (by decide))
  have HH2 := hid (HVH.out.stored hst2 HG9.out (by decide))
  have HB2 := hid ((hst2.other w.heap.size (by have := HK.out; omega)).trans HB1.out)
  have HBW2 := hid (HBW.out.trans (hst2.below.mono (by have := HK.out; omega)))
  clear hst2
  have c0 := row_at HB2.out 0 _ rfl
  obtain rfl := HSU.out HR.out
  obtain ⟨Avp, cvp, rfl⟩ := HP2.out.form
  obtain ⟨Avh, cvh, rfl⟩ := HH2.out.form
  go_wp2_with (refine wpList_load_blk (by rfl) 107 (.tmp 4) (by rfl) k 107 (0, 0) [.string ⟨u.scheme.toArray⟩, .string ⟨#[]⟩, .bool u.star, .bool u.slashes, .string ⟨u.user.toArray⟩, .string ⟨u.pass.toArray⟩, .string ⟨u.host.toArray⟩, .int .i64 u.port, .slice Avp (strKVs u.params).length cvp, .slice Avh (strKVs u.hdrs).length cvh] (by rfl) HG2.out _ Tryz.underlying107 rfl 10 suri_size rfl ?_)
  go_ret
  have hbn := (Below.refl W2.heap.size W2).alloc (Nat.le_refl _) (.cells #[.string ⟨u.scheme.toArray⟩, .string ⟨#[]⟩, .bool u.star, .bool u.slashes, .string ⟨u.user.toArray⟩, .string ⟨u.pass.toArray⟩, .string ⟨u.host.toArray⟩, .int .i64 u.port, .slice Avp (strKVs u.params).length cvp, .slice Avh (strKVs u.hdrs).length cvh] 195)
  have hsz : w.heap.size ≤ W2.heap.size := HBW2.out.size
  exact ⟨W2.heap.size, rfl, ⟨_, ⟨heap_alloc_new W2 _, by decide, by decide⟩, rfl, rfl, rfl, rfl, rfl, rfl, rfl, rfl, _, _, rfl, rfl, HP2.out.below hbn, HH2.out.below hbn⟩, hsz, by simp, HBW2.out.trans (hbn.mono hsz)⟩
theorem impmade_14 (N : Nat) (name text display : Bytes) (u : LUri) (params : BKVs) (num : Int) (proto version transport host : Bytes) (port : Int) (cs : List Value) (w : World) (hG : Gl N w) (hB : HBd2 ⟨14, name, text, display, u, params, num, proto, version, transport, host, port⟩) (hH : LH w ⟨14, name, text, display, u, params, num, proto, version, transport, host, port⟩ cs) (hr : u.raw = []) : Calls Tryz.prog 96 #[.agg cs.toArray] w (NewH (.refby (bs display) (toS u) (strKVs params)) w) := by
 obtain ⟨a, b, c, ul0, p, d, e, f, g, rfl, ha, hb, hc, hu, hp, hd, he, hf, hg, ht64, hnum, hport⟩ := hH
 have HLU := hid hu
 obtain ⟨u0, u1, u4, u5, u6, u8, u9, rfl, q0, q1, q4, q5, q6, q8, q9, q7⟩ := hu
 dsimp only at *
 simp only [List.cons_append, List.nil_append]
 have HX := hid (And.intro ha (And.intro hb (And.intro hc (And.intro hp (And.intro hd (And.intro he (And.intro hf hg)))))))
 have HG := hid hG
 have HBD := hid hB
 obtain ⟨Aa, ca, rfl, -⟩ := ha.form
 obtain ⟨Ab, cb, rfl, -⟩ := hb.form
 obtain ⟨Ac, cc, rfl, -⟩ := hc.form
 obtain ⟨Ap, cp, rfl, -⟩ := hp.form
 obtain ⟨Ad, cd, rfl, -⟩ := hd.form
 obtain ⟨Ae, ce, rfl, -⟩ := he.form
 obtain ⟨Af, cf, rfl, -⟩ := hf.form
 obtain ⟨Ag, cg, rfl, -⟩ := hg.form
 have HR := hid hr
 clear hr
 clear ha hb hc hp hd he hf hg ht64 hnum hport q0 q1 q4 q5 q6 q7 q8 q9 hG hB
 obtain ⟨wb, hwb⟩ : ∃ wb, wb = w.alloc (.cells #[.int .i64 14, .slice Aa name.length ca, .slice Ab text.length cb, .slice Ac display.length cc, u0, u1, .bool u.star, .bool u.slashes, u4, u5, u6, .int .i64 u.port, u8, u9, .slice Ap params.length cp, .int .u32 num, .slice Ad proto.length cd, .slice Ae version.length ce, .slice Af transport.length cf, .slice Ag host.length cg, .int .i64 port] 35) := ⟨_, rfl⟩
 have HWB1 := hid (show wb.heap[w.heap.size]? = some (.cells ([.int .i64 14, .slice Aa name.length ca, .slice Ab text.length cb, .slice Ac display.length cc, u0, u1, .bool u.star, .bool u.slashes, u4, u5, u6, .int .i64 u.port, u8, u9, .slice Ap params.length cp, .int .u32 num, .slice Ad proto.length cd, .slice Ae version.length ce, .slice Af transport.length cf, .slice Ag host.length cg, .int .i64 port] : List Value).toArray 35 (0, 0)) by rw [hwb]; exact heap_alloc_new w _)
 have HB0 := hid (show Below w.heap.size w wb by rw [hwb]; exact (Below.refl _ w).alloc (Nat.le_refl _) _)
 have HSZ := hid (show wb.heap.size = w.heap.size + 1 by rw [hwb]; simp)
 go_enter Tryz.func96, Tryz.ntmps96
 go_wp2_with fail
 rw [← hwb]
 generalize Value.agg #[.int .i64 14, .slice Aa name.length ca, .slice Ab text.length cb, .slice Ac display.length cc, u0, u1, .bool u.star, .bool u.slashes, u4, u5, u6, .int .i64 u.port, u8, u9, .slice Ap params.length cp, .int .u32 num, .slice Ad proto.length cd, .slice Ae version.length ce, .slice Af transport.length cf, .slice Ag host.length cg, .int .i64 port] = arg0
 clear hwb
 refine wp_region_grow 10 (CK wb.heap.size) (IW wb)
  (fun i v w' => match i with
   | 0 => v = .pointer (some ⟨w.heap.size, 3, none⟩)
   | 1 => v = .slice Ac display.length cc
   | 2 => v = .string (bs display)
   | 3 => v = .pointer (some ⟨w.heap.size, 4, none⟩)
   | 4 => v = .agg #[u0, u1, .bool u.star, .bool u.slashes, u4, u5, u6, .int .i64 u.port, u8, u9]
   | 5 => ∃ su, UVal w' v su ∧ (u.raw = [] → su = toS u)
   | 6 => v = .pointer (some ⟨w.heap.size, 14, none⟩)
   | 7 => v = .slice Ap params.length cp
   | 8 => PRep w' v (strKVs params)
   | 9 => ∃ k, wb.heap.size ≤ k ∧ v = .pointer (some ⟨k, 0, none⟩) ∧ w'.heap[k]? = some (.cells ([.string ⟨#[]⟩, .string ⟨#[]⟩, .bool false, .bool false, .string ⟨#[]⟩, .string ⟨#[]⟩, .string ⟨#[]⟩, .int .i64 0, .slice none 0 0, .slice none 0 0] : List Value).toArray 107 (0, 0))
   | _ => True)
  [[], [0], [1], [], [3], [4], [], [6], [7], []] rfl (by kernel_rfl) (by kernel_rfl) (fun _ _ => IW.step) ?_ ?_ ?_ ?_
 ·intro j hj v w'
  match j, hj with
  | j + 10, _ => trivial
 ·exact CK.of_below (Below.refl _ _).drew (Nat.le_refl _)
 ·simp only [List.take_succ_cons, List.take_zero, fillAll]
  have c3 := row_at HWB1.out 3 _ rfl
  have c4 := row_at HWB1.out 4 _ rfl
  have c5 := row_at HWB1.out 5 _ rfl
  have c6 := row_at HWB1.out 6 _ rfl
  have c7 := row_at HWB1.out 7 _ rfl
  have c8 := row_at HWB1.out 8 _ rfl
  have c9 := row_at HWB1.out 9 _ rfl
  have c10 := row_at HWB1.out 10 _ rfl
  have c11 := row_at HWB1.out 11 _ rfl
  have c12 := row_at HWB1.out 12 _ rfl
  have c13 := row_at HWB1.out 13 _ rfl
  have c14 := row_at HWB1.out 14 _ rfl
  refine ⟨⟨?_, ?_⟩, ⟨?_, ?_⟩, ⟨?_, ?_⟩, ⟨?_, ?_⟩, ⟨?_, ?_⟩, ⟨?_, ?_⟩, ⟨?_, ?_⟩, ⟨?_, ?_⟩, ⟨?_, ?_⟩, ⟨?_, ?_⟩, trivial⟩
  ·exact fun v w1 w2 h k => h
  ·intro vals w1 hI hd
   unfold GStep
   go_wp2
   exact CK.refl _ _
  ·exact fun v w1 w2 h k => h
  ·intro vals w1 hI hd
   have h1 : vals 0 = _ := hd.1
   have dc3 := hI.cell c3
   unfold GStep
   go_wp2
   exact CK.refl _ _
  ·exact fun v w1 w2 h k => h
  ·intro vals w1 hI hd
   have h1 : vals 1 = _ := hd.1
   have hcv := ((HX.out.2.2.1.below HB0.out).ck hI).conv 9 Tryz.underlying9
   unfold bs
   unfold GStep
   go_wp2
   exact CK.refl _ _
  ·exact fun v w1 w2 h k => h
  ·intro vals w1 hI hd
   unfold GStep
   go_wp2
   exact CK.refl _ _
  ·exact fun v w1 w2 h k => h
  ·intro vals w1 hI hd
   have h1 : vals 3 = _ := hd.1
   have dc4 := hI.cell c4
   have dc5 := hI.cell c5
   have dc6 := hI.cell c6
   have dc7 := hI.cell c7
   have dc8 := hI.cell c8
   have dc9 := hI.cell c9
   have dc10 := hI.cell c10
   have dc11 := hI.cell c11
   have dc12 := hI.cell c12
   have dc13 := hI.cell c13
   unfold GStep
   go_wp2
   exact CK.refl _ _
  ·rintro v w1 w2 ⟨su, ⟨vp, vh, h1, h2, h3⟩, h4⟩ k
   exact ⟨su, ⟨vp, vh, h1, h2.ck k, h3.ck k⟩, h4⟩
  ·intro vals w1 hI hd
   have h1 : vals 4 = _ := hd.1
   have HP := hid (address_any N u _ w1 ((HG.out.step HB0.out).below hI.below (HG.out.step HB0.out).le) ((HLU.out.below HB0.out).ck hI) HBD.out.uri)
   unfold GStep
   go_wp2_with (go_at_call 75; refine HP.out.mono ?_; rintro e w2 ⟨v2, su, rfl, hv, hsu, hb⟩)
   have hk := CK.of_below hb hI.size
   first | exact ⟨hk, su, hv, hsu⟩ | exact hk
  ·exact fun v w1 w2 h k => h
  ·intro vals w1 hI hd
   unfold GStep
   go_wp2
   exact CK.refl _ _
  ·exact fun v w1 w2 h k => h
  ·intro vals w1 hI hd
   have h1 : vals 6 = _ := hd.1
   have dc14 := hI.cell c14
   unfold GStep
   go_wp2
   exact CK.refl _ _
  ·exact fun v w1 w2 h k => h.ck k
  ·intro vals w1 hI hd
   have h1 : vals 7 = _ := hd.1
   have HP := hid (params_any _ params w1 ((HX.out.2.2.2.1.below HB0.out).ck hI) HBD.out.params)
   unfold GStep
   go_wp2_with (go_at_call 98; refine HP.out.mono ?_; rintro e w2 ⟨v2, rfl, hp, hb⟩)
   have hk := CK.of_below hb hI.size
   first | exact ⟨hk, hp⟩ | exact hk
  ·rintro v w1 w2 ⟨k, h1, h2, h3⟩ h
   exact ⟨k, h1, h2, h.same h3 (by decide)⟩
  ·intro vals w1 hI hd
   unfold GStep
   go_wp2
   first | exact ⟨CK.new hI.size _, _, hI.size, rfl, heap_alloc_new w1 _⟩ | exact ⟨CK.new hI.size _, hI.size, heap_alloc_new w1 _⟩
 ·intro vals w1 hI hR
  simp only [List.drop_succ_cons, List.drop_zero, List.take_succ_cons, List.take_zero, fillAll]
  obtain ⟨-, -, r2, -, -, r5, -, -, r8, r9, -⟩ := hR
  have e2 : vals 2 = _ := r2
  rw [e2]
  clear e2 r2
  generalize vals 5 = x5 at r5 ⊢
  generalize vals 8 = x8 at r8 ⊢
  generalize vals 9 = x9 at r9 ⊢
  obtain ⟨su, ⟨vp, vh, rfl, hvp, hvh⟩, hsu⟩ := r5
  obtain ⟨k, hk, rfl, hg9⟩ := r9
  have hpr : PRep w1 x8 (strKVs params) := r8
  obtain ⟨A8, c8, rfl⟩ := hpr.form
  have HVP := hid hvp
  have HVH := hid hvh
  have HPR := hid hpr
  have HSU := hid hsu
  have HK := hid (show w.heap.size < k by have := HSZ.out; omega)
  have HG9 := hid hg9
  have HB1 := hid ((hI.below.block w.heap.size (by have := HSZ.out; omega)).trans HWB1.out)
  have HBW := hid (HB0.out.trans (hI.below.mono (by have := HSZ.out; omega)))
  have HONE := hid (UVal.one (su := su) hvp hvh)
  clear r8 hvp hvh hpr hsu hk hg9 hI
  go_simp
  go_upto_region 2 with (refine wpList_store_blk (by rfl) 107 (.tmp 4) (.tmp 11) (by rfl) k 107 [.string ⟨#[]⟩, .string ⟨#[]⟩, .bool false, .bool false, .string ⟨#[]⟩, .string ⟨#[]⟩, .string ⟨#[]⟩, .int .i64 0, .slice none 0 0, .slice none 0 0] (uriV su vp vh) (by rfl) (by rfl) rfl HG9.out 10 suri_size rfl HONE.out ?_; intro W2 hst2)
  have HG2 := hid hst2.blk
  have HP2 := hid (HVP.out.stored hst2 HG9.out (by decide))
  have HH2 := hid (HVH.out.stored hst2 HG9.out (by decide))
  have HR2 := hid (HPR.out.stored hst2 HG9.out (by decide))
  have HB2 := hid ((hst2.other w.heap.size (by have := HK.out; omega)).trans HB1.out)
  have HBW2 := hid (HBW.out.trans (hst2.below.mono (by have := HK.out; omega)))
  clear hst2
  have c0 := row_at HB2.out 0 _ rfl
  obtain rfl := HSU.out HR.out
  obtain ⟨Avp, cvp, rfl⟩ := HP2.out.form
  obtain ⟨Avh, cvh, rfl⟩ := HH2.out.form
  go_wp2_with (refine wpList_load_blk (by rfl) 107 (.tmp 4) (by rfl) k 107 (0, 0) [.string ⟨u.scheme.toArray⟩, .string ⟨#[]⟩, .bool u.star, .bool u.slashes, .string ⟨u.user.toArray⟩, .string ⟨u.pass.toArray⟩, .string ⟨u.host.toArray⟩, .int .i64 u.port, .slice Avp (strKVs u.params).length cvp, .slice Avh (strKVs u.hdrs).length cvh] (by rfl) HG2.out _ Tryz.underlying107 rfl 10 suri_size rfl ?_)
  go_ret
  have hbn := (Below.refl W2.heap.size W2).alloc (Nat.le_refl _) (.cells #[.string (bs display), .string ⟨u.scheme.toArray⟩, .string ⟨#[]⟩, .bool u.star, .bool u.slashes, .string ⟨u.user.toArray⟩, .string ⟨u.pass.toArray⟩, .string ⟨u.host.toArray⟩, .int .i64 u.port, .slice Avp (strKVs u.params).length cvp, .slice Avh (strKVs u.hdrs).length cvh, .slice A8 (strKVs params).length c8] 197)
  have hsz : w.heap.size ≤ W2.heap.size := HBW2.out.size
  exact ⟨W2.heap.size, rfl, ⟨_, ⟨heap_alloc_new W2 _, by decide, by decide⟩, rfl, ⟨rfl, rfl, rfl, rfl, rfl, rfl, rfl, rfl, _, _, rfl, rfl, HP2.out.below hbn, HH2.out.below hbn⟩, _, rfl, HR2.out.below hbn⟩, hsz, by simp, HBW2.out.trans (hbn.mono hsz)⟩
theorem impmade_x (N : Nat) (t : Int) (name text display : Bytes) (u : LUri) (params : BKVs) (num : Int) (proto version transport host : Bytes) (port : Int) (cs : List Value) (w : World) (hG : Gl N w) (ht : ∀ k ∈ ([1, 2, 3, 9, 11, 12, 13, 14] : List Int), t ≠ k) (hB : HBd2 ⟨t, name, text, display, u, params, num, proto, version, transport, host, port⟩) (hH : LH w ⟨t, name, text, display, u, params, num, proto, version, transport, host, port⟩ cs) : Calls Tryz.prog 96 #[.agg cs.toArray] w (fun e w' => e = .returned .nilIface ∧ Below w.heap.size w w') := by
 obtain ⟨a, b, c, ul0, p, d, e, f, g, rfl, ha, hb, hc, hu, hp, hd, he, hf, hg, ht64, hnum, hport⟩ := hH
 have HLU := hid hu
 obtain ⟨u0, u1, u4, u5, u6, u8, u9, rfl, q0, q1, q4, q5, q6, q8, q9, q7⟩ := hu
 dsimp only at *
 simp only [List.cons_append, List.nil_append]
 have HX := hid (And.intro ha (And.intro hb (And.intro hc (And.intro hp (And.intro hd (And.intro he (And.intro hf hg)))))))
 have HG := hid hG
 have HBD := hid hB
 obtain ⟨Aa, ca, rfl, -⟩ := ha.form
 obtain ⟨Ab, cb, rfl, -⟩ := hb.form
 obtain ⟨Ac, cc, rfl, -⟩ := hc.form
 obtain ⟨Ap, cp, rfl, -⟩ := hp.form
 obtain ⟨Ad, cd, rfl, -⟩ := hd.form
 obtain ⟨Ae, ce, rfl, -⟩ := he.form
 obtain ⟨Af, cf, rfl, -⟩ := hf.form
 obtain ⟨Ag, cg, rfl, -⟩ := hg.form
 skip
 clear ha hb hc hp hd he hf hg ht64 hnum hport q0 q1 q4 q5 q6 q7 q8 q9 hG hB
 obtain ⟨wb, hwb⟩ : ∃ wb, wb = w.alloc (.cells #[.int .i64 t, .slice Aa name.length ca, .slice Ab text.length cb, .slice Ac display.length cc, u0, u1, .bool u.star, .bool u.slashes, u4, u5, u6, .int .i64 u.port, u8, u9, .slice Ap params.length cp, .int .u32 num, .slice Ad proto.length cd, .slice Ae version.length ce, .slice Af transport.length cf, .slice Ag host.length cg, .int .i64 port] 35) := ⟨_, rfl⟩
 have HWB1 := hid (show wb.heap[w.heap.size]? = some (.cells ([.int .i64 t, .slice Aa name.length ca, .slice Ab text.length cb, .slice Ac display.length cc, u0, u1, .bool u.star, .bool u.slashes, u4, u5, u6, .int .i64 u.port, u8, u9, .slice Ap params.length cp, .int .u32 num, .slice Ad proto.length cd, .slice Ae version.length ce, .slice Af transport.length cf, .slice Ag host.length cg, .int .i64 port] : List Value).toArray 35 (0, 0)) by rw [hwb]; exact heap_alloc_new w _)
 have HB0 := hid (show Below w.heap.size w wb by rw [hwb]; exact (Below.refl _ w).alloc (Nat.le_refl _) _)
 have HSZ := hid (show wb.heap.size = w.heap.size + 1 by rw [hwb]; simp)
 have n1 : ((t : Int) == 1) = false := by simpa using ht 1 (by simp)
 have n2 : ((t : Int) == 2) = false := by simpa using ht 2 (by simp)
 have n3 : ((t : Int) == 3) = false := by simpa using ht 3 (by simp)
 have n9 : ((t : Int) == 9) = false := by simpa using ht 9 (by simp)
 have n11 : ((t : Int) == 11) = false := by simpa using ht 11 (by simp)
 have n12 : ((t : Int) == 12) = false := by simpa using ht 12 (by simp)
 have n13 : ((t : Int) == 13) = false := by simpa using ht 13 (by simp)
 have n14 : ((t : Int) == 14) = false := by simpa using ht 14 (by simp)
 clear ht
 go_enter Tryz.func96, Tryz.ntmps96
 go_wp2_with fail
 rw [← hwb]
 generalize Value.agg #[.int .i64 t, .slice Aa name.length ca, .slice Ab text.length cb, .slice Ac display.length cc, u0, u1, .bool u.star, .bool u.slashes, u4, u5, u6, .int .i64 u.port, u8, u9, .slice Ap params.length cp, .int .u32 num, .slice Ad proto.length cd, .slice Ae version.length ce, .slice Af transport.length cf, .slice Ag host.length cg, .int .i64 port] = arg0
 clear hwb
 refine wp_region_grow 10 (CK wb.heap.size) (IW wb)
  (fun i v w' => match i with
   | 0 => v = .pointer (some ⟨w.heap.size, 3, none⟩)
   | 1 => v = .slice Ac display.length cc
   | 2 => v = .string (bs display)
   | 3 => v = .pointer (some ⟨w.heap.size, 4, none⟩)
   | 4 => v = .agg #[u0, u1, .bool u.star, .bool u.slashes, u4, u5, u6, .int .i64 u.port, u8, u9]
   | 5 => ∃ su, UVal w' v su ∧ (u.raw = [] → su = toS u)
   | 6 => v = .pointer (some ⟨w.heap.size, 14, none⟩)
   | 7 => v = .slice Ap params.length cp
   | 8 => PRep w' v (strKVs params)
   | 9 => ∃ k, wb.heap.size ≤ k ∧ v = .pointer (some ⟨k, 0, none⟩) ∧ w'.heap[k]? = some (.cells ([.string ⟨#[]⟩, .string ⟨#[]⟩, .bool false, .bool false, .string ⟨#[]⟩, .string ⟨#[]⟩, .string ⟨#[]⟩, .int .i64 0, .slice none 0 0, .slice none 0 0] : List Value).toArray 107 (0, 0))
   | _ => True)
  [[], [0], [1], [], [3], [4], [], [6], [7], []] rfl (by kernel_rfl) (by kernel_rfl) (fun _ _ => IW.step) ?_ ?_ ?_ ?_
 ·intro j hj v w'
  match j, hj with
  | j + 10, _ => trivial
 ·exact CK.of_below (Below.refl _ _).drew (Nat.le_refl _)
 ·simp only [List.take_succ_cons, List.take_zero, fillAll]
  have c3 := row_at HWB1.out 3 _ rfl
  have c4 := row_at HWB1.out 4 _ rfl
  have c5 := row_at HWB1.out 5 _ rfl
  have c6 := row_at HWB1.out 6 _ rfl
  have c7 := row_at HWB1.out 7 _ rfl
  have c8 := row_at HWB1.out 8 _ rfl
  have c9 := row_at HWB1.out 9 _ rfl
  have c10 := row_at HWB1.out 10 _ rfl
  have c11 := row_at HWB1.out 11 _ rfl
  have c12 := row_at HWB1.out 12 _ rfl
  have c13 := row_at HWB1.out 13 _ rfl
  have c14 := row_at HWB1.out 14 _ rfl
  refine ⟨⟨?_, ?_⟩, ⟨?_, ?_⟩, ⟨?_, ?_⟩, ⟨?_, ?_⟩, ⟨?_, ?_⟩, ⟨?_, ?_⟩, ⟨?_, ?_⟩, ⟨?_, ?_⟩, ⟨?_, ?_⟩, ⟨?_, ?_⟩, trivial⟩
  ·exact fun v w1 w2 h k => h
  ·intro vals w1 hI hd
   unfold GStep
   go_wp2
   exact CK.refl _ _
  ·exact fun v w1 w2 h k => h
  ·intro vals w1 hI hd
   have h1 : vals 0 = _ := hd.1
   have dc3 := hI.cell c3
   unfold GStep
   go_wp2
   exact CK.refl _ _
  ·exact fun v w1 w2 h k => h
  ·intro vals w1 hI hd
   have h1 : vals 1 = _ := hd.1
   have hcv := ((HX.out.2.2.1.below HB0.out).ck hI).conv 9 Tryz.underlying9
   unfold bs
   unfold GStep
   go_wp2
   exact CK.refl _ _
  ·exact fun v w1 w2 h k => h
  ·intro vals w1 hI hd
   unfold GStep
   go_wp2
   exact CK.refl _ _
  ·exact fun v w1 w2 h k => h
  ·intro vals w1 hI hd
   have h1 : vals 3 = _ := hd.1
   have dc4 := hI.cell c4
   have dc5 := hI.cell c5
   have dc6 := hI.cell c6
   have dc7 := hI.cell c7
   have dc8 := hI.cell c8
   have dc9 := hI.cell c9
   have dc10 := hI.cell c10
   have dc11 := hI.cell c11
   have dc12 := hI.cell c12
   have dc13 := hI.cell c13
   unfold GStep
   go_wp2
   exact CK.refl _ _
  ·rintro v w1 w2 ⟨su, ⟨vp, vh, h1, h2, h3⟩, h4⟩ k
   exact ⟨su, ⟨vp, vh, h1, h2.ck k, h3.ck k⟩, h4⟩
  ·intro vals w1 hI hd
   have h1 : vals 4 = _ := hd.1
   have HP := hid (address_any N u _ w1 ((HG.out.step HB0.out).below hI.below (HG.out.step HB0.out).le) ((HLU.out.below HB0.out).ck hI) HBD.out.uri)
   unfold GStep
   go_wp2_with (go_at_call 75; refine HP.out.mono ?_; rintro e w2 ⟨v2, su, rfl, hv, hsu, hb⟩)
   have hk := CK.of_below hb hI.size
   first | exact ⟨hk, su, hv, hsu⟩ | exact hk
  ·exact fun v w1 w2 h k => h
  ·intro vals w1 hI hd
   unfold GStep
   go_wp2
   exact CK.refl _ _
  ·exact fun v w1 w2 h k => h
  ·intro vals w1 hI hd
   have h1 : vals 6 = _ := hd.1
   have dc14 := hI.cell c14
   unfold GStep
   go_wp2
   exact CK.refl _ _
  ·exact fun v w1 w2 h k => h.ck k
  ·intro vals w1 hI hd
   have h1 : vals 7 = _ := hd.1
   have HP := hid (params_any _ params w1 ((HX.out.2.2.2.1.below HB0.out).ck hI) HBD.out.params)
   unfold GStep
   go_wp2_with (go_at_call 98; refine HP.out.mono ?_; rintro e w2 ⟨v2, rfl, hp, hb⟩)
   have hk := CK.of_below hb hI.size
   first | exact ⟨hk, hp⟩ | exact hk
  ·rintro v w1 w2 ⟨k, h1, h2, h3⟩ h
   exact ⟨k, h1, h2, h.same h3 (by decide)⟩
  ·intro vals w1 hI hd
   unfold GStep
   go_wp2
   first | exact ⟨CK.new hI.size _, _, hI.size, rfl, heap_alloc_new w1 _⟩ | exact ⟨CK.new hI.size _, hI.size, heap_alloc_new w1 _⟩
 ·intro vals w1 hI hR
  simp only [List.drop_succ_cons, List.drop_zero, List.take_succ_cons, List.take_zero, fillAll]
  obtain ⟨-, -, r2, -, -, r5, -, -, r8, r9, -⟩ := hR
  have e2 : vals 2 = _ := r2
  rw [e2]
  clear e2 r2
  generalize vals 5 = x5 at r5 ⊢
  generalize vals 8 = x8 at r8 ⊢
  generalize vals 9 = x9 at r9 ⊢
  obtain ⟨su, ⟨vp, vh, rfl, hvp, hvh⟩, hsu⟩ := r5
  obtain ⟨k, hk, rfl, hg9⟩ := r9
  have hpr : PRep w1 x8 (strKVs params) := r8
  obtain ⟨A8, c8, rfl⟩ := hpr.form
  have HVP := hid hvp
  have HVH := hid hvh
  have HPR := hid hpr
  have HSU := hid hsu
  have HK := hid (show w.heap.size < k by have := HSZ.out; omega)
  have HG9 := hid hg9
  have HB1 := hid ((hI.below.block w.heap.size (by have := HSZ.out; omega)).trans HWB1.out)
  have HBW := hid (HB0.out.trans (hI.below.mono (by have := HSZ.out; omega)))
  have HONE := hid (UVal.one (su := su) hvp hvh)
  clear r8 hvp hvh hpr hsu hk hg9 hI
  go_simp
  go_upto_region 2 with (refine wpList_store_blk (by rfl) 107 (.tmp 4) (.tmp 11) (by rfl) k 107 [.string ⟨#[]⟩, .string ⟨#[]⟩, .bool false, .bool false, .string ⟨#[]⟩, .string ⟨#[]⟩, .string ⟨#[]⟩, .int .i64 0, .slice none 0 0, .slice none 0 0] (uriV su vp vh) (by rfl) (by rfl) rfl HG9.out 10 suri_size rfl HONE.out ?_; intro W2 hst2)
  have HG2 := hid hst2.blk
  have HB2 := hid ((hst2.other w.heap.size (by have := HK.out; omega)).trans HB1.out)
  have HBW2 := hid (HBW.out.trans (hst2.below.mono (by have := HK.out; omega)))
  clear hst2
  have c0 := row_at HB2.out 0 _ rfl
  go_wp2
  go_ret
  exact ⟨rfl, HBW2.out⟩
