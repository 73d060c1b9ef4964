import Derived.Test.YtocajelknojkbaaGreatDoorK19
set_option maxRecDepth 100000
set_option maxHeartbeats 16000000
set_option linter.all false
namespace Go.Proofs.YtocajelknojkbaaGreatDoor
open Go.Lib (hid)
open Go.RowKit
theorem rawm_any (g : Nat) (s : ByteArray) (w : World) (hc : w.cell? ⟨g, 1, none⟩ = some (.string s)) : Calls Tryz.prog 94 #[.pointer (some ⟨g, 0, none⟩)] w fun e w' => e = .returned (.string s) ∧ w' = w := by
 go_enter Tryz.func94, Tryz.ntmps94
 go_wp2
 go_ret
 exact ⟨rfl, rfl⟩
theorem pairs_0 (A : Option Addr) (c : Nat) (w : World) : Calls Tryz.prog 95 #[.slice A 0 c] w fun e w' => e = .returned (.slice none 0 0) ∧ w' = w := by
 go_enter Tryz.func95, Tryz.ntmps95
 go_wp2_with fail
 go_loopw [3, 5, 8] (fun s3 _ i wr => s3 = .slice none 0 0 ∧ i = .int .i64 0 ∧ wr = w) (fun _ _ _ _ => 0)
 case atStart => exact ⟨rfl, rfl, rfl⟩
 case round =>
  obtain ⟨rfl, rfl, rfl⟩ := hrel
  go_wp2
  go_ret
  exact ⟨rfl, rfl⟩
def toL0 (u : SUri) : LUri := ⟨u.scheme.data.toList, u.raw.data.toList, u.star, u.slashes, u.user.data.toList, u.pass.data.toList, u.host.data.toList, u.port, [], []⟩
def LUu (w : World) (u : SUri) (ul : List Value) : Prop := ∃ a b c d e, ul = [a, b, .bool u.star, .bool u.slashes, c, d, e, .int .i64 u.port, .slice none 0 0, .slice none 0 0] ∧ SBu w a u.scheme.data.toList ∧ SBu w b u.raw.data.toList ∧ SBu w c u.user.data.toList ∧ SBu w d u.pass.data.toList ∧ SBu w e u.host.data.toList ∧ I64 u.port
theorem LUu.ku {N : Nat} {w w' : World} {u : SUri} {ul : List Value} (h : LUu w u ul) (k : KU N w w') : LUu w' u ul := by
 obtain ⟨a, b, c, d, e, h0, h1, h2, h3, h4, h5, h6⟩ := h
 exact ⟨a, b, c, d, e, h0, h1.ku k, h2.ku k, h3.ku k, h4.ku k, h5.ku k, h6⟩
theorem LUu.lu {w : World} {u : SUri} {ul : List Value} (h : LUu w u ul) : LU w (toL0 u) ul := by
 obtain ⟨a, b, c, d, e, h0, h1, h2, h3, h4, h5, h6⟩ := h
 exact ⟨a, b, c, d, e, _, _, h0, h1.sb, h2.sb, h3.sb, h4.sb, h5.sb, SK.nil _, SK.nil _, h6⟩
theorem place_0 (u : SUri) (Ap Ah : Option Addr) (cp ch : Nat) (w : World) (hs : u.scheme.size ≤ 70368744177664 ∧ u.raw.size ≤ 70368744177664 ∧ u.user.size ≤ 70368744177664 ∧ u.pass.size ≤ 70368744177664 ∧ u.host.size ≤ 70368744177664) (hp : I64 u.port) :
  Calls Tryz.prog 73 #[.agg #[.string u.scheme, .string u.raw, .bool u.star, .bool u.slashes, .string u.user, .string u.pass, .string u.host, .int .i64 u.port, .slice Ap 0 cp, .slice Ah 0 ch]] w fun e w' => ∃ ul, e = .returned (.agg ul.toArray) ∧ LUu w' u ul ∧ Below w.heap.size w w' := by
 have HSZ := hid hs
 have HPO := hid hp
 clear hs hp
 obtain ⟨wb, hwb⟩ : ∃ wb, wb = (w.alloc (.cells #[.string u.scheme, .string u.raw, .bool u.star, .bool u.slashes, .string u.user, .string u.pass, .string u.host, .int .i64 u.port, .slice Ap 0 cp, .slice Ah 0 ch] 107)).alloc (.cells #[.slice none 0 0, .slice none 0 0, .bool false, .bool false, .slice none 0 0, .slice none 0 0, .slice none 0 0, .int .i64 0, .slice none 0 0, .slice none 0 0] 25) := ⟨_, rfl⟩
 have HWB1 := hid (show wb.heap[w.heap.size]? = some (.cells ([.string u.scheme, .string u.raw, .bool u.star, .bool u.slashes, .string u.user, .string u.pass, .string u.host, .int .i64 u.port, .slice Ap 0 cp, .slice Ah 0 ch] : List Value).toArray 107 (0, 0)) by rw [hwb]; exact ((Below.refl _ _).alloc (Nat.le_refl _) _).block w.heap.size (by simp) |>.trans (heap_alloc_new w _))
 have HWB2 := hid (show wb.heap[w.heap.size + 1]? = some (.cells ([.slice none 0 0, .slice none 0 0, .bool false, .bool false, .slice none 0 0, .slice none 0 0, .slice none 0 0, .int .i64 0, .slice none 0 0, .slice none 0 0] : List Value).toArray 25 (0, 0)) by rw [hwb]; have := heap_alloc_new (w.alloc (.cells #[.string u.scheme, .string u.raw, .bool u.star, .bool u.slashes, .string u.user, .string u.pass, .string u.host, .int .i64 u.port, .slice Ap 0 cp, .slice Ah 0 ch] 107)) (.cells #[.slice none 0 0, .slice none 0 0, .bool false, .bool false, .slice none 0 0, .slice none 0 0, .slice none 0 0, .int .i64 0, .slice none 0 0, .slice none 0 0] 25); rwa [World.size_alloc] at this)
 have HB0 := hid (show Below w.heap.size w wb by rw [hwb]; exact ((Below.refl _ w).alloc (Nat.le_refl _) _).alloc (by simp) _)
 go_enter Tryz.func73, Tryz.ntmps73
 go_upto_region 1 with fail
 rw [← hwb]
 generalize Value.agg #[.string u.scheme, .string u.raw, .bool u.star, .bool u.slashes, .string u.user, .string u.pass, .string u.host, .int .i64 u.port, .slice Ap 0 cp, .slice Ah 0 ch] = arg0
 clear hwb
 refine wp_region_grow 26 (CK wb.heap.size) (IW wb)
  (fun i v w' => match i with
   | 0 => v = .pointer (some ⟨w.heap.size, 0, none⟩)
   | 1 => v = .string u.scheme
   | 2 => SBu w' v u.scheme.data.toList
   | 3 => v = .string u.raw
   | 4 => SBu w' v u.raw.data.toList
   | 5 => v = .pointer (some ⟨w.heap.size, 2, none⟩)
   | 6 => v = .bool u.star
   | 7 => v = .pointer (some ⟨w.heap.size, 3, none⟩)
   | 8 => v = .bool u.slashes
   | 9 => v = .pointer (some ⟨w.heap.size, 4, none⟩)
   | 10 => v = .string u.user
   | 11 => SBu w' v u.user.data.toList
   | 12 => v = .pointer (some ⟨w.heap.size, 5, none⟩)
   | 13 => v = .string u.pass
   | 14 => SBu w' v u.pass.data.toList
   | 15 => v = .pointer (some ⟨w.heap.size, 6, none⟩)
   | 16 => v = .string u.host
   | 17 => SBu w' v u.host.data.toList
   | 18 => v = .pointer (some ⟨w.heap.size, 7, none⟩)
   | 19 => v = .int .i64 u.port
   | 20 => v = .pointer (some ⟨w.heap.size, 8, none⟩)
   | 21 => v = .slice Ap 0 cp
   | 22 => v = .slice none 0 0
   | 23 => v = .pointer (some ⟨w.heap.size, 9, none⟩)
   | 24 => v = .slice Ah 0 ch
   | 25 => v = .slice none 0 0
   | _ => True)
  [[], [0], [1], [], [3], [], [5], [], [7], [], [9], [10], [], [12], [13], [], [15], [16], [], [18], [], [20], [21], [], [23], [24]] rfl (by kernel_rfl) (by kernel_rfl) (fun _ _ => IW.step) ?_ ?_ ?_ ?_
 ·intro j hj v w'
  match j, hj with
  | j + 26, _ => trivial
 ·exact CK.of_below (Below.refl _ _).drew (Nat.le_refl _)
 ·simp only [List.take_succ_cons, List.take_zero, fillAll]
  refine ⟨⟨?_, ?_⟩, ⟨?_, ?_⟩, ⟨?_, ?_⟩, ⟨?_, ?_⟩, ⟨?_, ?_⟩, ⟨?_, ?_⟩, ⟨?_, ?_⟩, ⟨?_, ?_⟩, ⟨?_, ?_⟩, ⟨?_, ?_⟩, ⟨?_, ?_⟩, ⟨?_, ?_⟩, ⟨?_, ?_⟩, ⟨?_, ?_⟩, ⟨?_, ?_⟩, ⟨?_, ?_⟩, ⟨?_, ?_⟩, ⟨?_, ?_⟩, ⟨?_, ?_⟩, ⟨?_, ?_⟩, ⟨?_, ?_⟩, ⟨?_, ?_⟩, ⟨?_, ?_⟩, ⟨?_, ?_⟩, ⟨?_, ?_⟩, ⟨?_, ?_⟩, trivial⟩
  ·exact fun v w1 w2 h k => h
  ·intro vals w1 hI hd
   unfold GStep
   go_wp2
   exact CK.refl _ _
  ·exact fun v w1 w2 h k => h
  ·intro vals w1 hI hd
   have h1 : vals 0 = _ := hd.1
   have dc := hI.cell (row_at HWB1.out 0 _ rfl)
   clear hd
   unfold GStep
   go_wp2
   exact CK.refl _ _
  ·exact fun v w1 w2 h k => SBu.ku h k.ku
  ·intro vals w1 hI hd
   have h4 : vals 1 = _ := hd.1
   have hr := Lib.run_convert_string_bytes (P := Tryz.prog) w1 9 22 5 u.scheme Tryz.underlying9 Tryz.underlying22 Tryz.underlying5
   have X := hid (conv_sbu w1 u.scheme HSZ.out.1)
   clear hd
   unfold GStep
   go_wp2
   exact ⟨CK.of_below X.out.2 hI.size, X.out.1⟩
  ·exact fun v w1 w2 h k => h
  ·intro vals w1 hI hd
   have hg := hI.same HWB1.out (by decide)
   have HC := hid (rawm_any w.heap.size u.raw w1 (row_at hg 1 _ rfl))
   clear hd hg
   unfold GStep
   go_wp2_with (go_at_call 94; refine HC.out.mono ?_; rintro e w3 ⟨rfl, rfl⟩)
   exact CK.refl _ _
  ·exact fun v w1 w2 h k => SBu.ku h k.ku
  ·intro vals w1 hI hd
   have h4 : vals 3 = _ := hd.1
   have hr := Lib.run_convert_string_bytes (P := Tryz.prog) w1 9 22 5 u.raw Tryz.underlying9 Tryz.underlying22 Tryz.underlying5
   have X := hid (conv_sbu w1 u.raw HSZ.out.2.1)
   clear hd
   unfold GStep
   go_wp2
   exact ⟨CK.of_below X.out.2 hI.size, X.out.1⟩
  ·exact fun v w1 w2 h k => h
  ·intro vals w1 hI hd
   unfold GStep
   go_wp2
   exact CK.refl _ _
  ·exact fun v w1 w2 h k => h
  ·intro vals w1 hI hd
   have h1 : vals 5 = _ := hd.1
   have dc := hI.cell (row_at HWB1.out 2 _ rfl)
   clear hd
   unfold GStep
   go_wp2
   exact CK.refl _ _
  ·exact fun v w1 w2 h k => h
  ·intro vals w1 hI hd
   unfold GStep
   go_wp2
   exact CK.refl _ _
  ·exact fun v w1 w2 h k => h
  ·intro vals w1 hI hd
   have h1 : vals 7 = _ := hd.1
   have dc := hI.cell (row_at HWB1.out 3 _ rfl)
   clear hd
   unfold GStep
   go_wp2
   exact CK.refl _ _
  ·exact fun v w1 w2 h k => h
  ·intro vals w1 hI hd
   unfold GStep
   go_wp2
   exact CK.refl _ _
  ·exact fun v w1 w2 h k => h
  ·intro vals w1 hI hd
   have h1 : vals 9 = _ := hd.1
   have dc := hI.cell (row_at HWB1.out 4 _ rfl)
   clear hd
   unfold GStep
   go_wp2
   exact CK.refl _ _
  ·exact fun v w1 w2 h k => SBu.ku h k.ku
  ·intro vals w1 hI hd
   have h4 : vals 10 = _ := hd.1
   have hr := Lib.run_convert_string_bytes (P := Tryz.prog) w1 9 22 5 u.user Tryz.underlying9 Tryz.underlying22 Tryz.underlying5
   have X := hid (conv_sbu w1 u.user HSZ.out.2.2.1)
   clear hd
   unfold GStep
   go_wp2
   exact ⟨CK.of_below X.out.2 hI.size, X.out.1⟩
  ·exact fun v w1 w2 h k => h
  ·intro vals w1 hI hd
   unfold GStep
   go_wp2
   exact CK.refl _ _
  ·exact fun v w1 w2 h k => h
  ·intro vals w1 hI hd
   have h1 : vals 12 = _ := hd.1
   have dc := hI.cell (row_at HWB1.out 5 _ rfl)
   clear hd
   unfold GStep
   go_wp2
   exact CK.refl _ _
  ·exact fun v w1 w2 h k => SBu.ku h k.ku
  ·intro vals w1 hI hd
   have h4 : vals 13 = _ := hd.1
   have hr := Lib.run_convert_string_bytes (P := Tryz.prog) w1 9 22 5 u.pass Tryz.underlying9 Tryz.underlying22 Tryz.underlying5
   have X := hid (conv_sbu w1 u.pass HSZ.out.2.2.2.1)
   clear hd
   unfold GStep
   go_wp2
   exact ⟨CK.of_below X.out.2 hI.size, X.out.1⟩
  ·exact fun v w1 w2 h k => h
  ·intro vals w1 hI hd
   unfold GStep
   go_wp2
   exact CK.refl _ _
  ·exact fun v w1 w2 h k => h
  ·intro vals w1 hI hd
   have h1 : vals 15 = _ := hd.1
   have dc := hI.cell (row_at HWB1.out 6 _ rfl)
   clear hd
   unfold GStep
   go_wp2
   exact CK.refl _ _
  ·exact fun v w1 w2 h k => SBu.ku h k.ku
  ·intro vals w1 hI hd
   have h4 : vals 16 = _ := hd.1
   have hr := Lib.run_convert_string_bytes (P := Tryz.prog) w1 9 22 5 u.host Tryz.underlying9 Tryz.underlying22 Tryz.underlying5
   have X := hid (conv_sbu w1 u.host HSZ.out.2.2.2.2)
   clear hd
   unfold GStep
   go_wp2
   exact ⟨CK.of_below X.out.2 hI.size, X.out.1⟩
  ·exact fun v w1 w2 h k => h
  ·intro vals w1 hI hd
   unfold GStep
   go_wp2
   exact CK.refl _ _
  ·exact fun v w1 w2 h k => h
  ·intro vals w1 hI hd
   have h1 : vals 18 = _ := hd.1
   have dc := hI.cell (row_at HWB1.out 7 _ rfl)
   clear hd
   unfold GStep
   go_wp2
   exact CK.refl _ _
  ·exact fun v w1 w2 h k => h
  ·intro vals w1 hI hd
   unfold GStep
   go_wp2
   exact CK.refl _ _
  ·exact fun v w1 w2 h k => h
  ·intro vals w1 hI hd
   have h1 : vals 20 = _ := hd.1
   have dc := hI.cell (row_at HWB1.out 8 _ rfl)
   clear hd
   unfold GStep
   go_wp2
   exact CK.refl _ _
  ·exact fun v w1 w2 h k => h
  ·intro vals w1 hI hd
   have h1 : vals 21 = _ := hd.1
   clear hd
   unfold GStep
   go_wp2_with (go_at_call 95; refine (pairs_0 _ _ _).mono ?_; rintro e w3 ⟨rfl, rfl⟩)
   exact CK.refl _ _
  ·exact fun v w1 w2 h k => h
  ·intro vals w1 hI hd
   unfold GStep
   go_wp2
   exact CK.refl _ _
  ·exact fun v w1 w2 h k => h
  ·intro vals w1 hI hd
   have h1 : vals 23 = _ := hd.1
   have dc := hI.cell (row_at HWB1.out 9 _ rfl)
   clear hd
   unfold GStep
   go_wp2
   exact CK.refl _ _
  ·exact fun v w1 w2 h k => h
  ·intro vals w1 hI hd
   have h1 : vals 24 = _ := hd.1
   clear hd
   unfold GStep
   go_wp2_with (go_at_call 95; refine (pairs_0 _ _ _).mono ?_; rintro e w3 ⟨rfl, rfl⟩)
   exact CK.refl _ _
 ·intro vals w1 hI hR
  simp only [List.drop_succ_cons, List.drop_zero, List.take_succ_cons, List.take_zero, fillAll]
  obtain ⟨-, -, r2, -, r4, -, r6, -, r8, -, -, r11, -, -, r14, -, -, r17, -, r19, -, -, r22, -, -, r25, -⟩ := hR
  have e6 : vals 6 = _ := r6
  have e8 : vals 8 = _ := r8
  have e19 : vals 19 = _ := r19
  have e22 : vals 22 = _ := r22
  have e25 : vals 25 = _ := r25
  rw [e6, e8, e19, e22, e25]
  clear e6 e8 e19 e22 e25 r6 r8 r19 r22 r25
  generalize vals 2 = x2 at r2 ⊢
  generalize vals 4 = x4 at r4 ⊢
  generalize vals 11 = x11 at r11 ⊢
  generalize vals 14 = x14 at r14 ⊢
  generalize vals 17 = x17 at r17 ⊢
  have HX := hid (And.intro r2 (And.intro r4 (And.intro r11 (And.intro r14 r17))))
  obtain ⟨k2, c2, -, -, rfl, -⟩ := r2
  obtain ⟨k4, c4, -, -, rfl, -⟩ := r4
  obtain ⟨k11, c11, -, -, rfl, -⟩ := r11
  obtain ⟨k14, c14, -, -, rfl, -⟩ := r14
  obtain ⟨k17, c17, -, -, rfl, -⟩ := r17
  have HZ := hid (hI.same HWB2.out (by decide))
  have HI := hid hI
  have hlt := heap_lt HWB2.out
  have HLT := hid hlt
  clear hI hlt
  go_wp2_with (refine wpList_store_blk (by rfl) 25 (.tmp 2) (.tmp 29) (by rfl) (w.heap.size + 1) 25 [.slice none 0 0, .slice none 0 0, .bool false, .bool false, .slice none 0 0, .slice none 0 0, .slice none 0 0, .int .i64 0, .slice none 0 0, .slice none 0 0] [.slice (some ⟨k2, 0, none⟩) u.scheme.data.toList.length c2, .slice (some ⟨k4, 0, none⟩) u.raw.data.toList.length c4, .bool u.star, .bool u.slashes, .slice (some ⟨k11, 0, none⟩) u.user.data.toList.length c11, .slice (some ⟨k14, 0, none⟩) u.pass.data.toList.length c14, .slice (some ⟨k17, 0, none⟩) u.host.data.toList.length c17, .int .i64 u.port, .slice none 0 0, .slice none 0 0] (by rfl) (by rfl) rfl HZ.out 10 uri_size rfl rfl ?_; intro W4 hst4; have HST4 := hid hst4; clear hst4)
  have hku := HST4.out.ku (Nat.le_refl _) HZ.out (by decide)
  exact ret_cell 2 25 ⟨(w.heap.size + 1), 0, none⟩ [.slice (some ⟨k2, 0, none⟩) u.scheme.data.toList.length c2, .slice (some ⟨k4, 0, none⟩) u.raw.data.toList.length c4, .bool u.star, .bool u.slashes, .slice (some ⟨k11, 0, none⟩) u.user.data.toList.length c11, .slice (some ⟨k14, 0, none⟩) u.pass.data.toList.length c14, .slice (some ⟨k17, 0, none⟩) u.host.data.toList.length c17, .int .i64 u.port, .slice none 0 0, .slice none 0 0] _ rfl rfl (row_cells HST4.out.blk) Tryz.underlying25 rfl 10 uri_size rfl rfl ⟨_, rfl, ⟨_, _, _, _, _, rfl, HX.out.1.ku hku, HX.out.2.1.ku hku, HX.out.2.2.1.ku hku, HX.out.2.2.2.1.ku hku, HX.out.2.2.2.2.ku hku, HPO.out⟩, (HB0.out.trans (HI.out.below.mono HB0.out.size)).trans (HST4.out.below.mono (by omega))⟩
def LP (u : SUri) (r : Nat) (w w' : World) : Prop := KU r w w' ∧ (∀ (k : Nat) (cs : Array Value) (t : TypeId) (fz : Nat × Nat), k ≠ r → t ≠ 5 → w.heap[k]? = some (Obj.cells cs t fz) → w'.heap[k]? = some (Obj.cells cs t fz)) ∧
 ∀ cs : List Value, w.heap[r]? = some (Obj.cells cs.toArray 25 (0, 0)) → cs.length = 10 → ∃ cs' : List Value, w'.heap[r]? = some (Obj.cells cs'.toArray 25 (0, 0)) ∧ cs'.length = 10 ∧ (LUu w u cs → LUu w' u cs')
theorem LP.refl (u : SUri) (r : Nat) (w : World) : LP u r w w := ⟨KU.refl _ _, fun _ _ _ _ _ _ h => h, fun cs h1 h2 => ⟨cs, h1, h2, id⟩⟩
theorem LP.trans {u : SUri} {r : Nat} {a b c : World} (h : LP u r a b) (k : LP u r b c) : LP u r a c := ⟨h.1.trans k.1, fun i cs t fz h1 h2 h3 => k.2.1 i cs t fz h1 h2 (h.2.1 i cs t fz h1 h2 h3), fun cs h1 h2 => by
 obtain ⟨c1, e1, l1, f1⟩ := h.2.2 cs h1 h2
 obtain ⟨c2, e2, l2, f2⟩ := k.2.2 c1 e1 l1
 exact ⟨c2, e2, l2, fun hx => f2 (f1 hx)⟩⟩
theorem LP.of_below {u : SUri} {r : Nat} {w w' : World} (h : Below w.heap.size w w') (hn : r ≤ w.heap.size) : LP u r w w' :=
 ⟨KU.of_below h hn, fun k _ _ _ _ _ hk => (h.block k (heap_lt hk)).trans hk, fun cs h1 h2 => ⟨cs, (h.block r (heap_lt h1)).trans h1, h2, fun hx => hx.ku (KU.of_below h hn)⟩⟩
theorem list10 {α : Type} {l : List α} (h : l.length = 10) : ∃ a b c d e f g i j k, l = [a, b, c, d, e, f, g, i, j, k] := by
 match l, h with
 | [a, b, c, d, e, f, g, i, j, k], _ => exact ⟨a, b, c, d, e, f, g, i, j, k, rfl⟩
theorem ret_cell2 {P : Program} {fn : Func} {R : Ending → World → Prop} {a : Act} {w : World} (s t : Nat) (ty : TypeId) (A : Addr) (cs : List Value) (v : Value) (d : TypeDesc) (hres : fn.results = #[.cell s ty, .tmp t]) (hs : a.tmps.getD s undef = .pointer (some A)) (ht : a.tmps.getD t undef = v)
  (hc : ∀ j v, cs[j]? = some v → w.cell? (A.add j) = some v) (hu : P.underlying ty = some d) (hd : d.isRow = true) (n : Nat) (hi : (P.info? ty).map (·.size) = some n) (hn : cs.length = n) (hdf : a.defers = []) (hR : R (.returned (.tuple #[.agg cs.toArray, v])) w) : bodyPost P fn R .ret a w := by
 refine bodyPost_ret (v := .tuple #[.agg cs.toArray, v]) ?_ hdf hR
 have hl := run_loadVar_any (P := P) w A ty cs d hc hu hd (by rw [hn]; exact hi)
 have ha : (asAddr (Value.pointer (some A))).run P w = .ok A w := rfl
 rw [Array.getD_eq_getD_getElem?] at hs ht
 simp [results, hres, hs, ht, Sem.run_bind, ha, hl]
theorem implurit_any (N : Nat) (u : LUri) (cs : List Value) (w : World) (hG : Gl N w) (hU : LU w u cs) (hB : UBd u ∧ u.raw = []) (ho : UOk (toS u)) (hl : (uriT (toS u)).length ≤ 70368744177664) : Calls Tryz.prog 41 #[.agg cs.toArray] w fun e w' => ∃ v, e = .returned v ∧ SBu w' v (uriT (toS u)) ∧ Below w.heap.size w w' := by
 obtain ⟨x0, x1, x2, x3, x4, x5, x6, x7, x8, x9, rfl⟩ := list10 hU.len
 obtain ⟨wb, hwb⟩ : ∃ wb, wb = w.alloc (.cells #[x0, x1, x2, x3, x4, x5, x6, x7, x8, x9] 25) := ⟨_, rfl⟩
 have HWB1 := hid (show wb.heap[w.heap.size]? = some (.cells ([x0, x1, x2, x3, x4, x5, x6, x7, x8, x9] : List Value).toArray 25 (0, 0)) by rw [hwb]; exact heap_alloc_new w _)
 have HB0 := hid (show Below w.heap.size w wb by rw [hwb]; exact (Below.refl _ w).alloc (Nat.le_refl _) _)
 have HC := hid (address_any N u _ wb (hG.below HB0.out hG.le) (hU.below HB0.out) hB.1)
 have HGL := hid hG
 have HOK := hid (And.intro hB.2 (And.intro ho hl))
 clear hG hU hB ho hl
 go_enter Tryz.func41, Tryz.ntmps41
 go_upto_region 1 with fail
 rw [← hwb]
 generalize Value.agg #[x0, x1, x2, x3, x4, x5, x6, x7, x8, x9] = arg0
 clear hwb
 go_upto_region 2 with (first
  | (refine wpList_load_blk (by rfl) 25 (.tmp 1) (by rfl) w.heap.size 25 (0, 0) [x0, x1, x2, x3, x4, x5, x6, x7, x8, x9] (by rfl) HWB1.out _ Tryz.underlying25 rfl 10 uri_size rfl ?_)
  | (go_at_call 75; refine HC.out.mono ?_; rintro e w2 ⟨v, su, rfl, ⟨vp, vh, rfl, hvp, hvh⟩, hsu, hb⟩; have hss := hsu HOK.out.1; subst hss; have HV := hid (And.intro hvp hvh); have HB := hid hb; clear hvp hvh hsu hb)
  | (refine wpList_store_blk (by rfl) 107 (.tmp 3) (.tmp 5) (by rfl) w2.heap.size 107 [.string ⟨#[]⟩, .string ⟨#[]⟩, .bool false, .bool false, .string ⟨#[]⟩, .string ⟨#[]⟩, .string ⟨#[]⟩, .int .i64 0, .slice none 0 0, .slice none 0 0] (uriV (toS u) vp vh) (by rfl) (by rfl) rfl (heap_alloc_new w2 _) 10 suri_size rfl (UVal.one (su := toS u) HV.out.1 HV.out.2) ?_; intro W3 hst3)
  | fail)
 have HST := hid hst3
 have HB3 := hid (show Below w2.heap.size w2 W3 from ((Below.refl _ w2).alloc (Nat.le_refl _) _).trans hst3.below)
 obtain ⟨g, hg⟩ : ∃ g, g = w2.heap.size := ⟨_, rfl⟩
 rw [← hg] at HST ⊢
 clear hst3 hg
 have HBW := hid (HB0.out.trans ((HB.out.trans (HB3.out.mono HB.out.size)).mono HB0.out.size))
 have HG3 := hid (HGL.out.below HBW.out HGL.out.le)
 have HUA := hid (show UriAt W3 g 0 (toS u) from ⟨_, _, _, HST.out.blk, by decide, by decide, by
  refine ⟨rfl, rfl, rfl, rfl, rfl, rfl, rfl, rfl, vp, vh, rfl, rfl, HV.out.1.below HB3.out, HV.out.2.below HB3.out⟩⟩)
 have HC3 := hid (uristr_any N g 0 (toS u) W3 HG3.out HUA.out HOK.out.2.1 (by have := HOK.out.2.2; omega))
 go_wp2_with (go_at_call 76; refine HC3.out.mono ?_; rintro e w5 ⟨rfl, hb5⟩; have HB5 := hid hb5; clear hb5; have hr5 := Lib.run_convert_string_bytes (P := Tryz.prog) w5 9 22 5 ⟨(uriT (toS u)).toArray⟩ Tryz.underlying9 Tryz.underlying22 Tryz.underlying5; have Y := hid (conv_sbu w5 ⟨(uriT (toS u)).toArray⟩ (by rw [sz]; exact HOK.out.2.2)); obtain ⟨w6, hw6⟩ : ∃ w6, w6 = Lib.bytesWorld w5 5 ⟨(uriT (toS u)).toArray⟩ := ⟨_, rfl⟩; rw [← hw6] at hr5 Y; clear hw6)
 go_ret
 exact ⟨_, rfl, Y.out.1, HBW.out.trans ((HB5.out.trans (Y.out.2.mono HB5.out.size)).mono HBW.out.size)⟩
theorem parseuri_kn (N : Nat) (v : Value) (w : World) (hG : Gl N w) (hS : SB w v kn0) : Calls Tryz.prog 39 #[v] w fun e w' => ∃ ul, e = .returned (.tuple #[.agg ul.toArray, .bool true]) ∧ LU w' (toL0 (knU 5070 borgB bobB)) ul ∧ Below w.heap.size w w' := by
 obtain ⟨wb, hwb⟩ : ∃ wb, wb = (w.alloc (.cells #[.slice none 0 0, .slice none 0 0, .bool false, .bool false, .slice none 0 0, .slice none 0 0, .slice none 0 0, .int .i64 0, .slice none 0 0, .slice none 0 0] 25)).alloc (.cells #[.string ⟨#[]⟩, .string ⟨#[]⟩, .bool false, .bool false, .string ⟨#[]⟩, .string ⟨#[]⟩, .string ⟨#[]⟩, .int .i64 0, .slice none 0 0, .slice none 0 0] 107) := ⟨_, rfl⟩
 have HWB1 := hid (show wb.heap[w.heap.size]? = some (.cells ([.slice none 0 0, .slice none 0 0, .bool false, .bool false, .slice none 0 0, .slice none 0 0, .slice none 0 0, .int .i64 0, .slice none 0 0, .slice none 0 0] : List Value).toArray 25 (0, 0)) by rw [hwb]; exact ((Below.refl _ _).alloc (Nat.le_refl _) _).block w.heap.size (by simp) |>.trans (heap_alloc_new w _))
 have HWB2 := hid (show wb.heap[w.heap.size + 1]? = some (.cells ([.string ⟨#[]⟩, .string ⟨#[]⟩, .bool false, .bool false, .string ⟨#[]⟩, .string ⟨#[]⟩, .string ⟨#[]⟩, .int .i64 0, .slice none 0 0, .slice none 0 0] : List Value).toArray 107 (0, 0)) by rw [hwb]; have := heap_alloc_new (w.alloc (.cells #[.slice none 0 0, .slice none 0 0, .bool false, .bool false, .slice none 0 0, .slice none 0 0, .slice none 0 0, .int .i64 0, .slice none 0 0, .slice none 0 0] 25)) (.cells #[.string ⟨#[]⟩, .string ⟨#[]⟩, .bool false, .bool false, .string ⟨#[]⟩, .string ⟨#[]⟩, .string ⟨#[]⟩, .int .i64 0, .slice none 0 0, .slice none 0 0] 107); rwa [World.size_alloc] at this)
 have HB0 := hid (show Below w.heap.size w wb by rw [hwb]; exact ((Below.refl _ w).alloc (Nat.le_refl _) _).alloc (by simp) _)
 have v1 := (hS.below HB0.out).conv 9 Tryz.underlying9
 have HUR := hid (show URepO (w.heap.size + 1) wb (w.heap.size + 1) zeroU from ⟨.slice none 0 0, .slice none 0 0, Nat.le_refl _, HWB2.out, World.ownsRow_nil _ _ _ _, World.ownsRow_nil _ _ _ _, by intro k hk; cases hk⟩)
 have HC := hid (parse_any N (w.heap.size + 1) (w.heap.size + 1) zeroU ⟨kn0.toArray⟩ wb (hG.below HB0.out hG.le) (Nat.le_succ_of_le hG.le) HUR.out (by rw [sz]; decide))
 clear hG hS
 go_enter Tryz.func39, Tryz.ntmps39
 go_upto_region 2 with fail
 rw [← hwb]
 clear hwb
 go_upto_region 3 with (go_at_call 72; refine HC.out.mono ?_; rintro e w2 ⟨ev, u', rfl, hur, hb, -, hkn⟩; obtain ⟨rfl, rfl⟩ := hkn rfl rfl; clear hkn)
 have HB := hid hb
 obtain ⟨vp, vh, -, hblk, hop, hoh, -⟩ := hur
 have HBK := hid hblk
 have fp : ∃ A c, vp = .slice A 0 c := own_slice hop
 have fh : ∃ A c, vh = .slice A 0 c := own_slice hoh
 obtain ⟨Ap, cp, rfl⟩ := fp
 obtain ⟨Ah, ch, rfl⟩ := fh
 have HW2 := hid ((hb.block w.heap.size (by omega)).trans HWB1.out)
 have HBW := hid (HB0.out.trans (hb.mono (by omega)))
 have HLT := hid (heap_lt HW2.out)
 clear hb hblk hop hoh v1
 refine wp_region_grow 5 (LP (knU 5070 borgB bobB) w.heap.size) (LP (knU 5070 borgB bobB) w.heap.size w2)
  (fun i v w' => match i with
   | 0 => v = .agg (uriV (knU 5070 borgB bobB) (.slice Ap 0 cp) (.slice Ah 0 ch)).toArray
   | 1 => ∃ ul, v = .agg ul.toArray ∧ LUu w' (knU 5070 borgB bobB) ul
   | 2 => v = .nilIface
   | 3 => v = .bool true
   | 4 => ∃ ul : List Value, w'.heap[w.heap.size]? = some (Obj.cells ul.toArray 25 (0, 0)) ∧ ul.length = 10 ∧ LUu w' (knU 5070 borgB bobB) ul
   | _ => True)
  [[], [0], [], [2], [1]] rfl (by kernel_rfl) (by kernel_rfl) (fun _ _ => LP.trans) ?_ ?_ ?_ ?_
 ·intro j hj v w'
  match j, hj with
  | j + 5, _ => trivial
 ·exact LP.of_below (Below.refl _ _).drew (Nat.le_of_lt HLT.out)
 ·simp only [List.take_succ_cons, List.take_zero, fillAll]
  refine ⟨⟨?_, ?_⟩, ⟨?_, ?_⟩, ⟨?_, ?_⟩, ⟨?_, ?_⟩, ⟨?_, ?_⟩, trivial⟩
  ·exact fun v w1 w2 h k => h
  ·intro vals w1 hI hd
   have hg := hI.2.1 _ _ _ _ (by omega) (by decide) HBK.out
   unfold GStep
   go_wp2_with (refine wpList_load_blk (by rfl) 107 (.tmp 4) (by rfl) (w.heap.size + 1) 107 (0, 0) (uriV (knU 5070 borgB bobB) (.slice Ap 0 cp) (.slice Ah 0 ch)) (by rfl) hg _ Tryz.underlying107 rfl 10 suri_size rfl ?_)
   exact LP.refl _ _ _
  ·rintro v w1 w2 ⟨ul, h1, h2⟩ k
   exact ⟨ul, h1, h2.ku k.1⟩
  ·intro vals w1 hI hd
   have h1 : vals 0 = _ := hd.1
   have HC := hid (place_0 (knU 5070 borgB bobB) Ap Ah cp ch w1 ⟨by show (3 : Nat) ≤ _; omega, by show (0 : Nat) ≤ _; omega, by show (3 : Nat) ≤ _; omega, by show (0 : Nat) ≤ _; omega, by show (5 : Nat) ≤ _; omega⟩ (by show I64 5070; unfold I64; omega))
   have HI := hid (Nat.le_trans (Nat.le_of_lt HLT.out) hI.1.1.size)
   clear hd hI
   unfold GStep
   dsimp only
   rw [h1]
   unfold uriV
   go_wp2_with (go_at_call 73; refine HC.out.mono ?_; rintro e w3 ⟨ul, rfl, hlu, hb⟩; have HF := hid (And.intro (LP.of_below (u := knU 5070 borgB bobB) hb HI.out) hlu); clear hlu hb)
   first | exact HF.out | exact ⟨HF.out.1, _, rfl, HF.out.2⟩
  ·exact fun v w1 w2 h k => h
  ·intro vals w1 hI hd
   unfold GStep
   go_wp2
   exact LP.refl _ _ _
  ·exact fun v w1 w2 h k => h
  ·intro vals w1 hI hd
   have h1 : vals 2 = _ := hd.1
   unfold GStep
   go_wp2
   exact LP.refl _ _ _
  ·rintro v w1 w2 ⟨ul, h1, h2, h3⟩ k
   obtain ⟨cs', e1, e2, e3⟩ := k.2.2 ul h1 h2
   exact ⟨cs', e1, e2, e3 h3⟩
  ·intro vals w1 hI hd
   obtain ⟨ul, e1, hlu⟩ := hd.1
   obtain ⟨zs, hz1, hz2, -⟩ := hI.2.2 _ HW2.out rfl
   have HLU := hid hlu
   have HZ := hid hz1
   have HZ2 := hid hz2
   clear hlu hd hz1 hz2 hI
   unfold GStep
   dsimp only
   rw [e1]
   clear e1
   go_simp
   refine wpList_store_blk (by rfl) 25 (.tmp 2) (.tmp 10) (by rfl) w.heap.size 25 zs ul (by rfl) (by rfl) (by rw [HLU.out.lu.len, HZ2.out]) HZ.out 10 uri_size HLU.out.lu.len HLU.out.lu.one ?_
   intro W4 hst4
   have hku := hst4.ku (Nat.le_refl _) HZ.out (by decide)
   have HF := hid (show LP (knU 5070 borgB bobB) w.heap.size w1 W4 ∧ ∃ ul : List Value, W4.heap[w.heap.size]? = some (Obj.cells ul.toArray 25 (0, 0)) ∧ ul.length = 10 ∧ LUu W4 (knU 5070 borgB bobB) ul from
    ⟨⟨hku, fun k cs t fz h1 h2 h3 => (hst4.other k h1).trans h3, fun cs h1 h2 => ⟨ul, hst4.blk, HLU.out.lu.len, fun _ => HLU.out.ku hku⟩⟩, ul, hst4.blk, HLU.out.lu.len, HLU.out.ku hku⟩)
   clear hku hst4
   go_wp2
   first | exact HF.out | exact ⟨_, HF.out⟩
 ·intro vals w1 hI hR
  simp only [List.drop_succ_cons, List.drop_zero, List.take_succ_cons, List.take_zero, fillAll]
  obtain ⟨-, -, -, r3, ⟨ul, hg1, hl1, hlu⟩, -⟩ := hR
  have e3 : vals 3 = _ := r3
  rw [e3]
  have HLU := hid hlu
  have HG1 := hid hg1
  have HI := hid hI.1.1
  clear hI hlu e3 r3 hg1 hl1
  go_wp2
  exact ret_cell2 2 3 25 ⟨w.heap.size, 0, none⟩ ul (.bool true) _ rfl rfl rfl (row_cells HG1.out) Tryz.underlying25 rfl 10 uri_size HLU.out.lu.len rfl ⟨ul, rfl, HLU.out.lu, HBW.out.trans HI.out⟩
theorem uri_any (user host : ByteArray) (port : Int) (w : World) (hs : user.size ≤ 70368744177664 ∧ host.size ≤ 70368744177664) (hp : I64 port) : Calls Tryz.prog 38 #[.string user, .string host, .int .i64 port] w fun e w' => ∃ ul, e = .returned (.agg ul.toArray) ∧ LU w' ⟨[115, 105, 112], [], false, false, user.data.toList, [], host.data.toList, port, [], []⟩ ul ∧ Below w.heap.size w w' := by
 obtain ⟨wb, hwb⟩ : ∃ wb, wb = w.alloc (.cells #[.slice none 0 0, .slice none 0 0, .bool false, .bool false, .slice none 0 0, .slice none 0 0, .slice none 0 0, .int .i64 0, .slice none 0 0, .slice none 0 0] 25) := ⟨_, rfl⟩
 have HWB1 := hid (show wb.heap[w.heap.size]? = some (.cells ([.slice none 0 0, .slice none 0 0, .bool false, .bool false, .slice none 0 0, .slice none 0 0, .slice none 0 0, .int .i64 0, .slice none 0 0, .slice none 0 0] : List Value).toArray 25 (0, 0)) by rw [hwb]; exact heap_alloc_new w _)
 have HB0 := hid (show Below w.heap.size w wb by rw [hwb]; exact (Below.refl _ w).alloc (Nat.le_refl _) _)
 have HSZ := hid hs
 have HP := hid hp
 obtain ⟨w2, hw2⟩ : ∃ w2, w2 = wb.alloc (.cells #[.int .u8 115, .int .u8 105, .int .u8 112] 5) := ⟨_, rfl⟩
 have HN2 := hid (show w2.heap[wb.heap.size]? = some (.cells (Lib.byteCells [115, 105, 112]).toArray 5 (0, 0)) by rw [hw2]; exact heap_alloc_new wb _)
 have HB2 := hid (show Below wb.heap.size wb w2 by rw [hw2]; exact (Below.refl _ wb).alloc (Nat.le_refl _) _)
 obtain ⟨w3, hr3, hk3⟩ := conv_lit HN2.out wb.heap.size 3 3 (Nat.le_refl _)
 have HK3 := hid hk3
 have hr4 := Lib.run_convert_string_bytes (P := Tryz.prog) w3 9 22 5 user Tryz.underlying9 Tryz.underlying22 Tryz.underlying5
 have X4 := hid (conv_sbu w3 user hs.1)
 obtain ⟨w4, hw4⟩ : ∃ w4, w4 = Lib.bytesWorld w3 5 user := ⟨_, rfl⟩
 rw [← hw4] at hr4 X4
 have hr5 := Lib.run_convert_string_bytes (P := Tryz.prog) w4 9 22 5 host Tryz.underlying9 Tryz.underlying22 Tryz.underlying5
 have X5 := hid (conv_sbu w4 host hs.2)
 obtain ⟨w5, hw5⟩ : ∃ w5, w5 = Lib.bytesWorld w4 5 host := ⟨_, rfl⟩
 rw [← hw5] at hr5 X5
 obtain ⟨fz3, hn3⟩ := HK3.out.blk ⟨_, HN2.out⟩
 have HN3 := hid hn3
 have HB3 := hid (show Below wb.heap.size wb w3 from HB2.out.trans HK3.out.1)
 have HB5 := hid (show Below w3.heap.size w3 w5 from X4.out.2.trans (X5.out.2.mono X4.out.2.size))
 have HS1 := hid (show SBu w5 (.slice (some ⟨wb.heap.size, 0, none⟩) 3 3) [115, 105, 112] from ⟨wb.heap.size, 3, _, fz3, rfl, by decide, by decide, (HB5.out.block _ (heap_lt HN3.out)).trans HN3.out, fun i h => by simp only [List.getElem?_toArray, Lib.byteCells, List.getElem?_map, List.getElem?_eq_getElem h]; rfl⟩)
 have HS2 := hid (X4.out.1.ku (KU.of_below X5.out.2 (Nat.le_refl _)))
 have HBW := hid (show Below wb.heap.size wb w5 from HB3.out.trans (HB5.out.mono HB3.out.size))
 have HZ := hid ((HBW.out.block w.heap.size (heap_lt HWB1.out)).trans HWB1.out)
 clear hw4 hw5 hs hp hk3 hn3
 go_enter Tryz.func38, Tryz.ntmps38
 go_upto_region 1 with fail
 rw [← hwb]
 clear hwb
 rw [hw2] at hr3
 clear hw2
 go_wp2_with (refine wpList_store_blk (by rfl) 25 (.tmp 6) (.tmp 14) (by rfl) w.heap.size 25 [.slice none 0 0, .slice none 0 0, .bool false, .bool false, .slice none 0 0, .slice none 0 0, .slice none 0 0, .int .i64 0, .slice none 0 0, .slice none 0 0] [.slice (some ⟨wb.heap.size, 0, none⟩) 3 3, .slice none 0 0, .bool false, .bool false, .slice (some ⟨w3.heap.size, 0, none⟩) user.size (grownCap w3 user.size 0 5), .slice none 0 0, .slice (some ⟨w4.heap.size, 0, none⟩) host.size (grownCap w4 host.size 0 5), .int .i64 port, .slice none 0 0, .slice none 0 0] (by rfl) (by rfl) rfl HZ.out 10 uri_size rfl rfl ?_; intro W6 hst6; have HST6 := hid hst6; clear hst6)
 have hku := HST6.out.ku (Nat.le_refl _) HZ.out (by decide)
 exact ret_cell 6 25 ⟨w.heap.size, 0, none⟩ [.slice (some ⟨wb.heap.size, 0, none⟩) 3 3, .slice none 0 0, .bool false, .bool false, .slice (some ⟨w3.heap.size, 0, none⟩) user.size (grownCap w3 user.size 0 5), .slice none 0 0, .slice (some ⟨w4.heap.size, 0, none⟩) host.size (grownCap w4 host.size 0 5), .int .i64 port, .slice none 0 0, .slice none 0 0] _ rfl rfl (row_cells HST6.out.blk) Tryz.underlying25 rfl 10 uri_size rfl rfl ⟨_, rfl, ⟨_, _, _, _, _, _, _, rfl, (HS1.out.ku hku).sb, SB.nil _, (HS2.out.ku hku).sb, SB.nil _, (X5.out.1.ku hku).sb, SK.nil _, SK.nil _, HP.out⟩, HB0.out.trans ((HBW.out.mono HB0.out.size).trans HST6.out.below)⟩
