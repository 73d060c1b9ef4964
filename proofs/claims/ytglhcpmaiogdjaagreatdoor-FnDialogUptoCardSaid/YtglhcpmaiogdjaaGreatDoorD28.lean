import Derived.Test.YtglhcpmaiogdjaaGreatDoorD26
import Derived.Test.YtglhcpmaiogdjaaGreatDoorD27
set_option maxRecDepth 100000
set_option maxHeartbeats 16000000
set_option linter.all false
namespace Go.Proofs.YtglhcpmaiogdjaaGreatDoor
open Go.Lib (hid)
open Go.RowKit
theorem ta_hit (T : TypeId) (hT : IsMsgT T) (a : Addr) (w : World) : Sem.run Tryz.prog (Instr.typeAssert (.iface T (.pointer (some a))) 75 T true) w = .ok (.tuple #[.pointer (some a), .bool true]) w := by
 rcases hT with rfl | rfl <;> kernel_rfl
theorem ta_miss (a : Addr) (w : World) : Sem.run Tryz.prog (Instr.typeAssert (.iface 80 (.pointer (some a))) 75 78 true) w = .ok (.tuple #[.pointer none, .bool false]) w := by
 kernel_rfl
structure DlgF (m : LMsg) (cid tt tf : Bytes) : Prop where
 ex : ∃ pf pt pi, m.heads.filter (isT 2) = [pf] ∧ m.heads.filter (isT 1) = [pt] ∧ m.heads.filter (isT 4) = [pi] ∧ pi.text = cid ∧ (pf.params.find? fun p => p.1 == tagB).map (·.2) = some tf ∧ (pt.params.find? fun p => p.1 == tagB).map (·.2) = some tt
 len : cid.length ≤ 1073741824 ∧ tt.length ≤ 1073741824 ∧ tf.length ≤ 1073741824
theorem msg_dlg {N : Nat} {m : LMsg} {cs : List Value} {w : World} {cid tt tf : Bytes} (hK : KMsg N m cs w) (hG : Gl N w) (hD : DlgF m cid tt tf) : Calls Tryz.prog 38 #[.agg cs.toArray] w fun e w' => ∃ mm, e = .returned (.iface (mtyI m) (.pointer (some ⟨mm, 0, none⟩))) ∧ DlgAt mm (bs cid) (bs tt) (bs tf) w' ∧ Below w.heap.size w w' :=
 (hK.message hG).mono fun e w' ⟨mm, hs, h1, _, hmap, hb, n0, X, hM⟩ => by
  obtain ⟨pf, pt, pi, h2, h3, h4, ei, ef, et⟩ := hD.ex
  obtain ⟨g2, c2, r2⟩ := ref_of hM hmap 2 2 (by omega) (by omega) (by omega) isT_from pf h2
  obtain ⟨g3, c3, r3⟩ := ref_of hM hmap 3 1 (by omega) (by omega) (by omega) isT_to pt h3
  obtain ⟨g4, c4, r4⟩ := ref_of hM hmap 4 4 (by omega) (by omega) (by omega) isT_callid pi h4
  rw [hdr_from (filt_t h2)] at r2
  rw [hdr_to (filt_t h3)] at r3
  rw [hdr_callid (filt_t h4), ei] at r4
  exact ⟨mm, h1, ⟨g2, g3, g4, _, _, _, _, _, _, c2, c3, c4, r2, r3, r4, by rw [get_param, ef]; rfl, by rw [get_param, et]; rfl⟩, hb⟩
theorem dlg_res (N : Nat) (m : LMsg) (cs : List Value) (cid tt tf : Bytes) (w : World) (hG : Gl N w) (hK : KMsg N m cs w) (hD : DlgF m cid tt tf) (hr : m.resp = true) :
  Calls Tryz.prog 21 #[.agg cs.toArray, .int .i64 0] w (IKey (joinS (bs cid) (bs tt) (bs tf)) w) := by
 have hlen := hK.at_.len19
 have hty : mtyI m = 78 := by unfold mtyI; rw [hr]; rfl
 have HKL := hid (show (joinS (bs cid) (bs tt) (bs tf)).length ≤ 70368744177664 by
  have h1 := hD.len
  have e1 : (bs cid).data.toList.length = cid.length := by simp [bs]
  have e2 : (bs tt).data.toList.length = tt.length := by simp [bs]
  have e3 : (bs tf).data.toList.length = tf.length := by simp [bs]
  simp only [joinS, List.length_append, List.length_cons, List.length_nil]
  omega)
 have HLS := hid (show (bs cid).size ≤ 1073741824 ∧ (bs tt).size ≤ 1073741824 ∧ (bs tf).size ≤ 1073741824 by
  have h1 := hD.len
  rw [show (bs cid).size = cid.length from sz _, show (bs tt).size = tt.length from sz _, show (bs tf).size = tf.length from sz _]
  exact h1)
 have HK := hid hK
 have HG := hid hG
 have HDF := hid hD
 clear hK hG hD hr
 obtain ⟨x0, x1, x2, x3, x4, x5, x6, x7, x8, x9, x10, x11, x12, x13, x14, x15, x16, x17, x18, rfl⟩ := list19 hlen
 clear hlen
 obtain ⟨wb, hwb⟩ : ∃ wb, wb = w.alloc (.cells #[x0, x1, x2, x3, x4, x5, x6, x7, x8, x9, x10, x11, x12, x13, x14, x15, x16, x17, x18] 28) := ⟨_, rfl⟩
 have HWB1 := hid (show wb.heap[w.heap.size]? = some (.cells ([x0, x1, x2, x3, x4, x5, x6, x7, x8, x9, x10, x11, x12, x13, x14, x15, x16, x17, x18] : List Value).toArray 28 (0, 0)) by rw [hwb]; exact heap_alloc_new w _)
 have HB0 := hid (show Below w.heap.size w wb by rw [hwb]; exact (Below.refl _ w).alloc (Nat.le_refl _) _)
 have HC := hid (msg_dlg (HK.out.below HB0.out) (HG.out.below HB0.out HG.out.le) HDF.out)
 rw [hty] at HC
 obtain ⟨s, hs⟩ : ∃ s, s = joinS (bs cid) (bs tt) (bs tf) := ⟨_, rfl⟩
 rw [← hs] at HKL ⊢
 have HSE := hid hs
 clear hs hty
 go_enter Tryz.func21, Tryz.ntmps21
 go_upto_region 1 with fail
 rw [← hwb]
 generalize Value.agg #[x0, x1, x2, x3, x4, x5, x6, x7, x8, x9, x10, x11, x12, x13, x14, x15, x16, x17, x18] = arg0
 clear hwb
 go_upto_region 4 with (first
  | (refine wpList_load_blk (by rfl) 28 (.tmp 2) (by rfl) w.heap.size 28 (0, 0) [x0, x1, x2, x3, x4, x5, x6, x7, x8, x9, x10, x11, x12, x13, x14, x15, x16, x17, x18] (by rfl) HWB1.out _ Tryz.underlying28 rfl 19 msg_size rfl ?_)
  | (go_at_call 38; refine HC.out.mono ?_; rintro e w1 ⟨mm, rfl, hd, hb1⟩)
  | fail)
 have HB1 := hid (HB0.out.trans (hb1.mono HB0.out.size))
 have HD := hid (dlgres_any mm (bs cid) (bs tt) (bs tf) w1 hd HLS.out)
 rw [← HSE.out] at HD
 clear hd hb1
 have ta1 := ta_hit 78 (.inr rfl)
 go_upto_region 17 with (go_at_call 39; refine HD.out.mono ?_; rintro e w2 ⟨rfl, hb2⟩)
 have HB2 := hid (HB1.out.trans (hb2.mono HB1.out.size))
 clear hb2
 refine wp_region_grow 5 (CK w2.heap.size) (IW w2)
  (fun i v w' => match i with
   | 0 => v = .string ⟨s.toArray⟩
   | 1 => SBu w' v s
   | 2 => v = .nilIface
   | 3 => v = .bool true
   | 4 => SBu w' v s
   | _ => True)
  [[], [0], [], [2], [1]] rfl (by kernel_rfl) (by kernel_rfl) (fun _ _ => IW.step) ?_ ?_ ?_ ?_
 ·intro j hj v w'
  match j, hj with
  | j + 5, _ => trivial
 ·exact CK.of_below (Below.refl _ _).drew (Nat.le_refl _)
 ·simp only [List.take_succ_cons, List.take_zero, fillAll]
  refine ⟨⟨?_, ?_⟩, ⟨?_, ?_⟩, ⟨?_, ?_⟩, ⟨?_, ?_⟩, ⟨?_, ?_⟩, trivial⟩
  ·exact fun v w1 w2 h k => h
  ·intro vals w1 hI hd
   unfold GStep
   go_wp2
   exact CK.refl _ _
  ·exact fun v w1 w2 h k => h.ku k.ku
  ·intro vals w1 hI hd
   have h1 : vals 0 = _ := hd.1
   have hr := Lib.run_convert_string_bytes (P := Tryz.prog) w1 9 22 5 ⟨s.toArray⟩ Tryz.underlying9 Tryz.underlying22 Tryz.underlying5
   have Y := hid (conv_sbu w1 ⟨s.toArray⟩ (by rw [sz]; exact HKL.out))
   unfold GStep
   go_wp2
   exact ⟨CK.of_below Y.out.2 hI.size, by have := Y.out.1; rw [sz] at this; exact this⟩
  ·exact fun v w1 w2 h k => h
  ·intro vals w1 hI hd
   unfold GStep
   go_wp2
   exact CK.refl _ _
  ·exact fun v w1 w2 h k => h
  ·intro vals w1 hI hd
   have h2 : vals 2 = _ := hd.1
   unfold GStep
   go_wp2
   exact CK.refl _ _
  ·exact fun v w1 w2 h k => h.ku k.ku
  ·intro vals w1 hI hd
   have h1 : SBu w1 (vals 1) s := hd.1
   have H1 := hid h1
   clear hd
   unfold GStep
   dsimp only
   generalize vals 1 = x1 at h1 H1 ⊢
   obtain ⟨k1, cap1, cs1, fz1, rfl, -⟩ := h1
   go_wp2
   exact ⟨CK.refl _ _, H1.out⟩
 ·intro vals w3 hI3 hR
  simp only [List.drop_succ_cons, List.drop_zero, List.take_succ_cons, List.take_zero, fillAll]
  obtain ⟨-, -, -, r3, r4, -⟩ := hR
  have e3 : vals 3 = _ := r3
  rw [e3]
  generalize vals 4 = x4 at r4 ⊢
  have H4 := hid r4
  obtain ⟨k1, cap1, cs1, fz1, rfl, -⟩ := r4
  have HI3 := hid hI3
  clear hI3 e3 r3
  go_wp2
  go_ret2
  exact ⟨_, rfl, H4.out, HB2.out.trans (HI3.out.below.mono HB2.out.size)⟩
theorem dlg_uas (N : Nat) (m : LMsg) (cs : List Value) (cid tt tf : Bytes) (w : World) (hG : Gl N w) (hK : KMsg N m cs w) (hD : DlgF m cid tt tf) (hr : m.resp = false) :
  Calls Tryz.prog 21 #[.agg cs.toArray, .int .i64 1] w (IKey (joinS (bs cid) (bs tt) (bs tf)) w) := by
 have hlen := hK.at_.len19
 have hty : mtyI m = 80 := by unfold mtyI; rw [hr]; rfl
 have HKL := hid (show (joinS (bs cid) (bs tt) (bs tf)).length ≤ 70368744177664 by
  have h1 := hD.len
  have e1 : (bs cid).data.toList.length = cid.length := by simp [bs]
  have e2 : (bs tt).data.toList.length = tt.length := by simp [bs]
  have e3 : (bs tf).data.toList.length = tf.length := by simp [bs]
  simp only [joinS, List.length_append, List.length_cons, List.length_nil]
  omega)
 have HLS := hid (show (bs cid).size ≤ 1073741824 ∧ (bs tt).size ≤ 1073741824 ∧ (bs tf).size ≤ 1073741824 by
  have h1 := hD.len
  rw [show (bs cid).size = cid.length from sz _, show (bs tt).size = tt.length from sz _, show (bs tf).size = tf.length from sz _]
  exact h1)
 have HK := hid hK
 have HG := hid hG
 have HDF := hid hD
 clear hK hG hD hr
 obtain ⟨x0, x1, x2, x3, x4, x5, x6, x7, x8, x9, x10, x11, x12, x13, x14, x15, x16, x17, x18, rfl⟩ := list19 hlen
 clear hlen
 obtain ⟨wb, hwb⟩ : ∃ wb, wb = w.alloc (.cells #[x0, x1, x2, x3, x4, x5, x6, x7, x8, x9, x10, x11, x12, x13, x14, x15, x16, x17, x18] 28) := ⟨_, rfl⟩
 have HWB1 := hid (show wb.heap[w.heap.size]? = some (.cells ([x0, x1, x2, x3, x4, x5, x6, x7, x8, x9, x10, x11, x12, x13, x14, x15, x16, x17, x18] : List Value).toArray 28 (0, 0)) by rw [hwb]; exact heap_alloc_new w _)
 have HB0 := hid (show Below w.heap.size w wb by rw [hwb]; exact (Below.refl _ w).alloc (Nat.le_refl _) _)
 have HC := hid (msg_dlg (HK.out.below HB0.out) (HG.out.below HB0.out HG.out.le) HDF.out)
 rw [hty] at HC
 obtain ⟨s, hs⟩ : ∃ s, s = joinS (bs cid) (bs tt) (bs tf) := ⟨_, rfl⟩
 rw [← hs] at HKL ⊢
 have HSE := hid hs
 clear hs hty
 go_enter Tryz.func21, Tryz.ntmps21
 go_upto_region 1 with fail
 rw [← hwb]
 generalize Value.agg #[x0, x1, x2, x3, x4, x5, x6, x7, x8, x9, x10, x11, x12, x13, x14, x15, x16, x17, x18] = arg0
 clear hwb
 go_upto_region 4 with (first
  | (refine wpList_load_blk (by rfl) 28 (.tmp 2) (by rfl) w.heap.size 28 (0, 0) [x0, x1, x2, x3, x4, x5, x6, x7, x8, x9, x10, x11, x12, x13, x14, x15, x16, x17, x18] (by rfl) HWB1.out _ Tryz.underlying28 rfl 19 msg_size rfl ?_)
  | (go_at_call 38; refine HC.out.mono ?_; rintro e w1 ⟨mm, rfl, hd, hb1⟩)
  | fail)
 have HB1 := hid (HB0.out.trans (hb1.mono HB0.out.size))
 have HD := hid (dlguas_any mm (bs cid) (bs tt) (bs tf) w1 hd HLS.out)
 rw [← HSE.out] at HD
 clear hd hb1
 have ta1 := ta_hit 80 (.inl rfl)
 have ta2 := ta_miss
 go_upto_region 17 with (go_at_call 40; refine HD.out.mono ?_; rintro e w2 ⟨rfl, hb2⟩)
 have HB2 := hid (HB1.out.trans (hb2.mono HB1.out.size))
 clear hb2
 refine wp_region_grow 5 (CK w2.heap.size) (IW w2)
  (fun i v w' => match i with
   | 0 => v = .string ⟨s.toArray⟩
   | 1 => SBu w' v s
   | 2 => v = .nilIface
   | 3 => v = .bool true
   | 4 => SBu w' v s
   | _ => True)
  [[], [0], [], [2], [1]] rfl (by kernel_rfl) (by kernel_rfl) (fun _ _ => IW.step) ?_ ?_ ?_ ?_
 ·intro j hj v w'
  match j, hj with
  | j + 5, _ => trivial
 ·exact CK.of_below (Below.refl _ _).drew (Nat.le_refl _)
 ·simp only [List.take_succ_cons, List.take_zero, fillAll]
  refine ⟨⟨?_, ?_⟩, ⟨?_, ?_⟩, ⟨?_, ?_⟩, ⟨?_, ?_⟩, ⟨?_, ?_⟩, trivial⟩
  ·exact fun v w1 w2 h k => h
  ·intro vals w1 hI hd
   unfold GStep
   go_wp2
   exact CK.refl _ _
  ·exact fun v w1 w2 h k => h.ku k.ku
  ·intro vals w1 hI hd
   have h1 : vals 0 = _ := hd.1
   have hr := Lib.run_convert_string_bytes (P := Tryz.prog) w1 9 22 5 ⟨s.toArray⟩ Tryz.underlying9 Tryz.underlying22 Tryz.underlying5
   have Y := hid (conv_sbu w1 ⟨s.toArray⟩ (by rw [sz]; exact HKL.out))
   unfold GStep
   go_wp2
   exact ⟨CK.of_below Y.out.2 hI.size, by have := Y.out.1; rw [sz] at this; exact this⟩
  ·exact fun v w1 w2 h k => h
  ·intro vals w1 hI hd
   unfold GStep
   go_wp2
   exact CK.refl _ _
  ·exact fun v w1 w2 h k => h
  ·intro vals w1 hI hd
   have h2 : vals 2 = _ := hd.1
   unfold GStep
   go_wp2
   exact CK.refl _ _
  ·exact fun v w1 w2 h k => h.ku k.ku
  ·intro vals w1 hI hd
   have h1 : SBu w1 (vals 1) s := hd.1
   have H1 := hid h1
   clear hd
   unfold GStep
   dsimp only
   generalize vals 1 = x1 at h1 H1 ⊢
   obtain ⟨k1, cap1, cs1, fz1, rfl, -⟩ := h1
   go_wp2
   exact ⟨CK.refl _ _, H1.out⟩
 ·intro vals w3 hI3 hR
  simp only [List.drop_succ_cons, List.drop_zero, List.take_succ_cons, List.take_zero, fillAll]
  obtain ⟨-, -, -, r3, r4, -⟩ := hR
  have e3 : vals 3 = _ := r3
  rw [e3]
  generalize vals 4 = x4 at r4 ⊢
  have H4 := hid r4
  obtain ⟨k1, cap1, cs1, fz1, rfl, -⟩ := r4
  have HI3 := hid hI3
  clear hI3 e3 r3
  go_wp2
  go_ret2
  exact ⟨_, rfl, H4.out, HB2.out.trans (HI3.out.below.mono HB2.out.size)⟩
theorem dlg_uac (N : Nat) (m : LMsg) (cs : List Value) (cid tt tf : Bytes) (w : World) (hG : Gl N w) (hK : KMsg N m cs w) (hD : DlgF m cid tt tf) (hr : m.resp = false) :
  Calls Tryz.prog 21 #[.agg cs.toArray, .int .i64 2] w (IKey (joinS (bs cid) (bs tf) (bs tt)) w) := by
 have hlen := hK.at_.len19
 have hty : mtyI m = 80 := by unfold mtyI; rw [hr]; rfl
 have HKL := hid (show (joinS (bs cid) (bs tf) (bs tt)).length ≤ 70368744177664 by
  have h1 := hD.len
  have e1 : (bs cid).data.toList.length = cid.length := by simp [bs]
  have e2 : (bs tt).data.toList.length = tt.length := by simp [bs]
  have e3 : (bs tf).data.toList.length = tf.length := by simp [bs]
  simp only [joinS, List.length_append, List.length_cons, List.length_nil]
  omega)
 have HLS := hid (show (bs cid).size ≤ 1073741824 ∧ (bs tt).size ≤ 1073741824 ∧ (bs tf).size ≤ 1073741824 by
  have h1 := hD.len
  rw [show (bs cid).size = cid.length from sz _, show (bs tt).size = tt.length from sz _, show (bs tf).size = tf.length from sz _]
  exact h1)
 have HK := hid hK
 have HG := hid hG
 have HDF := hid hD
 clear hK hG hD hr
 obtain ⟨x0, x1, x2, x3, x4, x5, x6, x7, x8, x9, x10, x11, x12, x13, x14, x15, x16, x17, x18, rfl⟩ := list19 hlen
 clear hlen
 obtain ⟨wb, hwb⟩ : ∃ wb, wb = w.alloc (.cells #[x0, x1, x2, x3, x4, x5, x6, x7, x8, x9, x10, x11, x12, x13, x14, x15, x16, x17, x18] 28) := ⟨_, rfl⟩
 have HWB1 := hid (show wb.heap[w.heap.size]? = some (.cells ([x0, x1, x2, x3, x4, x5, x6, x7, x8, x9, x10, x11, x12, x13, x14, x15, x16, x17, x18] : List Value).toArray 28 (0, 0)) by rw [hwb]; exact heap_alloc_new w _)
 have HB0 := hid (show Below w.heap.size w wb by rw [hwb]; exact (Below.refl _ w).alloc (Nat.le_refl _) _)
 have HC := hid (msg_dlg (HK.out.below HB0.out) (HG.out.below HB0.out HG.out.le) HDF.out)
 rw [hty] at HC
 obtain ⟨s, hs⟩ : ∃ s, s = joinS (bs cid) (bs tf) (bs tt) := ⟨_, rfl⟩
 rw [← hs] at HKL ⊢
 have HSE := hid hs
 clear hs hty
 go_enter Tryz.func21, Tryz.ntmps21
 go_upto_region 1 with fail
 rw [← hwb]
 generalize Value.agg #[x0, x1, x2, x3, x4, x5, x6, x7, x8, x9, x10, x11, x12, x13, x14, x15, x16, x17, x18] = arg0
 clear hwb
 go_upto_region 4 with (first
  | (refine wpList_load_blk (by rfl) 28 (.tmp 2) (by rfl) w.heap.size 28 (0, 0) [x0, x1, x2, x3, x4, x5, x6, x7, x8, x9, x10, x11, x12, x13, x14, x15, x16, x17, x18] (by rfl) HWB1.out _ Tryz.underlying28 rfl 19 msg_size rfl ?_)
  | (go_at_call 38; refine HC.out.mono ?_; rintro e w1 ⟨mm, rfl, hd, hb1⟩)
  | fail)
 have HB1 := hid (HB0.out.trans (hb1.mono HB0.out.size))
 have HD := hid (dlguac_any mm (bs cid) (bs tt) (bs tf) w1 hd HLS.out)
 rw [← HSE.out] at HD
 clear hd hb1
 have ta1 := ta_hit 80 (.inl rfl)
 have ta2 := ta_miss
 go_upto_region 17 with (go_at_call 41; refine HD.out.mono ?_; rintro e w2 ⟨rfl, hb2⟩)
 have HB2 := hid (HB1.out.trans (hb2.mono HB1.out.size))
 clear hb2
 refine wp_region_grow 5 (CK w2.heap.size) (IW w2)
  (fun i v w' => match i with
   | 0 => v = .string ⟨s.toArray⟩
   | 1 => SBu w' v s
   | 2 => v = .nilIface
   | 3 => v = .bool true
   | 4 => SBu w' v s
   | _ => True)
  [[], [0], [], [2], [1]] rfl (by kernel_rfl) (by kernel_rfl) (fun _ _ => IW.step) ?_ ?_ ?_ ?_
 ·intro j hj v w'
  match j, hj with
  | j + 5, _ => trivial
 ·exact CK.of_below (Below.refl _ _).drew (Nat.le_refl _)
 ·simp only [List.take_succ_cons, List.take_zero, fillAll]
  refine ⟨⟨?_, ?_⟩, ⟨?_, ?_⟩, ⟨?_, ?_⟩, ⟨?_, ?_⟩, ⟨?_, ?_⟩, trivial⟩
  ·exact fun v w1 w2 h k => h
  ·intro vals w1 hI hd
   unfold GStep
   go_wp2
   exact CK.refl _ _
  ·exact fun v w1 w2 h k => h.ku k.ku
  ·intro vals w1 hI hd
   have h1 : vals 0 = _ := hd.1
   have hr := Lib.run_convert_string_bytes (P := Tryz.prog) w1 9 22 5 ⟨s.toArray⟩ Tryz.underlying9 Tryz.underlying22 Tryz.underlying5
   have Y := hid (conv_sbu w1 ⟨s.toArray⟩ (by rw [sz]; exact HKL.out))
   unfold GStep
   go_wp2
   exact ⟨CK.of_below Y.out.2 hI.size, by have := Y.out.1; rw [sz] at this; exact this⟩
  ·exact fun v w1 w2 h k => h
  ·intro vals w1 hI hd
   unfold GStep
   go_wp2
   exact CK.refl _ _
  ·exact fun v w1 w2 h k => h
  ·intro vals w1 hI hd
   have h2 : vals 2 = _ := hd.1
   unfold GStep
   go_wp2
   exact CK.refl _ _
  ·exact fun v w1 w2 h k => h.ku k.ku
  ·intro vals w1 hI hd
   have h1 : SBu w1 (vals 1) s := hd.1
   have H1 := hid h1
   clear hd
   unfold GStep
   dsimp only
   generalize vals 1 = x1 at h1 H1 ⊢
   obtain ⟨k1, cap1, cs1, fz1, rfl, -⟩ := h1
   go_wp2
   exact ⟨CK.refl _ _, H1.out⟩
 ·intro vals w3 hI3 hR
  simp only [List.drop_succ_cons, List.drop_zero, List.take_succ_cons, List.take_zero, fillAll]
  obtain ⟨-, -, -, r3, r4, -⟩ := hR
  have e3 : vals 3 = _ := r3
  rw [e3]
  generalize vals 4 = x4 at r4 ⊢
  have H4 := hid r4
  obtain ⟨k1, cap1, cs1, fz1, rfl, -⟩ := r4
  have HI3 := hid hI3
  clear hI3 e3 r3
  go_wp2
  go_ret2
  exact ⟨_, rfl, H4.out, HB2.out.trans (HI3.out.below.mono HB2.out.size)⟩
structure MIn (N : Nat) (m : LMsg) : Prop where
 code : I64 m.code
 bd : MBd m
 uri : UBd m.uri
 heads : ∀ h ∈ m.heads, HBd2 h
 nums : ∀ h ∈ m.heads, 0 ≤ h.num ∧ h.num < 4294967296
 len : m.reason.length ≤ 70368744177664 ∧ m.method.length ≤ 70368744177664
theorem MIn.of {w : World} {m : LMsg} {cs : List Value} {n : Nat} (N : Nat) (hM : LM w m cs) (hB : MBk m n) (hn : n ≤ 1048576) : MIn N m := by
 obtain ⟨a, ul, b, c, hs, d, -, -, -, -, -, hh, -, hc⟩ := hM
 obtain ⟨⟨q1, q2, q3, q4, q5⟩, q6, q7, q8, q9, -, -⟩ := hB
 refine ⟨hc, ⟨by omega, fun h hk => ?_⟩, ⟨by omega, by omega, by omega, by omega⟩, fun h hk => ?_, fun h hk => ?_, by omega, by omega⟩
 ·obtain ⟨⟨r1, -⟩, -, r7⟩ := q7 h hk
  exact ⟨by omega, by omega⟩
 ·obtain ⟨⟨r1, r2, r3, r4, r5⟩, r6, -⟩ := q7 h hk
  exact ⟨⟨by omega, by omega, by omega, by omega⟩, by omega⟩
 ·obtain ⟨i, hi, rfl⟩ := List.getElem_of_mem hk
  obtain ⟨A, c', -, -, -, -, h5⟩ := hh
  obtain ⟨a', cs', -, hl, -⟩ := h5 i hi
  obtain ⟨_, _, _, _, _, _, _, _, _, _, _, _, _, _, _, _, _, _, _, _, hnum, _⟩ := hl
  exact hnum
theorem generic_nm {l : Bytes} (h : l[0]? = some 88) : lowT l ≠ nmCL ∧ lowT l ≠ [108] := by
 cases l with
 | nil => simp at h
 | cons a t =>
  obtain rfl : a = 88 := by simpa using h
  refine ⟨fun e => ?_, fun e => ?_⟩
  ·have h1 : lowB 88 = 99 := by simpa [lowT, nmCL] using congrArg List.head? e
   exact absurd h1 (by decide)
  ·have h1 : lowB 88 = 108 := by simpa [lowT] using congrArg List.head? e
   exact absurd h1 (by decide)
structure HTx (h : LHead) : Prop where
 bd : HBd2 h
 u : HOkU h
 t : 0 ≤ h.t ∧ h.t ≤ 14
 ok : (hdrS h).ok
 ll : (hdrS h).line.length ≤ 5000000
theorem HTx.of {h : LHead} (sh : SH) (e : hdrS h = sh) (bd : HBd2 h) (u : HOkU h) (t : 0 ≤ h.t ∧ h.t ≤ 14) (ok : sh.ok) (ll : sh.nm.length + 2 + sh.val.length ≤ 5000000) : HTx h := by
 subst e
 refine ⟨bd, u, t, ok, ?_⟩
 unfold SH.line
 simp only [List.length_append, List.length_cons, List.length_nil]
 omega
theorem bs_len (l : Bytes) : (bs l).data.toList.length = l.length := by simp
theorem addr_len (d : Bytes) (u : LUri) (p : BKVs) (hd : d.length ≤ 8192) (hu : RUri u) (hp : ParOK false p) : (addrT (bs d) (toS u) (strKVs p)).length ≤ 4000000 := by
 have h1 := ruri_len hu
 have h2 := tail_len 59 59 p _ (par_ok hp).2.1
 rw [← uriT_str u hu.raw] at h1
 rw [← tailT_str] at h2
 have h3 : (showT (bs d)).length ≤ 8195 := by
  unfold showT
  split <;> simp <;> omega
 simp only [addrT, List.length_append, List.length_cons, List.length_nil]
 omega
theorem rout_len (u : LUri) (hu : RUri u) : ([60] ++ uriT (toS u) ++ [62]).length ≤ 4000000 := by
 have h1 := ruri_len hu
 rw [← uriT_str u hu.raw] at h1
 simp only [List.length_append, List.length_cons, List.length_nil]
 omega
theorem itoa_len2 (n : Int) (h : 0 ≤ n ∧ n < 4294967296) : (Lib.itoa n).length ≤ 21 := itoa_len n (by unfold I64; omega)
theorem via_len (p v t h : Bytes) (port : Int) (l : BKVs) (hp : p.length ≤ 8192) (hv : v.length ≤ 8192) (ht : t.length ≤ 8192) (hh : h.length ≤ 8192) (hpo : 0 ≤ port ∧ port ≤ 65535) (hl : ParOK false l) : (viaT ⟨bs p, bs v, bs t, bs h, port, strKVs l⟩).length ≤ 4000000 := by
 have h2 := tail_len 59 59 l _ (par_ok hl).2.1
 rw [← tailT_str] at h2
 have h3 : (portT port).length ≤ 22 := port_len port hpo
 simp only [viaT, List.length_append, List.length_cons, List.length_nil, bs_len]
 omega
theorem hou_of {h : LHead} (R : RHead h) : HOkU h := fun k => by
 rcases k with k | k
 ·exact (R.addr k).2.1.raw
 ·exact (R.rout k).raw
theorem hostS_b {l : Bytes} (h : textS hostB l = true) : HostB (bs l) := (textS_host h).1
theorem htx_of {h : LHead} (R : RHead h) (hn : 0 ≤ h.num ∧ h.num < 4294967296) (B2 : HBd2 h) : HTx h := by
 have hu := hou_of R
 obtain ⟨t, name, text, display, u, params, num, proto, version, transport, host, port⟩ := h
 obtain ⟨hs, h0, ha, hr, h6, h7, h4, h10, h5, h9⟩ := R
 dsimp only at hs h0 ha hr h6 h7 h4 h10 h5 h9 hn
 have hi := itoa_len2 num hn
 rcases sort_cases hs with rfl | rfl | rfl | rfl | rfl | rfl | rfl | rfl | rfl | rfl | rfl | rfl | rfl | rfl | rfl
 ·refine HTx.of (.generic (bs name) (bs text)) rfl B2 hu hs trivial ?_
  have h1 := (wordS_ok (h0 rfl).1.2.2.2).2
  have h2 := lineS_len (h0 rfl).2
  simp only [SH.nm, SH.val, bs_len]
  omega
 ·have h1 := ha rfl
  refine HTx.of (.to_ (bs display) (toS u) (strKVs params)) rfl B2 hu hs ⟨ruri_ok h1.2.1, (par_ok h1.2.2).1⟩ ?_
  have h2 := addr_len display u params (shownS_len h1.1) h1.2.1 h1.2.2
  simp only [SH.nm, SH.val, List.length_cons, List.length_nil]
  omega
 ·have h1 := ha rfl
  refine HTx.of (.from_ (bs display) (toS u) (strKVs params)) rfl B2 hu hs ⟨ruri_ok h1.2.1, (par_ok h1.2.2).1⟩ ?_
  have h2 := addr_len display u params (shownS_len h1.1) h1.2.1 h1.2.2
  simp only [SH.nm, SH.val, List.length_cons, List.length_nil]
  omega
 ·have h1 := ha rfl
  refine HTx.of (.contact (bs display) (toS u) (strKVs params)) rfl B2 hu hs ⟨ruri_ok h1.2.1, h1.2.1.star, (par_ok h1.2.2).1⟩ ?_
  have h2 := addr_len display u params (shownS_len h1.1) h1.2.1 h1.2.2
  simp only [SH.nm, SH.val, List.length_cons, List.length_nil]
  omega
 ·refine HTx.of (.callid (bs text)) rfl B2 hu hs trivial ?_
  have h2 := (wordS_ok (h4 rfl)).2
  simp only [SH.nm, SH.val, List.length_cons, List.length_nil, bs_len]
  omega
 ·refine HTx.of (.cseq num (bs text)) rfl B2 hu hs hn ?_
  have h2 := (wordS_ok (h5 rfl).1).2
  simp only [SH.nm, SH.val, List.length_append, List.length_cons, List.length_nil, bs_len]
  omega
 ·refine HTx.of (.maxf num) rfl B2 hu hs hn ?_
  simp only [SH.nm, SH.val, List.length_cons, List.length_nil]
  omega
 ·refine HTx.of (.expires num) rfl B2 hu hs hn ?_
  simp only [SH.nm, SH.val, List.length_cons, List.length_nil]
  omega
 ·refine HTx.of (.clen num) rfl B2 hu hs hn ?_
  simp only [SH.nm, SH.val, List.length_cons, List.length_nil]
  omega
 ·obtain ⟨k1, k2, k3, k4, k5, k6⟩ := h9 rfl
  refine HTx.of (.via ⟨bs proto, bs version, bs transport, bs host, port, strKVs params⟩) rfl B2 hu hs ⟨hostS_b k4, ⟨by show _ ≤ port; omega, by show port ≤ _; omega⟩, (par_ok k6).1⟩ ?_
  have h2 := via_len proto version transport host port params (by rw [k1]; decide) (by rw [k2]; decide) (wordS_ok k3).2 (textS_len k4) k5 k6
  simp only [SH.nm, SH.val, List.length_cons, List.length_nil]
  omega
 ·refine HTx.of (.ctype (bs text)) rfl B2 hu hs trivial ?_
  have h2 := lineS_len (h10 rfl)
  simp only [SH.nm, SH.val, List.length_cons, List.length_nil, bs_len]
  omega
 ·have h1 := hr rfl
  refine HTx.of (.route (toS u)) rfl B2 hu hs (ruri_ok h1) ?_
  have h2 := rout_len u h1
  simp only [SH.nm, SH.val, List.length_cons, List.length_nil]
  omega
 ·have h1 := hr rfl
  refine HTx.of (.rroute (toS u)) rfl B2 hu hs (ruri_ok h1) ?_
  have h2 := rout_len u h1
  simp only [SH.nm, SH.val, List.length_cons, List.length_nil]
  omega
 ·have h1 := hr rfl
  refine HTx.of (.referto (toS u)) rfl B2 hu hs (ruri_ok h1) ?_
  have h2 := rout_len u h1
  simp only [SH.nm, SH.val, List.length_cons, List.length_nil]
  omega
 ·have h1 := ha rfl
  refine HTx.of (.refby (bs display) (toS u) (strKVs params)) rfl B2 hu hs ⟨ruri_ok h1.2.1, (par_ok h1.2.2).1⟩ ?_
  have h2 := addr_len display u params (shownS_len h1.1) h1.2.1 h1.2.2
  simp only [SH.nm, SH.val, List.length_cons, List.length_nil]
  omega
theorem hms_of {h : LHead} (R : RHead h) (hn : 0 ≤ h.num ∧ h.num < 4294967296) (B2 : HBd2 h) (h8 : h.t ≠ 8) : HMs h := by
 have H := htx_of R hn B2
 have key : (hdrS h).slot ≠ 7 ∧ (hdrS h).nm.length ≤ 70368744177664 ∧ lowT (hdrS h).nm ≠ nmCL ∧ lowT (hdrS h).nm ≠ [108] := by
  obtain ⟨t, name, text, display, u, params, num, proto, version, transport, host, port⟩ := h
  obtain ⟨hs, h0, ha, hr, h6, h7, h4, h10, h5, h9⟩ := R
  dsimp only at hs h0 h8
  clear H
  have fx : ∀ (sh : SH) (l : Bytes), sh.slot ≠ 7 → sh.nm = l → l.length ≤ 8192 → lowT l ≠ nmCL → lowT l ≠ [108] → sh.slot ≠ 7 ∧ sh.nm.length ≤ 70368744177664 ∧ lowT sh.nm ≠ nmCL ∧ lowT sh.nm ≠ [108] := by
   intro sh l h1 h2 h3 h4 h5
   rw [h2]
   exact ⟨h1, by omega, h4, h5⟩
  rcases sort_cases hs with rfl | rfl | rfl | rfl | rfl | rfl | rfl | rfl | rfl | rfl | rfl | rfl | rfl | rfl | rfl
  ·have h1 := (h0 rfl).1
   exact fx (.generic (bs name) (bs text)) name (show (0 : Nat) ≠ 7 by decide) (by simp [SH.nm]) (wordS_ok h1.2.2.2).2 (generic_nm h1.2.1).1 (generic_nm h1.2.1).2
  ·exact fx (.to_ (bs display) (toS u) (strKVs params)) (nameS 1) (show (3 : Nat) ≠ 7 by decide) rfl (by decide) (by decide) (by decide)
  ·exact fx (.from_ (bs display) (toS u) (strKVs params)) (nameS 2) (show (2 : Nat) ≠ 7 by decide) rfl (by decide) (by decide) (by decide)
  ·exact fx (.contact (bs display) (toS u) (strKVs params)) (nameS 3) (show (5 : Nat) ≠ 7 by decide) rfl (by decide) (by decide) (by decide)
  ·exact fx (.callid (bs text)) (nameS 4) (show (4 : Nat) ≠ 7 by decide) rfl (by decide) (by decide) (by decide)
  ·exact fx (.cseq num (bs text)) (nameS 5) (show (6 : Nat) ≠ 7 by decide) rfl (by decide) (by decide) (by decide)
  ·exact fx (.maxf num) (nameS 6) (show (11 : Nat) ≠ 7 by decide) rfl (by decide) (by decide) (by decide)
  ·exact fx (.expires num) (nameS 7) (show (0 : Nat) ≠ 7 by decide) rfl (by decide) (by decide) (by decide)
  ·exact absurd rfl h8
  ·exact fx (.via ⟨bs proto, bs version, bs transport, bs host, port, strKVs params⟩) (nameS 9) (show (1 : Nat) ≠ 7 by decide) rfl (by decide) (by decide) (by decide)
  ·exact fx (.ctype (bs text)) (nameS 10) (show (8 : Nat) ≠ 7 by decide) rfl (by decide) (by decide) (by decide)
  ·exact fx (.route (toS u)) (nameS 11) (show (9 : Nat) ≠ 7 by decide) rfl (by decide) (by decide) (by decide)
  ·exact fx (.rroute (toS u)) (nameS 12) (show (10 : Nat) ≠ 7 by decide) rfl (by decide) (by decide) (by decide)
  ·exact fx (.referto (toS u)) (nameS 13) (show (0 : Nat) ≠ 7 by decide) rfl (by decide) (by decide) (by decide)
  ·exact fx (.refby (bs display) (toS u) (strKVs params)) (nameS 14) (show (0 : Nat) ≠ 7 by decide) rfl (by decide) (by decide) (by decide)
 exact ⟨B2, H.u, H.t, H.ok, key.1, key.2.1, key.2.2⟩
structure PMsg (m : LMsg) : Prop where
 hasBody : m.hasBody = true
 compact : m.compact = false
 version : m.version = sip20B
 len : m.reason.length ≤ 70368744177664 ∧ m.method.length ≤ 70368744177664
 body : m.body.length < 4294967296
 many : m.heads.length ≤ 1000
 heads : ∀ h ∈ m.heads, HMs h
 uri : m.resp = false → UBd m.uri ∧ m.uri.raw = []
theorem PMsg.k {N : Nat} {m : LMsg} {cs : List Value} {w : World} (P : PMsg m) (h : LM w m cs) : KMsg N m cs w := ⟨h, P.hasBody, P.compact, P.version, P.len, P.body, P.many, P.heads, P.uri⟩
theorem PMsg.of {N : Nat} {m : LMsg} (H : MIn N m) (R : RMsg m) : PMsg m :=
 ⟨R.hasBody, R.compact, R.version, H.len, by have := R.body; omega, by have := R.many; omega, fun h hh => hms_of (R.heads h hh).1 (H.nums h hh) (H.heads h hh) (R.heads h hh).2, fun hr => ⟨H.uri, (R.req hr).2.raw⟩⟩
theorem PMsg.chg {m : LMsg} {h : LHead} (P : PMsg m) (H : HMs h) : PMsg (chgM m h) :=
 ⟨P.hasBody, P.compact, P.version, P.len, P.body, by show (m.heads.map _).length ≤ 1000; rw [List.length_map]; exact P.many, chg_all P.heads H, P.uri⟩
theorem HMs.par {h : LHead} (H : HMs h) (ht : h.t = 9) (k v : Bytes) (hv : ValB ⟨v.toArray⟩) : HMs (parH h k v) := by
 obtain ⟨t, name, text, display, u, params, num, proto, version, transport, host, port⟩ := h
 dsimp only at ht
 subst ht
 obtain ⟨⟨b1, b2⟩, hu, h3, h4, h5, h6, h7⟩ := H
 have h4' : VOk ⟨bs proto, bs version, bs transport, bs host, port, strKVs params⟩ := h4
 refine ⟨⟨b1, by show (params.map _).length ≤ _; rw [List.length_map]; exact b2⟩, hu, h3, ?_, h5, h6, h7⟩
 show VOk ⟨bs proto, bs version, bs transport, bs host, port, strKVs (params.map (setK k v))⟩
 refine ⟨h4'.host, h4'.port, ?_⟩
 intro q hq
 obtain ⟨p, hp, rfl⟩ := List.mem_map.1 hq
 obtain ⟨r, hr, rfl⟩ := List.mem_map.1 hp
 have h8 := h4'.params (strKV r) (List.mem_map.2 ⟨r, hr, rfl⟩)
 unfold setK
 split
 ·exact hv
 ·exact h8
theorem plain_9 {h : LHead} (ht : h.t = 9) : (plainH h).t = 9 ∧ (plainH h).params = h.params := by
 obtain ⟨t, name, text, display, u, params, num, proto, version, transport, host, port⟩ := h
 dsimp only at ht
 subst ht
 exact ⟨rfl, rfl⟩
theorem plain_5 {h : LHead} (ht : h.t = 5) : (plainH h).t = 5 ∧ (plainH h).text = h.text := by
 obtain ⟨t, name, text, display, u, params, num, proto, version, transport, host, port⟩ := h
 dsimp only at ht
 subst ht
 exact ⟨rfl, rfl⟩
theorem goodbr {l : Bytes} (h1 : 7 < l.length) (h2 : l.take 7 = [122, 57, 104, 71, 52, 98, 75]) : GoodBr (bs l) := by
 refine ⟨?_, by rw [show (bs l).size = l.length from sz l]; exact h1⟩
 obtain ⟨r, rfl⟩ : ∃ r, l = magicB ++ r := ⟨l.drop 7, by rw [← show l.take 7 = magicB from h2, List.take_append_drop]⟩
 show Lib.hasPrefix (magicB ++ r) magicB = true
 first | rfl | simp [Lib.hasPrefix, magicB]
structure CallF (m : LMsg) (via cq pv pc : LHead) : Prop where
 p : PMsg m
 h9 : m.heads.filter (isT 9) = [pv]
 h5 : m.heads.filter (isT 5) = [pc]
 f9 : firstH 9 m.heads = via
 f5 : firstH 5 m.heads = cq
 t9 : via.t = 9
 t5 : cq.t = 5
 ms9 : HMs via
 ms5 : HMs cq
 par : pv.params = via.params
 txt : pc.text = cq.text
 find : (via.params.find? fun p => p.1 == branchB).map (·.2) = some (paramV via.params branchK)
 good : GoodBr (bs (paramV via.params branchK))
 brl : (paramV via.params branchK).length ≤ 8192
 txl : cq.text.length ≤ 8192
 sorts : ∀ h ∈ m.heads, 0 ≤ h.t ∧ h.t ≤ 14
 parl : via.params.length ≤ 1073741824
theorem CallF.of {N : Nat} {m : LMsg} (H : MIn N m) (R : RCall m) : ∃ via cq pv pc, CallF m via cq pv pc := by
 obtain ⟨pv, h9, m9, t9, f9⟩ := first_of (R.one 9 (by simp))
 obtain ⟨pc, h5, m5, t5, f5⟩ := first_of (R.one 5 (by simp))
 have P := PMsg.of H R.msg
 have q9 := plain_9 t9
 have q5 := plain_5 t5
 have rv := (R.msg.heads pv m9).1.via t9
 have rc := (R.msg.heads pc m5).1.cseq t5
 have hbr := R.br
 rw [f9] at hbr
 have hf := find_of_len (l := (plainH pv).params) (k := branchK) (by omega)
 refine ⟨plainH pv, plainH pc, pv, pc, P, h9, h5, f9, f5, q9.1, q5.1, (P.heads pv m9).plain, (P.heads pc m5).plain, q9.2.symm, q5.2.symm, hf.2, goodbr hbr.1 hbr.2, ?_, ?_, fun h hh => (P.heads h hh).t, ?_⟩
 ·obtain ⟨p, hp, hp2⟩ := Option.map_eq_some_iff.1 hf.2
  have hm := List.mem_of_find?_eq_some hp
  rw [q9.2] at hm
  have h1 := rv.2.2.2.2.2.2 p hm
  rw [← hp2]
  simp only [parB, Bool.and_eq_true, Bool.or_eq_true, decide_eq_true_eq] at h1
  rcases h1.2 with h2 | h2
  ·exact (wordS_ok h2).2
  ·rw [h2.2]; simp
 ·rw [q5.2]
  exact (wordS_ok rc.1).2
 ·rw [q9.2]
  have := rv.2.2.2.2.2.1
  omega
def keepT (t : TypeId) : Bool := t == 35 || t == 5 || t == 69
def keepB (n i : Nat) (o : Obj) : Bool := decide (i < n) || (match o with | .cells _ t _ => keepT t | _ => false)
def filterW (w : World) (n : Nat) : World := { w with heap := w.heap.mapIdx fun i o => if keepB n i o then o else .cells #[] 0 }
theorem filt_size (w : World) (n : Nat) : (filterW w n).heap.size = w.heap.size := by simp [filterW]
theorem filt_at (w : World) (n k : Nat) : (filterW w n).heap[k]? = (w.heap[k]?).map fun o => if keepB n k o then o else .cells #[] 0 := by
 simp only [filterW, Array.getElem?_mapIdx]
theorem filt_keep {w : World} {n k : Nat} {cs : Array Value} {t : TypeId} {fz : Nat × Nat} (h : w.heap[k]? = some (.cells cs t fz)) (hk : k < n ∨ keepT t = true) : (filterW w n).heap[k]? = some (.cells cs t fz) := by
 rw [filt_at, h]
 have : keepB n k (.cells cs t fz) = true := by
  unfold keepB
  rcases hk with hk | hk
  ·simp [hk]
  ·simp [hk]
 simp [this]
theorem filt_cell {w : World} {n : Nat} {a : Addr} {v : Value} (h : (filterW w n).cell? a = some v) : ∃ cs t fz, w.heap[a.block]? = some (.cells cs t fz) ∧ (a.block < n ∨ keepT t = true) ∧ a.spot.isSome = false ∧ cs[a.off]? = some v := by
 unfold World.cell? at h
 rw [filt_at] at h
 cases ho : w.heap[a.block]? with
 | none => rw [ho] at h; simp at h
 | some o =>
  rw [ho] at h
  simp only [Option.map_some] at h
  by_cases hk : keepB n a.block o = true
  ·rw [if_pos hk] at h
   cases o with
   | cells cs t fz =>
    dsimp only at h
    split at h
    ·simp at h
    ·rename_i hs
     refine ⟨cs, t, fz, rfl, ?_, by simpa using hs, h⟩
     unfold keepB at hk
     simp only [Bool.or_eq_true, decide_eq_true_eq] at hk
     exact hk
   | _ => simp at h
  ·rw [if_neg hk] at h
   dsimp only at h
   split at h <;> simp at h
theorem filt_sub (w : World) (n : Nat) : Sub (filterW w n) w := by
 refine ⟨by rw [filt_size]; exact Nat.le_refl _, fun a v h => ?_⟩
 obtain ⟨cs, t, fz, h1, _, h3, h4⟩ := filt_cell h
 unfold World.cell?
 rw [h1]
 simp [h3, h4]
theorem filt_step {w w' : World} {n : Nat} (hs : w.heap.size ≤ w'.heap.size) (h : ∀ (k : Nat) (cs : Array Value) (t : TypeId) (fz : Nat × Nat), w.heap[k]? = some (.cells cs t fz) → (k < n ∨ keepT t = true) → ∃ fz' : Nat × Nat, w'.heap[k]? = some (.cells cs t fz')) : Sub (filterW w n) (filterW w' n) := by
 refine ⟨by rw [filt_size, filt_size]; exact hs, fun a v hc => ?_⟩
 obtain ⟨cs, t, fz, h1, h2, h3, h4⟩ := filt_cell hc
 obtain ⟨fz', h5⟩ := h _ _ _ _ h1 h2
 unfold World.cell?
 rw [filt_keep h5 h2]
 simp [h3, h4]
theorem filt_ck {N n : Nat} {w w' : World} (h : CK N w w') : Sub (filterW w n) (filterW w' n) :=
 filt_step h.size fun _ _ _ fz hk _ => h.blk ⟨fz, hk⟩
theorem filt_below {n : Nat} {w w' : World} (h : Below w.heap.size w w') : Sub (filterW w n) (filterW w' n) := filt_ck (CK.of_below h (Nat.le_refl _))
theorem filt_stored {n g : Nat} {l l0 : List Value} {w w' : World} (k : Stored g 28 l w w') (hg : w.heap[g]? = some (Obj.cells l0.toArray 28 (0, 0))) (hn : n ≤ g) : Sub (filterW w n) (filterW w' n) :=
 filt_step (by rw [k.size]; exact Nat.le_refl _) fun j cs t fz hj hk => by
  refine ⟨fz, ?_⟩
  rw [k.other j (fun e => ?_)]
  ·exact hj
  ·subst e
   rw [hg] at hj
   injection hj with hj
   injection hj with _ hj _
   subst hj
   rcases hk with hk | hk
   ·omega
   ·exact absurd hk (by decide)
theorem LH.sub {w w' : World} {h : LHead} {l : List Value} (H : LH w h l) (hs : Sub w w') : LH w' h l := (H.x w').lh hs
theorem SHs.sub {w w' : World} {v : Value} {l : List LHead} (h : SHs w v l) (hb : Sub w w') : SHs w' v l := by
 obtain ⟨A, c, h1, h2, h3, h4, h5⟩ := h
 refine ⟨A, c, h1, h2, h3, h4, fun i hi => ?_⟩
 obtain ⟨a, cs, e, hc, hd⟩ := h5 i hi
 exact ⟨a, cs, e, hc.sub hb, fun j u hj => hb.cell _ _ (hd j u hj)⟩
theorem LM.sub {w w' : World} {m : LMsg} {l : List Value} (h : LM w m l) (hb : Sub w w') : LM w' m l := by
 obtain ⟨a, ul, b, c, hs, d, h0, h1, h2, h3, h4, h5, h6, h7⟩ := h
 exact ⟨a, ul, b, c, hs, d, h0, h1.sub hb, h2.sub hb, h3.sub hb, h4.sub hb, h5.sub hb, h6.sub hb, h7⟩
theorem sub_filt {w w' : World} {n : Nat} (h : Below w.heap.size w w') (hn : w.heap.size ≤ n) : Sub w (filterW w' n) := by
 refine ⟨by rw [filt_size]; exact h.size, fun a v hc => ?_⟩
 have hlt := World.block_lt_of_cell? w a hc
 have h2 := h.cell hlt
 rw [hc] at h2
 unfold World.cell? at h2 ⊢
 cases ho : w'.heap[a.block]? with
 | none => rw [ho] at h2; cases h2
 | some o =>
  rw [ho] at h2
  cases o with
  | cells cs t fz =>
   rw [filt_keep ho (.inl (by omega))]
   exact h2
  | _ => cases h2
theorem SBf.filt {b n : Nat} {w : World} {v : Value} {l : Bytes} (h : SBf b w v l) : SBf b (filterW w n) v l := by
 obtain ⟨k, cap, cs, fz, h1, h2, h3, h4, h5, h6⟩ := h
 exact ⟨k, cap, cs, fz, h1, h2, h3, h4, filt_keep h5 (.inr (by decide)), h6⟩
theorem SBx.filt {n : Nat} {w0 w : World} {v : Value} {l : Bytes} (h : SBx w0 w v l) : SBx w0 (filterW w n) v l := h.imp id SBf.filt
theorem LHx.filt {n : Nat} {w0 w : World} {h : LHead} {l : List Value} (H : LHx w0 w h l) : LHx w0 (filterW w n) h l := by
 obtain ⟨a, b, c, ul, p, d, e, f, g, h0, h1, h2, h3⟩ := H
 exact ⟨a, b, c, ul, p, d, e, f, g, h0, h1.filt, h2.filt, h3⟩
theorem OHs.filt {n base : Nat} {w0 w : World} {v : Value} {hs : List LHead} (H : OHs w0 base w v hs) : OHs w0 base (filterW w n) v hs := by
 obtain ⟨css, h1, h2, h3⟩ := H
 refine ⟨css, h1, ?_, fun i hi => ?_⟩
 ·rcases h2 with ⟨k1, k2 | ⟨b, cap, cur, k3, k4, k5, k6⟩⟩
  ·exact ⟨k1, .inl k2⟩
  ·exact ⟨k1, .inr ⟨b, cap, cur, k3, k4, filt_keep k5 (.inr (by decide)), k6⟩⟩
 ·obtain ⟨c, e1, e2⟩ := h3 i hi
  exact ⟨c, e1, e2.filt⟩
def LMh (n : Nat) (w : World) (m : LMsg) (l : List Value) : Prop := LM (filterW w n) m l
def LHh (n : Nat) (w : World) (h : LHead) (l : List Value) : Prop := LH (filterW w n) h l
theorem LMh.lm {n : Nat} {w : World} {m : LMsg} {l : List Value} (h : LMh n w m l) : LM w m l := LM.sub h (filt_sub w n)
theorem LHh.lh {n : Nat} {w : World} {m : LHead} {l : List Value} (h : LHh n w m l) : LH w m l := LH.sub h (filt_sub w n)
theorem LMh.ck {n N : Nat} {w w' : World} {m : LMsg} {l : List Value} (h : LMh n w m l) (k : CK N w w') : LMh n w' m l := LM.sub h (filt_ck k)
theorem LHh.ck {n N : Nat} {w w' : World} {m : LHead} {l : List Value} (h : LHh n w m l) (k : CK N w w') : LHh n w' m l := LH.sub h (filt_ck k)
theorem LMh.below {n : Nat} {w w' : World} {m : LMsg} {l : List Value} (h : LMh n w m l) (k : Below w.heap.size w w') : LMh n w' m l := LM.sub h (filt_below k)
theorem LHh.below {n : Nat} {w w' : World} {m : LHead} {l : List Value} (h : LHh n w m l) (k : Below w.heap.size w w') : LHh n w' m l := LH.sub h (filt_below k)
theorem LMh.stored {n g : Nat} {l1 l0 : List Value} {w w' : World} {m : LMsg} {l : List Value} (h : LMh n w m l) (k : Stored g 28 l1 w w') (hg : w.heap[g]? = some (Obj.cells l0.toArray 28 (0, 0))) (hn : n ≤ g) : LMh n w' m l := LM.sub h (filt_stored k hg hn)
theorem LHh.stored {n g : Nat} {l1 l0 : List Value} {w w' : World} {m : LHead} {l : List Value} (h : LHh n w m l) (k : Stored g 28 l1 w w') (hg : w.heap[g]? = some (Obj.cells l0.toArray 28 (0, 0))) (hn : n ≤ g) : LHh n w' m l := LH.sub h (filt_stored k hg hn)
theorem LM.h {n : Nat} {w w' : World} {m : LMsg} {l : List Value} (h : LM w m l) (hb : Below w.heap.size w w') (hn : w.heap.size ≤ n) : LMh n w' m l := LM.sub h (sub_filt hb hn)
theorem LHx.h {n : Nat} {w w' : World} {h : LHead} {l : List Value} (H : LHx w w' h l) (hb : Below w.heap.size w w') (hn : w.heap.size ≤ n) : LHh n w' h l := H.filt.lh (sub_filt hb hn)
def ChgH (n : Nat) (m : LMsg) (w : World) (e : Ending) (w' : World) : Prop := ∃ rs, e = .returned (.agg rs.toArray) ∧ LMh n w' m rs ∧ Below w.heap.size w w'
theorem changed_h (n : Nat) (m : LMsg) (h : LHead) (cs hcs : List Value) (w : World) (hM : LMh n w m cs) (hH : LHh n w h hcs) (hl : m.heads.length ≤ 1000) : Calls Tryz.prog 14 #[.agg cs.toArray, .agg hcs.toArray] w (ChgH n (chgM m h) w) :=
 (changed_x (filterW w n) m h cs hcs w hM hH (filt_sub w n) hl).mono fun _ w' ⟨rs, h1, h2, h3⟩ => by
  refine ⟨rs, h1, ?_, h3⟩
  have hs := filt_below (n := n) h3
  obtain ⟨a, ul, b, c, hs', d, k0, k1, k2, k3, k4, k5, k6, k7⟩ := h2
  exact ⟨a, ul, b, c, hs', d, k0, k1.sub hs, k2.sub hs, k3.sub hs, k4.sub hs, k5.filt.shs hs, k6.sub hs, k7⟩
theorem LM.parts {w : World} {m : LMsg} {l : List Value} (h : LM w m l) : ∃ v1 v15 A15 c15 A1 c1, l[0]? = some (.bool m.resp) ∧ l[1]? = some v1 ∧ l[15]? = some v15 ∧ v1 = .slice A1 m.method.length c1 ∧ v15 = .slice A15 m.heads.length c15 ∧ SB w v1 m.method ∧ SHs w v15 m.heads := by
 obtain ⟨v15, h15, hs⟩ := h.heads_at
 obtain ⟨A15, c15, rfl, -⟩ := hs.form
 obtain ⟨va, ul, vb, vc, vh, vd, rfl, hm, -⟩ := h
 obtain ⟨A1, c1, rfl, hml⟩ := hm.form
 exact ⟨_, _, A15, c15, A1, c1, rfl, rfl, h15, rfl, rfl, hm, hs⟩
theorem LH.h {n : Nat} {w w' : World} {h : LHead} {l : List Value} (H : LH w h l) (hb : Below w.heap.size w w') (hn : w.heap.size ≤ n) : LHh n w' h l := LH.sub H (sub_filt hb hn)
theorem SBs.ck {N : Nat} {w w' : World} {v : Value} {ls : List Bytes} (h : SBs w v ls) (k : CK N w w') : SBs w' v ls := by
 obtain ⟨A, c, h1, h2, h3, h4⟩ := h
 refine ⟨A, c, h1, h2, h3, fun i hi => ?_⟩
 obtain ⟨a, u, e1, e2, e3⟩ := h4 i hi
 exact ⟨a, u, e1, k.cell e2, e3.ck k⟩
def ClientKeyOk (w : World) (e : Ending) (w' : World) : Prop := e = .returned (.bool true) ∧ Below w.heap.size w w'
theorem plain_1 {h : LHead} (ht : h.t = 1) : (plainH h).t = 1 ∧ (plainH h).params = h.params := by
 obtain ⟨t, name, text, display, u, params, num, proto, version, transport, host, port⟩ := h
 dsimp only at ht
 subst ht
 exact ⟨rfl, rfl⟩
theorem plain_2 {h : LHead} (ht : h.t = 2) : (plainH h).t = 2 ∧ (plainH h).params = h.params := by
 obtain ⟨t, name, text, display, u, params, num, proto, version, transport, host, port⟩ := h
 dsimp only at ht
 subst ht
 exact ⟨rfl, rfl⟩
theorem plain_4 {h : LHead} (ht : h.t = 4) : (plainH h).t = 4 ∧ (plainH h).text = h.text := by
 obtain ⟨t, name, text, display, u, params, num, proto, version, transport, host, port⟩ := h
 dsimp only at ht
 subst ht
 exact ⟨rfl, rfl⟩
def turnH (h : LHead) (t : Int) (name : Bytes) : LHead := { h with t := t, name := name }
theorem HMs.turn2 {h : LHead} (H : HMs h) (ht : h.t = 1) (n : Bytes) : HMs (turnH h 2 n) := by
 obtain ⟨t, name, text, display, u, params, num, proto, version, transport, host, port⟩ := h
 dsimp only at ht
 subst ht
 obtain ⟨⟨b1, b2⟩, hu, h3, h4, h5, h6, h7⟩ := H
 exact ⟨⟨b1, b2⟩, fun _ => hu (.inl rfl), ⟨by show (0 : Int) ≤ 2; decide, by show (2 : Int) ≤ 14; decide⟩, h4, show (2 : Nat) ≠ 7 by decide, show (nameS 2).length ≤ _ by decide, show lowT (nameS 2) ≠ nmCL ∧ lowT (nameS 2) ≠ [108] by decide⟩
theorem HMs.turn1 {h : LHead} (H : HMs h) (ht : h.t = 2) (n : Bytes) : HMs (turnH h 1 n) := by
 obtain ⟨t, name, text, display, u, params, num, proto, version, transport, host, port⟩ := h
 dsimp only at ht
 subst ht
 obtain ⟨⟨b1, b2⟩, hu, h3, h4, h5, h6, h7⟩ := H
 exact ⟨⟨b1, b2⟩, fun _ => hu (.inl rfl), ⟨by show (0 : Int) ≤ 1; decide, by show (1 : Int) ≤ 14; decide⟩, h4, show (3 : Nat) ≠ 7 by decide, show (nameS 1).length ≤ _ by decide, show lowT (nameS 1) ≠ nmCL ∧ lowT (nameS 1) ≠ [108] by decide⟩
structure CallD (m : LMsg) (fr tq id pf pt pi : LHead) : Prop where
 p : PMsg m
 h2 : m.heads.filter (isT 2) = [pf]
 h1 : m.heads.filter (isT 1) = [pt]
 h4 : m.heads.filter (isT 4) = [pi]
 f2 : firstH 2 m.heads = fr
 f1 : firstH 1 m.heads = tq
 f4 : firstH 4 m.heads = id
 t2 : fr.t = 2
 t1 : tq.t = 1
 t4 : id.t = 4
 ms2 : HMs fr
 ms1 : HMs tq
 ms4 : HMs id
 par2 : pf.params = fr.params
 par1 : pt.params = tq.params
 txt : pi.text = id.text
 txl : id.text.length ≤ 8192
 val2 : ∀ q ∈ fr.params, q.2.length ≤ 8192
 val1 : ∀ q ∈ tq.params, q.2.length ≤ 8192
 sorts : ∀ h ∈ m.heads, 0 ≤ h.t ∧ h.t ≤ 14
theorem vals_ok {l : BKVs} (h : ParOK false l) : ∀ q ∈ l, q.2.length ≤ 8192 := by
 intro p hp
 have h1 := h.2 p hp
 simp only [parB, Bool.and_eq_true, Bool.or_eq_true, decide_eq_true_eq] at h1
 rcases h1.2 with h2 | h2
 ·exact (wordS_ok h2).2
 ·rw [h2.2]; simp
theorem CallD.of {N : Nat} {m : LMsg} (H : MIn N m) (R : RCall m) : ∃ fr tq id pf pt pi, CallD m fr tq id pf pt pi := by
 obtain ⟨pf, h2, m2, t2, f2⟩ := first_of (R.one 2 (by simp))
 obtain ⟨pt, h1, m1, t1, f1⟩ := first_of (R.one 1 (by simp))
 obtain ⟨pi, h4, m4, t4, f4⟩ := first_of (R.one 4 (by simp))
 have P := PMsg.of H R.msg
 have q2 := plain_2 t2
 have q1 := plain_1 t1
 have q4 := plain_4 t4
 have r2 := (R.msg.heads pf m2).1.addr (by rw [t2]; rfl)
 have r1 := (R.msg.heads pt m1).1.addr (by rw [t1]; rfl)
 have r4 := (R.msg.heads pi m4).1.callid t4
 exact ⟨plainH pf, plainH pt, plainH pi, pf, pt, pi, P, h2, h1, h4, f2, f1, f4, q2.1, q1.1, q4.1, (P.heads pf m2).plain, (P.heads pt m1).plain, (P.heads pi m4).plain, q2.2.symm, q1.2.symm, q4.2.symm,
  by rw [q4.2]; exact (wordS_ok r4).2, by rw [q2.2]; exact vals_ok r2.2.2, by rw [q1.2]; exact vals_ok r1.2.2, fun h hh => (P.heads h hh).t⟩
theorem val_len {l : BKVs} (h : ∀ q ∈ l, q.2.length ≤ 8192) (k : Bytes) : (paramV l k).length ≤ 8192 := by
 unfold paramV
 cases e : l.find? fun p => p.1 == k with
 | none => simp
 | some p => exact h p (List.mem_of_find?_eq_some e)
theorem CallD.mine {m : LMsg} {fr tq id pf pt pi : LHead} (C : CallD m fr tq id pf pt pi) (hf : 0 < (paramV fr.params tagB).length) (ht : 0 < (paramV tq.params tagB).length) : DlgF m id.text (paramV tq.params tagB) (paramV fr.params tagB) :=
 ⟨⟨pf, pt, pi, C.h2, C.h1, C.h4, C.txt, by rw [C.par2]; exact (find_of_len hf).2, by rw [C.par1]; exact (find_of_len ht).2⟩, by have := C.txl; omega, by have := val_len C.val1 tagB; omega, by have := val_len C.val2 tagB; omega⟩
theorem CallD.answer {m res : LMsg} {fr tq id pf pt pi fr' tq' id' pf' pt' pi' : LHead} (C : CallD m fr tq id pf pt pi) (D : CallD res fr' tq' id' pf' pt' pi') (hf : 0 < (paramV fr.params tagB).length) (ht : 0 < (paramV tq.params tagB).length) : DlgF (chgM (chgM (chgM res fr) tq) id) id.text (paramV tq.params tagB) (paramV fr.params tagB) :=
 ⟨⟨fr, tq, id, filt_out (filt_out (filt_in D.h2 C.t2) (by rw [C.t1]; decide)) (by rw [C.t4]; decide), filt_out (filt_in (filt_out D.h1 (by rw [C.t2]; decide)) C.t1) (by rw [C.t4]; decide), filt_in (filt_out (filt_out D.h4 (by rw [C.t2]; decide)) (by rw [C.t1]; decide)) C.t4, rfl, (find_of_len hf).2, (find_of_len ht).2⟩, by have := C.txl; omega, by have := val_len C.val1 tagB; omega, by have := val_len C.val2 tagB; omega⟩
theorem CallD.way {m : LMsg} {fr tq id pf pt pi : LHead} (C : CallD m fr tq id pf pt pi) (n2 n1 : Bytes) (hf : 0 < (paramV fr.params tagB).length) (ht : 0 < (paramV tq.params tagB).length) : DlgF (chgM (chgM m (turnH tq 2 n2)) (turnH fr 1 n1)) id.text (paramV fr.params tagB) (paramV tq.params tagB) :=
 ⟨⟨turnH tq 2 n2, turnH fr 1 n1, pi, filt_out (filt_in C.h2 rfl) (by show (2 : Int) ≠ 1; decide), filt_in (filt_out C.h1 (by show (1 : Int) ≠ 2; decide)) rfl, filt_out (filt_out C.h4 (by show (4 : Int) ≠ 2; decide)) (by show (4 : Int) ≠ 1; decide), C.txt, (find_of_len (l := tq.params) ht).2, (find_of_len (l := fr.params) hf).2⟩, by have := C.txl; omega, by have := val_len C.val2 tagB; omega, by have := val_len C.val1 tagB; omega⟩
theorem run_storeVar_cell {P : Program} (w : World) (g j : Nat) (ty : TypeId) (v : Value) (h1 : v.oneCell' = true) (ht : w.there g j 1) (hi : (P.info? ty).map (·.size) = some 1) : (storeVar ty ⟨g, j, none⟩ v).run P w = .ok () (w.setCell ⟨g, j, none⟩ v) := by
 have := run_storeCells_cells (P := P) g j [v] 0 w (fun k hk => by simpa using (ht k (by simpa using hk)).1) (fun k hk => by simpa using (ht k (by simpa using hk)).2)
  (fun x hx => by simp at hx; subst hx; exact h1)
 have hc : v.cells = #[v] := by cases v <;> first | rfl | cases h1
 cases hq : P.info? ty with
 | none => simp [hq] at hi
 | some i =>
  have hs : i.size = 1 := by simpa [hq] using hi
  simp only [Nat.add_zero] at this
  simp [storeVar, sizeOf, typeInfo, hq, hc, hs, this, World.setCells]
theorem wpList_store_cell {P : Program} {ops : Array Oper} {rest : List Oper} {op : Oper} {a : Act} {W : World} {Q : Exit → Act → World → Prop} (hgd : op.guard = none) (ty : TypeId) (x y : Operand) (ho : op.op = .store ty x y)
  (g j : Nat) (ty' : TypeId) (l : List Value) (v : Value) (hx : a.eval x = .pointer (some ⟨g, j, none⟩)) (hy : a.eval y = v) (hg : W.heap[g]? = some (Obj.cells l.toArray ty' (0, 0)))
  (hj : j < l.length) (h1 : v.oneCell' = true) (hi : (P.info? ty).map (·.size) = some 1)
  (h : ∀ W', Stored g ty' (l.set j v) W W' → wpList P ops Q rest (a.put op.dst undef) W') : wpList P ops Q (op :: rest) a W :=
 wpList_plain hgd fun _ hK => by
  unfold Oper.wp execOp
  simp only [ho, hx, hy, Instr.storeAt, Instr.sureAddr, Sem.run_bind, Sem.run_pure, Result.andThen_ok, run_storeVar_cell W g j ty v h1 (there_row hg j 1 (by omega)) hi]
  exact hK _ _ (h _ (stored_set hg j v))
theorem int_size : (Tryz.prog.info? 3).map (·.size) = some 1 := by kernel_rfl
theorem bs_size : (Tryz.prog.info? 22).map (·.size) = some 1 := by kernel_rfl
theorem LH.turn {w : World} {h : LHead} {l : List Value} (H : LH w h l) (t : Int) (ht : I64 t) {nv : Value} {n : Bytes} (hn : SB w nv n) : LH w (turnH h t n) (.int .i64 t :: nv :: l.drop 2) := by
 obtain ⟨a, b, c, ul, p, d, e, f, g, rfl, h1, h2, h3, h4, h5, h6, h7, h8, h9, h10, h11, h12⟩ := H
 exact ⟨nv, b, c, ul, p, d, e, f, g, rfl, hn, h2, h3, h4, h5, h6, h7, h8, h9, ht, h11, h12⟩
theorem LH.txt {w : World} {h : LHead} {l : List Value} (H : LH w h l) {v : Value} {x : Bytes} (hv : SB w v x) : LH w { h with text := x } (l.set 2 v) := by
 obtain ⟨a, b, c, ul, p, d, e, f, g, rfl, h1, h2, h3, h4, h5, h6, h7, h8, h9, h10, h11, h12⟩ := H
 exact ⟨a, v, c, ul, p, d, e, f, g, rfl, h1, hv, h3, h4, h5, h6, h7, h8, h9, h10, h11, h12⟩
theorem Stored.keep {g : Nat} {ty : TypeId} {l : List Value} {w w' : World} (h : Stored g ty l w w') {k : Nat} {o : Obj} (hk : w.heap[k]? = some o) (hne : k ≠ g) : w'.heap[k]? = some o := (h.other k hne).trans hk
theorem below_at {N : Nat} {w w' : World} (h : Below N w w') {k : Nat} {o : Obj} (hk : w.heap[k]? = some o) (hn : k < N) : w'.heap[k]? = some o := (h.block k hn).trans hk
theorem LH.two {w : World} {h : LHead} {l : List Value} (H : LH w h l) : ∃ x0 x1 r, l = x0 :: x1 :: r ∧ r.length = 19 := by
 obtain ⟨a, b, c, ul, p, d, e, f, g, rfl, h1, h2, h3, hu, -⟩ := H
 exact ⟨_, _, _, rfl, by simp [hu.len]⟩
def BoxH (n : Nat) (v : Value) (w : World) : Prop := ∃ g zs, v = .pointer (some ⟨g, 0, none⟩) ∧ n ≤ g ∧ zs.length = 21 ∧ w.heap[g]? = some (Obj.cells (zs : List Value).toArray 35 (0, 0))
def BoxD (l : List Value) (v : Value) (w : World) : Prop := ∃ g, v = .pointer (some ⟨g, 0, none⟩) ∧ w.heap[g]? = some (Obj.cells l.toArray 35 (0, 0))
def TL (N : Nat) (l : List Value) (w w' : World) : Prop := Below N w w' ∧ ∀ (k : Nat) (zs : List Value), w.heap[k]? = some (Obj.cells zs.toArray 35 (0, 0)) → zs.length = 21 → ∃ zs' : List Value, w'.heap[k]? = some (Obj.cells zs'.toArray 35 (0, 0)) ∧ zs'.length = 21 ∧ (zs = l → zs' = l)
theorem TL.refl (N : Nat) (l : List Value) (w : World) : TL N l w w := ⟨Below.refl _ _, fun _ zs h h2 => ⟨zs, h, h2, fun e => e⟩⟩
theorem TL.new {N : Nat} {w : World} (l : List Value) (h : N ≤ w.heap.size) (o : Obj) : TL N l w (w.alloc o) :=
 ⟨(Below.refl _ _).alloc h _, fun k zs hk h2 => ⟨zs, (((Below.refl w.heap.size w).alloc (Nat.le_refl _) o).block k (heap_lt hk)).trans hk, h2, fun e => e⟩⟩
theorem TL.stored {N g : Nat} {l : List Value} {w w' : World} (h : Stored g 35 l w w') (hn : N ≤ g) (hl : l.length = 21) : TL N l w w' := by
 refine ⟨h.below.mono hn, fun k zs hk h2 => ?_⟩
 by_cases e : k = g
 ·subst e
  exact ⟨l, h.blk, hl, fun _ => rfl⟩
 ·exact ⟨zs, (h.other k e).trans hk, h2, fun e => e⟩
theorem BoxH.tl {n N : Nat} {l : List Value} {v : Value} {w w' : World} (h : BoxH n v w) (k : TL N l w w') : BoxH n v w' := by
 obtain ⟨g, zs, h1, h2, h3, h4⟩ := h
 obtain ⟨zs', e1, e2, -⟩ := k.2 g zs h4 h3
 exact ⟨g, zs', h1, h2, e2, e1⟩
theorem BoxD.tl {N : Nat} {l : List Value} {v : Value} {w w' : World} (hl : l.length = 21) (h : BoxD l v w) (k : TL N l w w') : BoxD l v w' := by
 obtain ⟨g, h1, h2⟩ := h
 obtain ⟨zs', e1, e2, e3⟩ := k.2 g l h2 hl
 rw [e3 rfl] at e1
 exact ⟨g, h1, e1⟩
def Lies (v : Value) (w : World) : Prop := ∃ g, v = .pointer (some ⟨g, 0, none⟩) ∧ g < w.heap.size
theorem Lies.tl {N : Nat} {l : List Value} {v : Value} {w w' : World} (h : Lies v w) (k : TL N l w w') : Lies v w' := by
 obtain ⟨g, h1, h2⟩ := h
 exact ⟨g, h1, Nat.lt_of_lt_of_le h2 k.1.size⟩
theorem lies_new {w w' : World} (h : w'.heap.size = w.heap.size + 1) : Lies (.pointer (some ⟨w.heap.size, 0, none⟩)) w' ∧ ¬ Lies (.pointer (some ⟨w.heap.size, 0, none⟩)) w := by
 refine ⟨⟨_, rfl, by omega⟩, ?_⟩
 rintro ⟨g, h1, h2⟩
 injection h1 with h1
 injection h1 with h1
 injection h1 with h1 _ _
 omega
theorem nameof_1 (w : World) : Calls Tryz.prog 20 #[.int .i64 1] w fun e w' => e = .returned (.string ⟨#[84, 111]⟩) ∧ Below w.heap.size w w' := by
 have HB := hid (Below.refl w.heap.size w)
 go_enter Tryz.func20, Tryz.ntmps20
 go_wp2_with fail
 go_ret
 exact ⟨rfl, HB.out⟩
theorem nameof_2 (w : World) : Calls Tryz.prog 20 #[.int .i64 2] w fun e w' => e = .returned (.string ⟨#[70, 114, 111, 109]⟩) ∧ Below w.heap.size w w' := by
 have HB := hid (Below.refl w.heap.size w)
 go_enter Tryz.func20, Tryz.ntmps20
 go_wp2_with fail
 go_ret
 exact ⟨rfl, HB.out⟩
