import Derived.Test.YtpjhmfoegmaodaaGreatDoorA06
set_option maxRecDepth 100000
set_option maxHeartbeats 16000000
set_option linter.all false
namespace Go.Proofs.YtpjhmfoegmaodaaGreatDoor
open Go.Lib (hid)
open Go.RowKit
theorem callid_sw (N n0 b : Nat) (bs : Bytes) (g : Nat) (s : ByteArray) (w : World) (hG : Gl N w) (hN : N ≤ n0) (hB : BW n0 b bs w) (hA : HB w g 114 #[.string s])  (hl : bs.length + (([67, 97, 108, 108, 45, 73, 68] : Bytes) ++ [58, 32] ++ (s.data.toList)).length ≤ 70368744177664) :
  Calls Tryz.prog 249 #[.pointer (some ⟨g, 0, none⟩), bptr b] w (WrPost n0 b bs (([67, 97, 108, 108, 45, 73, 68] : Bytes) ++ [58, 32] ++ (s.data.toList)) w) := by
 have HG := hid hG
 have HU0 := hid hA
 have HB0 := hid hB
 have HK0 := hid (WK.refl n0 b w)
 have hna := ws_nilAhead
 have hme := ws_method
 have HL := hid (And.intro hl (dl s))
 have HLN := hid trivial
 clear hG hA hB hl
 go_enter Tryz.func249, Tryz.ntmps249
 go_wp2_with fail
 refine stail 6 (by kernel_rfl) (by kernel_rfl) ?_
 simp only [List.take_succ_cons, List.take_zero, List.drop_succ_cons, List.drop_zero]
 repeat still_step
 still_call (callid_name _ _)
 repeat still_step
 refine wpStill_nil ?_
 go_wp2_with fail
 refine (ws_any n0 b _ _ _ HB0.out.drew (by have := HL.out; have := HLN.out; simp only [List.length_append, List.length_cons, List.length_nil] at *; show _ + 7 ≤ _; omega)).mono ?_
 rintro e w1 ⟨rfl, hB1, hk1⟩
 have HB1 := hid hB1
 have HK1 := hid (HK0.out.drew.trans hk1)
 have HU1 := hid ((HU0.out.below (Below.refl _ w).drew).keep HB0.out.drew hk1)
 clear hB1 hk1
 go_wp2_with fail
 refine (ws_any n0 b _ _ _ HB1.out (by have := HL.out; have := HLN.out; show _ + 2 ≤ _; simp only [List.length_append, List.length_cons, List.length_nil] at *; first | omega | (show _ + 7 + 2 ≤ _; omega))).mono ?_
 rintro e w2 ⟨rfl, hB2, hk2⟩
 have HB2 := hid hB2
 have HK2 := hid (HK1.out.trans hk2)
 have HU2 := hid (HU1.out.keep HB1.out hk2)
 clear hB2 hk2
 go_wp2_with fail
 refine stail 6 (by kernel_rfl) (by kernel_rfl) ?_
 simp only [List.take_succ_cons, List.take_zero, List.drop_succ_cons, List.drop_zero]
 repeat still_step
 still_call (callid_still g s _ (HU2.out.below (Below.refl _ w2).drew))
 repeat still_step
 refine wpStill_nil ?_
 go_wp2_with fail
 refine (ws_any n0 b _ _ _ HB2.out.drew (by have := HL.out; simp only [List.length_append, List.length_cons, List.length_nil] at *; first | omega | (show _ + 7 + 2 + ByteArray.size _ ≤ _; omega))).mono ?_
 rintro e w3 ⟨rfl, hB3, hk3⟩
 go_wp2_with fail
 go_end0
 exact ⟨rfl, by simpa using hB3, HK2.out.drew.trans hk3⟩
theorem ctype_sw (N n0 b : Nat) (bs : Bytes) (g : Nat) (s : ByteArray) (w : World) (hG : Gl N w) (hN : N ≤ n0) (hB : BW n0 b bs w) (hA : HB w g 121 #[.string s])  (hl : bs.length + (([67, 111, 110, 116, 101, 110, 116, 45, 84, 121, 112, 101] : Bytes) ++ [58, 32] ++ (s.data.toList)).length ≤ 70368744177664) :
  Calls Tryz.prog 273 #[.pointer (some ⟨g, 0, none⟩), bptr b] w (WrPost n0 b bs (([67, 111, 110, 116, 101, 110, 116, 45, 84, 121, 112, 101] : Bytes) ++ [58, 32] ++ (s.data.toList)) w) := by
 have HG := hid hG
 have HU0 := hid hA
 have HB0 := hid hB
 have HK0 := hid (WK.refl n0 b w)
 have hna := ws_nilAhead
 have hme := ws_method
 have HL := hid (And.intro hl (dl s))
 have HLN := hid trivial
 clear hG hA hB hl
 go_enter Tryz.func273, Tryz.ntmps273
 go_wp2_with fail
 refine stail 6 (by kernel_rfl) (by kernel_rfl) ?_
 simp only [List.take_succ_cons, List.take_zero, List.drop_succ_cons, List.drop_zero]
 repeat still_step
 still_call (ctype_name _ _)
 repeat still_step
 refine wpStill_nil ?_
 go_wp2_with fail
 refine (ws_any n0 b _ _ _ HB0.out.drew (by have := HL.out; have := HLN.out; simp only [List.length_append, List.length_cons, List.length_nil] at *; show _ + 12 ≤ _; omega)).mono ?_
 rintro e w1 ⟨rfl, hB1, hk1⟩
 have HB1 := hid hB1
 have HK1 := hid (HK0.out.drew.trans hk1)
 have HU1 := hid ((HU0.out.below (Below.refl _ w).drew).keep HB0.out.drew hk1)
 clear hB1 hk1
 go_wp2_with fail
 refine (ws_any n0 b _ _ _ HB1.out (by have := HL.out; have := HLN.out; show _ + 2 ≤ _; simp only [List.length_append, List.length_cons, List.length_nil] at *; first | omega | (show _ + 12 + 2 ≤ _; omega))).mono ?_
 rintro e w2 ⟨rfl, hB2, hk2⟩
 have HB2 := hid hB2
 have HK2 := hid (HK1.out.trans hk2)
 have HU2 := hid (HU1.out.keep HB1.out hk2)
 clear hB2 hk2
 go_wp2_with fail
 refine stail 6 (by kernel_rfl) (by kernel_rfl) ?_
 simp only [List.take_succ_cons, List.take_zero, List.drop_succ_cons, List.drop_zero]
 repeat still_step
 still_call (ctype_still g s _ (HU2.out.below (Below.refl _ w2).drew))
 repeat still_step
 refine wpStill_nil ?_
 go_wp2_with fail
 refine (ws_any n0 b _ _ _ HB2.out.drew (by have := HL.out; simp only [List.length_append, List.length_cons, List.length_nil] at *; first | omega | (show _ + 12 + 2 + ByteArray.size _ ≤ _; omega))).mono ?_
 rintro e w3 ⟨rfl, hB3, hk3⟩
 go_wp2_with fail
 go_end0
 exact ⟨rfl, by simpa using hB3, HK2.out.drew.trans hk3⟩
theorem generic_sw (N n0 b : Nat) (bs : Bytes) (g : Nat) (n v : ByteArray) (w : World) (hG : Gl N w) (hN : N ≤ n0) (hB : BW n0 b bs w) (hA : HB w g 152 #[.string n, .string v])  (hl : bs.length + (n.data.toList ++ [58, 32] ++ (v.data.toList)).length ≤ 70368744177664) :
  Calls Tryz.prog 324 #[.pointer (some ⟨g, 0, none⟩), bptr b] w (WrPost n0 b bs (n.data.toList ++ [58, 32] ++ (v.data.toList)) w) := by
 have HG := hid hG
 have HU0 := hid hA
 have HB0 := hid hB
 have HK0 := hid (WK.refl n0 b w)
 have hna := ws_nilAhead
 have hme := ws_method
 have HL := hid (And.intro hl (And.intro (dl n) (dl v)))
 have HLN := hid trivial
 clear hG hA hB hl
 go_enter Tryz.func324, Tryz.ntmps324
 go_wp2_with fail
 refine stail 6 (by kernel_rfl) (by kernel_rfl) ?_
 simp only [List.take_succ_cons, List.take_zero, List.drop_succ_cons, List.drop_zero]
 repeat still_step
 still_call (generic_name g n v _ (HU0.out.below (Below.refl _ w).drew))
 repeat still_step
 refine wpStill_nil ?_
 go_wp2_with fail
 refine (ws_any n0 b _ _ _ HB0.out.drew (by have := HL.out; have := HLN.out; simp only [List.length_append, List.length_cons, List.length_nil] at *; omega)).mono ?_
 rintro e w1 ⟨rfl, hB1, hk1⟩
 have HB1 := hid hB1
 have HK1 := hid (HK0.out.drew.trans hk1)
 have HU1 := hid ((HU0.out.below (Below.refl _ w).drew).keep HB0.out.drew hk1)
 clear hB1 hk1
 go_wp2_with fail
 refine (ws_any n0 b _ _ _ HB1.out (by have := HL.out; have := HLN.out; show _ + 2 ≤ _; simp only [List.length_append, List.length_cons, List.length_nil] at *; first | omega | (show _ + 1 + 2 ≤ _; omega))).mono ?_
 rintro e w2 ⟨rfl, hB2, hk2⟩
 have HB2 := hid hB2
 have HK2 := hid (HK1.out.trans hk2)
 have HU2 := hid (HU1.out.keep HB1.out hk2)
 clear hB2 hk2
 go_wp2_with fail
 refine stail 6 (by kernel_rfl) (by kernel_rfl) ?_
 simp only [List.take_succ_cons, List.take_zero, List.drop_succ_cons, List.drop_zero]
 repeat still_step
 still_call (generic_still g n v _ (HU2.out.below (Below.refl _ w2).drew))
 repeat still_step
 refine wpStill_nil ?_
 go_wp2_with fail
 refine (ws_any n0 b _ _ _ HB2.out.drew (by have := HL.out; simp only [List.length_append, List.length_cons, List.length_nil] at *; first | omega | (show _ + 0 + 2 + ByteArray.size _ ≤ _; omega))).mono ?_
 rintro e w3 ⟨rfl, hB3, hk3⟩
 go_wp2_with fail
 go_end0
 exact ⟨rfl, by simpa using hB3, HK2.out.drew.trans hk3⟩
theorem cseq_sw (N n0 b : Nat) (bs : Bytes) (g : Nat) (n : Int) (m : ByteArray) (w : World) (hG : Gl N w) (hN : N ≤ n0) (hB : BW n0 b bs w) (hA : HB w g 116 #[.int .u32 n, .string m]) (hn : 0 ≤ n ∧ n < 4294967296) (hl : bs.length + (([67, 83, 101, 113] : Bytes) ++ [58, 32] ++ (Lib.itoa n ++ [32] ++ m.data.toList)).length ≤ 70368744177664) :
  Calls Tryz.prog 261 #[.pointer (some ⟨g, 0, none⟩), bptr b] w (WrPost n0 b bs (([67, 83, 101, 113] : Bytes) ++ [58, 32] ++ (Lib.itoa n ++ [32] ++ m.data.toList)) w) := by
 have HG := hid hG
 have HU0 := hid hA
 have HB0 := hid hB
 have HK0 := hid (WK.refl n0 b w)
 have hna := ws_nilAhead
 have hme := ws_method
 have HL := hid (And.intro hl trivial)
 have HLN := hid trivial
 have HE := hid (fun N n0 b bs g w h1 h2 h3 h4 h5 => cseq_vsw N n0 b bs g n m w h1 h2 h3 h4 hn h5)
 have HN := hid hn
 clear hG hA hB hl hn
 go_enter Tryz.func261, Tryz.ntmps261
 go_wp2_with fail
 refine stail 6 (by kernel_rfl) (by kernel_rfl) ?_
 simp only [List.take_succ_cons, List.take_zero, List.drop_succ_cons, List.drop_zero]
 repeat still_step
 still_call (cseq_name _ _)
 repeat still_step
 refine wpStill_nil ?_
 go_wp2_with fail
 refine (ws_any n0 b _ _ _ HB0.out.drew (by have := HL.out; have := HLN.out; simp only [List.length_append, List.length_cons, List.length_nil] at *; show _ + 4 ≤ _; omega)).mono ?_
 rintro e w1 ⟨rfl, hB1, hk1⟩
 have HB1 := hid hB1
 have HK1 := hid (HK0.out.drew.trans hk1)
 have HU1 := hid ((HU0.out.below (Below.refl _ w).drew).keep HB0.out.drew hk1)
 clear hB1 hk1
 go_wp2_with fail
 refine (ws_any n0 b _ _ _ HB1.out (by have := HL.out; have := HLN.out; show _ + 2 ≤ _; simp only [List.length_append, List.length_cons, List.length_nil] at *; first | omega | (show _ + 4 + 2 ≤ _; omega))).mono ?_
 rintro e w2 ⟨rfl, hB2, hk2⟩
 have HB2 := hid hB2
 have HK2 := hid (HK1.out.trans hk2)
 have HU2 := hid (HU1.out.keep HB1.out hk2)
 clear hB2 hk2
 go_wp2_with fail
 refine (HE.out N n0 b _ g _ (HG.out.below HK2.out.1 hN) hN HB2.out HU2.out (by have := HL.out; simp only [List.length_append, List.length_cons, List.length_nil] at *; first | omega | (show _ + 4 + 2 + List.length _ ≤ _; omega))).mono ?_
 rintro e w3 ⟨rfl, hB3, hk3⟩
 go_wp2_with fail
 go_end0
 exact ⟨rfl, by simpa using hB3, HK2.out.trans hk3⟩
theorem maxf_sw (N n0 b : Nat) (bs : Bytes) (g : Nat) (n : Int) (w : World) (hG : Gl N w) (hN : N ≤ n0) (hB : BW n0 b bs w) (hA : HB w g 117 #[.int .u32 n]) (hn : 0 ≤ n ∧ n < 4294967296) (hl : bs.length + (([77, 97, 120, 45, 70, 111, 114, 119, 97, 114, 100, 115] : Bytes) ++ [58, 32] ++ (Lib.itoa n)).length ≤ 70368744177664) :
  Calls Tryz.prog 292 #[.pointer (some ⟨g, 0, none⟩), bptr b] w (WrPost n0 b bs (([77, 97, 120, 45, 70, 111, 114, 119, 97, 114, 100, 115] : Bytes) ++ [58, 32] ++ (Lib.itoa n)) w) := by
 have HG := hid hG
 have HU0 := hid hA
 have HB0 := hid hB
 have HK0 := hid (WK.refl n0 b w)
 have hna := ws_nilAhead
 have hme := ws_method
 have HL := hid (And.intro hl (sz (Lib.itoa n)))
 have HLN := hid trivial
 have HV := hid (fun N g w h1 h4 h5 => maxf_val N g n w h1 h4 hn h5)
 have HN := hid hn
 clear hG hA hB hl hn
 go_enter Tryz.func292, Tryz.ntmps292
 go_wp2_with fail
 refine stail 6 (by kernel_rfl) (by kernel_rfl) ?_
 simp only [List.take_succ_cons, List.take_zero, List.drop_succ_cons, List.drop_zero]
 repeat still_step
 still_call (maxf_name _ _)
 repeat still_step
 refine wpStill_nil ?_
 go_wp2_with fail
 refine (ws_any n0 b _ _ _ HB0.out.drew (by have := HL.out; have := HLN.out; simp only [List.length_append, List.length_cons, List.length_nil] at *; show _ + 12 ≤ _; omega)).mono ?_
 rintro e w1 ⟨rfl, hB1, hk1⟩
 have HB1 := hid hB1
 have HK1 := hid (HK0.out.drew.trans hk1)
 have HU1 := hid ((HU0.out.below (Below.refl _ w).drew).keep HB0.out.drew hk1)
 clear hB1 hk1
 go_wp2_with fail
 refine (ws_any n0 b _ _ _ HB1.out (by have := HL.out; have := HLN.out; show _ + 2 ≤ _; simp only [List.length_append, List.length_cons, List.length_nil] at *; first | omega | (show _ + 12 + 2 ≤ _; omega))).mono ?_
 rintro e w2 ⟨rfl, hB2, hk2⟩
 have HB2 := hid hB2
 have HK2 := hid (HK1.out.trans hk2)
 have HU2 := hid (HU1.out.keep HB1.out hk2)
 clear hB2 hk2
 go_wp2_with fail
 have HGd := hid ((HG.out.below HK2.out.1 hN).below (Below.refl N w2).drew (Nat.le_refl _))
 have HS := hid (sz (Lib.itoa n))
 go_region_held3 (fun w' => True) (trivial)
  (first
   | (go_at_call 293; refine (HV.out N g _ HGd.out (HU2.out.below (Below.refl _ w2).drew) (by have := HL.out; simp only [List.length_append] at *; omega)).mono ?_; rintro e w4 ⟨rfl, hb4⟩)
   | (go_at_call 90; refine (ws_any n0 b _ _ _ (HB2.out.drew.below hb4) ?_).mono ?_; (have := HL.out; have := HS.out; simp only [List.length_append, List.length_cons, List.length_nil] at *; first | omega | (show _ + 12 + 2 + List.length _ ≤ _; omega) | (rw [this]; show _ + 12 + 2 + _ ≤ _; omega)); rintro e w5 ⟨rfl, hB5, hk5⟩))
 all_goals (go_wp2_with fail; go_end0; exact ⟨rfl, by simpa using hB5, HK2.out.drew.trans ((WK.of_below (w := w2.drew) hb4 (Nat.le_of_lt (Nat.lt_of_le_of_lt HB2.out.lt.1 HB2.out.lt.2))).trans hk5)⟩)
theorem clen_sw (N n0 b : Nat) (bs : Bytes) (n : Int) (w0 : World) (hG : Gl N w0) (hN : N ≤ n0) (hB : BW n0 b bs w0) (hn : 0 ≤ n ∧ n < 4294967296) (hl : bs.length + (([67, 111, 110, 116, 101, 110, 116, 45, 76, 101, 110, 103, 116, 104] : Bytes) ++ [58, 32] ++ (Lib.itoa n)).length ≤ 70368744177664) :
  Calls Tryz.prog 267 #[.int .u32 n, bptr b] w0 (WrPost n0 b bs (([67, 111, 110, 116, 101, 110, 116, 45, 76, 101, 110, 103, 116, 104] : Bytes) ++ [58, 32] ++ (Lib.itoa n)) w0) := by
 have hbb : Below w0.heap.size w0 (w0.alloc (.cells #[.int .u32 n] 120)) := (Below.refl _ _).alloc (Nat.le_refl _) _
 have HK0 := hid (WK.of_below (n0 := n0) (b := b) hbb (Nat.le_of_lt (Nat.lt_of_le_of_lt hB.lt.1 hB.lt.2)))
 have HB0 := hid (hB.below hbb)
 have HG0 := hid hG
 have HU0 : Hid (HB (w0.alloc (.cells #[.int .u32 n] 120)) w0.heap.size 120 #[.int .u32 n]) := hid ⟨heap_alloc_new _ _, by decide, by decide⟩
 have hna := ws_nilAhead
 have hme := ws_method
 have HL := hid (And.intro hl (sz (Lib.itoa n)))
 have HLN := hid trivial
 have HN := hid hn
 clear hbb hG hB hl hn
 go_enter Tryz.func267, Tryz.ntmps267
 go_upto_region 1 with fail
 generalize hw : w0.alloc (.cells #[.int .u32 n] 120) = w at *
 obtain ⟨g, hg⟩ : ∃ g, g = w0.heap.size := ⟨_, rfl⟩
 rw [← hg] at HU0
 rw [← hg]
 clear hw hg
 refine stail 5 (by kernel_rfl) (by kernel_rfl) ?_
 simp only [List.take_succ_cons, List.take_zero, List.drop_succ_cons, List.drop_zero]
 repeat still_step
 still_call (clen_name _ _)
 repeat still_step
 refine wpStill_nil ?_
 go_wp2_with fail
 refine (ws_any n0 b _ _ _ HB0.out.drew (by have := HL.out; have := HLN.out; simp only [List.length_append, List.length_cons, List.length_nil] at *; show _ + 14 ≤ _; omega)).mono ?_
 rintro e w1 ⟨rfl, hB1, hk1⟩
 have HB1 := hid hB1
 have HK1 := hid (HK0.out.drew.trans hk1)
 have HU1 := hid ((HU0.out.below (Below.refl _ w).drew).keep HB0.out.drew hk1)
 clear hB1 hk1
 go_wp2_with fail
 refine (ws_any n0 b _ _ _ HB1.out (by have := HL.out; have := HLN.out; show _ + 2 ≤ _; simp only [List.length_append, List.length_cons, List.length_nil] at *; first | omega | (show _ + 14 + 2 ≤ _; omega))).mono ?_
 rintro e w2 ⟨rfl, hB2, hk2⟩
 have HB2 := hid hB2
 have HK2 := hid (HK1.out.trans hk2)
 have HU2 := hid (HU1.out.keep HB1.out hk2)
 clear hB2 hk2
 go_wp2_with fail
 have c0 : w2.cell? ⟨g, 0, none⟩ = some (.int .u32 n) := HU2.out.cell 0
 have HC := hid c0
 have HGd := hid ((HG0.out.below HK2.out.1 hN).below (Below.refl N w2).drew (Nat.le_refl _))
 clear c0
 go_region_held3 (fun w' => w'.cell? ⟨g, 0, none⟩ = some (.int .u32 n)) (first | exact HC.out | exact cell_below (w := w2.drew) hb4 HC.out | exact (HU2.out.below (Below.refl _ w2).drew |>.below hb4).cellKeep (HB2.out.drew.below hb4) hk5 (cell_below (w := w2.drew) hb4 HC.out))
  (first
   | (go_at_call 268; refine (clen_val0 N n _ HGd.out HN.out).mono ?_; rintro e w4 ⟨rfl, hb4⟩)
   | (go_at_call 90; refine (ws_any n0 b _ _ _ (HB2.out.drew.below hb4) ?_).mono ?_; (have := HL.out; simp only [List.length_append, List.length_cons, List.length_nil] at *; first | omega | (show _ + 14 + 2 + List.length _ ≤ _; omega)); rintro e w5 ⟨rfl, hB5, hk5⟩))
 all_goals (go_wp2_with fail; go_end0; exact ⟨rfl, by simpa using hB5, HK2.out.drew.trans ((WK.of_below (w := w2.drew) hb4 (Nat.le_of_lt (Nat.lt_of_le_of_lt HB2.out.lt.1 HB2.out.lt.2))).trans hk5)⟩)
theorem to_sw (N n0 b : Nat) (bs : Bytes) (g : Nat) (d : ByteArray) (u : SUri) (p : KVs) (w : World) (hG : Gl N w) (hN : N ≤ n0) (hB : BW n0 b bs w) (hA : AddrAt 138 w g d u p) (ho : UOk u) (hp : KVok p) (hl : bs.length + (([84, 111] : Bytes) ++ [58, 32] ++ (addrT d u p)).length ≤ 70368744177664) :
  Calls Tryz.prog 243 #[.pointer (some ⟨g, 0, none⟩), bptr b] w (WrPost n0 b bs (([84, 111] : Bytes) ++ [58, 32] ++ (addrT d u p)) w) := by
 have HG := hid hG
 have HU0 := hid hA
 have HB0 := hid hB
 have HK0 := hid (WK.refl n0 b w)
 have hna := ws_nilAhead
 have hme := ws_method
 have HL := hid (And.intro hl trivial)
 have HLN := hid trivial
 have HE := hid (fun N n0 b bs g w h1 h2 h3 h4 h5 => to_vsw N n0 b bs g d u p w h1 h2 h3 h4 ho hp h5)
 clear hG hA hB hl
 go_enter Tryz.func243, Tryz.ntmps243
 go_wp2_with fail
 refine stail 6 (by kernel_rfl) (by kernel_rfl) ?_
 simp only [List.take_succ_cons, List.take_zero, List.drop_succ_cons, List.drop_zero]
 repeat still_step
 still_call (to_name _ _)
 repeat still_step
 refine wpStill_nil ?_
 go_wp2_with fail
 refine (ws_any n0 b _ _ _ HB0.out.drew (by have := HL.out; have := HLN.out; simp only [List.length_append, List.length_cons, List.length_nil] at *; show _ + 2 ≤ _; omega)).mono ?_
 rintro e w1 ⟨rfl, hB1, hk1⟩
 have HB1 := hid hB1
 have HK1 := hid (HK0.out.drew.trans hk1)
 have HU1 := hid ((HU0.out.below (Below.refl _ w).drew).keep HB0.out.drew hk1)
 clear hB1 hk1
 go_wp2_with fail
 refine (ws_any n0 b _ _ _ HB1.out (by have := HL.out; have := HLN.out; show _ + 2 ≤ _; simp only [List.length_append, List.length_cons, List.length_nil] at *; first | omega | (show _ + 2 + 2 ≤ _; omega))).mono ?_
 rintro e w2 ⟨rfl, hB2, hk2⟩
 have HB2 := hid hB2
 have HK2 := hid (HK1.out.trans hk2)
 have HU2 := hid (HU1.out.keep HB1.out hk2)
 clear hB2 hk2
 go_wp2_with fail
 refine (HE.out N n0 b _ g _ (HG.out.below HK2.out.1 hN) hN HB2.out HU2.out (by have := HL.out; simp only [List.length_append, List.length_cons, List.length_nil] at *; first | omega | (show _ + 2 + 2 + List.length _ ≤ _; omega))).mono ?_
 rintro e w3 ⟨rfl, hB3, hk3⟩
 go_wp2_with fail
 go_end0
 exact ⟨rfl, by simpa using hB3, HK2.out.trans hk3⟩
theorem from_sw (N n0 b : Nat) (bs : Bytes) (g : Nat) (d : ByteArray) (u : SUri) (p : KVs) (w : World) (hG : Gl N w) (hN : N ≤ n0) (hB : BW n0 b bs w) (hA : AddrAt 139 w g d u p) (ho : UOk u) (hp : KVok p) (hl : bs.length + (([70, 114, 111, 109] : Bytes) ++ [58, 32] ++ (addrT d u p)).length ≤ 70368744177664) :
  Calls Tryz.prog 237 #[.pointer (some ⟨g, 0, none⟩), bptr b] w (WrPost n0 b bs (([70, 114, 111, 109] : Bytes) ++ [58, 32] ++ (addrT d u p)) w) := by
 have HG := hid hG
 have HU0 := hid hA
 have HB0 := hid hB
 have HK0 := hid (WK.refl n0 b w)
 have hna := ws_nilAhead
 have hme := ws_method
 have HL := hid (And.intro hl trivial)
 have HLN := hid trivial
 have HE := hid (fun N n0 b bs g w h1 h2 h3 h4 h5 => from_vsw N n0 b bs g d u p w h1 h2 h3 h4 ho hp h5)
 clear hG hA hB hl
 go_enter Tryz.func237, Tryz.ntmps237
 go_wp2_with fail
 refine stail 6 (by kernel_rfl) (by kernel_rfl) ?_
 simp only [List.take_succ_cons, List.take_zero, List.drop_succ_cons, List.drop_zero]
 repeat still_step
 still_call (from_name _ _)
 repeat still_step
 refine wpStill_nil ?_
 go_wp2_with fail
 refine (ws_any n0 b _ _ _ HB0.out.drew (by have := HL.out; have := HLN.out; simp only [List.length_append, List.length_cons, List.length_nil] at *; show _ + 4 ≤ _; omega)).mono ?_
 rintro e w1 ⟨rfl, hB1, hk1⟩
 have HB1 := hid hB1
 have HK1 := hid (HK0.out.drew.trans hk1)
 have HU1 := hid ((HU0.out.below (Below.refl _ w).drew).keep HB0.out.drew hk1)
 clear hB1 hk1
 go_wp2_with fail
 refine (ws_any n0 b _ _ _ HB1.out (by have := HL.out; have := HLN.out; show _ + 2 ≤ _; simp only [List.length_append, List.length_cons, List.length_nil] at *; first | omega | (show _ + 4 + 2 ≤ _; omega))).mono ?_
 rintro e w2 ⟨rfl, hB2, hk2⟩
 have HB2 := hid hB2
 have HK2 := hid (HK1.out.trans hk2)
 have HU2 := hid (HU1.out.keep HB1.out hk2)
 clear hB2 hk2
 go_wp2_with fail
 refine (HE.out N n0 b _ g _ (HG.out.below HK2.out.1 hN) hN HB2.out HU2.out (by have := HL.out; simp only [List.length_append, List.length_cons, List.length_nil] at *; first | omega | (show _ + 4 + 2 + List.length _ ≤ _; omega))).mono ?_
 rintro e w3 ⟨rfl, hB3, hk3⟩
 go_wp2_with fail
 go_end0
 exact ⟨rfl, by simpa using hB3, HK2.out.trans hk3⟩
theorem contact_sw (N n0 b : Nat) (bs : Bytes) (g : Nat) (d : ByteArray) (u : SUri) (p : KVs) (w : World) (hG : Gl N w) (hN : N ≤ n0) (hB : BW n0 b bs w) (hA : AddrAt 140 w g d u p) (ho : UOk u) (hst : u.star = false) (hp : KVok p) (hl : bs.length + (([67, 111, 110, 116, 97, 99, 116] : Bytes) ++ [58, 32] ++ (addrT d u p)).length ≤ 70368744177664) :
  Calls Tryz.prog 255 #[.pointer (some ⟨g, 0, none⟩), bptr b] w (WrPost n0 b bs (([67, 111, 110, 116, 97, 99, 116] : Bytes) ++ [58, 32] ++ (addrT d u p)) w) := by
 have HG := hid hG
 have HU0 := hid hA
 have HB0 := hid hB
 have HK0 := hid (WK.refl n0 b w)
 have hna := ws_nilAhead
 have hme := ws_method
 have HL := hid (And.intro hl trivial)
 have HLN := hid trivial
 have HE := hid (fun N n0 b bs g w h1 h2 h3 h4 h5 => contact_vsw N n0 b bs g d u p w h1 h2 h3 h4 ho hst hp h5)
 clear hG hA hB hl
 go_enter Tryz.func255, Tryz.ntmps255
 go_wp2_with fail
 refine stail 6 (by kernel_rfl) (by kernel_rfl) ?_
 simp only [List.take_succ_cons, List.take_zero, List.drop_succ_cons, List.drop_zero]
 repeat still_step
 still_call (contact_name _ _)
 repeat still_step
 refine wpStill_nil ?_
 go_wp2_with fail
 refine (ws_any n0 b _ _ _ HB0.out.drew (by have := HL.out; have := HLN.out; simp only [List.length_append, List.length_cons, List.length_nil] at *; show _ + 7 ≤ _; omega)).mono ?_
 rintro e w1 ⟨rfl, hB1, hk1⟩
 have HB1 := hid hB1
 have HK1 := hid (HK0.out.drew.trans hk1)
 have HU1 := hid ((HU0.out.below (Below.refl _ w).drew).keep HB0.out.drew hk1)
 clear hB1 hk1
 go_wp2_with fail
 refine (ws_any n0 b _ _ _ HB1.out (by have := HL.out; have := HLN.out; show _ + 2 ≤ _; simp only [List.length_append, List.length_cons, List.length_nil] at *; first | omega | (show _ + 7 + 2 ≤ _; omega))).mono ?_
 rintro e w2 ⟨rfl, hB2, hk2⟩
 have HB2 := hid hB2
 have HK2 := hid (HK1.out.trans hk2)
 have HU2 := hid (HU1.out.keep HB1.out hk2)
 clear hB2 hk2
 go_wp2_with fail
 refine (HE.out N n0 b _ g _ (HG.out.below HK2.out.1 hN) hN HB2.out HU2.out (by have := HL.out; simp only [List.length_append, List.length_cons, List.length_nil] at *; first | omega | (show _ + 7 + 2 + List.length _ ≤ _; omega))).mono ?_
 rintro e w3 ⟨rfl, hB3, hk3⟩
 go_wp2_with fail
 go_end0
 exact ⟨rfl, by simpa using hB3, HK2.out.trans hk3⟩
theorem refby_sw (N n0 b : Nat) (bs : Bytes) (g : Nat) (d : ByteArray) (u : SUri) (p : KVs) (w : World) (hG : Gl N w) (hN : N ≤ n0) (hB : BW n0 b bs w) (hA : AddrAt 149 w g d u p) (ho : UOk u) (hp : KVok p) (hl : bs.length + (([82, 101, 102, 101, 114, 114, 101, 100, 45, 66, 121] : Bytes) ++ [58, 32] ++ (addrT d u p)).length ≤ 70368744177664) :
  Calls Tryz.prog 318 #[.pointer (some ⟨g, 0, none⟩), bptr b] w (WrPost n0 b bs (([82, 101, 102, 101, 114, 114, 101, 100, 45, 66, 121] : Bytes) ++ [58, 32] ++ (addrT d u p)) w) := by
 have HG := hid hG
 have HU0 := hid hA
 have HB0 := hid hB
 have HK0 := hid (WK.refl n0 b w)
 have hna := ws_nilAhead
 have hme := ws_method
 have HL := hid (And.intro hl trivial)
 have HLN := hid trivial
 have HE := hid (fun N n0 b bs g w h1 h2 h3 h4 h5 => refby_vsw N n0 b bs g d u p w h1 h2 h3 h4 ho hp h5)
 clear hG hA hB hl
 go_enter Tryz.func318, Tryz.ntmps318
 go_wp2_with fail
 refine stail 6 (by kernel_rfl) (by kernel_rfl) ?_
 simp only [List.take_succ_cons, List.take_zero, List.drop_succ_cons, List.drop_zero]
 repeat still_step
 still_call (refby_name _ _)
 repeat still_step
 refine wpStill_nil ?_
 go_wp2_with fail
 refine (ws_any n0 b _ _ _ HB0.out.drew (by have := HL.out; have := HLN.out; simp only [List.length_append, List.length_cons, List.length_nil] at *; show _ + 11 ≤ _; omega)).mono ?_
 rintro e w1 ⟨rfl, hB1, hk1⟩
 have HB1 := hid hB1
 have HK1 := hid (HK0.out.drew.trans hk1)
 have HU1 := hid ((HU0.out.below (Below.refl _ w).drew).keep HB0.out.drew hk1)
 clear hB1 hk1
 go_wp2_with fail
 refine (ws_any n0 b _ _ _ HB1.out (by have := HL.out; have := HLN.out; show _ + 2 ≤ _; simp only [List.length_append, List.length_cons, List.length_nil] at *; first | omega | (show _ + 11 + 2 ≤ _; omega))).mono ?_
 rintro e w2 ⟨rfl, hB2, hk2⟩
 have HB2 := hid hB2
 have HK2 := hid (HK1.out.trans hk2)
 have HU2 := hid (HU1.out.keep HB1.out hk2)
 clear hB2 hk2
 go_wp2_with fail
 refine (HE.out N n0 b _ g _ (HG.out.below HK2.out.1 hN) hN HB2.out HU2.out (by have := HL.out; simp only [List.length_append, List.length_cons, List.length_nil] at *; first | omega | (show _ + 11 + 2 + List.length _ ≤ _; omega))).mono ?_
 rintro e w3 ⟨rfl, hB3, hk3⟩
 go_wp2_with fail
 go_end0
 exact ⟨rfl, by simpa using hB3, HK2.out.trans hk3⟩
theorem route_sw (N n0 b : Nat) (bs : Bytes) (g : Nat) (u : SUri) (w : World) (hG : Gl N w) (hN : N ≤ n0) (hB : BW n0 b bs w) (hA : BareAt 144 w g u) (ho : UOk u) (hl : bs.length + (([82, 111, 117, 116, 101] : Bytes) ++ [58, 32] ++ ([60] ++ uriT u ++ [62])).length ≤ 70368744177664) :
  Calls Tryz.prog 279 #[.pointer (some ⟨g, 0, none⟩), bptr b] w (WrPost n0 b bs (([82, 111, 117, 116, 101] : Bytes) ++ [58, 32] ++ ([60] ++ uriT u ++ [62])) w) := by
 have HG := hid hG
 have HU0 := hid hA
 have HB0 := hid hB
 have HK0 := hid (WK.refl n0 b w)
 have hna := ws_nilAhead
 have hme := ws_method
 have HL := hid (And.intro hl trivial)
 have HLN := hid trivial
 have HE := hid (fun N n0 b bs g w h1 h2 h3 h4 h5 => route_vsw N n0 b bs g u w h1 h2 h3 h4 ho h5)
 clear hG hA hB hl
 go_enter Tryz.func279, Tryz.ntmps279
 go_wp2_with fail
 refine stail 6 (by kernel_rfl) (by kernel_rfl) ?_
 simp only [List.take_succ_cons, List.take_zero, List.drop_succ_cons, List.drop_zero]
 repeat still_step
 still_call (route_name _ _)
 repeat still_step
 refine wpStill_nil ?_
 go_wp2_with fail
 refine (ws_any n0 b _ _ _ HB0.out.drew (by have := HL.out; have := HLN.out; simp only [List.length_append, List.length_cons, List.length_nil] at *; show _ + 5 ≤ _; omega)).mono ?_
 rintro e w1 ⟨rfl, hB1, hk1⟩
 have HB1 := hid hB1
 have HK1 := hid (HK0.out.drew.trans hk1)
 have HU1 := hid ((HU0.out.below (Below.refl _ w).drew).keep HB0.out.drew hk1)
 clear hB1 hk1
 go_wp2_with fail
 refine (ws_any n0 b _ _ _ HB1.out (by have := HL.out; have := HLN.out; show _ + 2 ≤ _; simp only [List.length_append, List.length_cons, List.length_nil] at *; first | omega | (show _ + 5 + 2 ≤ _; omega))).mono ?_
 rintro e w2 ⟨rfl, hB2, hk2⟩
 have HB2 := hid hB2
 have HK2 := hid (HK1.out.trans hk2)
 have HU2 := hid (HU1.out.keep HB1.out hk2)
 clear hB2 hk2
 go_wp2_with fail
 refine (HE.out N n0 b _ g _ (HG.out.below HK2.out.1 hN) hN HB2.out HU2.out (by have := HL.out; simp only [List.length_append, List.length_cons, List.length_nil] at *; first | omega | (show _ + 5 + 2 + List.length _ ≤ _; omega))).mono ?_
 rintro e w3 ⟨rfl, hB3, hk3⟩
 go_wp2_with fail
 go_end0
 exact ⟨rfl, by simpa using hB3, HK2.out.trans hk3⟩
theorem rroute_sw (N n0 b : Nat) (bs : Bytes) (g : Nat) (u : SUri) (w : World) (hG : Gl N w) (hN : N ≤ n0) (hB : BW n0 b bs w) (hA : BareAt 145 w g u) (ho : UOk u) (hl : bs.length + (([82, 101, 99, 111, 114, 100, 45, 82, 111, 117, 116, 101] : Bytes) ++ [58, 32] ++ ([60] ++ uriT u ++ [62])).length ≤ 70368744177664) :
  Calls Tryz.prog 285 #[.pointer (some ⟨g, 0, none⟩), bptr b] w (WrPost n0 b bs (([82, 101, 99, 111, 114, 100, 45, 82, 111, 117, 116, 101] : Bytes) ++ [58, 32] ++ ([60] ++ uriT u ++ [62])) w) := by
 have HG := hid hG
 have HU0 := hid hA
 have HB0 := hid hB
 have HK0 := hid (WK.refl n0 b w)
 have hna := ws_nilAhead
 have hme := ws_method
 have HL := hid (And.intro hl trivial)
 have HLN := hid trivial
 have HE := hid (fun N n0 b bs g w h1 h2 h3 h4 h5 => rroute_vsw N n0 b bs g u w h1 h2 h3 h4 ho h5)
 clear hG hA hB hl
 go_enter Tryz.func285, Tryz.ntmps285
 go_wp2_with fail
 refine stail 6 (by kernel_rfl) (by kernel_rfl) ?_
 simp only [List.take_succ_cons, List.take_zero, List.drop_succ_cons, List.drop_zero]
 repeat still_step
 still_call (rroute_name _ _)
 repeat still_step
 refine wpStill_nil ?_
 go_wp2_with fail
 refine (ws_any n0 b _ _ _ HB0.out.drew (by have := HL.out; have := HLN.out; simp only [List.length_append, List.length_cons, List.length_nil] at *; show _ + 12 ≤ _; omega)).mono ?_
 rintro e w1 ⟨rfl, hB1, hk1⟩
 have HB1 := hid hB1
 have HK1 := hid (HK0.out.drew.trans hk1)
 have HU1 := hid ((HU0.out.below (Below.refl _ w).drew).keep HB0.out.drew hk1)
 clear hB1 hk1
 go_wp2_with fail
 refine (ws_any n0 b _ _ _ HB1.out (by have := HL.out; have := HLN.out; show _ + 2 ≤ _; simp only [List.length_append, List.length_cons, List.length_nil] at *; first | omega | (show _ + 12 + 2 ≤ _; omega))).mono ?_
 rintro e w2 ⟨rfl, hB2, hk2⟩
 have HB2 := hid hB2
 have HK2 := hid (HK1.out.trans hk2)
 have HU2 := hid (HU1.out.keep HB1.out hk2)
 clear hB2 hk2
 go_wp2_with fail
 refine (HE.out N n0 b _ g _ (HG.out.below HK2.out.1 hN) hN HB2.out HU2.out (by have := HL.out; simp only [List.length_append, List.length_cons, List.length_nil] at *; first | omega | (show _ + 12 + 2 + List.length _ ≤ _; omega))).mono ?_
 rintro e w3 ⟨rfl, hB3, hk3⟩
 go_wp2_with fail
 go_end0
 exact ⟨rfl, by simpa using hB3, HK2.out.trans hk3⟩
theorem referto_sw (N n0 b : Nat) (bs : Bytes) (g : Nat) (u : SUri) (w : World) (hG : Gl N w) (hN : N ≤ n0) (hB : BW n0 b bs w) (hA : BareAt 147 w g u) (ho : UOk u) (hl : bs.length + (([82, 101, 102, 101, 114, 45, 84, 111] : Bytes) ++ [58, 32] ++ ([60] ++ uriT u ++ [62])).length ≤ 70368744177664) :
  Calls Tryz.prog 312 #[.pointer (some ⟨g, 0, none⟩), bptr b] w (WrPost n0 b bs (([82, 101, 102, 101, 114, 45, 84, 111] : Bytes) ++ [58, 32] ++ ([60] ++ uriT u ++ [62])) w) := by
 have HG := hid hG
 have HU0 := hid hA
 have HB0 := hid hB
 have HK0 := hid (WK.refl n0 b w)
 have hna := ws_nilAhead
 have hme := ws_method
 have HL := hid (And.intro hl trivial)
 have HLN := hid trivial
 have HE := hid (fun N n0 b bs g w h1 h2 h3 h4 h5 => referto_vsw N n0 b bs g u w h1 h2 h3 h4 ho h5)
 clear hG hA hB hl
 go_enter Tryz.func312, Tryz.ntmps312
 go_wp2_with fail
 refine stail 6 (by kernel_rfl) (by kernel_rfl) ?_
 simp only [List.take_succ_cons, List.take_zero, List.drop_succ_cons, List.drop_zero]
 repeat still_step
 still_call (referto_name _ _)
 repeat still_step
 refine wpStill_nil ?_
 go_wp2_with fail
 refine (ws_any n0 b _ _ _ HB0.out.drew (by have := HL.out; have := HLN.out; simp only [List.length_append, List.length_cons, List.length_nil] at *; show _ + 8 ≤ _; omega)).mono ?_
 rintro e w1 ⟨rfl, hB1, hk1⟩
 have HB1 := hid hB1
 have HK1 := hid (HK0.out.drew.trans hk1)
 have HU1 := hid ((HU0.out.below (Below.refl _ w).drew).keep HB0.out.drew hk1)
 clear hB1 hk1
 go_wp2_with fail
 refine (ws_any n0 b _ _ _ HB1.out (by have := HL.out; have := HLN.out; show _ + 2 ≤ _; simp only [List.length_append, List.length_cons, List.length_nil] at *; first | omega | (show _ + 8 + 2 ≤ _; omega))).mono ?_
 rintro e w2 ⟨rfl, hB2, hk2⟩
 have HB2 := hid hB2
 have HK2 := hid (HK1.out.trans hk2)
 have HU2 := hid (HU1.out.keep HB1.out hk2)
 clear hB2 hk2
 go_wp2_with fail
 refine (HE.out N n0 b _ g _ (HG.out.below HK2.out.1 hN) hN HB2.out HU2.out (by have := HL.out; simp only [List.length_append, List.length_cons, List.length_nil] at *; first | omega | (show _ + 8 + 2 + List.length _ ≤ _; omega))).mono ?_
 rintro e w3 ⟨rfl, hB3, hk3⟩
 go_wp2_with fail
 go_end0
 exact ⟨rfl, by simpa using hB3, HK2.out.trans hk3⟩
theorem via_sw (N n0 b : Nat) (bs : Bytes) (g : Nat) (v : SVia) (w : World) (hG : Gl N w) (hN : N ≤ n0) (hB : BW n0 b bs w) (hA : ViaAt w g v) (ho : VOk v) (hl : bs.length + (([86, 105, 97] : Bytes) ++ [58, 32] ++ (viaT v)).length ≤ 70368744177664) :
  Calls Tryz.prog 230 #[.pointer (some ⟨g, 0, none⟩), bptr b] w (WrPost n0 b bs (([86, 105, 97] : Bytes) ++ [58, 32] ++ (viaT v)) w) := by
 have HG := hid hG
 have HU0 := hid hA
 have HB0 := hid hB
 have HK0 := hid (WK.refl n0 b w)
 have hna := ws_nilAhead
 have hme := ws_method
 have HL := hid (And.intro hl trivial)
 have HLN := hid trivial
 have HV := hid (fun N g w h1 h4 h5 => via_val N g v w h1 h4 ho h5)
 clear hG hA hB hl
 go_enter Tryz.func230, Tryz.ntmps230
 go_wp2_with fail
 refine stail 6 (by kernel_rfl) (by kernel_rfl) ?_
 simp only [List.take_succ_cons, List.take_zero, List.drop_succ_cons, List.drop_zero]
 repeat still_step
 still_call (via_name _ _)
 repeat still_step
 refine wpStill_nil ?_
 go_wp2_with fail
 refine (ws_any n0 b _ _ _ HB0.out.drew (by have := HL.out; have := HLN.out; simp only [List.length_append, List.length_cons, List.length_nil] at *; show _ + 3 ≤ _; omega)).mono ?_
 rintro e w1 ⟨rfl, hB1, hk1⟩
 have HB1 := hid hB1
 have HK1 := hid (HK0.out.drew.trans hk1)
 have HU1 := hid ((HU0.out.below (Below.refl _ w).drew).keep HB0.out.drew hk1)
 clear hB1 hk1
 go_wp2_with fail
 refine (ws_any n0 b _ _ _ HB1.out (by have := HL.out; have := HLN.out; show _ + 2 ≤ _; simp only [List.length_append, List.length_cons, List.length_nil] at *; first | omega | (show _ + 3 + 2 ≤ _; omega))).mono ?_
 rintro e w2 ⟨rfl, hB2, hk2⟩
 have HB2 := hid hB2
 have HK2 := hid (HK1.out.trans hk2)
 have HU2 := hid (HU1.out.keep HB1.out hk2)
 clear hB2 hk2
 go_wp2_with fail
 have HGd := hid ((HG.out.below HK2.out.1 hN).below (Below.refl N w2).drew (Nat.le_refl _))
 have HS := hid (sz (viaT v))
 go_region_held3 (fun w' => True) (trivial)
  (first
   | (go_at_call 231; refine (HV.out N g _ HGd.out (HU2.out.below (Below.refl _ w2).drew) (by have := HL.out; simp only [List.length_append] at *; omega)).mono ?_; rintro e w4 ⟨rfl, hb4⟩)
   | (go_at_call 90; refine (ws_any n0 b _ _ _ (HB2.out.drew.below hb4) ?_).mono ?_; (have := HL.out; have := HS.out; simp only [List.length_append, List.length_cons, List.length_nil] at *; first | omega | (show _ + 3 + 2 + List.length _ ≤ _; omega) | (rw [this]; show _ + 3 + 2 + _ ≤ _; omega)); rintro e w5 ⟨rfl, hB5, hk5⟩))
 all_goals (go_wp2_with fail; go_end0; exact ⟨rfl, by simpa using hB5, HK2.out.drew.trans ((WK.of_below (w := w2.drew) hb4 (Nat.le_of_lt (Nat.lt_of_le_of_lt HB2.out.lt.1 HB2.out.lt.2))).trans hk5)⟩)
theorem to_str (N : Nat) (g : Nat) (d : ByteArray) (u : SUri) (p : KVs) (w : World) (hG : Gl N w) (hA : AddrAt 138 w g d u p) (ho : UOk u) (hp : KVok p) (hl : (([84, 111] : Bytes) ++ [58, 32] ++ (addrT d u p)).length ≤ 70368744177664) :
  Calls Tryz.prog 242 #[.pointer (some ⟨g, 0, none⟩)] w (StrPost (([84, 111] : Bytes) ++ [58, 32] ++ (addrT d u p)) w) := by
 have HG := hid hG
 have HA := hid hA
 have hb0 : Below w.heap.size w (w.alloc (.cells #[.pointer none, .slice none 0 0] 134)) := (Below.refl _ _).alloc (Nat.le_refl _) _
 have HB0 := hid hb0
 have HL := hid hl
 have HE := hid (fun N n0 b bs g w h1 h2 h3 h4 h5 => to_sw N n0 b bs g d u p w h1 h2 h3 h4 ho hp h5)
 clear hb0 hG hA hl
 go_enter Tryz.func242, Tryz.ntmps242
 go_wp2_with fail
 refine (HE.out N w.heap.size w.heap.size [] g _ (HG.out.step HB0.out) HG.out.le (BW.fresh w) (HA.out.below HB0.out) (by have := HL.out; simpa using this)).mono ?_
 rintro e w1 ⟨rfl, hB1, hk1⟩
 have HB1 := hid hB1
 have HK1 := hid hk1
 clear hB1 hk1
 go_wp2_with fail
 refine (bstr_any w.heap.size w.heap.size _ _ HB1.out).mono ?_
 rintro e w2 ⟨rfl, hB2, hk2⟩
 go_wp2_with fail
 go_ret
 exact ⟨rets (by simp), (HB0.out.trans HK1.out.1).trans hk2.1⟩
theorem from_str (N : Nat) (g : Nat) (d : ByteArray) (u : SUri) (p : KVs) (w : World) (hG : Gl N w) (hA : AddrAt 139 w g d u p) (ho : UOk u) (hp : KVok p) (hl : (([70, 114, 111, 109] : Bytes) ++ [58, 32] ++ (addrT d u p)).length ≤ 70368744177664) :
  Calls Tryz.prog 236 #[.pointer (some ⟨g, 0, none⟩)] w (StrPost (([70, 114, 111, 109] : Bytes) ++ [58, 32] ++ (addrT d u p)) w) := by
 have HG := hid hG
 have HA := hid hA
 have hb0 : Below w.heap.size w (w.alloc (.cells #[.pointer none, .slice none 0 0] 134)) := (Below.refl _ _).alloc (Nat.le_refl _) _
 have HB0 := hid hb0
 have HL := hid hl
 have HE := hid (fun N n0 b bs g w h1 h2 h3 h4 h5 => from_sw N n0 b bs g d u p w h1 h2 h3 h4 ho hp h5)
 clear hb0 hG hA hl
 go_enter Tryz.func236, Tryz.ntmps236
 go_wp2_with fail
 refine (HE.out N w.heap.size w.heap.size [] g _ (HG.out.step HB0.out) HG.out.le (BW.fresh w) (HA.out.below HB0.out) (by have := HL.out; simpa using this)).mono ?_
 rintro e w1 ⟨rfl, hB1, hk1⟩
 have HB1 := hid hB1
 have HK1 := hid hk1
 clear hB1 hk1
 go_wp2_with fail
 refine (bstr_any w.heap.size w.heap.size _ _ HB1.out).mono ?_
 rintro e w2 ⟨rfl, hB2, hk2⟩
 go_wp2_with fail
 go_ret
 exact ⟨rets (by simp), (HB0.out.trans HK1.out.1).trans hk2.1⟩
theorem refby_str (N : Nat) (g : Nat) (d : ByteArray) (u : SUri) (p : KVs) (w : World) (hG : Gl N w) (hA : AddrAt 149 w g d u p) (ho : UOk u) (hp : KVok p) (hl : (([82, 101, 102, 101, 114, 114, 101, 100, 45, 66, 121] : Bytes) ++ [58, 32] ++ (addrT d u p)).length ≤ 70368744177664) :
  Calls Tryz.prog 317 #[.pointer (some ⟨g, 0, none⟩)] w (StrPost (([82, 101, 102, 101, 114, 114, 101, 100, 45, 66, 121] : Bytes) ++ [58, 32] ++ (addrT d u p)) w) := by
 have HG := hid hG
 have HA := hid hA
 have hb0 : Below w.heap.size w (w.alloc (.cells #[.pointer none, .slice none 0 0] 134)) := (Below.refl _ _).alloc (Nat.le_refl _) _
 have HB0 := hid hb0
 have HL := hid hl
 have HE := hid (fun N n0 b bs g w h1 h2 h3 h4 h5 => refby_sw N n0 b bs g d u p w h1 h2 h3 h4 ho hp h5)
 clear hb0 hG hA hl
 go_enter Tryz.func317, Tryz.ntmps317
 go_wp2_with fail
 refine (HE.out N w.heap.size w.heap.size [] g _ (HG.out.step HB0.out) HG.out.le (BW.fresh w) (HA.out.below HB0.out) (by have := HL.out; simpa using this)).mono ?_
 rintro e w1 ⟨rfl, hB1, hk1⟩
 have HB1 := hid hB1
 have HK1 := hid hk1
 clear hB1 hk1
 go_wp2_with fail
 refine (bstr_any w.heap.size w.heap.size _ _ HB1.out).mono ?_
 rintro e w2 ⟨rfl, hB2, hk2⟩
 go_wp2_with fail
 go_ret
 exact ⟨rets (by simp), (HB0.out.trans HK1.out.1).trans hk2.1⟩
theorem contact_str (N : Nat) (g : Nat) (d : ByteArray) (u : SUri) (p : KVs) (w : World) (hG : Gl N w) (hA : AddrAt 140 w g d u p) (ho : UOk u) (hst : u.star = false) (hp : KVok p) (hl : (([67, 111, 110, 116, 97, 99, 116] : Bytes) ++ [58, 32] ++ (addrT d u p)).length ≤ 70368744177664) :
  Calls Tryz.prog 254 #[.pointer (some ⟨g, 0, none⟩)] w (StrPost (([67, 111, 110, 116, 97, 99, 116] : Bytes) ++ [58, 32] ++ (addrT d u p)) w) := by
 have HG := hid hG
 have HA := hid hA
 have hb0 : Below w.heap.size w (w.alloc (.cells #[.pointer none, .slice none 0 0] 134)) := (Below.refl _ _).alloc (Nat.le_refl _) _
 have HB0 := hid hb0
 have HL := hid hl
 have HE := hid (fun N n0 b bs g w h1 h2 h3 h4 h5 => contact_sw N n0 b bs g d u p w h1 h2 h3 h4 ho hst hp h5)
 clear hb0 hG hA hl
 go_enter Tryz.func254, Tryz.ntmps254
 go_wp2_with fail
 refine (HE.out N w.heap.size w.heap.size [] g _ (HG.out.step HB0.out) HG.out.le (BW.fresh w) (HA.out.below HB0.out) (by have := HL.out; simpa using this)).mono ?_
 rintro e w1 ⟨rfl, hB1, hk1⟩
 have HB1 := hid hB1
 have HK1 := hid hk1
 clear hB1 hk1
 go_wp2_with fail
 refine (bstr_any w.heap.size w.heap.size _ _ HB1.out).mono ?_
 rintro e w2 ⟨rfl, hB2, hk2⟩
 go_wp2_with fail
 go_ret
 exact ⟨rets (by simp), (HB0.out.trans HK1.out.1).trans hk2.1⟩
theorem via_str (N : Nat) (g : Nat) (v : SVia) (w : World) (hG : Gl N w) (hA : ViaAt w g v) (ho : VOk v) (hl : (([86, 105, 97] : Bytes) ++ [58, 32] ++ (viaT v)).length ≤ 70368744177664) :
  Calls Tryz.prog 229 #[.pointer (some ⟨g, 0, none⟩)] w (StrPost (([86, 105, 97] : Bytes) ++ [58, 32] ++ (viaT v)) w) := by
 have HG := hid hG
 have HA := hid hA
 have hb0 : Below w.heap.size w (w.alloc (.cells #[.pointer none, .slice none 0 0] 134)) := (Below.refl _ _).alloc (Nat.le_refl _) _
 have HB0 := hid hb0
 have HL := hid hl
 have HE := hid (fun N n0 b bs g w h1 h2 h3 h4 h5 => via_sw N n0 b bs g v w h1 h2 h3 h4 ho h5)
 clear hb0 hG hA hl
 go_enter Tryz.func229, Tryz.ntmps229
 go_wp2_with fail
 refine (HE.out N w.heap.size w.heap.size [] g _ (HG.out.step HB0.out) HG.out.le (BW.fresh w) (HA.out.below HB0.out) (by have := HL.out; simpa using this)).mono ?_
 rintro e w1 ⟨rfl, hB1, hk1⟩
 have HB1 := hid hB1
 have HK1 := hid hk1
 clear hB1 hk1
 go_wp2_with fail
 refine (bstr_any w.heap.size w.heap.size _ _ HB1.out).mono ?_
 rintro e w2 ⟨rfl, hB2, hk2⟩
 go_wp2_with fail
 go_ret
 exact ⟨rets (by simp), (HB0.out.trans HK1.out.1).trans hk2.1⟩
theorem callid_str (N : Nat) (g : Nat) (s : ByteArray) (w : World) (hG : Gl N w) (hA : HB w g 114 #[.string s])  (hl : (([67, 97, 108, 108, 45, 73, 68] : Bytes) ++ [58, 32] ++ (s.data.toList)).length ≤ 70368744177664) :
  Calls Tryz.prog 248 #[.pointer (some ⟨g, 0, none⟩)] w (StrPost (([67, 97, 108, 108, 45, 73, 68] : Bytes) ++ [58, 32] ++ (s.data.toList)) w) := by
 have HG := hid hG
 have HA := hid hA
 have hb0 : Below w.heap.size w (w.alloc (.cells #[.pointer none, .slice none 0 0] 134)) := (Below.refl _ _).alloc (Nat.le_refl _) _
 have HB0 := hid hb0
 have HL := hid hl
 have HE := hid (fun N n0 b bs g w h1 h2 h3 h4 h5 => callid_sw N n0 b bs g s w h1 h2 h3 h4  h5)
 clear hb0 hG hA hl
 go_enter Tryz.func248, Tryz.ntmps248
 go_wp2_with fail
 refine (HE.out N w.heap.size w.heap.size [] g _ (HG.out.step HB0.out) HG.out.le (BW.fresh w) (HA.out.below HB0.out) (by have := HL.out; simpa using this)).mono ?_
 rintro e w1 ⟨rfl, hB1, hk1⟩
 have HB1 := hid hB1
 have HK1 := hid hk1
 clear hB1 hk1
 go_wp2_with fail
 refine (bstr_any w.heap.size w.heap.size _ _ HB1.out).mono ?_
 rintro e w2 ⟨rfl, hB2, hk2⟩
 go_wp2_with fail
 go_ret
 exact ⟨rets (by simp), (HB0.out.trans HK1.out.1).trans hk2.1⟩
theorem ctype_str (N : Nat) (g : Nat) (s : ByteArray) (w : World) (hG : Gl N w) (hA : HB w g 121 #[.string s])  (hl : (([67, 111, 110, 116, 101, 110, 116, 45, 84, 121, 112, 101] : Bytes) ++ [58, 32] ++ (s.data.toList)).length ≤ 70368744177664) :
  Calls Tryz.prog 272 #[.pointer (some ⟨g, 0, none⟩)] w (StrPost (([67, 111, 110, 116, 101, 110, 116, 45, 84, 121, 112, 101] : Bytes) ++ [58, 32] ++ (s.data.toList)) w) := by
 have HG := hid hG
 have HA := hid hA
 have hb0 : Below w.heap.size w (w.alloc (.cells #[.pointer none, .slice none 0 0] 134)) := (Below.refl _ _).alloc (Nat.le_refl _) _
 have HB0 := hid hb0
 have HL := hid hl
 have HE := hid (fun N n0 b bs g w h1 h2 h3 h4 h5 => ctype_sw N n0 b bs g s w h1 h2 h3 h4  h5)
 clear hb0 hG hA hl
 go_enter Tryz.func272, Tryz.ntmps272
 go_wp2_with fail
 refine (HE.out N w.heap.size w.heap.size [] g _ (HG.out.step HB0.out) HG.out.le (BW.fresh w) (HA.out.below HB0.out) (by have := HL.out; simpa using this)).mono ?_
 rintro e w1 ⟨rfl, hB1, hk1⟩
 have HB1 := hid hB1
 have HK1 := hid hk1
 clear hB1 hk1
 go_wp2_with fail
 refine (bstr_any w.heap.size w.heap.size _ _ HB1.out).mono ?_
 rintro e w2 ⟨rfl, hB2, hk2⟩
 go_wp2_with fail
 go_ret
 exact ⟨rets (by simp), (HB0.out.trans HK1.out.1).trans hk2.1⟩
theorem maxf_str (N : Nat) (g : Nat) (n : Int) (w : World) (hG : Gl N w) (hA : HB w g 117 #[.int .u32 n]) (hn : 0 ≤ n ∧ n < 4294967296) (hl : (([77, 97, 120, 45, 70, 111, 114, 119, 97, 114, 100, 115] : Bytes) ++ [58, 32] ++ (Lib.itoa n)).length ≤ 70368744177664) :
  Calls Tryz.prog 291 #[.pointer (some ⟨g, 0, none⟩)] w (StrPost (([77, 97, 120, 45, 70, 111, 114, 119, 97, 114, 100, 115] : Bytes) ++ [58, 32] ++ (Lib.itoa n)) w) := by
 have HG := hid hG
 have HA := hid hA
 have hb0 : Below w.heap.size w (w.alloc (.cells #[.pointer none, .slice none 0 0] 134)) := (Below.refl _ _).alloc (Nat.le_refl _) _
 have HB0 := hid hb0
 have HL := hid hl
 have HE := hid (fun N n0 b bs g w h1 h2 h3 h4 h5 => maxf_sw N n0 b bs g n w h1 h2 h3 h4 hn h5)
 clear hb0 hG hA hl
 go_enter Tryz.func291, Tryz.ntmps291
 go_wp2_with fail
 refine (HE.out N w.heap.size w.heap.size [] g _ (HG.out.step HB0.out) HG.out.le (BW.fresh w) (HA.out.below HB0.out) (by have := HL.out; simpa using this)).mono ?_
 rintro e w1 ⟨rfl, hB1, hk1⟩
 have HB1 := hid hB1
 have HK1 := hid hk1
 clear hB1 hk1
 go_wp2_with fail
 refine (bstr_any w.heap.size w.heap.size _ _ HB1.out).mono ?_
 rintro e w2 ⟨rfl, hB2, hk2⟩
 go_wp2_with fail
 go_ret
 exact ⟨rets (by simp), (HB0.out.trans HK1.out.1).trans hk2.1⟩
theorem expires_str (N : Nat) (g : Nat) (n : Int) (w : World) (hG : Gl N w) (hA : HB w g 118 #[.int .u32 n]) (hn : 0 ≤ n ∧ n < 4294967296) (hl : (([69, 120, 112, 105, 114, 101, 115] : Bytes) ++ [58, 32] ++ (Lib.itoa n)).length ≤ 70368744177664) :
  Calls Tryz.prog 305 #[.pointer (some ⟨g, 0, none⟩)] w (StrPost (([69, 120, 112, 105, 114, 101, 115] : Bytes) ++ [58, 32] ++ (Lib.itoa n)) w) := by
 have c0 : w.cell? ⟨g, 0, none⟩ = some (.int .u32 n) := hA.cell 0
 have HC := hid c0
 have HGd := hid (hG.below (Below.refl N w).drew (Nat.le_refl _))
 have HN := hid hn
 have hz1 := sz (Lib.itoa n)
 simp only [List.length_append, List.length_cons, List.length_nil] at hl
 have p1 : ∀ W, (Op.stringOp .add ⟨#[69, 120, 112, 105, 114, 101, 115]⟩ ⟨#[58, 32]⟩).run Tryz.prog W = .ok (.string (⟨#[69, 120, 112, 105, 114, 101, 115]⟩ ++ ⟨#[58, 32]⟩)) W := fun W => run_string_add_sum _ _ _ (by decide)
 have p2 : ∀ W, (Op.stringOp .add (⟨#[69, 120, 112, 105, 114, 101, 115]⟩ ++ ⟨#[58, 32]⟩) ⟨(Lib.itoa n).toArray⟩).run Tryz.prog W = .ok (.string ((⟨#[69, 120, 112, 105, 114, 101, 115]⟩ ++ ⟨#[58, 32]⟩) ++ ⟨(Lib.itoa n).toArray⟩)) W := fun W => run_string_add_sum _ _ _ (by rw [hz1]; show 9 + _ ≤ _; omega)
 clear hz1 hl hA hn hG c0
 go_enter Tryz.func305, Tryz.ntmps305
 go_wp2_with fail
 go_region_held3 (fun w' => w'.cell? ⟨g, 0, none⟩ = some (.int .u32 n)) (first | exact HC.out | exact cell_below (w := w.drew) hb4 HC.out)
  (first
   | (go_at_call 304; refine (expires_name _ _).mono ?_; rintro e w4 ⟨rfl, rfl⟩)
   | (go_at_call 303; refine (expires_val0 N n _ HGd.out HN.out).mono ?_; rintro e w4 ⟨rfl, hb4⟩))
 all_goals (go_wp2; go_ret; exact ⟨rets (by apply Go.WideShapes.bytes_inj; simp), (Below.refl _ _).drew.trans hb4⟩)
theorem clen_str (N : Nat) (n : Int) (w : World) (hG : Gl N w) (hn : 0 ≤ n ∧ n < 4294967296) (hl : (([67, 111, 110, 116, 101, 110, 116, 45, 76, 101, 110, 103, 116, 104] : Bytes) ++ [58, 32] ++ (Lib.itoa n)).length ≤ 70368744177664) :
  Calls Tryz.prog 266 #[.int .u32 n] w (StrPost (([67, 111, 110, 116, 101, 110, 116, 45, 76, 101, 110, 103, 116, 104] : Bytes) ++ [58, 32] ++ (Lib.itoa n)) w) := by
 have HG := hid hG
 have hb0 : Below w.heap.size w (w.alloc (.cells #[.pointer none, .slice none 0 0] 134)) := (Below.refl _ _).alloc (Nat.le_refl _) _
 have HB0 := hid hb0
 have HL := hid hl
 have HN := hid hn
 clear hb0 hG hl hn
 go_enter Tryz.func266, Tryz.ntmps266
 go_wp2_with fail
 refine (clen_sw N w.heap.size w.heap.size [] n _ (HG.out.step HB0.out) HG.out.le (BW.fresh w) HN.out (by have := HL.out; simpa using this)).mono ?_
 rintro e w1 ⟨rfl, hB1, hk1⟩
 have HB1 := hid hB1
 have HK1 := hid hk1
 clear hB1 hk1
 go_wp2_with fail
 refine (bstr_any w.heap.size w.heap.size _ _ HB1.out).mono ?_
 rintro e w2 ⟨rfl, hB2, hk2⟩
 go_wp2_with fail
 go_ret
 exact ⟨rets (by simp), (HB0.out.trans HK1.out.1).trans hk2.1⟩
theorem cseq_str (N : Nat) (g : Nat) (n : Int) (m : ByteArray) (w : World) (hG : Gl N w) (hA : HB w g 116 #[.int .u32 n, .string m]) (hn : 0 ≤ n ∧ n < 4294967296) (hl : (([67, 83, 101, 113] : Bytes) ++ [58, 32] ++ (Lib.itoa n ++ [32] ++ m.data.toList)).length ≤ 70368744177664) :
  Calls Tryz.prog 260 #[.pointer (some ⟨g, 0, none⟩)] w (StrPost (([67, 83, 101, 113] : Bytes) ++ [58, 32] ++ (Lib.itoa n ++ [32] ++ m.data.toList)) w) := by
 have HG := hid hG
 have HA := hid hA
 have hb0 : Below w.heap.size w (w.alloc (.cells #[.pointer none, .slice none 0 0] 134)) := (Below.refl _ _).alloc (Nat.le_refl _) _
 have HB0 := hid hb0
 have HL := hid hl
 have HE := hid (fun N n0 b bs g w h1 h2 h3 h4 h5 => cseq_sw N n0 b bs g n m w h1 h2 h3 h4 hn h5)
 clear hb0 hG hA hl
 go_enter Tryz.func260, Tryz.ntmps260
 go_wp2_with fail
 refine (HE.out N w.heap.size w.heap.size [] g _ (HG.out.step HB0.out) HG.out.le (BW.fresh w) (HA.out.below HB0.out) (by have := HL.out; simpa using this)).mono ?_
 rintro e w1 ⟨rfl, hB1, hk1⟩
 have HB1 := hid hB1
 have HK1 := hid hk1
 clear hB1 hk1
 go_wp2_with fail
 refine (bstr_any w.heap.size w.heap.size _ _ HB1.out).mono ?_
 rintro e w2 ⟨rfl, hB2, hk2⟩
 go_wp2_with fail
 go_ret
 exact ⟨rets (by simp), (HB0.out.trans HK1.out.1).trans hk2.1⟩
theorem route_str (N : Nat) (g : Nat) (u : SUri) (w : World) (hG : Gl N w) (hA : BareAt 144 w g u) (ho : UOk u) (hl : (([82, 111, 117, 116, 101] : Bytes) ++ [58, 32] ++ ([60] ++ uriT u ++ [62])).length ≤ 70368744177664) :
  Calls Tryz.prog 278 #[.pointer (some ⟨g, 0, none⟩)] w (StrPost (([82, 111, 117, 116, 101] : Bytes) ++ [58, 32] ++ ([60] ++ uriT u ++ [62])) w) := by
 have HG := hid hG
 have HA := hid hA
 have hb0 : Below w.heap.size w (w.alloc (.cells #[.pointer none, .slice none 0 0] 134)) := (Below.refl _ _).alloc (Nat.le_refl _) _
 have HB0 := hid hb0
 have HL := hid hl
 have HE := hid (fun N n0 b bs g w h1 h2 h3 h4 h5 => route_sw N n0 b bs g u w h1 h2 h3 h4 ho h5)
 clear hb0 hG hA hl
 go_enter Tryz.func278, Tryz.ntmps278
 go_wp2_with fail
 refine (HE.out N w.heap.size w.heap.size [] g _ (HG.out.step HB0.out) HG.out.le (BW.fresh w) (HA.out.below HB0.out) (by have := HL.out; simpa using this)).mono ?_
 rintro e w1 ⟨rfl, hB1, hk1⟩
 have HB1 := hid hB1
 have HK1 := hid hk1
 clear hB1 hk1
 go_wp2_with fail
 refine (bstr_any w.heap.size w.heap.size _ _ HB1.out).mono ?_
 rintro e w2 ⟨rfl, hB2, hk2⟩
 go_wp2_with fail
 go_ret
 exact ⟨rets (by simp), (HB0.out.trans HK1.out.1).trans hk2.1⟩
theorem rroute_str (N : Nat) (g : Nat) (u : SUri) (w : World) (hG : Gl N w) (hA : BareAt 145 w g u) (ho : UOk u) (hl : (([82, 101, 99, 111, 114, 100, 45, 82, 111, 117, 116, 101] : Bytes) ++ [58, 32] ++ ([60] ++ uriT u ++ [62])).length ≤ 70368744177664) :
  Calls Tryz.prog 284 #[.pointer (some ⟨g, 0, none⟩)] w (StrPost (([82, 101, 99, 111, 114, 100, 45, 82, 111, 117, 116, 101] : Bytes) ++ [58, 32] ++ ([60] ++ uriT u ++ [62])) w) := by
 have HG := hid hG
 have HA := hid hA
 have hb0 : Below w.heap.size w (w.alloc (.cells #[.pointer none, .slice none 0 0] 134)) := (Below.refl _ _).alloc (Nat.le_refl _) _
 have HB0 := hid hb0
 have HL := hid hl
 have HE := hid (fun N n0 b bs g w h1 h2 h3 h4 h5 => rroute_sw N n0 b bs g u w h1 h2 h3 h4 ho h5)
 clear hb0 hG hA hl
 go_enter Tryz.func284, Tryz.ntmps284
 go_wp2_with fail
 refine (HE.out N w.heap.size w.heap.size [] g _ (HG.out.step HB0.out) HG.out.le (BW.fresh w) (HA.out.below HB0.out) (by have := HL.out; simpa using this)).mono ?_
 rintro e w1 ⟨rfl, hB1, hk1⟩
 have HB1 := hid hB1
 have HK1 := hid hk1
 clear hB1 hk1
 go_wp2_with fail
 refine (bstr_any w.heap.size w.heap.size _ _ HB1.out).mono ?_
 rintro e w2 ⟨rfl, hB2, hk2⟩
 go_wp2_with fail
 go_ret
 exact ⟨rets (by simp), (HB0.out.trans HK1.out.1).trans hk2.1⟩
theorem referto_str (N : Nat) (g : Nat) (u : SUri) (w : World) (hG : Gl N w) (hA : BareAt 147 w g u) (ho : UOk u) (hl : (([82, 101, 102, 101, 114, 45, 84, 111] : Bytes) ++ [58, 32] ++ ([60] ++ uriT u ++ [62])).length ≤ 70368744177664) :
  Calls Tryz.prog 311 #[.pointer (some ⟨g, 0, none⟩)] w (StrPost (([82, 101, 102, 101, 114, 45, 84, 111] : Bytes) ++ [58, 32] ++ ([60] ++ uriT u ++ [62])) w) := by
 have HG := hid hG
 have HA := hid hA
 have hb0 : Below w.heap.size w (w.alloc (.cells #[.pointer none, .slice none 0 0] 134)) := (Below.refl _ _).alloc (Nat.le_refl _) _
 have HB0 := hid hb0
 have HL := hid hl
 have HE := hid (fun N n0 b bs g w h1 h2 h3 h4 h5 => referto_sw N n0 b bs g u w h1 h2 h3 h4 ho h5)
 clear hb0 hG hA hl
 go_enter Tryz.func311, Tryz.ntmps311
 go_wp2_with fail
 refine (HE.out N w.heap.size w.heap.size [] g _ (HG.out.step HB0.out) HG.out.le (BW.fresh w) (HA.out.below HB0.out) (by have := HL.out; simpa using this)).mono ?_
 rintro e w1 ⟨rfl, hB1, hk1⟩
 have HB1 := hid hB1
 have HK1 := hid hk1
 clear hB1 hk1
 go_wp2_with fail
 refine (bstr_any w.heap.size w.heap.size _ _ HB1.out).mono ?_
 rintro e w2 ⟨rfl, hB2, hk2⟩
 go_wp2_with fail
 go_ret
 exact ⟨rets (by simp), (HB0.out.trans HK1.out.1).trans hk2.1⟩
theorem generic_str (N : Nat) (g : Nat) (n v : ByteArray) (w : World) (hG : Gl N w) (hA : HB w g 152 #[.string n, .string v])  (hl : (n.data.toList ++ [58, 32] ++ (v.data.toList)).length ≤ 70368744177664) :
  Calls Tryz.prog 323 #[.pointer (some ⟨g, 0, none⟩)] w (StrPost (n.data.toList ++ [58, 32] ++ (v.data.toList)) w) := by
 have HG := hid hG
 have HA := hid hA
 have hb0 : Below w.heap.size w (w.alloc (.cells #[.pointer none, .slice none 0 0] 134)) := (Below.refl _ _).alloc (Nat.le_refl _) _
 have HB0 := hid hb0
 have HL := hid hl
 have HE := hid (fun N n0 b bs g w h1 h2 h3 h4 h5 => generic_sw N n0 b bs g n v w h1 h2 h3 h4  h5)
 clear hb0 hG hA hl
 go_enter Tryz.func323, Tryz.ntmps323
 go_wp2_with fail
 refine (HE.out N w.heap.size w.heap.size [] g _ (HG.out.step HB0.out) HG.out.le (BW.fresh w) (HA.out.below HB0.out) (by have := HL.out; simpa using this)).mono ?_
 rintro e w1 ⟨rfl, hB1, hk1⟩
 have HB1 := hid hB1
 have HK1 := hid hk1
 clear hB1 hk1
 go_wp2_with fail
 refine (bstr_any w.heap.size w.heap.size _ _ HB1.out).mono ?_
 rintro e w2 ⟨rfl, hB2, hk2⟩
 go_wp2_with fail
 go_ret
 exact ⟨rets (by simp), (HB0.out.trans HK1.out.1).trans hk2.1⟩
