import Derived.Test.YtocajelknojkbaaGreatDoorK03
import Derived.Test.YtocajelknojkbaaGreatDoorK04
set_option maxRecDepth 100000
set_option maxHeartbeats 16000000
set_option linter.all false
namespace Go.Proofs.YtocajelknojkbaaGreatDoor
open Go.Lib (hid)
open Go.RowKit
theorem cseq_sw (N n0 b : Nat) (bs : Bytes) (g : Nat) (n : Int) (m : ByteArray) (w : World) (hG : Gl N w) (hN : N ≤ n0) (hB : BW n0 b bs w) (hA : HB w g 156 #[.int .u32 n, .string m]) (hn : 0 ≤ n ∧ n < 4294967296) (hl : bs.length + (([67, 83, 101, 113] : Bytes) ++ [58, 32] ++ (Lib.itoa n ++ [32] ++ m.data.toList)).length ≤ 70368744177664) :
  Calls Tryz.prog 327 #[.pointer (some ⟨g, 0, none⟩), bptr b] w (WrPost n0 b bs (([67, 83, 101, 113] : Bytes) ++ [58, 32] ++ (Lib.itoa n ++ [32] ++ m.data.toList)) w) := by
 have HG := hid hG
 have HU0 := hid hA
 have HB0 := hid hB
 have HK0 := hid (WK.refl n0 b w)
 have hna := ws_nilAhead
 have hme := ws_method
 have HL := hid (And.intro hl trivial)
 have HLN := hid trivial
 have HE := hid (fun N n0 b bs g w h1 h2 h3 h4 h5 => cseq_vsw N n0 b bs g n m w h1 h2 h3 h4 hn h5)
 have HN := hid hn
 clear hG hA hB hl hn
 go_enter Tryz.func327, Tryz.ntmps327
 go_wp2_with fail
 refine stail 6 (by kernel_rfl) (by kernel_rfl) ?_
 simp only [List.take_succ_cons, List.take_zero, List.drop_succ_cons, List.drop_zero]
 repeat still_step
 still_call (cseq_name _ _)
 repeat still_step
 refine wpStill_nil ?_
 go_wp2_with fail
 refine (ws_any n0 b _ _ _ HB0.out.drew (by have := HL.out; have := HLN.out; simp only [List.length_append, List.length_cons, List.length_nil] at *; show _ + 4 ≤ _; omega)).mono ?_
 rintro e w1 ⟨rfl, hB1, hk1⟩
 have HB1 := hid hB1
 have HK1 := hid (HK0.out.drew.trans hk1)
 have HU1 := hid ((HU0.out.below (Below.refl _ w).drew).keep HB0.out.drew hk1)
 clear hB1 hk1
 go_wp2_with fail
 refine (ws_any n0 b _ _ _ HB1.out (by have := HL.out; have := HLN.out; show _ + 2 ≤ _; simp only [List.length_append, List.length_cons, List.length_nil] at *; first | omega | (show _ + 4 + 2 ≤ _; omega))).mono ?_
 rintro e w2 ⟨rfl, hB2, hk2⟩
 have HB2 := hid hB2
 have HK2 := hid (HK1.out.trans hk2)
 have HU2 := hid (HU1.out.keep HB1.out hk2)
 clear hB2 hk2
 go_wp2_with fail
 refine (HE.out N n0 b _ g _ (HG.out.below HK2.out.1 hN) hN HB2.out HU2.out (by have := HL.out; simp only [List.length_append, List.length_cons, List.length_nil] at *; first | omega | (show _ + 4 + 2 + List.length _ ≤ _; omega))).mono ?_
 rintro e w3 ⟨rfl, hB3, hk3⟩
 go_wp2_with fail
 go_end0
 exact ⟨rfl, by simpa using hB3, HK2.out.trans hk3⟩
