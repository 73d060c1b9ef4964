import Derived.Test.YtocajelknojkbaaGreatDoorK02
set_option maxRecDepth 100000
set_option maxHeartbeats 16000000
set_option linter.all false
namespace Go.Proofs.YtocajelknojkbaaGreatDoor
open Go.Lib (hid)
open Go.RowKit
theorem cseq_vsw (N n0 b : Nat) (bs : Bytes) (g : Nat) (n : Int) (m : ByteArray) (w : World) (hG : Gl N w) (hN : N ≤ n0) (hB : BW n0 b bs w) (hA : HB w g 156 #[.int .u32 n, .string m]) (hn : 0 ≤ n ∧ n < 4294967296) (hl : bs.length + (Lib.itoa n ++ [32] ++ m.data.toList).length ≤ 70368744177664) :
  Calls Tryz.prog 330 #[.pointer (some ⟨g, 0, none⟩), bptr b] w (WrPost n0 b bs (Lib.itoa n ++ [32] ++ m.data.toList) w) := by
 have HG := hid hG
 have HU0 := hid hA
 have HB0 := hid hB
 have HK0 := hid (WK.refl n0 b w)
 have hna := ws_nilAhead
 have hme := ws_method
 have HL := hid (And.intro hl (And.intro (sz (Lib.itoa n)) (dl m)))
 have c0 : w.cell? ⟨g, 0, none⟩ = some (.int .u32 n) := hA.cell 0
 have HC := hid c0
 have HGd := hid ((hG.below (Below.refl N w).drew (Nat.le_refl _)).get)
 have h1 := hn.1
 have h2 := hn.2
 have hw : IntKind.i64.wrap n = n := IntWalk.i64_in _ (by omega)
 clear hG hA hB hl hn c0
 go_enter Tryz.func330, Tryz.ntmps330
 go_upto_region 0 with fail
 go_cut [] (fun wx => BW n0 b (bs ++ Lib.itoa n) wx ∧ WK n0 b w wx)
 case first =>
  go_region_held3 (fun w' => w'.cell? ⟨g, 0, none⟩ = some (.int .u32 n)) (first | exact HC.out | exact cell_below (w := w.drew) hb4 HC.out | exact (HU0.out.below (Below.refl _ w).drew |>.below hb4).cellKeep (HB0.out.drew.below hb4) hk5 (cell_below (w := w.drew) hb4 HC.out))
   (first
    | (go_at_call 106; refine (itoa_any n (by omega) (by omega) _ HGd.out).mono ?_; rintro e w4 ⟨rfl, hb4⟩)
    | (go_at_call 105; refine (ws_any n0 b _ _ _ (HB0.out.drew.below hb4) ?_).mono ?_; (have := HL.out; simp only [List.length_append, List.length_cons, List.length_nil] at *; omega); rintro e w5 ⟨rfl, hB5, hk5⟩))
  all_goals (go_wp2_with fail; go_meet; exact ⟨by simpa using hB5, HK0.out.drew.trans ((WK.of_below (w := w.drew) hb4 (Nat.le_of_lt (Nat.lt_of_le_of_lt HB0.out.lt.1 HB0.out.lt.2))).trans hk5)⟩)
 case rest =>
  obtain ⟨hB1, hK1⟩ := hcut
  obtain ⟨w1, rfl⟩ : ∃ w1 : World, w1 = wc := ⟨_, rfl⟩
  have HB1 := hid hB1
  have HK1 := hid hK1
  have HU1 := hid (HU0.out.keep HB0.out hK1)
  clear hB1 hK1
  go_wp2_with fail
  refine (ws_any n0 b _ _ _ HB1.out (by have := HL.out; show _ + 1 ≤ _; simp only [List.length_append, List.length_cons, List.length_nil] at *; omega)).mono ?_
  rintro e w2 ⟨rfl, hB2, hk2⟩
  have HB2 := hid hB2
  have HK2 := hid (HK1.out.trans hk2)
  have HU2 := hid (HU1.out.keep HB1.out hk2)
  have c1 : w2.cell? ⟨g, 1, none⟩ = some (.string m) := HU2.out.cell 1
  clear hB2 hk2
  go_wp2_with fail
  refine stail 8 (by kernel_rfl) (by kernel_rfl) ?_
  simp only [List.take_succ_cons, List.take_zero, List.drop_succ_cons, List.drop_zero]
  repeat still_step
  refine wpStill_nil ?_
  go_wp2_with fail
  refine (ws_any n0 b _ _ _ HB2.out.drew (by have := HL.out; simp only [List.length_append, List.length_cons, List.length_nil] at *; omega)).mono ?_
  rintro e w3 ⟨rfl, hB3, hk3⟩
  go_wp2_with fail
  go_end0
  exact ⟨rfl, by simpa using hB3, HK2.out.drew.trans hk3⟩
