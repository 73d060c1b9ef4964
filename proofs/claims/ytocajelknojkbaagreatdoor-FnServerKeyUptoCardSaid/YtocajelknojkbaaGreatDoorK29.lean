import Derived.Test.YtocajelknojkbaaGreatDoorK22
set_option maxRecDepth 100000
set_option maxHeartbeats 16000000
set_option linter.all false
namespace Go.Proofs.YtocajelknojkbaaGreatDoor
open Go.Lib (hid)
open Go.RowKit
def sameU (a b : LUri) : Bool := decide (a.scheme = b.scheme) && decide (a.raw = b.raw) && (a.star == b.star) && (a.slashes == b.slashes) && decide (a.user = b.user) && decide (a.pass = b.pass) && decide (a.host = b.host) && (a.port == b.port) && decide (a.params = b.params) && decide (a.hdrs = b.hdrs)
theorem sameU_iff (a b : LUri) : sameU a b = true ↔ a = b := by
 obtain ⟨⟩ := a
 obtain ⟨⟩ := b
 simp [sameU, and_assoc]
theorem below_two {w : World} (o p : Obj) : Below w.heap.size w ((w.alloc o).alloc p) := by
 have h1 := (Below.refl w.heap.size w).alloc (Nat.le_refl _) o
 exact h1.alloc h1.size p
theorem sameuri_any (a b : LUri) (la lb : List Value) (w : World) (hA : LU w a la) (hB : LU w b lb) : Calls Tryz.prog 42 #[.agg la.toArray, .agg lb.toArray] w fun e w' => e = .returned (.bool (sameU a b)) ∧ Below w.heap.size w w' := by
 obtain ⟨r, hr⟩ : ∃ r, r = sameU a b := ⟨_, rfl⟩
 rw [← hr]
 obtain ⟨xs, xr, xst, xsl, xu, xp, xh, xpo, xps, xhs⟩ := a
 obtain ⟨ys, yr, yst, ysl, yu, yp, yh, ypo, yps, yhs⟩ := b
 obtain ⟨a0, a1, a4, a5, a6, a8, a9, rfl, s0, s1, s4, s5, s6, s8, s9, s7⟩ := hA
 obtain ⟨b0, b1, b4, b5, b6, b8, b9, rfl, t0, t1, t4, t5, t6, t8, t9, t7⟩ := hB
 dsimp only at s0 s1 s4 s5 s6 s8 s9 t0 t1 t4 t5 t6 t8 t9 s7 t7 ⊢
 have HR := hid hr
 clear hr s7 t7
 obtain ⟨q0, hq0⟩ : ∃ q, q = decide (xs = ys) := ⟨_, rfl⟩
 have HE0 := hid (show ∀ wx, Below w.heap.size w wx → Calls Tryz.prog 19 #[a0, b0] wx (Quiet q0 wx) from fun wx h => by rw [hq0]; exact equal_q _ _ xs ys wx (s0.below h) (t0.below h))
 have HQ0 := hid hq0
 clear hq0
 obtain ⟨q1, hq1⟩ : ∃ q, q = decide (xr = yr) := ⟨_, rfl⟩
 have HE1 := hid (show ∀ wx, Below w.heap.size w wx → Calls Tryz.prog 19 #[a1, b1] wx (Quiet q1 wx) from fun wx h => by rw [hq1]; exact equal_q _ _ xr yr wx (s1.below h) (t1.below h))
 have HQ1 := hid hq1
 clear hq1
 obtain ⟨q4, hq4⟩ : ∃ q, q = decide (xu = yu) := ⟨_, rfl⟩
 have HE4 := hid (show ∀ wx, Below w.heap.size w wx → Calls Tryz.prog 19 #[a4, b4] wx (Quiet q4 wx) from fun wx h => by rw [hq4]; exact equal_q _ _ xu yu wx (s4.below h) (t4.below h))
 have HQ4 := hid hq4
 clear hq4
 obtain ⟨q5, hq5⟩ : ∃ q, q = decide (xp = yp) := ⟨_, rfl⟩
 have HE5 := hid (show ∀ wx, Below w.heap.size w wx → Calls Tryz.prog 19 #[a5, b5] wx (Quiet q5 wx) from fun wx h => by rw [hq5]; exact equal_q _ _ xp yp wx (s5.below h) (t5.below h))
 have HQ5 := hid hq5
 clear hq5
 obtain ⟨q6, hq6⟩ : ∃ q, q = decide (xh = yh) := ⟨_, rfl⟩
 have HE6 := hid (show ∀ wx, Below w.heap.size w wx → Calls Tryz.prog 19 #[a6, b6] wx (Quiet q6 wx) from fun wx h => by rw [hq6]; exact equal_q _ _ xh yh wx (s6.below h) (t6.below h))
 have HQ6 := hid hq6
 clear hq6
 obtain ⟨q8, hq8⟩ : ∃ q, q = decide (xps = yps) := ⟨_, rfl⟩
 have HE8 := hid (show ∀ wx, Below w.heap.size w wx → Calls Tryz.prog 59 #[a8, b8] wx (Quiet q8 wx) from fun wx h => by rw [hq8]; exact samekvs_any _ _ xps yps wx (s8.below h) (t8.below h))
 have HQ8 := hid hq8
 clear hq8
 obtain ⟨q9, hq9⟩ : ∃ q, q = decide (xhs = yhs) := ⟨_, rfl⟩
 have HE9 := hid (show ∀ wx, Below w.heap.size w wx → Calls Tryz.prog 59 #[a9, b9] wx (Quiet q9 wx) from fun wx h => by rw [hq9]; exact samekvs_any _ _ xhs yhs wx (s9.below h) (t9.below h))
 have HQ9 := hid hq9
 clear hq9
 obtain ⟨A0, c0, rfl, n0⟩ := s0.form
 obtain ⟨B0, d0, rfl, m0⟩ := t0.form
 obtain ⟨A1, c1, rfl, n1⟩ := s1.form
 obtain ⟨B1, d1, rfl, m1⟩ := t1.form
 obtain ⟨A4, c4, rfl, n4⟩ := s4.form
 obtain ⟨B4, d4, rfl, m4⟩ := t4.form
 obtain ⟨A5, c5, rfl, n5⟩ := s5.form
 obtain ⟨B5, d5, rfl, m5⟩ := t5.form
 obtain ⟨A6, c6, rfl, n6⟩ := s6.form
 obtain ⟨B6, d6, rfl, m6⟩ := t6.form
 obtain ⟨A8, c8, rfl, n8⟩ := s8.form
 obtain ⟨B8, d8, rfl, m8⟩ := t8.form
 obtain ⟨A9, c9, rfl, n9⟩ := s9.form
 obtain ⟨B9, d9, rfl, m9⟩ := t9.form
 have HZ := hid (below_two (w := w) (.cells #[.slice A0 xs.length c0, .slice A1 xr.length c1, .bool xst, .bool xsl, .slice A4 xu.length c4, .slice A5 xp.length c5, .slice A6 xh.length c6, .int .i64 xpo, .slice A8 xps.length c8, .slice A9 xhs.length c9] 25) (.cells #[.slice B0 ys.length d0, .slice B1 yr.length d1, .bool yst, .bool ysl, .slice B4 yu.length d4, .slice B5 yp.length d5, .slice B6 yh.length d6, .int .i64 ypo, .slice B8 yps.length d8, .slice B9 yhs.length d9] 25))
 clear s0 t0 n0 m0 s1 t1 n1 m1 s4 t4 n4 m4 s5 t5 n5 m5 s6 t6 n6 m6 s8 t8 n8 m8 s9 t9 n9 m9
 by_cases e2 : xst = yst
 ·subst e2
  by_cases e3 : xsl = ysl
  ·subst e3
   by_cases e7 : xpo = ypo
   ·subst e7
    have E := hid (show (xst == xst) = true ∧ (xsl == xsl) = true ∧ (xpo == xpo) = true by simp)
    go_enter Tryz.func42, Tryz.ntmps42
    go_wp2_with (first | (go_at_call_of 19 (Value.slice A0 xs.length c0); refine (HE0.out _ (by first | exact HZ.out | exact below_drewN HZ.out _)).mono ?_; rintro e w0 ⟨rfl, n0, rfl⟩; cases q0) | (go_at_call_of 19 (Value.slice A1 xr.length c1); refine (HE1.out _ (by first | exact HZ.out | exact below_drewN HZ.out _)).mono ?_; rintro e w1 ⟨rfl, n1, rfl⟩; cases q1) | (go_at_call_of 19 (Value.slice A4 xu.length c4); refine (HE4.out _ (by first | exact HZ.out | exact below_drewN HZ.out _)).mono ?_; rintro e w4 ⟨rfl, n4, rfl⟩; cases q4) | (go_at_call_of 19 (Value.slice A5 xp.length c5); refine (HE5.out _ (by first | exact HZ.out | exact below_drewN HZ.out _)).mono ?_; rintro e w5 ⟨rfl, n5, rfl⟩; cases q5) | (go_at_call_of 19 (Value.slice A6 xh.length c6); refine (HE6.out _ (by first | exact HZ.out | exact below_drewN HZ.out _)).mono ?_; rintro e w6 ⟨rfl, n6, rfl⟩; cases q6) | (go_at_call_of 59 (Value.slice A8 xps.length c8); refine (HE8.out _ (by first | exact HZ.out | exact below_drewN HZ.out _)).mono ?_; rintro e w8 ⟨rfl, n8, rfl⟩; cases q8) | (go_at_call_of 59 (Value.slice A9 xhs.length c9); refine (HE9.out _ (by first | exact HZ.out | exact below_drewN HZ.out _)).mono ?_; rintro e w9 ⟨rfl, n9, rfl⟩; cases q9) | fail)
    all_goals
     (go_ret
      refine ⟨ret_bool ?_, by first | exact below_drewN HZ.out _ | exact HZ.out⟩
      rw [HR.out, sameU]
      simp only [← HQ0.out, ← HQ1.out, ← HQ4.out, ← HQ5.out, ← HQ6.out, ← HQ8.out, ← HQ9.out, E.out, Bool.false_and, Bool.and_false, Bool.true_and, Bool.and_true])
   ·have g7 : (xpo == ypo) = false := by simpa using e7
    have E := hid (show (xst == xst) = true ∧ (xsl == xsl) = true ∧ (xpo == ypo) = false by simp [g7])
    clear e7
    go_enter Tryz.func42, Tryz.ntmps42
    go_wp2_with (first | (go_at_call_of 19 (Value.slice A0 xs.length c0); refine (HE0.out _ (by first | exact HZ.out | exact below_drewN HZ.out _)).mono ?_; rintro e w0 ⟨rfl, n0, rfl⟩; cases q0) | (go_at_call_of 19 (Value.slice A1 xr.length c1); refine (HE1.out _ (by first | exact HZ.out | exact below_drewN HZ.out _)).mono ?_; rintro e w1 ⟨rfl, n1, rfl⟩; cases q1) | (go_at_call_of 19 (Value.slice A4 xu.length c4); refine (HE4.out _ (by first | exact HZ.out | exact below_drewN HZ.out _)).mono ?_; rintro e w4 ⟨rfl, n4, rfl⟩; cases q4) | (go_at_call_of 19 (Value.slice A5 xp.length c5); refine (HE5.out _ (by first | exact HZ.out | exact below_drewN HZ.out _)).mono ?_; rintro e w5 ⟨rfl, n5, rfl⟩; cases q5) | (go_at_call_of 19 (Value.slice A6 xh.length c6); refine (HE6.out _ (by first | exact HZ.out | exact below_drewN HZ.out _)).mono ?_; rintro e w6 ⟨rfl, n6, rfl⟩; cases q6) | fail)
    all_goals
     (go_ret
      refine ⟨ret_bool ?_, by first | exact below_drewN HZ.out _ | exact HZ.out⟩
      rw [HR.out, sameU]
      simp only [← HQ0.out, ← HQ1.out, ← HQ4.out, ← HQ5.out, ← HQ6.out, ← HQ8.out, ← HQ9.out, E.out, Bool.false_and, Bool.and_false, Bool.true_and, Bool.and_true])
  ·have g3 : (xsl == ysl) = false := by simpa using e3
   have E := hid (show (xst == xst) = true ∧ (xsl == ysl) = false by simp [g3])
   clear e3
   go_enter Tryz.func42, Tryz.ntmps42
   go_wp2_with (first | (go_at_call_of 19 (Value.slice A0 xs.length c0); refine (HE0.out _ (by first | exact HZ.out | exact below_drewN HZ.out _)).mono ?_; rintro e w0 ⟨rfl, n0, rfl⟩; cases q0) | (go_at_call_of 19 (Value.slice A1 xr.length c1); refine (HE1.out _ (by first | exact HZ.out | exact below_drewN HZ.out _)).mono ?_; rintro e w1 ⟨rfl, n1, rfl⟩; cases q1) | fail)
   all_goals
    (go_ret
     refine ⟨ret_bool ?_, by first | exact below_drewN HZ.out _ | exact HZ.out⟩
     rw [HR.out, sameU]
     simp only [← HQ0.out, ← HQ1.out, ← HQ4.out, ← HQ5.out, ← HQ6.out, ← HQ8.out, ← HQ9.out, E.out, Bool.false_and, Bool.and_false, Bool.true_and, Bool.and_true])
 ·have g2 : (xst == yst) = false := by simpa using e2
  have E := hid (show (xst == yst) = false from g2)
  clear e2
  go_enter Tryz.func42, Tryz.ntmps42
  go_wp2_with (first | (go_at_call_of 19 (Value.slice A0 xs.length c0); refine (HE0.out _ (by first | exact HZ.out | exact below_drewN HZ.out _)).mono ?_; rintro e w0 ⟨rfl, n0, rfl⟩; cases q0) | (go_at_call_of 19 (Value.slice A1 xr.length c1); refine (HE1.out _ (by first | exact HZ.out | exact below_drewN HZ.out _)).mono ?_; rintro e w1 ⟨rfl, n1, rfl⟩; cases q1) | fail)
  all_goals
   (go_ret
    refine ⟨ret_bool ?_, by first | exact below_drewN HZ.out _ | exact HZ.out⟩
    rw [HR.out, sameU]
    simp only [← HQ0.out, ← HQ1.out, ← HQ4.out, ← HQ5.out, ← HQ6.out, ← HQ8.out, ← HQ9.out, E.out, Bool.false_and, Bool.and_false, Bool.true_and, Bool.and_true])
