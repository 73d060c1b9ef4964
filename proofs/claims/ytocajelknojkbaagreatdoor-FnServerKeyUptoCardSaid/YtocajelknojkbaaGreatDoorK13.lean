import Derived.Test.YtocajelknojkbaaGreatDoorK07
import Derived.Deep.DeepCutAuto
set_option maxRecDepth 100000
set_option maxHeartbeats 16000000
set_option linter.all false
namespace Go.Proofs.YtocajelknojkbaaGreatDoor
open Go.Lib (hid)
open Go.RowKit
theorem OB.kept2 {base base2 : Nat} {W w1 : World} {v u : Value} {l m : Bytes} (h : OB base2 W u m) (hg : W.grownBy w1 v.ownBlock) (hv : ∀ k, v.ownBlock = some k → k < base2) : OB base2 w1 u m :=
 World.ownsRow.kept h hg (by
  cases hu : u.ownBlock with
  | none => exact .inl rfl
  | some k =>
   refine .inr (fun e => ?_)
   have h1 := (World.ownsRow.lt h k hu).1
   have h2 := hv k e.symm
   omega)
theorem OB.blk_lt {base : Nat} {W : World} {v : Value} {l : Bytes} (h : OB base W v l) : ∀ k, v.ownBlock = some k → k < W.heap.size := fun k hk => (World.ownsRow.lt h k hk).2
theorem blk10 {w : World} {g : Nat} {t : TypeId} {fz : Nat × Nat} {v0 v1 v2 v3 v4 v5 v6 v7 v8 v9 : Value} (h : w.heap[g]? = some (.cells #[v0, v1, v2, v3, v4, v5, v6, v7, v8, v9] t fz)) :
  w.cell? ⟨g, 0, none⟩ = some v0 ∧ w.cell? ⟨g, 1, none⟩ = some v1 ∧ w.cell? ⟨g, 2, none⟩ = some v2 ∧ w.cell? ⟨g, 3, none⟩ = some v3 ∧ w.cell? ⟨g, 4, none⟩ = some v4 ∧ w.cell? ⟨g, 5, none⟩ = some v5 ∧ w.cell? ⟨g, 6, none⟩ = some v6 ∧ w.cell? ⟨g, 7, none⟩ = some v7 ∧ w.cell? ⟨g, 8, none⟩ = some v8 ∧ w.cell? ⟨g, 9, none⟩ = some v9 := by
 refine ⟨?_, ?_, ?_, ?_, ?_, ?_, ?_, ?_, ?_, ?_⟩ <;> rw [blk_cell h] <;> rfl
def luserT (u : LUri) : Bytes := if u.user = [] then [] else u.user ++ (if u.pass = [] then [] else 58 :: u.pass) ++ [64]
def ltailT (c sep : UInt8) (l : BKVs) : Bytes := if l = [] then [] else c :: lparT sep l
def luriT (u : LUri) : Bytes := u.scheme ++ [58] ++ luserT u ++ (u.host ++ lportT u.port) ++ ltailT 59 59 u.params ++ ltailT 63 38 u.hdrs
def luriN (u : LUri) : Nat := u.scheme.length + u.user.length + u.pass.length + u.host.length + (lparT 59 u.params).length + (lparT 38 u.hdrs).length + 99
theorem luser_len (u : LUri) : (luserT u).length ≤ u.user.length + u.pass.length + 2 := by
 unfold luserT
 split
 ·simp
 ·split <;> simp <;> omega
theorem ltail_len (c sep : UInt8) (l : BKVs) : (ltailT c sep l).length ≤ (lparT sep l).length + 1 := by
 unfold ltailT
 split
 ·simp
 ·simp
def UTPost (u : LUri) (w : World) (e : Ending) (w' : World) : Prop := ∃ v l, e = .returned v ∧ OB w.heap.size w' v l ∧ (0 ≤ u.port → l = luriT u) ∧ l.length ≤ luriN u ∧ Below w.heap.size w w'
def UTS (n1 : Nat) (wb : World) (pre : Bytes) (o : Value) (wx : World) : Prop := OB n1 wx o pre ∧ Below n1 wb wx
theorem uritext_any (u : LUri) (cs : List Value) (w : World) (hU : LU w u cs) (hl : luriN u ≤ 70368744177664) : Calls Tryz.prog 89 #[.agg cs.toArray] w (UTPost u w) := by
 obtain ⟨va, vb, vc, vd, ve, vp, vq, rfl, ha, hb, hc, hd, he, hp, hq, h64⟩ := hU
 have HA := hid (And.intro ha (And.intro hc (And.intro hd (And.intro he (And.intro hp hq)))))
 have H64 := hid h64
 have HL := hid hl
 have HLX := hid (show u.scheme.length + u.user.length + u.pass.length + u.host.length + (lparT 59 u.params).length + (lparT 38 u.hdrs).length + 99 ≤ 70368744177664 from hl)
 have HLU := hid (luser_len u)
 obtain ⟨A0, c0, rfl, n0⟩ := ha.form
 obtain ⟨A1, c1, rfl, n1⟩ := hb.form
 obtain ⟨A4, c4, rfl, n4⟩ := hc.form
 obtain ⟨A5, c5, rfl, n5⟩ := hd.form
 obtain ⟨A6, c6, rfl, n6⟩ := he.form
 obtain ⟨A8, c8, rfl, n8⟩ := hp.form
 obtain ⟨A9, c9, rfl, n9⟩ := hq.form
 obtain ⟨wb, hwb⟩ : ∃ wb, wb = w.alloc (.cells #[.slice A0 u.scheme.length c0, .slice A1 u.raw.length c1, .bool u.star, .bool u.slashes, .slice A4 u.user.length c4, .slice A5 u.pass.length c5, .slice A6 u.host.length c6, .int .i64 u.port, .slice A8 u.params.length c8, .slice A9 u.hdrs.length c9] 25) := ⟨_, rfl⟩
 have HWB := hid (show wb.heap[w.heap.size]? = some (.cells #[.slice A0 u.scheme.length c0, .slice A1 u.raw.length c1, .bool u.star, .bool u.slashes, .slice A4 u.user.length c4, .slice A5 u.pass.length c5, .slice A6 u.host.length c6, .int .i64 u.port, .slice A8 u.params.length c8, .slice A9 u.hdrs.length c9] 25 (0, 0)) by rw [hwb]; exact heap_alloc_new w _)
 have HB0 := hid (show Below w.heap.size w wb by rw [hwb]; exact (Below.refl _ w).alloc (Nat.le_refl _) _)
 have hsz : wb.heap.size = w.heap.size + 1 := by rw [hwb]; simp
 have HSZ := hid hsz
 obtain ⟨n1', hn1⟩ : ∃ n, n = w.heap.size + 1 := ⟨_, rfl⟩
 have HN1 := hid hn1
 have hlt : w.heap.size < wb.heap.size := by omega
 obtain ⟨d0, _, _, _, d4, _⟩ := blk10 HWB.out
 clear ha hb hc hd he hp hq h64 hl hn1 hsz
 go_enter Tryz.func89, Tryz.ntmps89
 go_wp2_with fail
 have hb1 := ((Below.refl w.heap.size w).alloc (Nat.le_refl _) (.cells #[.slice A0 u.scheme.length c0, .slice A1 u.raw.length c1, .bool u.star, .bool u.slashes, .slice A4 u.user.length c4, .slice A5 u.pass.length c5, .slice A6 u.host.length c6, .int .i64 u.port, .slice A8 u.params.length c8, .slice A9 u.hdrs.length c9] 25))
 have hb2 := (hb1.alloc hb1.size (.cells #[.int .u8 58] 5))
 have hb3 := (hb2.alloc hb2.size (.cells #[.slice A0 u.scheme.length c0, .slice (some ⟨w.heap.size + 1, 0, none⟩) 1 1] 22))
 rw [← hwb] at hb1 hb2 hb3 ⊢
 have hx1 : (wb.alloc (.cells #[.int .u8 58] 5)).heap[w.heap.size + 1]? = some (.cells #[.int .u8 58] 5 (0, 0)) := by
  have := heap_alloc_new wb (.cells #[.int .u8 58] 5)
  rwa [HSZ.out] at this
 have hsb := (SB.lit (l := [58]) hx1 (fun i hi => by match i, hi with | 0, _ => rfl) 1 (Nat.le_refl _) (by omega)).below ((Below.refl _ _).alloc (Nat.le_refl _) (.cells #[.slice A0 u.scheme.length c0, .slice (some ⟨w.heap.size + 1, 0, none⟩) 1 1] 22))
 have hx2 : ((wb.alloc (.cells #[.int .u8 58] 5)).alloc (.cells #[.slice A0 u.scheme.length c0, .slice (some ⟨w.heap.size + 1, 0, none⟩) 1 1] 22)).heap[w.heap.size + 1 + 1]? = some (.cells #[.slice A0 u.scheme.length c0, .slice (some ⟨w.heap.size + 1, 0, none⟩) 1 1] 22 (0, 0)) := by
  have := heap_alloc_new (wb.alloc (.cells #[.int .u8 58] 5)) (.cells #[.slice A0 u.scheme.length c0, .slice (some ⟨w.heap.size + 1, 0, none⟩) 1 1] 22)
  rwa [World.size_alloc, HSZ.out] at this
 have hlen : [u.scheme, [58]].flatten.length ≤ 140737488355328 := by have := HL.out; unfold luriN at this; simp; omega
 have HJ := hid (joined_any _ [u.scheme, [58]] _ (SBs.two hx2 (HA.out.1.below hb3) hsb) hlen)
 clear hx1 hx2 hsb hlen
 refine HJ.out.mono ?_
 rintro e w1 ⟨o1, rfl, ho1, hj1⟩
 have hbw : Below n1' wb ((wb.alloc (.cells #[.int .u8 58] 5)).alloc (.cells #[.slice A0 u.scheme.length c0, .slice (some ⟨w.heap.size + 1, 0, none⟩) 1 1] 22)) := by
  rw [HN1.out, ← HSZ.out]
  have hq1 := (Below.refl wb.heap.size wb).alloc (Nat.le_refl _) (.cells #[.int .u8 58] 5)
  exact hq1.alloc hq1.size _
 have hn2 : n1' ≤ ((wb.alloc (.cells #[.int .u8 58] 5)).alloc (.cells #[.slice A0 u.scheme.length c0, .slice (some ⟨w.heap.size + 1, 0, none⟩) 1 1] 22)).heap.size := by
  rw [World.size_alloc, World.size_alloc, HSZ.out, HN1.out]; omega
 have HU1 := hid (show UTS n1' wb (u.scheme ++ [58]) o1 w1 from ⟨by simpa using ho1.less hn2, hbw.trans (hj1.mono hn2)⟩)
 have HBX := hid (show ∀ wx, Below n1' wb wx → wx.heap[w.heap.size]? = some (.cells #[.slice A0 u.scheme.length c0, .slice A1 u.raw.length c1, .bool u.star, .bool u.slashes, .slice A4 u.user.length c4, .slice A5 u.pass.length c5, .slice A6 u.host.length c6, .int .i64 u.port, .slice A8 u.params.length c8, .slice A9 u.hdrs.length c9] 25 (0, 0)) from fun wx h => (h.block w.heap.size (by rw [HN1.out]; omega)).trans HWB.out)
 have HW := hid (show ∀ wx, Below n1' wb wx → Below w.heap.size w wx from fun wx h => HB0.out.trans (h.mono (by rw [HN1.out]; omega)))
 have HN := hid (show ∀ wx, Below n1' wb wx → n1' ≤ wx.heap.size from fun wx h => by have := h.size; have := HSZ.out; have := HN1.out; omega)
 clear hbw hn2 hj1 ho1 hb1 hb2 hb3 d0 d4 hwb HJ
 obtain ⟨_, _, _, _, d4, d5, _⟩ := blk10 (HBX.out w1 HU1.out.2)
 go_upto_if 12 with fail
 go_cut [3] (fun o wx => UTS n1' wb (u.scheme ++ [58] ++ luserT u) o wx)
 case first =>
  by_cases hus : u.user = []
  ·have hv : ¬ (0 : Int) < u.user.length := by rw [hus]; simp
   have HX := hid (show luserT u = [] by unfold luserT; rw [if_pos hus])
   clear hus
   go_wp2_with fail
   go_meet
   exact ⟨by rw [HX.out, List.append_nil]; exact HU1.out.1, HU1.out.2⟩
  ·have hv : (0 : Int) < u.user.length := by have := List.length_pos_iff.2 hus; omega
   have L2 := hid (show (u.scheme ++ [58]).length + u.user.length ≤ 140737488355328 by have h1 := HLX.out; have h2 := HLU.out; simp only [List.length_append, List.length_cons, List.length_nil]; omega)
   go_wp2_with (at_builtin; refine app_bytes n1' (by rfl) _ _ (by rfl) o1 _ (u.scheme ++ [58]) u.user (by rfl) (by rfl) HU1.out.1 (HA.out.2.1.below (HW.out w1 HU1.out.2)) (HN.out _ HU1.out.2) L2.out ?_)
   intro v2 w2 ho2 hgr2
   have HB2 := hid (HU1.out.2.trans (HU1.out.1.grown hgr2 (Nat.le_refl _) (HN.out _ HU1.out.2)))
   have HO2 := hid (show OB n1' w2 v2 (u.scheme ++ [58] ++ u.user) by simpa using ho2)
   clear ho2 hgr2 d4 d5
   obtain ⟨_, _, _, _, _, d5, _⟩ := blk10 (HBX.out w2 HB2.out)
   by_cases hpa : u.pass = []
   ·have hv2 : ¬ (0 : Int) < u.pass.length := by rw [hpa]; simp
    have HX := hid (show luserT u = u.user ++ [64] by unfold luserT; rw [if_neg hus, if_pos hpa]; simp)
    clear hus hpa
    have L3 := hid (show (u.scheme ++ [58] ++ u.user).length + 1 ≤ 140737488355328 by have h1 := HLX.out; have h2 := HLU.out; simp only [List.length_append, List.length_cons, List.length_nil]; omega)
    go_wp2_with (at_builtin; (refine app_byte n1' (by rfl) _ _ (by rfl) v2 (u.scheme ++ [58] ++ u.user) 64 64 (by decide) (by rfl) (by rfl) HO2.out (HN.out _ HB2.out) L3.out ?_))
    intro v3 w3 ho3 hgr3
    have HB3 := hid (HB2.out.trans (HO2.out.grown hgr3 (Nat.le_refl _) (HN.out _ HB2.out)))
    have HO3 := hid (show OB n1' w3 v3 (u.scheme ++ [58] ++ u.user ++ [64]) by simpa using ho3)
    clear ho3 hgr3
    go_wp2_with fail
    go_meet
    exact ⟨by rw [HX.out]; simpa using HO3.out, HB3.out⟩
   ·have hv2 : (0 : Int) < u.pass.length := by have := List.length_pos_iff.2 hpa; omega
    have HX := hid (show luserT u = u.user ++ 58 :: u.pass ++ [64] by unfold luserT; rw [if_neg hus, if_neg hpa])
    clear hus hpa
    have F5 := hid (HB2.out.trans ((((Below.refl _ w2).alloc (Nat.le_refl _) (.cells #[.int .u8 58] 5)).drew).mono (HN.out _ HB2.out)))
    have F1 := hid (HO2.out.kept (((Below.refl _ w2).alloc (Nat.le_refl _) (.cells #[.int .u8 58] 5)).drew))
    have F2 := hid (show SB (w2.alloc (.cells #[.int .u8 58] 5)).drew (.slice (some ⟨w2.heap.size, 0, none⟩) 1 1) [58] from SB.lit (l := [58]) (heap_alloc_new w2 _) (fun i hi => by match i, hi with | 0, _ => rfl) 1 (Nat.le_refl _) (by omega))
    have F3 := hid (HN.out _ F5.out)
    have F4 := hid (show (u.scheme ++ [58] ++ u.user).length + ([58] : Bytes).length ≤ 140737488355328 by have h1 := HLX.out; have h2 := HLU.out; simp only [List.length_append, List.length_cons, List.length_nil]; omega)
    have F6 := hid (show (u.scheme ++ [58] ++ u.user ++ [58]).length + u.pass.length ≤ 140737488355328 by have h1 := HLX.out; have h2 := HLU.out; simp only [List.length_append, List.length_cons, List.length_nil]; omega)
    have e5 := (blk10 (HBX.out w2 (HB2.out))).2.2.2.2.2.1
    go_wp2_with fail
    go_region_held3 (fun w' => w'.cell? ⟨w.heap.size, 5, none⟩ = some (.slice A5 u.pass.length c5)) (first | go_keep | exact (blk10 (HBX.out _ (HB5.out))).2.2.2.2.2.1 | exact (blk10 (HBX.out _ (HB4.out))).2.2.2.2.2.1)
     (first
      | (refine step_bytes n1' (by rfl) (.tmp 21) (.tmp 22) (by rfl) v2 (.slice (some ⟨w2.heap.size, 0, none⟩) 1 1) (u.scheme ++ [58] ++ u.user) [58] (by rfl) (by rfl) F1.out F2.out F3.out F4.out ?_; intro v4 w4 ho4 hgr4; have HB4 := hid (F5.out.trans (OB.grown F1.out hgr4 (Nat.le_refl _) F3.out)); have HO4 := hid (show OB n1' w4 v4 (u.scheme ++ [58] ++ u.user ++ [58]) by first | exact ho4 | simpa using ho4); clear ho4 hgr4)
      | (refine step_bytes n1' (by rfl) (.tmp 23) (.tmp 25) (by rfl) v4 (.slice A5 u.pass.length c5) (u.scheme ++ [58] ++ u.user ++ [58]) u.pass (by rfl) (by rfl) HO4.out (HA.out.2.2.1.below (HW.out _ HB4.out)) (HN.out _ HB4.out) F6.out ?_; intro v5 w5 ho5 hgr5; have HB5 := hid (HB4.out.trans (HO4.out.grown hgr5 (Nat.le_refl _) (HN.out _ HB4.out))); have HO5 := hid (show OB n1' w5 v5 (u.scheme ++ [58] ++ u.user ++ [58] ++ u.pass) by first | exact ho5 | simpa using ho5); clear ho5 hgr5)
      | fail)
    clear d5 e5
    have L6 := hid (show (u.scheme ++ [58] ++ u.user ++ [58] ++ u.pass).length + 1 ≤ 140737488355328 by have h1 := HLX.out; have h2 := HLU.out; simp only [List.length_append, List.length_cons, List.length_nil]; omega)
    go_wp2_with (at_builtin; (refine app_byte n1' (by rfl) _ _ (by rfl) v5 (u.scheme ++ [58] ++ u.user ++ [58] ++ u.pass) 64 64 (by decide) (by rfl) (by rfl) HO5.out (HN.out _ HB5.out) L6.out ?_))
    intro v6 w6 ho6 hgr6
    have HB6 := hid (HB5.out.trans (HO5.out.grown hgr6 (Nat.le_refl _) (HN.out _ HB5.out)))
    have HO6 := hid (show OB n1' w6 v6 (u.scheme ++ [58] ++ u.user ++ [58] ++ u.pass ++ [64]) by simpa using ho6)
    clear ho6 hgr6
    go_wp2_with fail
    go_meet
    exact ⟨by rw [HX.out]; simpa using HO6.out, HB6.out⟩
 case rest =>
  have HUc := hid hcut
  have d6 := (blk10 (HBX.out wc HUc.out.2)).2.2.2.2.2.2.1
  have d7 := (blk10 (HBX.out wc HUc.out.2)).2.2.2.2.2.2.2.1
  clear hcut
  go_wp2_with fail
  refine (hosttext_any _ u.host u.port wc (HA.out.2.2.2.1.below (HW.out wc HUc.out.2)) H64.out (by have := HLX.out; omega)).mono ?_
  rintro e w7 ⟨vh, lh, rfl, hsb, heq, hlen, hbh⟩
  have HB7 := hid (HUc.out.2.trans (hbh.mono (HN.out _ HUc.out.2)))
  have HO7 := hid (HUc.out.1.kept hbh)
  have HS7 := hid hsb
  have HH := hid (And.intro heq hlen)
  have L8 := hid (show (u.scheme ++ [58] ++ luserT u).length + lh.length ≤ 140737488355328 by have h1 := HLX.out; have h2 := HLU.out; have h3 := HH.out.2; simp only [List.length_append, List.length_cons, List.length_nil]; omega)
  obtain ⟨Ah, ch, rfl, nh⟩ := hsb.form
  clear hsb heq hlen hbh d6 d7
  go_wp2_with (at_builtin; refine app_bytes n1' (by rfl) _ _ (by rfl) u3 _ (u.scheme ++ [58] ++ luserT u) lh (by rfl) (by rfl) HO7.out HS7.out (HN.out _ HB7.out) L8.out ?_)
  intro v8 w8 ho8 hgr8
  have HB8 := hid (HB7.out.trans (HO7.out.grown hgr8 (Nat.le_refl _) (HN.out _ HB7.out)))
  have HO8 := hid (show OB n1' w8 v8 (u.scheme ++ [58] ++ luserT u ++ lh) by simpa using ho8)
  have HT8 := hid (ltail_len 59 59 u.params)
  clear ho8 hgr8
  have d8 := (blk10 (HBX.out w8 (HB8.out))).2.2.2.2.2.2.2.2.1
  go_upto_if 40 with fail
  go_cut [3] (fun o wx => UTS n1' wb (u.scheme ++ [58] ++ luserT u ++ lh ++ ltailT 59 59 u.params) o wx)
  case first =>
   by_cases hpe : u.params = []
   ·have hv : ¬ (0 : Int) < u.params.length := by rw [hpe]; simp
    have HX := hid (show ltailT 59 59 u.params = [] by unfold ltailT; rw [if_pos hpe])
    clear hpe
    go_wp2_with fail
    go_meet
    exact ⟨by rw [HX.out, List.append_nil]; exact HO8.out, HB8.out⟩
   ·have hv : (0 : Int) < u.params.length := by have := List.length_pos_iff.2 hpe; omega
    have HX := hid (show ltailT 59 59 u.params = 59 :: lparT 59 u.params by unfold ltailT; rw [if_neg hpe])
    have HWK := hid (show ∀ wx, Below n1' wb wx → SK wx (.slice A8 u.params.length c8) u.params from fun wx h => HA.out.2.2.2.2.1.below (HW.out wx h))
    clear hpe
    have F0 := hid (show Below n1' wb w8.drew from HB8.out.drew)
    have F5 := hid (show Below n1' wb (w8.alloc (.cells #[.int .u8 59] 5)).drew from HB8.out.trans ((((Below.refl _ w8).alloc (Nat.le_refl _) (.cells #[.int .u8 59] 5)).drew).mono (HN.out _ HB8.out)))
    have G1 := hid (show OB n1' w8.drew v8 (u.scheme ++ [58] ++ luserT u ++ lh) from HO8.out.kept (Below.refl _ w8).drew)
    have F1 := hid (show OB n1' (w8.alloc (.cells #[.int .u8 59] 5)).drew v8 (u.scheme ++ [58] ++ luserT u ++ lh) from HO8.out.kept (((Below.refl _ w8).alloc (Nat.le_refl _) (.cells #[.int .u8 59] 5)).drew))
    have F2 := hid (show SB (w8.alloc (.cells #[.int .u8 59] 5)).drew (.slice (some ⟨w8.heap.size, 0, none⟩) 1 1) [59] from SB.lit (l := [59]) (heap_alloc_new w8 _) (fun i hi => by match i, hi with | 0, _ => rfl) 1 (Nat.le_refl _) (by omega))
    have F4 := hid (show (u.scheme ++ [58] ++ luserT u ++ lh).length + ([59] : Bytes).length ≤ 140737488355328 by have h1 := HLX.out; have h2 := HLU.out; have h3 := HH.out.2; have h4 := HT8.out; simp only [List.length_append, List.length_cons, List.length_nil]; omega)
    have F6 := hid (show (u.scheme ++ [58] ++ luserT u ++ lh ++ [59]).length + (lparT 59 u.params).length ≤ 140737488355328 by have h1 := HLX.out; have h2 := HLU.out; have h3 := HH.out.2; have h4 := HT8.out; simp only [List.length_append, List.length_cons, List.length_nil]; omega)
    have LP := hid (show (lparT 59 u.params).length ≤ 70368744177664 by have h1 := HLX.out; omega)
    have HPT := hid (show ∀ wx, SK wx (.slice A8 u.params.length c8) u.params → Calls Tryz.prog 90 #[.slice A8 u.params.length c8, .int .u8 59] wx (JPost (lparT 59 u.params) wx) from fun wx h => partext_any (.slice A8 u.params.length c8) 59 u.params wx h LP.out)
    have e5 := (blk10 (HBX.out w8 (HB8.out))).2.2.2.2.2.2.2.2.1
    have HCE := hid (show ∀ wx, Below n1' wb wx → wx.cell? ⟨w.heap.size, 8, none⟩ = some (.slice A8 u.params.length c8) from fun wx h => (blk10 (HBX.out wx (h))).2.2.2.2.2.2.2.2.1)
    go_wp2_with fail
    go_region_held3 (fun w' => w'.cell? ⟨w.heap.size, 8, none⟩ = some (.slice A8 u.params.length c8)) (first | go_keep | exact HCE.out _ HB5.out | exact HCE.out _ HBC.out | exact HCE.out _ HB4.out)
     (first
      | (go_at_call 90; refine (HPT.out _ (HWK.out _ HB4.out)).mono ?_; rintro e wp ⟨vp, rfl, hop, hbp⟩; have HP := hid hop; have HBP := hid hbp; have HBC := hid (show Below n1' wb wp by first | exact F0.out.trans (hbp.mono (HN.out _ F0.out)) | exact F5.out.trans (hbp.mono (HN.out _ F5.out)) | exact HB4.out.trans (hbp.mono (HN.out _ HB4.out))); clear hop hbp)
      | (refine step_bytes n1' (by rfl) (.tmp 41) (.tmp 42) (by rfl) v8 _ (u.scheme ++ [58] ++ luserT u ++ lh) [59] (by rfl) (by rfl) (by first | exact F1.out | exact F1.out.kept HBP.out | exact (G1.out.kept HBP.out).kept ((Below.refl _ _).alloc (Nat.le_refl _) _)) (by first | exact F2.out | exact F2.out.below HBP.out | exact SB.lit (l := [59]) (heap_alloc_new _ _) (fun i hi => by match i, hi with | 0, _ => rfl) 1 (Nat.le_refl _) (by omega)) (by first | exact HN.out _ F5.out | exact HN.out _ HBC.out | exact HN.out _ (HBC.out.alloc (HN.out _ HBC.out) _)) F4.out ?_; intro v4 w4 ho4 hgr4; have HB4 := hid (show Below n1' wb w4 by first | exact F5.out.trans (OB.grown F1.out hgr4 (Nat.le_refl _) (HN.out _ F5.out)) | exact HBC.out.trans ((F1.out.kept HBP.out).grown hgr4 (Nat.le_refl _) (HN.out _ HBC.out)) | exact (HBC.out.alloc (HN.out _ HBC.out) _).trans (((G1.out.kept HBP.out).kept ((Below.refl _ _).alloc (Nat.le_refl _) _)).grown hgr4 (Nat.le_refl _) (HN.out _ (HBC.out.alloc (HN.out _ HBC.out) _)))); have HO4 := hid (show OB n1' w4 v4 (u.scheme ++ [58] ++ luserT u ++ lh ++ [59]) by first | exact ho4 | simpa using ho4); (first | have HP4 := hid (HP.out.kept2 hgr4 F1.out.blk_lt) | have HP4 := hid ((HP.out.kept ((Below.refl _ _).alloc (Nat.le_refl _) (.cells #[.int .u8 59] 5))).kept2 hgr4 G1.out.blk_lt) | skip); clear ho4 hgr4)
      | (refine step_bytes n1' (by rfl) (.tmp 43) (.tmp 46) (by rfl) v4 vp (u.scheme ++ [58] ++ luserT u ++ lh ++ [59]) (lparT 59 u.params) (by rfl) (by rfl) (by first | exact HO4.out | exact HO4.out.kept HBP.out) (by first | exact HP4.out.sb | exact HP.out.sb) (by first | exact HN.out _ HB4.out | exact HN.out _ HBC.out) F6.out ?_; intro v5 w5 ho5 hgr5; have HB5 := hid (show Below n1' wb w5 by first | exact HB4.out.trans (HO4.out.grown hgr5 (Nat.le_refl _) (HN.out _ HB4.out)) | exact HBC.out.trans ((HO4.out.kept HBP.out).grown hgr5 (Nat.le_refl _) (HN.out _ HBC.out))); have HO5 := hid (show OB n1' w5 v5 (u.scheme ++ [58] ++ luserT u ++ lh ++ [59] ++ lparT 59 u.params) by first | exact ho5 | simpa using ho5); clear ho5 hgr5)
      | fail)
    all_goals
     (go_wp2_with fail
      go_meet
      exact ⟨by rw [HX.out]; simpa using HO5.out, HB5.out⟩)
  case rest =>
   obtain ⟨w9, rfl⟩ : ∃ w9 : World, w9 = wc := ⟨_, rfl⟩
   have HU9 := hid hcut
   clear hcut
   have d9 := (blk10 (HBX.out w9 (HU9.out.2))).2.2.2.2.2.2.2.2.2
   have HFIN := hid (show ∀ l, l = u.scheme ++ [58] ++ luserT u ++ lh ++ ltailT 59 59 u.params ++ ltailT 63 38 u.hdrs → (0 ≤ u.port → l = luriT u) ∧ l.length ≤ luriN u from fun l hl0 => ⟨fun h0 => by rw [hl0, HH.out.1 h0, luriT], by
    have h1 := HLX.out
    have h2 := HLU.out
    have h3 := HH.out.2
    have h4 := HT8.out
    have h5 := ltail_len 63 38 u.hdrs
    rw [hl0]
    unfold luriN
    simp only [List.length_append, List.length_cons, List.length_nil]
    omega⟩)
   by_cases hpe : u.hdrs = []
   ·have hv : ¬ (0 : Int) < u.hdrs.length := by rw [hpe]; simp
    have HX := hid (show ltailT 63 38 u.hdrs = [] by unfold ltailT; rw [if_pos hpe])
    clear hpe
    go_wp2
    go_ret
    obtain ⟨f1, f2⟩ := HFIN.out (u.scheme ++ [58] ++ luserT u ++ lh ++ ltailT 59 59 u.params) (by rw [HX.out, List.append_nil])
    exact ⟨_, _, rfl, HU9.out.1.less (by have := HN1.out; omega), f1, f2, HW.out _ HU9.out.2⟩
   ·have hv : (0 : Int) < u.hdrs.length := by have := List.length_pos_iff.2 hpe; omega
    have HX := hid (show ltailT 63 38 u.hdrs = 63 :: lparT 38 u.hdrs by unfold ltailT; rw [if_neg hpe])
    have HWK := hid (show ∀ wx, Below n1' wb wx → SK wx (.slice A9 u.hdrs.length c9) u.hdrs from fun wx h => HA.out.2.2.2.2.2.below (HW.out wx h))
    clear hpe
    have F0 := hid (show Below n1' wb w9.drew from HU9.out.2.drew)
    have F5 := hid (show Below n1' wb (w9.alloc (.cells #[.int .u8 63] 5)).drew from HU9.out.2.trans ((((Below.refl _ w9).alloc (Nat.le_refl _) (.cells #[.int .u8 63] 5)).drew).mono (HN.out _ HU9.out.2)))
    have G1 := hid (show OB n1' w9.drew u3 (u.scheme ++ [58] ++ luserT u ++ lh ++ ltailT 59 59 u.params) from HU9.out.1.kept (Below.refl _ w9).drew)
    have F1 := hid (show OB n1' (w9.alloc (.cells #[.int .u8 63] 5)).drew u3 (u.scheme ++ [58] ++ luserT u ++ lh ++ ltailT 59 59 u.params) from HU9.out.1.kept (((Below.refl _ w9).alloc (Nat.le_refl _) (.cells #[.int .u8 63] 5)).drew))
    have F2 := hid (show SB (w9.alloc (.cells #[.int .u8 63] 5)).drew (.slice (some ⟨w9.heap.size, 0, none⟩) 1 1) [63] from SB.lit (l := [63]) (heap_alloc_new w9 _) (fun i hi => by match i, hi with | 0, _ => rfl) 1 (Nat.le_refl _) (by omega))
    have F4 := hid (show (u.scheme ++ [58] ++ luserT u ++ lh ++ ltailT 59 59 u.params).length + ([63] : Bytes).length ≤ 140737488355328 by have h1 := HLX.out; have h2 := HLU.out; have h3 := HH.out.2; have h4 := HT8.out; simp only [List.length_append, List.length_cons, List.length_nil]; omega)
    have F6 := hid (show (u.scheme ++ [58] ++ luserT u ++ lh ++ ltailT 59 59 u.params ++ [63]).length + (lparT 38 u.hdrs).length ≤ 140737488355328 by have h1 := HLX.out; have h2 := HLU.out; have h3 := HH.out.2; have h4 := HT8.out; simp only [List.length_append, List.length_cons, List.length_nil]; omega)
    have LP := hid (show (lparT 38 u.hdrs).length ≤ 70368744177664 by have h1 := HLX.out; omega)
    have HPT := hid (show ∀ wx, SK wx (.slice A9 u.hdrs.length c9) u.hdrs → Calls Tryz.prog 90 #[.slice A9 u.hdrs.length c9, .int .u8 38] wx (JPost (lparT 38 u.hdrs) wx) from fun wx h => partext_any (.slice A9 u.hdrs.length c9) 38 u.hdrs wx h LP.out)
    have e5 := (blk10 (HBX.out w9 (HU9.out.2))).2.2.2.2.2.2.2.2.2
    have HCE := hid (show ∀ wx, Below n1' wb wx → wx.cell? ⟨w.heap.size, 9, none⟩ = some (.slice A9 u.hdrs.length c9) from fun wx h => (blk10 (HBX.out wx (h))).2.2.2.2.2.2.2.2.2)
    go_wp2_with fail
    go_region_held3 (fun w' => w'.cell? ⟨w.heap.size, 9, none⟩ = some (.slice A9 u.hdrs.length c9)) (first | go_keep | exact HCE.out _ HB5.out | exact HCE.out _ HBC.out | exact HCE.out _ HB4.out)
     (first
      | (go_at_call 90; refine (HPT.out _ (HWK.out _ HB4.out)).mono ?_; rintro e wp ⟨vp, rfl, hop, hbp⟩; have HP := hid hop; have HBP := hid hbp; have HBC := hid (show Below n1' wb wp by first | exact F0.out.trans (hbp.mono (HN.out _ F0.out)) | exact F5.out.trans (hbp.mono (HN.out _ F5.out)) | exact HB4.out.trans (hbp.mono (HN.out _ HB4.out))); clear hop hbp)
      | (refine step_bytes n1' (by rfl) (.tmp 52) (.tmp 53) (by rfl) u3 _ (u.scheme ++ [58] ++ luserT u ++ lh ++ ltailT 59 59 u.params) [63] (by rfl) (by rfl) (by first | exact F1.out | exact F1.out.kept HBP.out | exact (G1.out.kept HBP.out).kept ((Below.refl _ _).alloc (Nat.le_refl _) _)) (by first | exact F2.out | exact F2.out.below HBP.out | exact SB.lit (l := [63]) (heap_alloc_new _ _) (fun i hi => by match i, hi with | 0, _ => rfl) 1 (Nat.le_refl _) (by omega)) (by first | exact HN.out _ F5.out | exact HN.out _ HBC.out | exact HN.out _ (HBC.out.alloc (HN.out _ HBC.out) _)) F4.out ?_; intro v4 w4 ho4 hgr4; have HB4 := hid (show Below n1' wb w4 by first | exact F5.out.trans (OB.grown F1.out hgr4 (Nat.le_refl _) (HN.out _ F5.out)) | exact HBC.out.trans ((F1.out.kept HBP.out).grown hgr4 (Nat.le_refl _) (HN.out _ HBC.out)) | exact (HBC.out.alloc (HN.out _ HBC.out) _).trans (((G1.out.kept HBP.out).kept ((Below.refl _ _).alloc (Nat.le_refl _) _)).grown hgr4 (Nat.le_refl _) (HN.out _ (HBC.out.alloc (HN.out _ HBC.out) _)))); have HO4 := hid (show OB n1' w4 v4 (u.scheme ++ [58] ++ luserT u ++ lh ++ ltailT 59 59 u.params ++ [63]) by first | exact ho4 | simpa using ho4); (first | have HP4 := hid (HP.out.kept2 hgr4 F1.out.blk_lt) | have HP4 := hid ((HP.out.kept ((Below.refl _ _).alloc (Nat.le_refl _) (.cells #[.int .u8 63] 5))).kept2 hgr4 G1.out.blk_lt) | skip); clear ho4 hgr4)
      | (refine step_bytes n1' (by rfl) (.tmp 54) (.tmp 57) (by rfl) v4 vp (u.scheme ++ [58] ++ luserT u ++ lh ++ ltailT 59 59 u.params ++ [63]) (lparT 38 u.hdrs) (by rfl) (by rfl) (by first | exact HO4.out | exact HO4.out.kept HBP.out) (by first | exact HP4.out.sb | exact HP.out.sb) (by first | exact HN.out _ HB4.out | exact HN.out _ HBC.out) F6.out ?_; intro v5 w5 ho5 hgr5; have HB5 := hid (show Below n1' wb w5 by first | exact HB4.out.trans (HO4.out.grown hgr5 (Nat.le_refl _) (HN.out _ HB4.out)) | exact HBC.out.trans ((HO4.out.kept HBP.out).grown hgr5 (Nat.le_refl _) (HN.out _ HBC.out))); have HO5 := hid (show OB n1' w5 v5 (u.scheme ++ [58] ++ luserT u ++ lh ++ ltailT 59 59 u.params ++ [63] ++ lparT 38 u.hdrs) by first | exact ho5 | simpa using ho5); clear ho5 hgr5)
      | fail)
    all_goals
     (go_wp2
      go_ret
      obtain ⟨f1, f2⟩ := HFIN.out (u.scheme ++ [58] ++ luserT u ++ lh ++ ltailT 59 59 u.params ++ [63] ++ lparT 38 u.hdrs) (by rw [HX.out]; simp)
      exact ⟨_, _, rfl, HO5.out.less (by have := HN1.out; omega), f1, f2, HW.out _ HB5.out⟩)
theorem isletter_any (c : UInt8) (w : World) : Calls Tryz.prog 70 #[.int .u8 c.toNat] w fun e w' => e = .returned (.bool (letterB c)) ∧ w' = w := by
 unfold letterB
 go_enter Tryz.func70, Tryz.ntmps70
 go_wp2
 all_goals
  (go_ret
   refine ⟨ret_bool ?_, rfl⟩
   rw [Bool.eq_iff_iff]
   simp
   try omega)
theorem isdigit_any (c : UInt8) (w : World) : Calls Tryz.prog 71 #[.int .u8 c.toNat] w fun e w' => e = .returned (.bool (digitB c)) ∧ w' = w := by
 unfold digitB
 go_enter Tryz.func71, Tryz.ntmps71
 go_wp2
 all_goals
  (go_ret
   refine ⟨ret_bool ?_, rfl⟩
   rw [Bool.eq_iff_iff]
   simp
   try omega)
theorem iswordbyte_any (c : UInt8) (w : World) : Calls Tryz.prog 37 #[.int .u8 c.toNat] w fun e w' => e = .returned (.bool (wordB c)) ∧ w' = w := by
 unfold wordB
 cases hl : letterB c
 ·cases hd : digitB c
  ·go_enter Tryz.func37, Tryz.ntmps37
   go_wp2_with (first
    | (go_at_call 70; refine (isletter_any c _).mono ?_; rintro e w1 ⟨rfl, rfl⟩; rw [hl])
    | (go_at_call 71; refine (isdigit_any c _).mono ?_; rintro e w1 ⟨rfl, rfl⟩; rw [hd]))
   all_goals
    (go_ret
     refine ⟨ret_bool ?_, rfl⟩
     rw [Bool.eq_iff_iff]
     simp
     try omega)
  ·go_enter Tryz.func37, Tryz.ntmps37
   go_wp2_with (first
    | (go_at_call 70; refine (isletter_any c _).mono ?_; rintro e w1 ⟨rfl, rfl⟩; rw [hl])
    | (go_at_call 71; refine (isdigit_any c _).mono ?_; rintro e w1 ⟨rfl, rfl⟩; rw [hd]))
   all_goals (go_ret; exact ⟨ret_bool (by simp), rfl⟩)
 ·go_enter Tryz.func37, Tryz.ntmps37
  go_wp2_with (first
    | (go_at_call 70; refine (isletter_any c _).mono ?_; rintro e w1 ⟨rfl, rfl⟩; rw [hl]))
  all_goals (go_ret; exact ⟨ret_bool (by simp), rfl⟩)
def wordS (l : Bytes) : Bool := l.all wordB && decide (0 < l.length) && decide (l.length ≤ 8192)
theorem all_false {p : UInt8 → Bool} {l : Bytes} {k : Nat} {d : UInt8} (h : l[k]? = some d) (hp : p d = false) : l.all p = false := by
 rw [List.all_eq_false]
 exact ⟨d, List.mem_of_getElem? h, by simp [hp]⟩
theorem all_more {p : UInt8 → Bool} {l : Bytes} {k : Nat} {d : UInt8} (h : l[k]? = some d) (ha : (l.take k).all p = true) (hp : p d = true) : (l.take (k + 1)).all p = true := by
 rw [List.take_add_one, h, List.all_append, ha]
 simp [hp]
theorem all_done {p : UInt8 → Bool} {l : Bytes} {k : Nat} (h : ¬ k < l.length) (ha : (l.take k).all p = true) : l.all p = true := by
 rwa [List.take_of_length_le (by omega)] at ha
theorem isword_any (v : Value) (l : Bytes) (w : World) (hS : SB w v l) : Calls Tryz.prog 10 #[v] w fun e w' => e = .returned (.bool (wordS l)) ∧ w' = w := by
 have HS := hid hS
 obtain ⟨A, c, rfl, hlen⟩ := hS.form
 clear hS
 go_enter Tryz.func10, Tryz.ntmps10
 go_wp2_with fail
 go_loopw [3] (fun i wr => ∃ k : Nat, k ≤ l.length ∧ i = .int .i64 k ∧ (l.take k).all wordB = true ∧ wr = w) (fun i _ => l.length - (intOf i).toNat)
 case atStart => exact ⟨0, Nat.zero_le _, rfl, by simp, rfl⟩
 case round =>
  obtain ⟨k, hk, rfl, hall, rfl⟩ := hrel
  have HA := hid hall
  clear hall
  by_cases hlt : k < l.length
  ·obtain ⟨a, c', d, e1, hc, hd⟩ := HS.out.get k hlt
   cases e1
   have HLT := hid (And.intro (Nat.succ_le_of_lt hlt) hd)
   clear hd
   cases hw : wordB d
   ·go_wp2_with (go_at_call 37; refine (iswordbyte_any d _).mono ?_; rintro e w1 ⟨rfl, rfl⟩; rw [hw])
    go_ret
    exact ⟨ret_bool (by simp [wordS, all_false HLT.out.2 hw]), rfl⟩
   ·go_wp2_with (go_at_call 37; refine (iswordbyte_any d _).mono ?_; rintro e w1 ⟨rfl, rfl⟩; rw [hw])
    go_roundw
    case rel => exact ⟨k + 1, HLT.out.1, by simp, all_more HLT.out.2 HA.out hw, trivial⟩
    case measure => exact meas_step HLT.out.1 (by simp)
  ·have hd := all_done hlt HA.out
   have HD := hid hd
   have hke : k = l.length := by omega
   subst hke
   clear hd
   go_wp2
   all_goals
    (go_ret
     refine ⟨ret_bool ?_, rfl⟩
     rw [wordS, HD.out, Bool.eq_iff_iff]
     simp
     try omega)
theorem equal_any (v u : Value) (l m : Bytes) (w : World) (hS : SB w v l) (hT : SB w u m) : Calls Tryz.prog 19 #[v, u] w fun e w' => e = .returned (.bool (decide (l = m))) ∧ Below w.heap.size w w' := by
 have HS := hid hS
 have HT := hid hT
 obtain ⟨A, c, rfl, hlen⟩ := hS.form
 obtain ⟨A2, c2, rfl, hlen2⟩ := hT.form
 clear hS hT
 by_cases hlm : l.length = m.length
 ·have HLM := hid hlm
  have hz : ((l.length : Int) == m.length) = true := by simp [hlm]
  rw [← hlm] at hlen2 ⊢
  clear hlm hlen2 hz
  go_enter Tryz.func19, Tryz.ntmps19
  go_wp2_with fail
  go_loopw [5] (fun i wr => ∃ k : Nat, k ≤ l.length ∧ i = .int .i64 k ∧ l.take k = m.take k ∧ Below w.heap.size w wr) (fun i _ => l.length - (intOf i).toNat)
  case atStart => exact ⟨0, Nat.zero_le _, rfl, by simp, Below.refl _ _⟩
  case round =>
   obtain ⟨k, hk, rfl, hall, hb⟩ := hrel
   have HA := hid hall
   have HB := hid hb
   obtain ⟨wo, rfl⟩ : ∃ wo : World, wo = wr := ⟨_, rfl⟩
   clear hall hb
   by_cases hlt : k < l.length
   ·obtain ⟨a, c', e1, hc⟩ := HS.out.at_ k hlt
    cases e1
    have hlt2 : k < m.length := by rw [← HLM.out]; exact hlt
    obtain ⟨a2, c2', e2, hc2⟩ := HT.out.at_ k hlt2
    rw [← HLM.out] at e2
    cases e2
    have d1 := cell_at_below hc HB.out
    have d2 := cell_at_below hc2 HB.out
    have HLT := hid hlt
    have HLT2 := hid hlt2
    have hk1 : (k : Int) < l.length := by omega
    have hk2 : (0 : Int) ≤ k := by omega
    clear hc hc2
    by_cases hq : l[k] = m[k]
    ·have hq2 : ((l[k].toNat : Int) == m[k].toNat) = true := by simp [hq]
     have HQ := hid hq
     clear hq
     go_wp2_with fail
     go_still (by kernel_rfl)
     go_wp2
     go_roundw
     case rel => exact ⟨k + 1, HLT.out, by simp, by rw [take_step l k HLT.out, take_step m k HLT2.out, HA.out]; exact congrArg (fun x => _ ++ [x]) HQ.out, HB.out.drew⟩
     case measure => exact meas_step HLT.out (by simp)
    ·have hq2 : ((l[k].toNat : Int) == m[k].toNat) = false := by
      rw [beq_eq_false_iff_ne]
      intro e
      exact hq (UInt8.toNat_inj.1 (by omega))
     have HQ := hid hq
     clear hq
     go_wp2_with fail
     go_still (by kernel_rfl)
     go_wp2
     go_ret
     refine ⟨ret_bool ?_, HB.out.drew⟩
     symm
     rw [decide_eq_false_iff_not]
     intro e
     subst e
     exact HQ.out rfl
   ·have HLT := hid hlt
    go_wp2
    go_ret
    refine ⟨ret_bool ?_, HB.out⟩
    have := HA.out
    rw [List.take_of_length_le (by have := HLT.out; omega), List.take_of_length_le (by have := HLT.out; have := HLM.out; omega)] at this
    simp [this]
 ·have hz : ((l.length : Int) == m.length) = false := by simp; omega
  have HLM := hid hlm
  have hne : ¬ (l.length : Int) = m.length := by omega
  clear hlm
  go_enter Tryz.func19, Tryz.ntmps19
  go_wp2
  go_ret
  refine ⟨ret_bool ?_, Below.refl _ _⟩
  symm
  rw [decide_eq_false_iff_not]
  exact fun e => HLM.out (by rw [e])
theorem is_any (v : Value) (l : Bytes) (s : ByteArray) (w : World) (hS : SB w v l) (hs : s.size ≤ 70368744177664) : Calls Tryz.prog 35 #[v, .string s] w fun e w' => e = .returned (.bool (decide (l = s.data.toList))) ∧ Below w.heap.size w w' := by
 obtain ⟨h1, h2⟩ := conv_sb w s hs
 have HE := hid (equal_any v _ l _ _ (hS.below h2) h1)
 have HB := hid h2
 have hr := Lib.run_convert_string_bytes (P := Tryz.prog) w 9 22 5 s Tryz.underlying9 Tryz.underlying22 Tryz.underlying5
 obtain ⟨A, c, rfl, hlen⟩ := hS.form
 clear h1 h2 hS
 go_enter Tryz.func35, Tryz.ntmps35
 go_wp2_with (go_at_call 19; refine HE.out.mono ?_; rintro e w1 ⟨rfl, hb⟩)
 go_ret
 exact ⟨rfl, HB.out.trans (hb.mono HB.out.size)⟩
def loudB (c : UInt8) : Bool := decide (c.toNat < 97) || decide (122 < c.toNat)
def loudS (l : Bytes) : Bool := l.all loudB && wordS l
def lineB (c : UInt8) : Bool := decide (32 ≤ c.toNat) && decide (c.toNat ≤ 126)
def lineS (l : Bytes) : Bool := l.all lineB && decide (0 < l.length) && decide (l.length ≤ 8192) && decide (l[0]? ≠ some 32) && decide (l[l.length - 1]? ≠ some 32)
def shownB (c : UInt8) : Bool := decide (c.toNat ≠ 34) && decide (c.toNat ≠ 92)
def shownS (l : Bytes) : Bool := l.all shownB && (decide (l.length = 0) || lineS l)
theorem isloud_any (v : Value) (l : Bytes) (w : World) (hS : SB w v l) : Calls Tryz.prog 62 #[v] w fun e w' => e = .returned (.bool (loudS l)) ∧ w' = w := by
 have HS := hid hS
 obtain ⟨A, c, rfl, hlen⟩ := hS.form
 clear hS
 go_enter Tryz.func62, Tryz.ntmps62
 go_wp2_with fail
 go_loopw [3] (fun i wr => ∃ k : Nat, k ≤ l.length ∧ i = .int .i64 k ∧ (l.take k).all loudB = true ∧ wr = w) (fun i _ => l.length - (intOf i).toNat)
 case atStart => exact ⟨0, Nat.zero_le _, rfl, by simp, rfl⟩
 case round =>
  obtain ⟨k, hk, rfl, hall, rfl⟩ := hrel
  have HA := hid hall
  clear hall
  by_cases hlt : k < l.length
  ·obtain ⟨a, c', d, e1, hc, hd⟩ := HS.out.get k hlt
   cases e1
   have HLT := hid (And.intro (Nat.succ_le_of_lt hlt) hd)
   clear hd
   cases hw : loudB d
   ·have hx := hw
    simp [loudB] at hx
    have HW := hid hw
    clear hw
    obtain ⟨x1, x2⟩ := hx
    have x3 : (97 : Int) ≤ d.toNat := by omega
    have x4 : (d.toNat : Int) ≤ 122 := by omega
    go_wp2
    all_goals
     (go_ret
      exact ⟨ret_bool (by simp [loudS, all_false HLT.out.2 HW.out]), rfl⟩)
   ·have hx := hw
    simp [loudB] at hx
    have HW := hid hw
    clear hw
    rcases hx with hx | hx
    all_goals (try have x3 : ¬ (97 : Int) ≤ d.toNat := by omega)
    all_goals (try have x4 : ¬ (d.toNat : Int) ≤ 122 := by omega)
    all_goals
     (go_wp2
      all_goals
       (go_roundw
        (case rel => exact ⟨k + 1, HLT.out.1, by simp, all_more HLT.out.2 HA.out HW.out, trivial⟩)
        (case measure => exact meas_step HLT.out.1 (by simp))))
  ·have hd := all_done hlt HA.out
   have HD := hid hd
   have hke : k = l.length := by omega
   subst hke
   clear hd
   go_wp2_with (go_at_call 10; refine (isword_any _ l _ HS.out).mono ?_; rintro e w1 ⟨rfl, rfl⟩)
   go_ret
   exact ⟨ret_bool (by simp [loudS, HD.out]), rfl⟩
theorem isline_any (v : Value) (l : Bytes) (w : World) (hS : SB w v l) : Calls Tryz.prog 66 #[v] w fun e w' => e = .returned (.bool (lineS l)) ∧ w' = w := by
 have HS := hid hS
 obtain ⟨A, c, rfl, hlen⟩ := hS.form
 clear hS
 go_enter Tryz.func66, Tryz.ntmps66
 go_wp2_with fail
 go_loopw [3] (fun i wr => ∃ k : Nat, k ≤ l.length ∧ i = .int .i64 k ∧ (l.take k).all lineB = true ∧ wr = w) (fun i _ => l.length - (intOf i).toNat)
 case atStart => exact ⟨0, Nat.zero_le _, rfl, by simp, rfl⟩
 case round =>
  obtain ⟨k, hk, rfl, hall, rfl⟩ := hrel
  have HA := hid hall
  clear hall
  by_cases hlt : k < l.length
  ·obtain ⟨a, c', d, e1, hc, hd⟩ := HS.out.get k hlt
   cases e1
   have HLT := hid (And.intro (Nat.succ_le_of_lt hlt) hd)
   clear hd
   cases hw : lineB d
   ·have hx := hw
    simp [lineB] at hx
    have HW := hid hw
    clear hw
    go_wp2
    all_goals
     (go_ret
      exact ⟨ret_bool (by simp [lineS, all_false HLT.out.2 HW.out]), rfl⟩)
   ·have hx := hw
    simp [lineB] at hx
    have HW := hid hw
    clear hw
    go_wp2
    all_goals
     (go_roundw
      (case rel => exact ⟨k + 1, HLT.out.1, by simp, all_more HLT.out.2 HA.out HW.out, trivial⟩)
      (case measure => exact meas_step HLT.out.1 (by simp)))
  ·have hd := all_done hlt HA.out
   have HD := hid hd
   have hke : k = l.length := by omega
   subst hke
   clear hd
   by_cases h0 : l.length = 0
   ·have HZ := hid h0
    have h0i : (l.length : Int) = 0 := by omega
    go_wp2
    all_goals (go_ret; exact ⟨ret_bool (by simp [lineS, HZ.out]), rfl⟩)
   ·obtain ⟨a, c', b, e1, hc0, g0⟩ := HS.out.get 0 (by omega)
    cases e1
    obtain ⟨a2, c2', d, e2, hcn, g1⟩ := HS.out.get (l.length - 1) (by omega)
    cases e2
    have hw1 : wrap64 ((l.length : Int) - 1) = ((l.length - 1 : Nat) : Int) := by unfold wrap64; omega
    have hw2 : (l.length : Int) - 1 = ((l.length - 1 : Nat) : Int) := by omega
    have hp : 0 < l.length := by omega
    have HP := hid hp
    obtain ⟨n1, hn1⟩ : ∃ n1, n1 = l.length - 1 := ⟨_, rfl⟩
    have G := hid (And.intro g0 g1)
    clear g0 g1
    rw [← hn1] at hw1 hw2 hcn
    have hn2 : (n1 : Int) < l.length := by omega
    have hn3 : (0 : Int) ≤ n1 := by omega
    have hc00 : wr.cell? a = some (.int .u8 b.toNat) := by simpa [Addr.add] using hc0
    clear hn1
    go_wp2
    all_goals
     (go_ret
      refine ⟨ret_bool ?_, rfl⟩
      rw [lineS, HD.out, G.out.1, G.out.2, Bool.eq_iff_iff]
      have hp := HP.out
      simp [← UInt8.toNat_inj]
      try omega)
theorem isshown_any (v : Value) (l : Bytes) (w : World) (hS : SB w v l) : Calls Tryz.prog 67 #[v] w fun e w' => e = .returned (.bool (shownS l)) ∧ w' = w := by
 have HS := hid hS
 obtain ⟨A, c, rfl, hlen⟩ := hS.form
 clear hS
 go_enter Tryz.func67, Tryz.ntmps67
 go_wp2_with fail
 go_loopw [3] (fun i wr => ∃ k : Nat, k ≤ l.length ∧ i = .int .i64 k ∧ (l.take k).all shownB = true ∧ wr = w) (fun i _ => l.length - (intOf i).toNat)
 case atStart => exact ⟨0, Nat.zero_le _, rfl, by simp, rfl⟩
 case round =>
  obtain ⟨k, hk, rfl, hall, rfl⟩ := hrel
  have HA := hid hall
  clear hall
  by_cases hlt : k < l.length
  ·obtain ⟨a, c', d, e1, hc, hd⟩ := HS.out.get k hlt
   cases e1
   have HLT := hid (And.intro (Nat.succ_le_of_lt hlt) hd)
   clear hd
   cases hw : shownB d
   ·have hx := hw
    simp [shownB] at hx
    have HW := hid hw
    clear hw
    go_wp2
    all_goals (first
     | (go_ret
        exact ⟨ret_bool (by simp [shownS, all_false HLT.out.2 HW.out]), rfl⟩)
     | (exfalso; rename_i q; simp at q; rcases Nat.decEq d.toNat 34 with hq | hq <;> first | omega | (simp [hq] at hx; omega)))
   ·have hx := hw
    simp [shownB] at hx
    have HW := hid hw
    clear hw
    go_wp2
    all_goals (first
     | (go_roundw
        (case rel => exact ⟨k + 1, HLT.out.1, by simp, all_more HLT.out.2 HA.out HW.out, trivial⟩)
        (case measure => exact meas_step HLT.out.1 (by simp)))
     | (exfalso; rename_i q; simp at q; rcases Nat.decEq d.toNat 34 with hq | hq <;> first | omega | (simp [hq] at hx; omega)))
  ·have hd := all_done hlt HA.out
   have HD := hid hd
   have hke : k = l.length := by omega
   subst hke
   clear hd
   by_cases h0 : l.length = 0
   ·have h0i : (l.length : Int) = 0 := by omega
    have HZ := hid h0
    go_wp2
    all_goals (go_ret; exact ⟨ret_bool (by simp [shownS, HD.out, HZ.out]), rfl⟩)
   ·have h0i : ¬ (l.length : Int) = 0 := by omega
    have HZ := hid h0
    go_wp2_with (go_at_call 66; refine (isline_any _ l _ HS.out).mono ?_; rintro e w1 ⟨rfl, rfl⟩)
    all_goals (go_ret; exact ⟨ret_bool (by simp [shownS, HD.out, HZ.out]), rfl⟩)
def textS (p : UInt8 → Bool) (l : Bytes) : Bool := l.all p && decide (0 < l.length) && decide (l.length ≤ 8192)
def hostB (c : UInt8) : Bool := letterB c || digitB c || c.toNat == 45 || c.toNat == 46
theorem hostB_cases {d : UInt8} (h : hostB d = true) : letterB d = true ∨ (letterB d = false ∧ digitB d = true) ∨ d = 45 ∨ d = 46 := by
 cases hl : letterB d
 ·cases hg : digitB d
  ·right
   right
   simp [hostB, hl, hg] at h
   simp only [← UInt8.toNat_inj]
   show d.toNat = 45 ∨ d.toNat = 46
   omega
  ·exact .inr (.inl ⟨rfl, rfl⟩)
 ·exact .inl rfl
theorem hostB_none {d : UInt8} (h : hostB d = false) : letterB d = false ∧ digitB d = false ∧ ((d.toNat : Int) != 45) = true ∧ ((d.toNat : Int) != 46) = true := by
 cases hl : letterB d
 ·cases hg : digitB d
  ·simp [hostB, hl, hg] at h
   refine ⟨rfl, rfl, ?_, ?_⟩ <;> (rw [bne_iff_ne]; omega)
  ·simp [hostB, hl, hg] at h
 ·simp [hostB, hl] at h
theorem ishost_any (v : Value) (l : Bytes) (w : World) (hS : SB w v l) : Calls Tryz.prog 69 #[v] w fun e w' => e = .returned (.bool (textS hostB l)) ∧ w' = w := by
 have HS := hid hS
 obtain ⟨A, c, rfl, hlen⟩ := hS.form
 clear hS
 go_enter Tryz.func69, Tryz.ntmps69
 go_wp2_with fail
 go_loopw [3] (fun i wr => ∃ k : Nat, k ≤ l.length ∧ i = .int .i64 k ∧ (l.take k).all hostB = true ∧ wr = w) (fun i _ => l.length - (intOf i).toNat)
 case atStart => exact ⟨0, Nat.zero_le _, rfl, by simp, rfl⟩
 case round =>
  obtain ⟨k, hk, rfl, hall, rfl⟩ := hrel
  have HA := hid hall
  clear hall
  by_cases hlt : k < l.length
  ·obtain ⟨a, c', d, e1, hc, hd⟩ := HS.out.get k hlt
   cases e1
   have HLT := hid (And.intro (Nat.succ_le_of_lt hlt) hd)
   clear hd
   cases hh : hostB d
   ·obtain ⟨hl, hg, q45, q46⟩ := hostB_none hh
    have HH := hid hh
    clear hh
    go_wp2_with (first
     | (go_at_call 70; refine (isletter_any d _).mono ?_; rintro e w1 ⟨rfl, rfl⟩; rw [hl])
     | (go_at_call 71; refine (isdigit_any d _).mono ?_; rintro e w1 ⟨rfl, rfl⟩; rw [hg]))
    go_ret
    exact ⟨ret_bool (by rw [textS, all_false HLT.out.2 HH.out]; rfl), rfl⟩
   ·have HH := hid hh
    rcases hostB_cases hh with hl | ⟨hl, hg⟩ | rfl | rfl
    all_goals clear hh
    ·go_wp2_with (go_at_call 70; refine (isletter_any d _).mono ?_; rintro e w1 ⟨rfl, rfl⟩; rw [hl])
     go_roundw
     case rel => exact ⟨k + 1, HLT.out.1, by simp, all_more HLT.out.2 HA.out HH.out, trivial⟩
     case measure => exact meas_step HLT.out.1 (by simp)
    ·go_wp2_with (first
      | (go_at_call 70; refine (isletter_any d _).mono ?_; rintro e w1 ⟨rfl, rfl⟩; rw [hl])
      | (go_at_call 71; refine (isdigit_any d _).mono ?_; rintro e w1 ⟨rfl, rfl⟩; rw [hg]))
     go_roundw
     case rel => exact ⟨k + 1, HLT.out.1, by simp, all_more HLT.out.2 HA.out HH.out, trivial⟩
     case measure => exact meas_step HLT.out.1 (by simp)
    ·have hc2 : wr.cell? (a.add k) = some (.int .u8 45) := hc
     clear hc
     go_wp2_with (first
      | (go_at_call 70; refine (isletter_any 45 _).mono ?_; rintro e w1 ⟨rfl, rfl⟩; rw [show letterB 45 = false from rfl])
      | (go_at_call 71; refine (isdigit_any 45 _).mono ?_; rintro e w1 ⟨rfl, rfl⟩; rw [show digitB 45 = false from rfl]))
     go_roundw
     case rel => exact ⟨k + 1, HLT.out.1, by simp, all_more HLT.out.2 HA.out HH.out, trivial⟩
     case measure => exact meas_step HLT.out.1 (by simp)
    ·have hc2 : wr.cell? (a.add k) = some (.int .u8 46) := hc
     clear hc
     go_wp2_with (first
      | (go_at_call 70; refine (isletter_any 46 _).mono ?_; rintro e w1 ⟨rfl, rfl⟩; rw [show letterB 46 = false from rfl])
      | (go_at_call 71; refine (isdigit_any 46 _).mono ?_; rintro e w1 ⟨rfl, rfl⟩; rw [show digitB 46 = false from rfl]))
     go_roundw
     case rel => exact ⟨k + 1, HLT.out.1, by simp, all_more HLT.out.2 HA.out HH.out, trivial⟩
     case measure => exact meas_step HLT.out.1 (by simp)
  ·have hd := all_done hlt HA.out
   have HD := hid hd
   have hke : k = l.length := by omega
   subst hke
   clear hd
   go_wp2
   all_goals
    (go_ret
     refine ⟨ret_bool ?_, rfl⟩
     rw [textS, HD.out, Bool.eq_iff_iff]
     simp
     try omega)
def userB (c : UInt8) : Bool := letterB c || digitB c || c.toNat == 45 || c.toNat == 95 || c.toNat == 46 || c.toNat == 33 || c.toNat == 126 || c.toNat == 42 || c.toNat == 39
theorem userB_cases {d : UInt8} (h : userB d = true) : letterB d = true ∨ (letterB d = false ∧ digitB d = true) ∨ d = 45 ∨ d = 95 ∨ d = 46 ∨ d = 33 ∨ d = 126 ∨ d = 42 ∨ d = 39 := by
 cases hl : letterB d
 ·cases hg : digitB d
  ·right
   right
   simp [userB, hl, hg] at h
   simp only [← UInt8.toNat_inj]
   show d.toNat = 45 ∨ d.toNat = 95 ∨ d.toNat = 46 ∨ d.toNat = 33 ∨ d.toNat = 126 ∨ d.toNat = 42 ∨ d.toNat = 39
   omega
  ·exact .inr (.inl ⟨rfl, rfl⟩)
 ·exact .inl rfl
theorem userB_none {d : UInt8} (h : userB d = false) : letterB d = false ∧ digitB d = false ∧ ((d.toNat : Int) != 45) = true ∧ ((d.toNat : Int) != 95) = true ∧ ((d.toNat : Int) != 46) = true ∧ ((d.toNat : Int) != 33) = true ∧ ((d.toNat : Int) != 126) = true ∧ ((d.toNat : Int) != 42) = true ∧ ((d.toNat : Int) != 39) = true := by
 cases hl : letterB d
 ·cases hg : digitB d
  ·simp [userB, hl, hg] at h
   refine ⟨rfl, rfl, ?_, ?_, ?_, ?_, ?_, ?_, ?_⟩ <;> (rw [bne_iff_ne]; omega)
  ·simp [userB, hl, hg] at h
 ·simp [userB, hl] at h
theorem isuser_any (v : Value) (l : Bytes) (w : World) (hS : SB w v l) : Calls Tryz.prog 88 #[v] w fun e w' => e = .returned (.bool (textS userB l)) ∧ w' = w := by
 have HS := hid hS
 obtain ⟨A, c, rfl, hlen⟩ := hS.form
 clear hS
 go_enter Tryz.func88, Tryz.ntmps88
 go_wp2_with fail
 go_loopw [3] (fun i wr => ∃ k : Nat, k ≤ l.length ∧ i = .int .i64 k ∧ (l.take k).all userB = true ∧ wr = w) (fun i _ => l.length - (intOf i).toNat)
 case atStart => exact ⟨0, Nat.zero_le _, rfl, by simp, rfl⟩
 case round =>
  obtain ⟨k, hk, rfl, hall, rfl⟩ := hrel
  have HA := hid hall
  clear hall
  by_cases hlt : k < l.length
  ·obtain ⟨a, c', d, e1, hc, hd⟩ := HS.out.get k hlt
   cases e1
   have HLT := hid (And.intro (Nat.succ_le_of_lt hlt) hd)
   clear hd
   cases hh : userB d
   ·obtain ⟨hl, hg, q45, q95, q46, q33, q126, q42, q39⟩ := userB_none hh
    have HH := hid hh
    clear hh
    go_wp2_with (first
     | (go_at_call 70; refine (isletter_any d _).mono ?_; rintro e w1 ⟨rfl, rfl⟩; rw [hl])
     | (go_at_call 71; refine (isdigit_any d _).mono ?_; rintro e w1 ⟨rfl, rfl⟩; rw [hg]))
    go_ret
    exact ⟨ret_bool (by rw [textS, all_false HLT.out.2 HH.out]; rfl), rfl⟩
   ·have HH := hid hh
    rcases userB_cases hh with hl | ⟨hl, hg⟩ | rfl | rfl | rfl | rfl | rfl | rfl | rfl
    all_goals clear hh
    ·go_wp2_with (go_at_call 70; refine (isletter_any d _).mono ?_; rintro e w1 ⟨rfl, rfl⟩; rw [hl])
     go_roundw
     case rel => exact ⟨k + 1, HLT.out.1, by simp, all_more HLT.out.2 HA.out HH.out, trivial⟩
     case measure => exact meas_step HLT.out.1 (by simp)
    ·go_wp2_with (first
      | (go_at_call 70; refine (isletter_any d _).mono ?_; rintro e w1 ⟨rfl, rfl⟩; rw [hl])
      | (go_at_call 71; refine (isdigit_any d _).mono ?_; rintro e w1 ⟨rfl, rfl⟩; rw [hg]))
     go_roundw
     case rel => exact ⟨k + 1, HLT.out.1, by simp, all_more HLT.out.2 HA.out HH.out, trivial⟩
     case measure => exact meas_step HLT.out.1 (by simp)
    ·have hc2 : wr.cell? (a.add k) = some (.int .u8 45) := hc
     clear hc
     go_wp2_with (first
      | (go_at_call 70; refine (isletter_any 45 _).mono ?_; rintro e w1 ⟨rfl, rfl⟩; rw [show letterB 45 = false from rfl])
      | (go_at_call 71; refine (isdigit_any 45 _).mono ?_; rintro e w1 ⟨rfl, rfl⟩; rw [show digitB 45 = false from rfl]))
     go_roundw
     case rel => exact ⟨k + 1, HLT.out.1, by simp, all_more HLT.out.2 HA.out HH.out, trivial⟩
     case measure => exact meas_step HLT.out.1 (by simp)
    ·have hc2 : wr.cell? (a.add k) = some (.int .u8 95) := hc
     clear hc
     go_wp2_with (first
      | (go_at_call 70; refine (isletter_any 95 _).mono ?_; rintro e w1 ⟨rfl, rfl⟩; rw [show letterB 95 = false from rfl])
      | (go_at_call 71; refine (isdigit_any 95 _).mono ?_; rintro e w1 ⟨rfl, rfl⟩; rw [show digitB 95 = false from rfl]))
     go_roundw
     case rel => exact ⟨k + 1, HLT.out.1, by simp, all_more HLT.out.2 HA.out HH.out, trivial⟩
     case measure => exact meas_step HLT.out.1 (by simp)
    ·have hc2 : wr.cell? (a.add k) = some (.int .u8 46) := hc
     clear hc
     go_wp2_with (first
      | (go_at_call 70; refine (isletter_any 46 _).mono ?_; rintro e w1 ⟨rfl, rfl⟩; rw [show letterB 46 = false from rfl])
      | (go_at_call 71; refine (isdigit_any 46 _).mono ?_; rintro e w1 ⟨rfl, rfl⟩; rw [show digitB 46 = false from rfl]))
     go_roundw
     case rel => exact ⟨k + 1, HLT.out.1, by simp, all_more HLT.out.2 HA.out HH.out, trivial⟩
     case measure => exact meas_step HLT.out.1 (by simp)
    ·have hc2 : wr.cell? (a.add k) = some (.int .u8 33) := hc
     clear hc
     go_wp2_with (first
      | (go_at_call 70; refine (isletter_any 33 _).mono ?_; rintro e w1 ⟨rfl, rfl⟩; rw [show letterB 33 = false from rfl])
      | (go_at_call 71; refine (isdigit_any 33 _).mono ?_; rintro e w1 ⟨rfl, rfl⟩; rw [show digitB 33 = false from rfl]))
     go_roundw
     case rel => exact ⟨k + 1, HLT.out.1, by simp, all_more HLT.out.2 HA.out HH.out, trivial⟩
     case measure => exact meas_step HLT.out.1 (by simp)
    ·have hc2 : wr.cell? (a.add k) = some (.int .u8 126) := hc
     clear hc
     go_wp2_with (first
      | (go_at_call 70; refine (isletter_any 126 _).mono ?_; rintro e w1 ⟨rfl, rfl⟩; rw [show letterB 126 = false from rfl])
      | (go_at_call 71; refine (isdigit_any 126 _).mono ?_; rintro e w1 ⟨rfl, rfl⟩; rw [show digitB 126 = false from rfl]))
     go_roundw
     case rel => exact ⟨k + 1, HLT.out.1, by simp, all_more HLT.out.2 HA.out HH.out, trivial⟩
     case measure => exact meas_step HLT.out.1 (by simp)
    ·have hc2 : wr.cell? (a.add k) = some (.int .u8 42) := hc
     clear hc
     go_wp2_with (first
      | (go_at_call 70; refine (isletter_any 42 _).mono ?_; rintro e w1 ⟨rfl, rfl⟩; rw [show letterB 42 = false from rfl])
      | (go_at_call 71; refine (isdigit_any 42 _).mono ?_; rintro e w1 ⟨rfl, rfl⟩; rw [show digitB 42 = false from rfl]))
     go_roundw
     case rel => exact ⟨k + 1, HLT.out.1, by simp, all_more HLT.out.2 HA.out HH.out, trivial⟩
     case measure => exact meas_step HLT.out.1 (by simp)
    ·have hc2 : wr.cell? (a.add k) = some (.int .u8 39) := hc
     clear hc
     go_wp2_with (first
      | (go_at_call 70; refine (isletter_any 39 _).mono ?_; rintro e w1 ⟨rfl, rfl⟩; rw [show letterB 39 = false from rfl])
      | (go_at_call 71; refine (isdigit_any 39 _).mono ?_; rintro e w1 ⟨rfl, rfl⟩; rw [show digitB 39 = false from rfl]))
     go_roundw
     case rel => exact ⟨k + 1, HLT.out.1, by simp, all_more HLT.out.2 HA.out HH.out, trivial⟩
     case measure => exact meas_step HLT.out.1 (by simp)
  ·have hd := all_done hlt HA.out
   have HD := hid hd
   have hke : k = l.length := by omega
   subst hke
   clear hd
   go_wp2
   all_goals
    (go_ret
     refine ⟨ret_bool ?_, rfl⟩
     rw [textS, HD.out, Bool.eq_iff_iff]
     simp
     try omega)
def smallN (c : UInt8) : Int := if 65 ≤ c.toNat ∧ c.toNat ≤ 90 then c.toNat + 32 else c.toNat
theorem ret_u8 {x y : Int} (h : x = y) : Ending.returned (.int .u8 x) = .returned (.int .u8 y) := by rw [h]
theorem small_any (c : UInt8) (w : World) : Calls Tryz.prog 54 #[.int .u8 c.toNat] w fun e w' => e = .returned (.int .u8 (smallN c)) ∧ w' = w := by
 obtain ⟨r, hr⟩ : ∃ r, r = smallN c := ⟨_, rfl⟩
 have HR := hid hr
 rw [← hr]
 clear hr
 have hc := c.toNat_lt
 go_enter Tryz.func54, Tryz.ntmps54
 go_wp2
 all_goals
  (go_ret
   refine ⟨ret_u8 ?_, rfl⟩
   rw [HR.out, smallN]
   split <;> omega)
theorem SB.pre {w : World} {a : Addr} {c : Nat} {l : Bytes} (h : SB w (.slice (some a) l.length c) l) (n : Nat) (hn : n ≤ l.length) : SB w (.slice (some a) n c) (l.take n) := by
 obtain ⟨A, c', e, h2, h3, h4, h5⟩ := h
 cases e
 have hl : (l.take n).length = n := by rw [List.length_take]; omega
 refine ⟨some a, c, by rw [hl], by omega, h3, fun e => by simp at e, fun i hi => ?_⟩
 obtain ⟨a', e, hc⟩ := h5 i (by omega)
 exact ⟨a', e, by rw [List.getElem_take]; exact hc⟩
def SomeB (w : World) (e : Ending) (w' : World) : Prop := (∃ b, e = .returned (.bool b)) ∧ Below w.heap.size w w'
theorem alike_any (v u : Value) (l m : Bytes) (w : World) (hS : SB w v l) (hT : SB w u m) : Calls Tryz.prog 24 #[v, u] w (SomeB w) := by
 have HS := hid hS
 have HT := hid hT
 obtain ⟨A, c, rfl, hlen⟩ := hS.form
 obtain ⟨A2, c2, rfl, hlen2⟩ := hT.form
 clear hS hT
 by_cases hlm : l.length = m.length
 ·have HLM := hid hlm
  rw [← hlm] at hlen2 ⊢
  clear hlm hlen2
  go_enter Tryz.func24, Tryz.ntmps24
  go_wp2_with fail
  go_loopw [5] (fun i wr => ∃ k : Nat, k ≤ l.length ∧ i = .int .i64 k ∧ Below w.heap.size w wr) (fun i _ => l.length - (intOf i).toNat)
  case atStart => exact ⟨0, Nat.zero_le _, rfl, Below.refl _ _⟩
  case round =>
   obtain ⟨k, hk, rfl, hb⟩ := hrel
   have HB := hid hb
   obtain ⟨wo, rfl⟩ : ∃ wo : World, wo = wr := ⟨_, rfl⟩
   clear hb
   by_cases hlt : k < l.length
   ·obtain ⟨a, c', d, e1, hc, -⟩ := HS.out.get k hlt
    cases e1
    have hlt2 : k < m.length := by rw [← HLM.out]; exact hlt
    obtain ⟨a2, c2', d2, e2, hc2, -⟩ := HT.out.get k hlt2
    rw [← HLM.out] at e2
    cases e2
    have d1 := cell_at_below hc HB.out
    have d2' := cell_at_below hc2 HB.out
    have HLT := hid hlt
    have hk1 : (k : Int) < l.length := by omega
    have hk2 : (0 : Int) ≤ k := by omega
    have hk3 : k < l.length := hlt
    clear hc hc2
    obtain ⟨x, hx⟩ : ∃ x : Int, ∀ wx, Calls Tryz.prog 54 #[.int .u8 d.toNat] wx fun e w' => e = .returned (.int .u8 x) ∧ w' = wx := ⟨_, fun wx => small_any d wx⟩
    obtain ⟨y, hy⟩ : ∃ y : Int, ∀ wx, Calls Tryz.prog 54 #[.int .u8 d2.toNat] wx fun e w' => e = .returned (.int .u8 y) ∧ w' = wx := ⟨_, fun wx => small_any d2 wx⟩
    have HX := hid hx
    have HY := hid hy
    clear hx hy
    go_wp2_with fail
    refine Go.wp_region_quiet_lit rfl (by kernel_rfl) ?_
    quiet_step (fail)
    quiet_step (fail)
    quiet_step (fail)
    quiet_step (fail)
    quiet_step (first | (go_at_call 54; refine Calls.quiet_of_same (HX.out _)) | fail)
    quiet_step (fail)
    quiet_step (fail)
    quiet_step (fail)
    quiet_step (fail)
    quiet_step (first | (go_at_call 54; refine Calls.quiet_of_same (HY.out _)) | fail)
    quiet_step (fail)
    refine Go.wpQuiet_nil ?_
    intro _ hw'
    obtain ⟨nq, hw''⟩ := hw'
    subst hw''
    have HBn := hid (show Below w.heap.size w (wo.drewN nq) from ⟨HB.out.os, HB.out.tape, HB.out.output, HB.out.size, HB.out.block⟩)
    cases hq : (x == y)
    all_goals go_wp2
    all_goals (first
     | (go_ret
        exact ⟨⟨_, rfl⟩, HBn.out⟩)
     | (go_roundw
        (case rel => exact ⟨k + 1, HLT.out, by simp, HBn.out⟩)
        (case measure => exact meas_step HLT.out (by simp))))
   ·go_wp2
    go_ret
    exact ⟨⟨_, rfl⟩, HB.out⟩
 ·have hne : ¬ (l.length : Int) = m.length := by omega
  go_enter Tryz.func24, Tryz.ntmps24
  go_wp2
  go_ret
  exact ⟨⟨_, rfl⟩, Below.refl _ _⟩
theorem isreason_any (v : Value) (l : Bytes) (w : World) (hS : SB w v l) : Calls Tryz.prog 61 #[v] w fun e w' => (∃ b, e = .returned (.bool b) ∧ (b = true → lineS l = true)) ∧ Below w.heap.size w w' := by
 have HS := hid hS
 obtain ⟨A, c, rfl, hlen⟩ := hS.form
 clear hS
 have HI := hid (isline_any _ l w HS.out)
 cases hln : lineS l
 ·go_enter Tryz.func61, Tryz.ntmps61
  go_wp2_with (go_at_call 66; refine HI.out.mono ?_; rintro e w1 ⟨rfl, rfl⟩; rw [hln])
  go_ret
  exact ⟨⟨false, rfl, fun h => by simp at h⟩, Below.refl _ _⟩
 ·go_enter Tryz.func61, Tryz.ntmps61
  go_wp2_with (go_at_call 66; refine HI.out.mono ?_; rintro e w1 ⟨rfl, rfl⟩; rw [hln])
  have HLN := hid hln
  clear hln
  go_loopw [3] (fun i wr => ∃ k : Nat, k ≤ l.length ∧ i = .int .i64 k ∧ wr = w1) (fun i _ => l.length - (intOf i).toNat)
  case atStart => exact ⟨0, Nat.zero_le _, rfl, rfl⟩
  case round =>
   obtain ⟨k, hk, rfl, rfl⟩ := hrel
   by_cases hlt : k < l.length
   ·obtain ⟨a, c', d, e1, hc, hd⟩ := HS.out.get k hlt
    cases e1
    have HLT := hid (Nat.succ_le_of_lt hlt)
    clear hd
    go_wp2
    all_goals (first
     | (go_ret
        exact ⟨⟨true, rfl, fun _ => by first | exact HLN.out | trivial⟩, Below.refl _ _⟩)
     | (go_roundw
        (case rel => exact ⟨k + 1, HLT.out, by simp, trivial⟩)
        (case measure => exact meas_step HLT.out (by simp))))
   ·have hke : k = l.length := by omega
    subst hke
    by_cases h3 : l.length < 3
    ·have h3i : (l.length : Int) < 3 := by omega
     go_wp2
     go_ret
     exact ⟨⟨true, rfl, fun _ => by first | exact HLN.out | trivial⟩, Below.refl _ _⟩
    ·have h3i : ¬ (l.length : Int) < 3 := by omega
     have h3j : (3 : Int) ≤ l.length := by omega
     obtain ⟨a, c', d, e1, -, -⟩ := HS.out.get 0 (by omega)
     cases e1
     have hcap : l.length ≤ c := by obtain ⟨_, _, e, h, _⟩ := HS.out; cases e; exact h
     have hcap2 : (3 : Int) ≤ c := by omega
     have HAL := hid (show ∀ fz, Calls Tryz.prog 24 #[.slice (some a) 3 c, .slice (some ⟨wr.heap.size, 0, none⟩) 3 3] (wr.alloc (.cells #[.int .u8 115, .int .u8 105, .int .u8 112] 5 fz)) (SomeB (wr.alloc (.cells #[.int .u8 115, .int .u8 105, .int .u8 112] 5 fz))) from fun fz =>
      alike_any _ _ (l.take 3) [115, 105, 112] _ ((HS.out.pre 3 (by omega)).below ((Below.refl _ _).alloc (Nat.le_refl _) _)) (SB.lit (l := [115, 105, 112]) (heap_alloc_new wr _) (fun i hi => by match i, hi with | 0, _ => rfl | 1, _ => rfl | 2, _ => rfl) 3 (Nat.le_refl _) (by omega)))
     have HB1 := hid (show ∀ fz, Below wr.heap.size wr (wr.alloc (.cells #[.int .u8 115, .int .u8 105, .int .u8 112] 5 fz)) from fun fz => (Below.refl _ _).alloc (Nat.le_refl _) _)
     have hcv := conv_const
     go_wp2_with fail
     refine (HAL.out _).mono ?_
     rintro e w1 ⟨⟨b, rfl⟩, hb⟩
     have HB2 := hid ((HB1.out _).trans (hb.mono (HB1.out _).size))
     go_wp2
     go_ret
     exact ⟨⟨_, rfl, fun _ => by first | exact HLN.out | trivial⟩, HB2.out⟩
theorem isown_any (v : Value) (l : Bytes) (w : World) (hS : SB w v l) : Calls Tryz.prog 65 #[v] w fun e w' => e = .returned (.bool (decide (2 < l.length) && decide (l[0]? = some 88) && decide (l[1]? = some 45) && wordS l)) ∧ w' = w := by
 have HS := hid hS
 obtain ⟨A, c, rfl, hlen⟩ := hS.form
 clear hS
 by_cases h2 : 2 < l.length
 ·have h2i : (2 : Int) < l.length := by omega
  have H2 := hid h2
  obtain ⟨a, c', b0, e1, hc0, g0⟩ := HS.out.get 0 (by omega)
  cases e1
  obtain ⟨a', c'', b1, e2, hc1, g1⟩ := HS.out.get 1 (by omega)
  cases e2
  have hc0' : w.cell? a = some (.int .u8 b0.toNat) := by simpa [Addr.add] using hc0
  have hc1' : w.cell? ⟨a.block, a.off + 1, none⟩ = some (.int .u8 b1.toNat) := by simpa [Addr.add] using hc1
  have G := hid (And.intro g0 g1)
  have HW := hid (isword_any _ l w HS.out)
  clear g0 g1 hc0 hc1 h2
  go_enter Tryz.func65, Tryz.ntmps65
  go_wp2_with (go_at_call 10; refine HW.out.mono ?_; rintro e w1 ⟨rfl, rfl⟩)
  all_goals
   (go_ret
    refine ⟨ret_bool ?_, rfl⟩
    rw [G.out.1, G.out.2, Bool.eq_iff_iff]
    have h2 := H2.out
    simp [← UInt8.toNat_inj]
    try omega)
 ·have h2i : ¬ (2 : Int) < l.length := by omega
  have H2 := hid h2
  clear h2
  go_enter Tryz.func65, Tryz.ntmps65
  go_wp2
  go_ret
  exact ⟨ret_bool (by simp [H2.out]), rfl⟩
