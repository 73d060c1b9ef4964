/- FnDialogApart, of bulk at most 1048576. Conditions: the row's own: the bulk, and the listed variables hold what their initialisers lay. -/
import Derived.Test.YtglhcpmaiogdjaaGreatDoorP34
import Derived.Test.YtglhcpmaiogdjaaGreatDoorP36
import Derived.Test.YtglhcpmaiogdjaaGreatDoorP35
import Derived.Test.YtglhcpmaiogdjaaGreatDoorCards
import Derived.Test.YtglhcpmaiogdjaaGreatDoorTie
import Derived.OpenShut
import Derived.Deep.DeepWitnessRowRef
set_option maxRecDepth 100000
set_option maxHeartbeats 16000000
set_option linter.all false
namespace Go.Proofs.YtglhcpmaiogdjaaGreatDoor
open Go.Lib (hid)
open Go.ChangeShapes Go.WideShapes Go.ChangeAt Go.RowKit
def msg0 : Value := .agg #[.bool false, .slice none 0 0, .slice none 0 0, .slice none 0 0, .bool false, .bool false, .slice none 0 0, .slice none 0 0, .slice none 0 0, .int .i64 0, .slice none 0 0, .slice none 0 0, .int .i64 0, .slice none 0 0, .slice none 0 0, .slice none 0 0, .slice none 0 0, .bool false, .bool false]
def arr0 : Value := .agg #[.slice none 0 0, .slice none 0 0]
def Mz {H : Type} : DataW H := .agg [.lit (.bool false), .nil, .agg [.nil, .nil, .lit (.bool false), .lit (.bool false), .nil, .nil, .nil, .lit (.int .i64 0), .nil, .nil], .lit (.int .i64 0), .nil, .nil, .nil, .nil, .lit (.bool false), .lit (.bool false)]
theorem apt_witness (os : Os) {H : Type} (enc : TypeId × Value → H) :
  (Rows.OpenSpec.upto Rows.fnDialogApartSpec).preRow enc Tryz.prog Tryz.f5 Rows.fnDialogApartUptoRow.domain false Rows.fnDialogApartUptoRow.laid ((laidWorld os).forCall (fun _ _ => 0) ⟨#[], #[msg0, arr0, arr0, arr0], []⟩).memory #[msg0, arr0, arr0, arr0] := by
 have hw : (DataW.whole enc Tryz.prog ((laidWorld os).forCall (fun _ _ => 0) ⟨#[], #[msg0, arr0, arr0, arr0], []⟩).memory Tryz.f5.params.toList (Rows.OpenSpec.upto Rows.fnDialogApartSpec).vars false #[msg0, arr0, arr0, arr0].toList 8).map (fun x => (x.1, x.2.1)) =
   some ([Mz, .agg [.nil, .nil], .agg [.nil, .nil], .agg [.nil, .nil]], []) := by kernel_rfl
 obtain ⟨⟨x1, x2, x3⟩, hx, hx1⟩ := Option.map_eq_some_iff.1 hw
 simp only [Prod.mk.injEq] at hx1
 obtain ⟨rfl, rfl⟩ := hx1
 exact OpenSpec.preRow_of_cond 8 hx (by kernel_rfl) (fun k hk => by cases hk; kernel_rfl) (by kernel_rfl) (laid_met os _)
theorem agg_of {W : World} {base : Nat} {v : Value} (h : Value.okWide Tryz.prog W .any base 28 v) : ∃ cs : Array Value, v = .agg cs := by
 unfold Value.okWide at h
 rw [Tryz.underlying28] at h
 obtain ⟨cs, h1, _⟩ := h
 exact ⟨cs, h1⟩
theorem arr_of {W : World} {base : Nat} {v : Value} (h : Value.okWide Tryz.prog W .any base 50 v) : ∃ cs : Array Value, v = .agg cs := by
 unfold Value.okWide at h
 rw [Tryz.underlying50] at h
 obtain ⟨cs, h1, _⟩ := h
 exact ⟨cs, h1⟩
theorem cells_arr : Tryz.prog.cellsOf 50 = 2 := by kernel_rfl
theorem open_arr {H : Type} {enc : TypeId × Value → H} {W : World} {fuel : Nat} {cs : List Value} {x : DataW H × List MemPlace} (h : DataW.trod enc Tryz.prog W 0 (fun _ => true) true fuel 50 cs = some x) :
  ∃ c0 c1 y0 y1 n, cs = [c0, c1] ∧ x = (.agg [y0.1, y1.1], y0.2 ++ y1.2) ∧ DataW.trod enc Tryz.prog W 0 (fun _ => true) true n 22 [c0] = some y0 ∧ DataW.trod enc Tryz.prog W 0 (fun _ => true) true n 22 [c1] = some y1 := by
 cases fuel with
 | zero => simp [DataW.trod] at h
 | succ n =>
  unfold DataW.trod at h
  rw [Tryz.underlying50] at h
  have r2 : List.range 2 = [0, 1] := rfl
  simp [r2, cells_bs, cells_arr] at h
  obtain ⟨hl, h⟩ := h
  obtain ⟨c0, c1, rfl⟩ : ∃ c0 c1, cs = [c0, c1] := by
   match cs, hl with
   | [c0, c1], _ => exact ⟨c0, c1, rfl⟩
  simp at h
  cases h0 : DataW.trod enc Tryz.prog W 0 (fun _ => true) true n 22 [c0] with
  | none => simp [h0] at h
  | some y0 =>
   cases h1 : DataW.trod enc Tryz.prog W 0 (fun _ => true) true n 22 [c1] with
   | none => simp [h0, h1] at h
   | some y1 =>
    simp [h0, h1] at h
    exact ⟨c0, c1, y0, y1, n, rfl, h.symm, h0, h1⟩
theorem open_two {H : Type} {enc : TypeId × Value → H} {W : World} {fuel : Nat} {cs : List Value} {x : DataW H × List MemPlace} (h : DataW.trod enc Tryz.prog W 0 (fun _ => true) true fuel 50 cs = some x) :
  ∃ A0 A1 k0 k1 b0 b1, cs = [.slice A0 b0.length k0, .slice A1 b1.length k1] ∧ SB W (.slice A0 b0.length k0) b0 ∧ SB W (.slice A1 b1.length k1) b1 := by
 obtain ⟨c0, c1, y0, y1, n, rfl, -, h0, h1⟩ := open_arr h
 obtain ⟨u0, b0, e0, s0, -⟩ := open_sb h0
 obtain ⟨u1, b1, e1, s1, -⟩ := open_sb h1
 obtain rfl : c0 = u0 := by simpa using e0
 obtain rfl : c1 = u1 := by simpa using e1
 obtain ⟨A0, k0, rfl, -⟩ := s0.form
 obtain ⟨A1, k1, rfl, -⟩ := s1.form
 exact ⟨A0, A1, k0, k1, b0, b1, rfl, s0, s1⟩
theorem apt_lifted (os : Os) (started : os.Started) (H : Type) (enc : TypeId × Value → H) (F : Stop.Interp) :
  ReturnsInHanded {} Tryz.checked os 5 .any ((Rows.OpenSpec.upto Rows.fnDialogApartSpec).preRow enc Tryz.prog Tryz.f5 Rows.fnDialogApartUptoRow.domain false Rows.fnDialogApartUptoRow.laid) (((Rows.OpenSpec.upto Rows.fnDialogApartSpec).at F).post enc Tryz.prog Tryz.f5 false true false false) := by
 refine returnsInHanded_of_row (C := Tryz.checked) (s := Rows.OpenSpec.upto Rows.fnDialogApartSpec) own started (by kernel_rfl) Tryz.func5
  (witness_row_atRef (enc := enc) (C := Tryz.checked) false (laidWorld os) #[msg0, arr0, arr0, arr0] rfl (by kernel_rfl) (by kernel_rfl) (by kernel_rfl) (apt_witness os enc)) ?_
 intro W base args ds gs before hval0 hW _ hcond0 _ hL _ _
 have hk : Rows.uptoSmall H (ds ++ gs) = true := hcond0 _ rfl
 have hval : ∀ (j : Nat) t v, Tryz.f5.params[j]? = some t → args[j]? = some v → Value.okWide Tryz.prog W .any base t v := hval0
 have hW' := hW
 obtain ⟨p, q, hA0, hV0, rfl, _, _⟩ := hW
 have hA : DataW.TrodAll enc Tryz.prog W 0 (fun _ => true) true Tryz.f5.params.toList args.toList ds p := hA0
 rw [Tryz.params5] at hA hval
 obtain ⟨v0, v1, v2, v3, d0, d1, d2, d3, p0, p1, p2, p3, rfl, rfl, rfl, h0, h1, h2, h3⟩ := trodAll_four hA
 obtain ⟨rfl, rfl⟩ := trodVars_none hV0
 obtain ⟨cs, rfl⟩ := agg_of (hval 0 _ _ rfl rfl)
 obtain ⟨c1, rfl⟩ := arr_of (hval 1 _ _ rfl rfl)
 obtain ⟨c2, rfl⟩ := arr_of (hval 2 _ _ rfl rfl)
 obtain ⟨c3, rfl⟩ := arr_of (hval 3 _ _ rfl rfl)
 have h0k := h0
 have h1k := h1
 have h2k := h2
 have h3k := h3
 obtain ⟨fuel, hf⟩ := h0
 obtain ⟨fuel1, hf1⟩ := h1
 obtain ⟨fuel2, hf2⟩ := h2
 obtain ⟨fuel3, hf3⟩ := h3
 change DataW.trod enc Tryz.prog W 0 (fun _ => true) true fuel 28 cs.toList = some (d0, p0) at hf
 change DataW.trod enc Tryz.prog W 0 (fun _ => true) true fuel1 50 c1.toList = some (d1, p1) at hf1
 change DataW.trod enc Tryz.prog W 0 (fun _ => true) true fuel2 50 c2.toList = some (d2, p2) at hf2
 change DataW.trod enc Tryz.prog W 0 (fun _ => true) true fuel3 50 c3.toList = some (d3, p3) at hf3
 clear hA0 hV0 hval0
 simp only [List.append_nil] at hW' hk
 have hlt : ∀ x ∈ p0 ++ p1 ++ p2 ++ p3, x.block < W.heap.size := fun x hx => by simpa using hW'.lt x hx
 obtain ⟨m, hM, hB⟩ := open_lm hf
 obtain ⟨Ai0, Ai1, ki0, ki1, i0, i1, e1, si0, si1⟩ := open_two hf1
 obtain ⟨Af0, Af1, kf0, kf1, f0, f1, e2, sf0, sf1⟩ := open_two hf2
 obtain ⟨At0, At1, kt0, kt1, t0, t1, e3, st0, st1⟩ := open_two hf3
 have hbk : Rows.uptoBulk d0 ≤ 1048576 := by
  have h := of_decide_eq_true hk
  simp only [Rows.uptoBulkAll] at h
  omega
 have hcs : cs.toList.toArray = cs := by simp
 obtain rfl : c1 = #[.slice Ai0 i0.length ki0, .slice Ai1 i1.length ki1] := Array.toList_inj.1 (by simpa using e1)
 obtain rfl : c2 = #[.slice Af0 f0.length kf0, .slice Af1 f1.length kf1] := Array.toList_inj.1 (by simpa using e2)
 obtain rfl : c3 = #[.slice At0 t0.length kt0, .slice At1 t1.length kt1] := Array.toList_inj.1 (by simpa using e3)
 have I1 := MIn.of W.heap.size hM hB hbk
 have walk := apart_dlg W.heap.size m cs.toList Ai0 Ai1 Af0 Af1 At0 At1 ki0 ki1 kf0 kf1 kt0 kt1 i0 i1 f0 f1 t0 t1 W ⟨W, rfl, g0_of hL, Below.refl _ _⟩ hM si0 si1 sf0 sf1 st0 st1 I1 _ rfl
 rw [hcs] at walk
 refine walk.mono ?_
 rintro e W' ⟨rfl, bel⟩
 have e1 : ((Rows.OpenSpec.upto Rows.fnDialogApartSpec).at F).fn H ([d0, d1, d2, d3] ++ []) = { results := [.lit (.bool true)], args := [d0, d1, d2, d3] } := rfl
 have q0 : ∀ x ∈ p0, x.block < W.heap.size := fun x hx => hlt x (List.mem_append_left _ (List.mem_append_left _ (List.mem_append_left _ hx)))
 have q1 : ∀ x ∈ p1, x.block < W.heap.size := fun x hx => hlt x (List.mem_append_left _ (List.mem_append_left _ (List.mem_append_right _ hx)))
 have q2 : ∀ x ∈ p2, x.block < W.heap.size := fun x hx => hlt x (List.mem_append_left _ (List.mem_append_right _ hx))
 have q3 : ∀ x ∈ p3, x.block < W.heap.size := fun x hx => hlt x (List.mem_append_right _ hx)
 refine ⟨_, rfl, _, _, _, [], p0 ++ (p1 ++ (p2 ++ p3)), [], hW', ?_, ?_, ?_, bel.frame _, fun h => by cases h⟩
 ·rw [e1]; exact trodAll_mk1 (shut_bool Tryz.underlying4 _)
 ·rw [e1]; exact trodAll_mk4 (Below.trod laidOut (by kernel_rfl) (of_decide_eq_true (by kernel_rfl)) h0k bel q0) (Below.trod laidOut (by kernel_rfl) (of_decide_eq_true (by kernel_rfl)) h1k bel q1) (Below.trod laidOut (by kernel_rfl) (of_decide_eq_true (by kernel_rfl)) h2k bel q2) (Below.trod laidOut (by kernel_rfl) (of_decide_eq_true (by kernel_rfl)) h3k bel q3)
 ·rw [e1]; rfl
theorem apt_said : Rows.FnDialogApartUptoSaid :=
 OpenClaim.holds_of_cond 5 Tryz.f5 rfl rfl rfl rfl rfl rfl rfl ⟨rfl, rfl, rfl, rfl, rfl⟩ rfl rfl rfl rfl rfl (by kernel_rfl) Tryz.func5 apt_facts
  (of_decide_eq_true (by kernel_rfl)) (by unfold Func.isWrapper; first | (rw [if_pos (by decide +kernel)]; kernel_rfl) | (rw [if_neg (by decide +kernel)]; exact ⟨rfl, rfl⟩))
  (fun os started H enc _ F => by rw [OpenClaim.pre_eq_preRow]; exact apt_lifted os started H enc F)
theorem apt_plain (f : FuncId) (fn : Func) (hf : Tryz.pinned.checked.prog.funcNamed "pub-hailwright/laws.FnDialogApart" = some f) (hfn : Tryz.pinned.checked.prog.funcs[f]? = some fn) :
  true = Tryz.pinned.checked.prog.looks [] ∧ ∀ (j : Nat) t, fn.params[j]? = some t → Tryz.pinned.checked.prog.wantsStandIn t = false := by
 obtain rfl : f = 5 := Option.some.inj ((show Tryz.prog.funcNamed "pub-hailwright/laws.FnDialogApart" = some 5 by kernel_rfl).symm.trans hf) |>.symm
 obtain rfl : fn = Tryz.f5 := (Option.some.inj (Tryz.func5.symm.trans hfn)).symm
 refine ⟨by kernel_rfl, fun j t ht => ?_⟩
 rw [Tryz.params5] at ht
 have hm := Array.mem_of_getElem? ht
 simp only [List.mem_toArray, List.mem_cons, List.not_mem_nil, or_false] at hm
 rcases hm with rfl | rfl | rfl | rfl
 all_goals first | exact (show Tryz.prog.wantsStandIn 28 = false by kernel_rfl) | exact (show Tryz.prog.wantsStandIn 50 = false by kernel_rfl)
theorem apt_card : Rows.FnDialogApartUptoCardSaid :=
 Claim7.holds_tied_plain_at .later [] _ _ _ _ apt_said (fun _ h => by cases h) (by kernel_rfl) (fun _ h => by cases h) fnDialogApartUpto_row_tie rfl ⟨rfl, rfl⟩ (by kernel_rfl) rfl apt_plain (by kernel_rfl)
#print axioms apt_card
