/- FnKeysMissing, of bulk at most 1048576. Conditions: the row's own: the bulk, and the listed variables hold what their initialisers lay. -/
import Derived.Test.YtocajelknojkbaaGreatDoorN31
import Derived.Test.YtocajelknojkbaaGreatDoorN33
import Derived.Test.YtocajelknojkbaaGreatDoorN32
import Derived.Test.YtocajelknojkbaaGreatDoorCards
import Derived.Test.YtocajelknojkbaaGreatDoorTie
import Derived.OpenShut
import Derived.Deep.DeepWitnessRowRef
set_option maxRecDepth 100000
set_option maxHeartbeats 16000000
set_option linter.all false
namespace Go.Proofs.YtocajelknojkbaaGreatDoor
open Go.Lib (hid)
open Go.ChangeShapes Go.WideShapes Go.ChangeAt Go.RowKit
def msg0 : Value := .agg #[.bool false, .slice none 0 0, .slice none 0 0, .slice none 0 0, .bool false, .bool false, .slice none 0 0, .slice none 0 0, .slice none 0 0, .int .i64 0, .slice none 0 0, .slice none 0 0, .int .i64 0, .slice none 0 0, .slice none 0 0, .slice none 0 0, .slice none 0 0, .bool false, .bool false]
def Mz {H : Type} : DataW H := .agg [.lit (.bool false), .nil, .agg [.nil, .nil, .lit (.bool false), .lit (.bool false), .nil, .nil, .nil, .lit (.int .i64 0), .nil, .nil], .lit (.int .i64 0), .nil, .nil, .nil, .nil, .lit (.bool false), .lit (.bool false)]
theorem miss_witness (os : Os) {H : Type} (enc : TypeId × Value → H) :
  (Rows.OpenSpec.upto Rows.fnKeysMissingSpec).preRow enc Tryz.prog Tryz.f4 Rows.fnKeysMissingUptoRow.domain false Rows.fnKeysMissingUptoRow.laid ((laidWorld os).forCall (fun _ _ => 0) ⟨#[], #[msg0, .int .i64 0], []⟩).memory #[msg0, .int .i64 0] := by
 have hw : (DataW.whole enc Tryz.prog ((laidWorld os).forCall (fun _ _ => 0) ⟨#[], #[msg0, .int .i64 0], []⟩).memory Tryz.f4.params.toList (Rows.OpenSpec.upto Rows.fnKeysMissingSpec).vars false #[msg0, .int .i64 0].toList 8).map (fun x => (x.1, x.2.1)) =
   some ([Mz, .lit (.int .i64 0)], []) := by kernel_rfl
 obtain ⟨⟨x1, x2, x3⟩, hx, hx1⟩ := Option.map_eq_some_iff.1 hw
 simp only [Prod.mk.injEq] at hx1
 obtain ⟨rfl, rfl⟩ := hx1
 exact OpenSpec.preRow_of_cond 8 hx (by kernel_rfl) (fun k hk => by cases hk; kernel_rfl) (by kernel_rfl) (laid_met os _)
theorem agg_of {W : World} {base : Nat} {v : Value} (h : Value.okWide Tryz.prog W .any base 28 v) : ∃ cs : Array Value, v = .agg cs := by
 unfold Value.okWide at h
 rw [Tryz.underlying28] at h
 obtain ⟨cs, h1, _⟩ := h
 exact ⟨cs, h1⟩
theorem miss_lifted (os : Os) (started : os.Started) (H : Type) (enc : TypeId × Value → H) (F : Stop.Interp) :
  ReturnsInHanded {} Tryz.checked os 4 .any ((Rows.OpenSpec.upto Rows.fnKeysMissingSpec).preRow enc Tryz.prog Tryz.f4 Rows.fnKeysMissingUptoRow.domain false Rows.fnKeysMissingUptoRow.laid) (((Rows.OpenSpec.upto Rows.fnKeysMissingSpec).at F).post enc Tryz.prog Tryz.f4 false true false false) := by
 refine returnsInHanded_of_row (C := Tryz.checked) (s := Rows.OpenSpec.upto Rows.fnKeysMissingSpec) own started (by kernel_rfl) Tryz.func4
  (witness_row_atRef (enc := enc) (C := Tryz.checked) false (laidWorld os) #[msg0, .int .i64 0] rfl (by kernel_rfl) (by kernel_rfl) (by kernel_rfl) (miss_witness os enc)) ?_
 intro W base args ds gs before hval0 hW _ hcond0 _ hL _ _
 have hk : Rows.uptoSmall H (ds ++ gs) = true := hcond0 _ rfl
 have hval : ∀ (j : Nat) t v, Tryz.f4.params[j]? = some t → args[j]? = some v → Value.okWide Tryz.prog W .any base t v := hval0
 have hW' := hW
 obtain ⟨p, q, hA0, hV0, rfl, _, _⟩ := hW
 have hA : DataW.TrodAll enc Tryz.prog W 0 (fun _ => true) true Tryz.f4.params.toList args.toList ds p := hA0
 rw [Tryz.params4] at hA hval
 obtain ⟨v0, v1, d0, d1, p0, p1, rfl, rfl, rfl, h0, h1⟩ := trodAll_two hA
 obtain ⟨rfl, rfl⟩ := trodVars_none hV0
 obtain ⟨cs, rfl⟩ := agg_of (hval 0 _ _ rfl rfl)
 obtain ⟨z, rfl⟩ := okWide_int Tryz.underlying3 (hval 1 _ _ rfl rfl)
 have h0k := h0
 have h1k := h1
 obtain ⟨fuel, hf⟩ := h0
 obtain ⟨fuel1, hf1⟩ := h1
 change DataW.trod enc Tryz.prog W 0 (fun _ => true) true fuel 28 cs.toList = some (d0, p0) at hf
 change DataW.trod enc Tryz.prog W 0 (fun _ => true) true fuel1 3 [.int .i64 z] = some (d1, p1) at hf1
 clear hA0 hV0 hval0
 simp only [List.append_nil] at hW' hk
 have hlt : ∀ x ∈ p0 ++ p1, x.block < W.heap.size := fun x hx => by simpa using hW'.lt x hx
 obtain ⟨m, hM, hB⟩ := open_lm hf
 obtain ⟨z2, ez, -, hz⟩ := DataW.trod_int Tryz.underlying3 hf1
 obtain rfl : z = z2 := by simpa using ez
 have hbk : Rows.uptoBulk d0 ≤ 1048576 := by
  have h := of_decide_eq_true hk
  simp only [Rows.uptoBulkAll] at h
  omega
 have hcs : cs.toList.toArray = cs := by simp
 have I1 := MIn.of W.heap.size hM hB hbk
 have walk := missing_any W.heap.size m z cs.toList W ⟨W, rfl, g0_of hL, Below.refl _ _⟩ hM I1 (wf_i64 hz) _ rfl
 rw [hcs] at walk
 refine walk.mono ?_
 rintro e W' ⟨rfl, bel⟩
 have e1 : ((Rows.OpenSpec.upto Rows.fnKeysMissingSpec).at F).fn H ([d0, d1] ++ []) = { results := [.lit (.bool true)], args := [d0, d1] } := rfl
 refine ⟨_, rfl, _, _, _, [], p0 ++ p1, [], hW', ?_, ?_, ?_, bel.frame _, fun h => by cases h⟩
 ·rw [e1]; exact trodAll_mk1 (shut_bool Tryz.underlying4 _)
 ·rw [e1]; exact trodAll_mk2 (Below.trod laidOut (by kernel_rfl) (of_decide_eq_true (by kernel_rfl)) h0k bel (fun x hx => hlt x (List.mem_append_left _ hx))) (Below.trod laidOut (by kernel_rfl) (of_decide_eq_true (by kernel_rfl)) h1k bel (fun x hx => hlt x (List.mem_append_right _ hx)))
 ·rw [e1]; rfl
theorem miss_said : Rows.FnKeysMissingUptoSaid :=
 OpenClaim.holds_of_cond 4 Tryz.f4 rfl rfl rfl rfl rfl rfl rfl ⟨rfl, rfl, rfl, rfl, rfl⟩ rfl rfl rfl rfl rfl (by kernel_rfl) Tryz.func4 miss_facts
  (of_decide_eq_true (by kernel_rfl)) (by unfold Func.isWrapper; first | (rw [if_pos (by decide +kernel)]; kernel_rfl) | (rw [if_neg (by decide +kernel)]; exact ⟨rfl, rfl⟩))
  (fun os started H enc _ F => by rw [OpenClaim.pre_eq_preRow]; exact miss_lifted os started H enc F)
theorem miss_plain (f : FuncId) (fn : Func) (hf : Tryz.pinned.checked.prog.funcNamed "pub-hailwright/laws.FnKeysMissing" = some f) (hfn : Tryz.pinned.checked.prog.funcs[f]? = some fn) :
  true = Tryz.pinned.checked.prog.looks [] ∧ ∀ (j : Nat) t, fn.params[j]? = some t → Tryz.pinned.checked.prog.wantsStandIn t = false := by
 obtain rfl : f = 4 := Option.some.inj ((show Tryz.prog.funcNamed "pub-hailwright/laws.FnKeysMissing" = some 4 by kernel_rfl).symm.trans hf) |>.symm
 obtain rfl : fn = Tryz.f4 := (Option.some.inj (Tryz.func4.symm.trans hfn)).symm
 refine ⟨by kernel_rfl, fun j t ht => ?_⟩
 rw [Tryz.params4] at ht
 have hm := Array.mem_of_getElem? ht
 simp only [List.mem_toArray, List.mem_cons, List.not_mem_nil, or_false] at hm
 rcases hm with rfl | rfl
 all_goals first | exact (show Tryz.prog.wantsStandIn 28 = false by kernel_rfl) | exact (show Tryz.prog.wantsStandIn 3 = false by kernel_rfl)
theorem miss_card : Rows.FnKeysMissingUptoCardSaid :=
 Claim7.holds_tied_plain_at .later [] _ _ _ _ miss_said (fun _ h => by cases h) (by kernel_rfl) (fun _ h => by cases h) fnKeysMissingUpto_row_tie rfl ⟨rfl, rfl⟩ (by kernel_rfl) rfl miss_plain (by kernel_rfl)
#print axioms miss_card
