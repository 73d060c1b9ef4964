/- FnServerKey, of bulk at most 1048576. Conditions: the row's own: the bulk, and the listed variables hold what their initialisers lay. -/
import Derived.Test.YtocajelknojkbaaGreatDoorK35
import Derived.Test.YtocajelknojkbaaGreatDoorK34
import Derived.Test.YtocajelknojkbaaGreatDoorK33
import Derived.Test.YtocajelknojkbaaGreatDoorCards
import Derived.Test.YtocajelknojkbaaGreatDoorTie
import Derived.OpenShut
import Derived.Deep.DeepWitnessRowRef
set_option maxRecDepth 100000
set_option maxHeartbeats 16000000
set_option linter.all false
namespace Go.Proofs.YtocajelknojkbaaGreatDoor
open Go.Lib (hid)
open Go.ChangeShapes Go.WideShapes Go.ChangeAt Go.RowKit
def msg0 : Value := .agg #[.bool false, .slice none 0 0, .slice none 0 0, .slice none 0 0, .bool false, .bool false, .slice none 0 0, .slice none 0 0, .slice none 0 0, .int .i64 0, .slice none 0 0, .slice none 0 0, .int .i64 0, .slice none 0 0, .slice none 0 0, .slice none 0 0, .slice none 0 0, .bool false, .bool false]
def Mz {H : Type} : DataW H := .agg [.lit (.bool false), .nil, .agg [.nil, .nil, .lit (.bool false), .lit (.bool false), .nil, .nil, .nil, .lit (.int .i64 0), .nil, .nil], .lit (.int .i64 0), .nil, .nil, .nil, .nil, .lit (.bool false), .lit (.bool false)]
theorem skey_witness (os : Os) {H : Type} (enc : TypeId × Value → H) :
  (Rows.OpenSpec.upto Rows.fnServerKeySpec).preRow enc Tryz.prog Tryz.f3 Rows.fnServerKeyUptoRow.domain false Rows.fnServerKeyUptoRow.laid ((laidWorld os).forCall (fun _ _ => 0) ⟨#[], #[msg0, .slice none 0 0, .slice none 0 0, .slice none 0 0], []⟩).memory #[msg0, .slice none 0 0, .slice none 0 0, .slice none 0 0] := by
 have hw : (DataW.whole enc Tryz.prog ((laidWorld os).forCall (fun _ _ => 0) ⟨#[], #[msg0, .slice none 0 0, .slice none 0 0, .slice none 0 0], []⟩).memory Tryz.f3.params.toList (Rows.OpenSpec.upto Rows.fnServerKeySpec).vars false #[msg0, .slice none 0 0, .slice none 0 0, .slice none 0 0].toList 8).map (fun x => (x.1, x.2.1)) =
   some ([Mz, .nil, .nil, .nil], []) := by kernel_rfl
 obtain ⟨⟨x1, x2, x3⟩, hx, hx1⟩ := Option.map_eq_some_iff.1 hw
 simp only [Prod.mk.injEq] at hx1
 obtain ⟨rfl, rfl⟩ := hx1
 exact OpenSpec.preRow_of_cond 8 hx (by kernel_rfl) (fun k hk => by cases hk; kernel_rfl) (by kernel_rfl) (laid_met os _)
theorem agg_of {W : World} {base : Nat} {v : Value} (h : Value.okWide Tryz.prog W .any base 28 v) : ∃ cs : Array Value, v = .agg cs := by
 unfold Value.okWide at h
 rw [Tryz.underlying28] at h
 obtain ⟨cs, h1, _⟩ := h
 exact ⟨cs, h1⟩
theorem slice_of {W : World} {base : Nat} {v : Value} (h : Value.okWide Tryz.prog W .any base 22 v) : ∃ A l c, v = .slice A l c :=
 okWide_slice Tryz.underlying22 h
theorem skey_lifted (os : Os) (started : os.Started) (H : Type) (enc : TypeId × Value → H) (F : Stop.Interp) :
  ReturnsInHanded {} Tryz.checked os 3 .any ((Rows.OpenSpec.upto Rows.fnServerKeySpec).preRow enc Tryz.prog Tryz.f3 Rows.fnServerKeyUptoRow.domain false Rows.fnServerKeyUptoRow.laid) (((Rows.OpenSpec.upto Rows.fnServerKeySpec).at F).post enc Tryz.prog Tryz.f3 false true false false) := by
 refine returnsInHanded_of_row (C := Tryz.checked) (s := Rows.OpenSpec.upto Rows.fnServerKeySpec) own started (by kernel_rfl) Tryz.func3
  (witness_row_atRef (enc := enc) (C := Tryz.checked) false (laidWorld os) #[msg0, .slice none 0 0, .slice none 0 0, .slice none 0 0] rfl (by kernel_rfl) (by kernel_rfl) (by kernel_rfl) (skey_witness os enc)) ?_
 intro W base args ds gs before hval0 hW _ hcond0 _ hL _ _
 have hk : Rows.uptoSmall H (ds ++ gs) = true := hcond0 _ rfl
 have hval : ∀ (j : Nat) t v, Tryz.f3.params[j]? = some t → args[j]? = some v → Value.okWide Tryz.prog W .any base t v := hval0
 have hW' := hW
 obtain ⟨p, q, hA0, hV0, rfl, _, _⟩ := hW
 have hA : DataW.TrodAll enc Tryz.prog W 0 (fun _ => true) true Tryz.f3.params.toList args.toList ds p := hA0
 rw [Tryz.params3] at hA hval
 obtain ⟨v0, v1, v2, v3, d0, d1, d2, d3, p0, p1, p2, p3, rfl, rfl, rfl, h0, h1, h2, h3⟩ := trodAll_four hA
 obtain ⟨rfl, rfl⟩ := trodVars_none hV0
 obtain ⟨cs, rfl⟩ := agg_of (hval 0 _ _ rfl rfl)
 obtain ⟨A1, l1, c1, rfl⟩ := okWide_slice Tryz.underlying26 (hval 1 _ _ rfl rfl)
 obtain ⟨A2, l2, c2, rfl⟩ := slice_of (hval 2 _ _ rfl rfl)
 obtain ⟨A3, l3, c3, rfl⟩ := slice_of (hval 3 _ _ rfl rfl)
 have h0k := h0
 have h1k := h1
 have h2k := h2
 have h3k := h3
 obtain ⟨fuel, hf⟩ := h0
 obtain ⟨fuel1, hf1⟩ := h1
 obtain ⟨fuel2, hf2⟩ := h2
 obtain ⟨fuel3, hf3⟩ := h3
 change DataW.trod enc Tryz.prog W 0 (fun _ => true) true fuel 28 cs.toList = some (d0, p0) at hf
 change DataW.trod enc Tryz.prog W 0 (fun _ => true) true fuel1 26 [.slice A1 l1 c1] = some (d1, p1) at hf1
 change DataW.trod enc Tryz.prog W 0 (fun _ => true) true fuel2 22 [.slice A2 l2 c2] = some (d2, p2) at hf2
 change DataW.trod enc Tryz.prog W 0 (fun _ => true) true fuel3 22 [.slice A3 l3 c3] = some (d3, p3) at hf3
 clear hA0 hV0 hval0
 simp only [List.append_nil] at hW' hk
 have hlt : ∀ x ∈ p0 ++ p1 ++ p2 ++ p3, x.block < W.heap.size := fun x hx => by simpa using hW'.lt x hx
 obtain ⟨m, hM, hB⟩ := open_lm hf
 obtain ⟨u1, n, e4, hN, hnl, hC⟩ := open_shs hf1
 obtain ⟨u2, b2, e2, hS2, hb2⟩ := open_sb hf2
 obtain ⟨u3, b3, e3, hS3, hb3⟩ := open_sb hf3
 obtain rfl : u1 = .slice A1 l1 c1 := by simpa using e4.symm
 obtain rfl : u2 = .slice A2 l2 c2 := by simpa using e2.symm
 obtain rfl : u3 = .slice A3 l3 c3 := by simpa using e3.symm
 have hbk : Rows.uptoBulk d0 ≤ 1048576 ∧ Rows.uptoBulk d1 ≤ 1048576 ∧ Rows.uptoBulk d2 ≤ 1048576 ∧ Rows.uptoBulk d3 ≤ 1048576 := by
  have h := of_decide_eq_true hk
  simp only [Rows.uptoBulkAll] at h
  omega
 have hcs : cs.toList.toArray = cs := by simp
 have I1 := MIn.of W.heap.size hM hB hbk.1
 have I2 := HsIn.of hN hC hbk.2.1
 have hb2' : b2.length + 1 ≤ Rows.uptoBulk d2 := hb2
 have hb3' : b3.length + 1 ≤ Rows.uptoBulk d3 := hb3
 have walk := server_any W.heap.size m n cs.toList _ _ _ b2 b3 W ⟨W, rfl, g0_of hL, Below.refl _ _⟩ hM hN hS2 hS3 I1 I2 (by omega) (by omega) _ rfl
 rw [hcs] at walk
 refine walk.mono ?_
 rintro e W' ⟨rfl, bel⟩
 have e1 : ((Rows.OpenSpec.upto Rows.fnServerKeySpec).at F).fn H ([d0, d1, d2, d3] ++ []) = { results := [.lit (.bool true)], args := [d0, d1, d2, d3] } := rfl
 have q0 : ∀ x ∈ p0, x.block < W.heap.size := fun x hx => hlt x (List.mem_append_left _ (List.mem_append_left _ (List.mem_append_left _ hx)))
 have q1 : ∀ x ∈ p1, x.block < W.heap.size := fun x hx => hlt x (List.mem_append_left _ (List.mem_append_left _ (List.mem_append_right _ hx)))
 have q2 : ∀ x ∈ p2, x.block < W.heap.size := fun x hx => hlt x (List.mem_append_left _ (List.mem_append_right _ hx))
 have q3 : ∀ x ∈ p3, x.block < W.heap.size := fun x hx => hlt x (List.mem_append_right _ hx)
 refine ⟨_, rfl, _, _, _, [], p0 ++ (p1 ++ (p2 ++ p3)), [], hW', ?_, ?_, ?_, bel.frame _, fun h => by cases h⟩
 ·rw [e1]; exact trodAll_mk1 (shut_bool Tryz.underlying4 _)
 ·rw [e1]; exact trodAll_mk4 (Below.trod laidOut (by kernel_rfl) (of_decide_eq_true (by kernel_rfl)) h0k bel q0) (Below.trod laidOut (by kernel_rfl) (of_decide_eq_true (by kernel_rfl)) h1k bel q1) (Below.trod laidOut (by kernel_rfl) (of_decide_eq_true (by kernel_rfl)) h2k bel q2) (Below.trod laidOut (by kernel_rfl) (of_decide_eq_true (by kernel_rfl)) h3k bel q3)
 ·rw [e1]; rfl
theorem skey_said : Rows.FnServerKeyUptoSaid :=
 OpenClaim.holds_of_cond 3 Tryz.f3 rfl rfl rfl rfl rfl rfl rfl ⟨rfl, rfl, rfl, rfl, rfl⟩ rfl rfl rfl rfl rfl (by kernel_rfl) Tryz.func3 skey_facts
  (of_decide_eq_true (by kernel_rfl)) (by unfold Func.isWrapper; first | (rw [if_pos (by decide +kernel)]; kernel_rfl) | (rw [if_neg (by decide +kernel)]; exact ⟨rfl, rfl⟩))
  (fun os started H enc _ F => by rw [OpenClaim.pre_eq_preRow]; exact skey_lifted os started H enc F)
theorem skey_plain (f : FuncId) (fn : Func) (hf : Tryz.pinned.checked.prog.funcNamed "pub-hailwright/laws.FnServerKey" = some f) (hfn : Tryz.pinned.checked.prog.funcs[f]? = some fn) :
  true = Tryz.pinned.checked.prog.looks [] ∧ ∀ (j : Nat) t, fn.params[j]? = some t → Tryz.pinned.checked.prog.wantsStandIn t = false := by
 obtain rfl : f = 3 := Option.some.inj ((show Tryz.prog.funcNamed "pub-hailwright/laws.FnServerKey" = some 3 by kernel_rfl).symm.trans hf) |>.symm
 obtain rfl : fn = Tryz.f3 := (Option.some.inj (Tryz.func3.symm.trans hfn)).symm
 refine ⟨by kernel_rfl, fun j t ht => ?_⟩
 rw [Tryz.params3] at ht
 have hm := Array.mem_of_getElem? ht
 simp only [List.mem_toArray, List.mem_cons, List.not_mem_nil, or_false] at hm
 rcases hm with rfl | rfl | rfl | rfl
 all_goals first | exact (show Tryz.prog.wantsStandIn 28 = false by kernel_rfl) | exact (show Tryz.prog.wantsStandIn 22 = false by kernel_rfl) | exact (show Tryz.prog.wantsStandIn 26 = false by kernel_rfl)
theorem skey_card : Rows.FnServerKeyUptoCardSaid :=
 Claim7.holds_tied_plain_at .later [] _ _ _ _ skey_said (fun _ h => by cases h) (by kernel_rfl) (fun _ h => by cases h) fnServerKeyUpto_row_tie rfl ⟨rfl, rfl⟩ (by kernel_rfl) rfl skey_plain (by kernel_rfl)
#print axioms skey_card
