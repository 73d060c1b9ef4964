/- FnMessageText: for every message that reads as data of bulk at most 1048576, the call returns true, and the message reads behind it as it did. Conditions: the row's own: the nine listed package variables hold what their initialisers lay (the card ties that to the program's text), and the bulk. -/
import Derived.Test.YtpjhmfoegmaodaaGreatDoorM34
import Derived.Test.YtpjhmfoegmaodaaGreatDoorM32
import Derived.Test.YtpjhmfoegmaodaaGreatDoorM33
import Derived.Test.YtpjhmfoegmaodaaGreatDoorCards
import Derived.Test.YtpjhmfoegmaodaaGreatDoorTie
import Derived.OpenShut
import Derived.Deep.DeepWitnessRowRef
set_option maxRecDepth 100000
set_option maxHeartbeats 16000000
set_option linter.all false
namespace Go.Proofs.YtpjhmfoegmaodaaGreatDoor
open Go.Lib (hid)
open Go.ChangeShapes Go.WideShapes Go.ChangeAt Go.RowKit
def msg0 : Value := .agg #[.bool false, .slice none 0 0, .slice none 0 0, .slice none 0 0, .bool false, .bool false, .slice none 0 0, .slice none 0 0, .slice none 0 0, .int .i64 0, .slice none 0 0, .slice none 0 0, .int .i64 0, .slice none 0 0, .slice none 0 0, .slice none 0 0, .slice none 0 0, .bool false, .bool false]
theorem text_witness (os : Os) {H : Type} (enc : TypeId × Value → H) :
  (Rows.OpenSpec.upto Rows.fnMessageTextSpec).preRow enc Tryz.prog Tryz.f4 Rows.fnMessageTextUptoRow.domain false Rows.fnMessageTextUptoRow.laid ((laidWorld os).forCall (fun _ _ => 0) ⟨#[], #[msg0], []⟩).memory #[msg0] := by
 have hw : (DataW.whole enc Tryz.prog ((laidWorld os).forCall (fun _ _ => 0) ⟨#[], #[msg0], []⟩).memory Tryz.f4.params.toList (Rows.OpenSpec.upto Rows.fnMessageTextSpec).vars false #[msg0].toList 8).map (fun x => (x.1, x.2.1)) =
   some ([.agg [.lit (.bool false), .nil, .agg [.nil, .nil, .lit (.bool false), .lit (.bool false), .nil, .nil, .nil, .lit (.int .i64 0), .nil, .nil], .lit (.int .i64 0), .nil, .nil, .nil, .nil, .lit (.bool false), .lit (.bool false)]], []) := by kernel_rfl
 obtain ⟨⟨x1, x2, x3⟩, hx, hx1⟩ := Option.map_eq_some_iff.1 hw
 simp only [Prod.mk.injEq] at hx1
 obtain ⟨rfl, rfl⟩ := hx1
 exact OpenSpec.preRow_of_cond 8 hx (by kernel_rfl) (fun k hk => by cases hk; kernel_rfl) (by kernel_rfl) (laid_met os _)
theorem agg_of {W : World} {base : Nat} {v : Value} (h : Value.okWide Tryz.prog W .any base 28 v) : ∃ cs : Array Value, v = .agg cs := by
 unfold Value.okWide at h
 rw [Tryz.underlying28] at h
 obtain ⟨cs, h1, _⟩ := h
 exact ⟨cs, h1⟩
theorem text_lifted (os : Os) (started : os.Started) (H : Type) (enc : TypeId × Value → H) (F : Stop.Interp) :
  ReturnsInHanded {} Tryz.checked os 4 .any ((Rows.OpenSpec.upto Rows.fnMessageTextSpec).preRow enc Tryz.prog Tryz.f4 Rows.fnMessageTextUptoRow.domain false Rows.fnMessageTextUptoRow.laid) (((Rows.OpenSpec.upto Rows.fnMessageTextSpec).at F).post enc Tryz.prog Tryz.f4 false true false false) := by
 refine returnsInHanded_of_row (C := Tryz.checked) (s := Rows.OpenSpec.upto Rows.fnMessageTextSpec) own started (by kernel_rfl) Tryz.func4
  (witness_row_atRef (enc := enc) (C := Tryz.checked) false (laidWorld os) #[msg0] rfl (by kernel_rfl) (by kernel_rfl) (by kernel_rfl) (text_witness os enc)) ?_
 intro W base args ds gs before hval0 hW _ hcond0 _ hL _ _
 have hk : Rows.uptoSmall H (ds ++ gs) = true := hcond0 _ rfl
 have hval : ∀ (j : Nat) t v, Tryz.f4.params[j]? = some t → args[j]? = some v → Value.okWide Tryz.prog W .any base t v := hval0
 have hW' := hW
 obtain ⟨p, q, hA0, hV0, rfl, _, _⟩ := hW
 have hA : DataW.TrodAll enc Tryz.prog W 0 (fun _ => true) true Tryz.f4.params.toList args.toList ds p := hA0
 rw [Tryz.params4] at hA hval
 obtain ⟨v0, d0, rfl, rfl, h0⟩ := trodAll_one hA
 obtain ⟨rfl, rfl⟩ := trodVars_none hV0
 obtain ⟨cs, rfl⟩ := agg_of (hval 0 _ _ rfl rfl)
 have h0k := h0
 obtain ⟨fuel, hf⟩ := h0
 change DataW.trod enc Tryz.prog W 0 (fun _ => true) true fuel 28 cs.toList = some (d0, p) at hf
 clear hA0 hV0 hval0
 simp only [List.append_nil] at hW' hk
 have hlt : ∀ x ∈ p, x.block < W.heap.size := fun x hx => by simpa using hW'.lt x hx
 obtain ⟨m, hM, hB⟩ := open_lm hf
 have hbk : Rows.uptoBulk d0 ≤ 1048576 := by
  have h := of_decide_eq_true hk
  simp only [Rows.uptoBulkAll] at h
  omega
 have hcs : cs.toList.toArray = cs := by simp
 have walk := msgtext_any W.heap.size m cs.toList W ⟨W, rfl, g0_of hL, Below.refl _ _⟩ hM (MIn.of _ hM hB hbk)
 rw [hcs] at walk
 refine walk.mono ?_
 rintro e W' ⟨rfl, bel⟩
 have e1 : ((Rows.OpenSpec.upto Rows.fnMessageTextSpec).at F).fn H ([d0] ++ []) = { results := [.lit (.bool true)], args := [d0] } := rfl
 refine ⟨_, rfl, _, _, _, [], p, [], hW', ?_, ?_, ?_, bel.frame _, fun h => by cases h⟩
 ·rw [e1]; exact trodAll_mk1 (shut_bool Tryz.underlying4 _)
 ·rw [e1]; exact trodAll_mk1 (Below.trod laidOut (by kernel_rfl) (of_decide_eq_true (by kernel_rfl)) h0k bel hlt)
 ·rw [e1]; rfl
theorem text_said : Rows.FnMessageTextUptoSaid :=
 OpenClaim.holds_of_cond 4 Tryz.f4 rfl rfl rfl rfl rfl rfl rfl ⟨rfl, rfl, rfl, rfl, rfl⟩ rfl rfl rfl rfl rfl (by kernel_rfl) Tryz.func4 text_facts
  (of_decide_eq_true (by kernel_rfl)) (by unfold Func.isWrapper; first | (rw [if_pos (by decide +kernel)]; kernel_rfl) | (rw [if_neg (by decide +kernel)]; exact ⟨rfl, rfl⟩))
  (fun os started H enc _ F => by rw [OpenClaim.pre_eq_preRow]; exact text_lifted os started H enc F)
theorem text_plain (f : FuncId) (fn : Func) (hf : Tryz.pinned.checked.prog.funcNamed "pub-hailwright/laws.FnMessageText" = some f) (hfn : Tryz.pinned.checked.prog.funcs[f]? = some fn) :
  true = Tryz.pinned.checked.prog.looks [] ∧ ∀ (j : Nat) t, fn.params[j]? = some t → Tryz.pinned.checked.prog.wantsStandIn t = false := by
 obtain rfl : f = 4 := Option.some.inj ((show Tryz.prog.funcNamed "pub-hailwright/laws.FnMessageText" = some 4 by kernel_rfl).symm.trans hf) |>.symm
 obtain rfl : fn = Tryz.f4 := (Option.some.inj (Tryz.func4.symm.trans hfn)).symm
 refine ⟨by kernel_rfl, fun j t ht => ?_⟩
 rw [Tryz.params4] at ht
 obtain rfl : t = 28 := by simpa using Array.mem_of_getElem? ht
 exact (show Tryz.prog.wantsStandIn 28 = false by kernel_rfl)
theorem text_card : Rows.FnMessageTextUptoCardSaid :=
 Claim7.holds_tied_plain_at .later [] _ _ _ _ text_said (fun _ h => by cases h) (by kernel_rfl) (fun _ h => by cases h) fnMessageTextUpto_row_tie rfl ⟨rfl, rfl⟩ (by kernel_rfl) rfl text_plain (by kernel_rfl)
