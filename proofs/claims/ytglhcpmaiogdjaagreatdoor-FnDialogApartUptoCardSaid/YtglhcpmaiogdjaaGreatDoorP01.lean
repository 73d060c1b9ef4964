import Derived.Test.YtglhcpmaiogdjaaGreatDoorProg
import Derived.WalkSpells
import Derived.WalkLawsBesides
import Derived.Deep.LoopGhost
import Derived.BigQuiet
import Derived.Lib.ItoaNum
import Derived.Lib.Hide
import Derived.Deep.RegionHeld3
import Derived.StillTailTactics
import Derived.Lib.Strings
set_option maxRecDepth 100000
set_option maxHeartbeats 16000000
set_option linter.all false
namespace Go.Proofs.YtglhcpmaiogdjaaGreatDoor
open Go.Lib (hid)
open Go.RowKit
abbrev Bytes := List UInt8
theorem heap_lt {w : World} {g : Nat} {o : Obj} (h : w.heap[g]? = some o) : g < w.heap.size := (Array.getElem?_eq_some_iff.1 h).1
theorem cell_at_below {w w' : World} {a : Addr} {v : Value} (hc : w.cell? a = some v) (hb : Below w.heap.size w w') : w'.cell? a = some v := (hb.cell (World.block_lt_of_cell? w a hc)).trans hc
theorem wrap64_add {j : Nat} (h : j < 9223372036854775807) : wrap64 ((j : Int) + 1) = (j + 1 : Nat) := by
 unfold wrap64
 omega
theorem meas_step {n j : Nat} {v : Int} (h : j + 1 ≤ n) (hv : v = ((j + 1 : Nat) : Int)) : n - (intOf (.int .i64 v)).toNat < n - (intOf (.int .i64 j)).toNat := by
 subst hv
 simp only [intOf]
 omega
theorem ba_list (s : ByteArray) : s.toList = s.data.toList := Lib.toList_data s
theorem ne_lit {s : ByteArray} {l : Bytes} (h : s ≠ ⟨l.toArray⟩) : (s.toList == l) = false := by
 rw [Bool.eq_false_iff]
 intro e
 have e1 : s.toList = l := by simpa using e
 exact h (Go.WideShapes.bytes_inj (by rw [← ba_list, e1]))
theorem take_step {α : Type} (l : List α) (k : Nat) (h : k < l.length) : l.take (k + 1) = l.take k ++ [l[k]] := List.take_succ_eq_append_getElem h
theorem sz (l : Bytes) : (⟨l.toArray⟩ : ByteArray).size = l.length := by show l.toArray.size = _; simp
theorem dl (s : ByteArray) : s.size = s.data.toList.length := (Array.length_toList).symm
theorem ret_bool {x y : Bool} (h : x = y) : Ending.returned (.bool x) = .returned (.bool y) := by rw [h]
abbrev NA (T : TypeId) (s : String) : Prop := ∀ (a : Addr) (w : World), (nilAhead 454 T (.pointer (some a)) s).run Tryz.prog w = .ok (some false) w
abbrev ME (T : TypeId) (s : String) (f : Nat) : Prop := ∀ (a : Addr) (w : World), (method 454 T (.pointer (some a)) s).run Tryz.prog w = .ok (f, .pointer (some a)) w
instance : Coe Unit Value := ⟨fun _ => .slice none 0 0⟩
instance : Coe Bool Value := ⟨.bool⟩
