import Derived.Test.YtglhcpmaiogdjaaGreatDoorP27
import Derived.Test.YtglhcpmaiogdjaaGreatDoorP28
set_option maxRecDepth 100000
set_option maxHeartbeats 16000000
set_option linter.all false
namespace Go.Proofs.YtglhcpmaiogdjaaGreatDoor
open Go.Lib (hid)
open Go.RowKit
def selS (k : Nat) (hk : List (Nat × SH)) : List (Nat × SH) := hk.filter fun p => p.2.slot == k
theorem first_slot (h : SH) : h.first = true ↔ h.slot = 1 ∨ h.slot = 9 ∨ h.slot = 10 := by cases h <;> simp [SH.first, SH.slot]
theorem addRef_other (R : Nat → Option Nat) (h : SH) (g k : Nat) (hk : h.slot ≠ k) : addRef R h g k = R k := by
 unfold addRef setRef
 split
 ·rfl
 ·dsimp only
  rw [if_neg (fun h1 => hk h1.2.symm)]
theorem addRef_first (R : Nat → Option Nat) (h : SH) (g : Nat) (h0 : h.slot ≠ 0) (hf : h.first = true) : addRef R h g h.slot = (R h.slot).or (some g) := by
 unfold addRef setRef
 cases e : R h.slot with
 | none => simp [e, h0]
 | some x => simp [e, hf]
theorem addRef_last (R : Nat → Option Nat) (h : SH) (g : Nat) (h0 : h.slot ≠ 0) (hf : h.first = false) : addRef R h g h.slot = some g := by
 unfold addRef setRef
 simp [hf, h0]
theorem foldRef (k : Nat) (h0 : k ≠ 0) : ∀ (hk : List (Nat × SH)) (R : Nat → Option Nat), (hk.foldl (fun R p => addRef R p.2 p.1) R) k =
  if k = 1 ∨ k = 9 ∨ k = 10 then (R k).or ((selS k hk).head?.map (·.1)) else ((selS k hk).getLast?.map (·.1)).or (R k)
 | [], R => by simp [selS]
 | p :: r, R => by
  rw [List.foldl_cons, foldRef k h0 r]
  by_cases hp : p.2.slot = k
  ·have hs : selS k (p :: r) = p :: selS k r := by simp [selS, hp]
   rw [hs]
   by_cases hf : k = 1 ∨ k = 9 ∨ k = 10
   ·rw [if_pos hf, if_pos hf]
    subst hp
    rw [addRef_first R p.2 p.1 h0 ((first_slot _).2 hf)]
    cases R p.2.slot <;> simp
   ·rw [if_neg hf, if_neg hf]
    subst hp
    rw [addRef_last R p.2 p.1 h0 (by rw [Bool.eq_false_iff]; exact fun e => hf ((first_slot _).1 e))]
    rw [List.getLast?_cons]
    cases (selS p.2.slot r).getLast? <;> simp
  ·have hs : selS k (p :: r) = selS k r := by simp [selS, hp]
   rw [hs, addRef_other R p.2 p.1 k hp]
theorem refsOf_one {hk : List (Nat × SH)} {k : Nat} (h0 : k ≠ 0) {L : List SH} (hL : hk.map (·.2) = L) {s : SH} (hs : L.filter (fun h => h.slot == k) = [s]) : ∃ g, refsOf hk k = some g ∧ (g, s) ∈ hk := by
 have h1 : (selS k hk).map (·.2) = [s] := by
  rw [← hs, ← hL, List.filter_map]
  rfl
 obtain ⟨p, h2⟩ : ∃ p, selS k hk = [p] := by
  cases h : selS k hk with
  | nil => rw [h] at h1; simp at h1
  | cons a r =>
   rw [h] at h1
   cases r with
   | nil => exact ⟨a, rfl⟩
   | cons b c => simp at h1
 rw [h2] at h1
 obtain ⟨g, x⟩ := p
 simp only [List.map_cons, List.map_nil, List.cons.injEq, and_true] at h1
 subst h1
 refine ⟨g, ?_, ?_⟩
 ·unfold refsOf
  rw [foldRef k h0, h2]
  simp
 ·have h3 : (g, x) ∈ selS k hk := by rw [h2]; simp
  exact (List.mem_filter.1 h3).1
def slotT (t : Int) : Nat := if t = 1 then 3 else if t = 2 then 2 else if t = 3 then 5 else if t = 9 then 1 else if t = 11 then 9 else if t = 12 then 10 else if t = 4 then 4 else if t = 5 then 6 else if t = 6 then 11 else if t = 8 then 7 else if t = 10 then 8 else 0
theorem hdrS_slot (h : LHead) : (hdrS h).slot = slotT h.t := by
 by_cases e1 : h.t = 1
 ·simp [hdrS, slotT, e1, SH.slot]
 by_cases e2 : h.t = 2
 ·simp [hdrS, slotT, e2, SH.slot]
 by_cases e3 : h.t = 3
 ·simp [hdrS, slotT, e3, SH.slot]
 by_cases e9 : h.t = 9
 ·simp [hdrS, slotT, e9, SH.slot]
 by_cases e11 : h.t = 11
 ·simp [hdrS, slotT, e11, SH.slot]
 by_cases e12 : h.t = 12
 ·simp [hdrS, slotT, e12, SH.slot]
 by_cases e13 : h.t = 13
 ·simp [hdrS, slotT, e13, SH.slot]
 by_cases e14 : h.t = 14
 ·simp [hdrS, slotT, e14, SH.slot]
 by_cases e4 : h.t = 4
 ·simp [hdrS, slotT, e4, SH.slot]
 by_cases e5 : h.t = 5
 ·simp [hdrS, slotT, e5, SH.slot]
 by_cases e6 : h.t = 6
 ·simp [hdrS, slotT, e6, SH.slot]
 by_cases e7 : h.t = 7
 ·simp [hdrS, slotT, e7, SH.slot]
 by_cases e8 : h.t = 8
 ·simp [hdrS, slotT, e8, SH.slot]
 by_cases e10 : h.t = 10
 ·simp [hdrS, slotT, e10, SH.slot]
 simp [hdrS, slotT, SH.slot, e1, e2, e3, e9, e11, e12, e13, e14, e4, e5, e6, e7, e8, e10]
theorem mref_cell {n0 m : Nat} {T : TypeId} {hs : List (Nat × SH)} {R : Nat → Option Nat} {X : List Value} {w : World} (hM : MRep n0 w m T hs R X) (j : Nat) (h1 : 1 ≤ j) (h2 : j ≤ 11) : w.cell? ⟨m, j, none⟩ = some (refV (R j)) := by
 obtain ⟨v, _, hb, _, _⟩ := hM.at_
 rw [blk_cell hb]
 rcases (show j = 1 ∨ j = 2 ∨ j = 3 ∨ j = 4 ∨ j = 5 ∨ j = 6 ∨ j = 7 ∨ j = 8 ∨ j = 9 ∨ j = 10 ∨ j = 11 by omega) with rfl | rfl | rfl | rfl | rfl | rfl | rfl | rfl | rfl | rfl | rfl <;> rfl
theorem getfrom_any (m g : Nat) (w : World) (h : w.cell? ⟨m, 2, none⟩ = some (refV (some g))) : Calls Tryz.prog 202 #[.pointer (some ⟨m, 0, none⟩)] w fun e w' => e = .returned (.pointer (some ⟨g, 0, none⟩)) ∧ w = w' := by
 simp only [refV, Option.map_some] at h
 go_enter Tryz.func202, Tryz.ntmps202
 go_wp2
 go_ret
 exact ⟨rfl, rfl⟩
theorem getto_any (m g : Nat) (w : World) (h : w.cell? ⟨m, 3, none⟩ = some (refV (some g))) : Calls Tryz.prog 221 #[.pointer (some ⟨m, 0, none⟩)] w fun e w' => e = .returned (.pointer (some ⟨g, 0, none⟩)) ∧ w = w' := by
 simp only [refV, Option.map_some] at h
 go_enter Tryz.func221, Tryz.ntmps221
 go_wp2
 go_ret
 exact ⟨rfl, rfl⟩
theorem getcallid_any (m g : Nat) (w : World) (h : w.cell? ⟨m, 4, none⟩ = some (refV (some g))) : Calls Tryz.prog 197 #[.pointer (some ⟨m, 0, none⟩)] w fun e w' => e = .returned (.pointer (some ⟨g, 0, none⟩)) ∧ w = w' := by
 simp only [refV, Option.map_some] at h
 go_enter Tryz.func197, Tryz.ntmps197
 go_wp2
 go_ret
 exact ⟨rfl, rfl⟩
def kvGet (l : KVs) (k : Bytes) : Option ByteArray := (l.find? fun p => p.1.data.toList == k).map (·.2)
def GetPost (r : Option ByteArray) (w : World) (e : Ending) (w' : World) : Prop := e = .returned (.tuple #[.string (r.getD ⟨#[]⟩), .bool r.isSome]) ∧ Below w.heap.size w w'
theorem kv_drop {hs : KVs} {nm : Bytes} {k : Nat} (h : ∀ i p, hs[i]? = some p → i < k → (p.1.data.toList == nm) = false) : (hs.find? fun p => p.1.data.toList == nm) = (hs.drop k).find? fun p => p.1.data.toList == nm := by
 induction k generalizing hs with
 | zero => simp
 | succ k ih =>
  cases hs with
  | nil => simp
  | cons a r =>
   have h0 := h 0 a rfl (by omega)
   rw [List.find?_cons_of_neg (p := fun p : ByteArray × ByteArray => p.1.data.toList == nm) (a := a) (by simp [h0]), List.drop_succ_cons]
   exact ih (fun i p hi hk => h (i + 1) p (by simpa using hi) (by omega))
theorem kv_hit {l : KVs} {nm : Bytes} {k : Nat} {p : ByteArray × ByteArray} (h : ∀ i p, l[i]? = some p → i < k → (p.1.data.toList == nm) = false) (hp : l[k]? = some p) (e : p.1.data.toList = nm) : kvGet l nm = some p.2 := by
 obtain ⟨hk, rfl⟩ := List.getElem?_eq_some_iff.1 hp
 unfold kvGet
 rw [kv_drop h, List.drop_eq_getElem_cons hk, List.find?_cons_of_pos (p := fun p : ByteArray × ByteArray => p.1.data.toList == nm) (a := l[k]) (beq_iff_eq.2 e)]
 rfl
theorem kv_miss {l : KVs} {nm : Bytes} {k : Nat} (h : ∀ i p, l[i]? = some p → i < k → (p.1.data.toList == nm) = false) (hk : l.length ≤ k) : kvGet l nm = none := by
 unfold kvGet
 rw [kv_drop h, List.drop_eq_nil_of_le hk]
 rfl
theorem PRep.elems {w : World} {v : Value} {l : KVs} (hr : PRep w v l) : ∃ A cap, v = .slice A l.length cap ∧ l.length ≤ 9223372036854775807 ∧ ∀ (k : Nat) (p : ByteArray × ByteArray), l[k]? = some p → ∃ g, A = some ⟨g, 0, none⟩ ∧ w.cell? ⟨g, k * 2, none⟩ = some (.string p.1) ∧ w.cell? ⟨g, k * 2 + 1, none⟩ = some (.string p.2) := by
 rcases hr with ⟨rfl, rfl⟩ | ⟨g, cap, cs, rfl, h2, h2', h3, h4⟩
 ·exact ⟨none, 0, rfl, by simp, fun k p h => by simp at h⟩
 ·refine ⟨some ⟨g, 0, none⟩, cap, rfl, by omega, fun k p hk => ⟨g, rfl, ?_, ?_⟩⟩
  ·obtain ⟨hlt, rfl⟩ := List.getElem?_eq_some_iff.1 hk
   obtain ⟨p1, p2⟩ := h4 k hlt
   simp [World.cell?, h3, p1]
  ·obtain ⟨hlt, rfl⟩ := List.getElem?_eq_some_iff.1 hk
   obtain ⟨p1, p2⟩ := h4 k hlt
   simp [World.cell?, h3, p2]
theorem get_any (v : Value) (l : KVs) (key : ByteArray) (w : World) (hr : PRep w v l) : Calls Tryz.prog 85 #[v, .string key] w (GetPost (kvGet l key.data.toList) w) := by
 obtain ⟨A, cap, rfl, hm, h4⟩ := hr.elems
 have H4 := hid h4
 clear h4 hr
 go_enter Tryz.func85, Tryz.ntmps85
 go_wp2_with fail
 go_loopw [10] (fun i wr => ∃ k : Nat, k ≤ l.length ∧ i = .int .i64 k ∧ (∀ j p, l[j]? = some p → j < k → (p.1.data.toList == key.data.toList) = false) ∧ Below w.heap.size w wr) (fun i _ => l.length - (intOf i).toNat)
 case atStart => exact ⟨0, Nat.zero_le _, rfl, fun j _ _ h => absurd h (by omega), Below.refl _ _⟩
 case round =>
  obtain ⟨k, hk, rfl, hno, hb⟩ := hrel
  obtain ⟨wo, rfl⟩ : ∃ wo : World, wo = wr := ⟨_, rfl⟩
  have HNO := hid hno
  have HB := hid hb
  clear hno hb
  by_cases hlt : k < l.length
  ·obtain ⟨⟨pk, pv⟩, hp⟩ : ∃ p, l[k]? = some p := ⟨_, List.getElem?_eq_getElem hlt⟩
   obtain ⟨g, rfl, d1, d2⟩ := H4.out k _ hp
   have c1 := cell_at_below d1 HB.out
   have c2 := cell_at_below d2 HB.out
   have HP := hid hp
   have HB1 := hid (HB.out.alloc HB.out.size (.cells #[.string pk, .string pv] 177))
   have HLT := hid (Nat.succ_le_of_lt hlt)
   have hk1 : (k : Int) < l.length := by omega
   have hk0 : (0 : Int) ≤ k := by omega
   clear d1 d2 hp hlt hk
   by_cases hm : pk.data.toList = key.data.toList
   ·have hte : (pk.toList == key.toList) = true := by rw [ba_list, ba_list]; exact beq_iff_eq.2 hm
    have HM := hid hm
    clear hm
    go_wp2
    go_ret2
    refine ⟨?_, HB1.out⟩
    rw [kv_hit HNO.out HP.out HM.out]
    rfl
   ·have hte : (pk.toList == key.toList) = false := by rw [ba_list, ba_list]; exact beq_eq_false_iff_ne.2 hm
    have HM := hid hm
    clear hm
    go_wp2
    go_roundw
    case rel =>
     refine ⟨k + 1, HLT.out, by simp, fun j p hj hjk => ?_, HB1.out⟩
     by_cases hjl : j < k
     ·exact HNO.out j p hj hjl
     ·obtain rfl : j = k := by omega
      rw [HP.out] at hj
      cases hj
      exact beq_eq_false_iff_ne.2 HM.out
    case measure => exact meas_step HLT.out (by simp)
  ·have HNL := hid hlt
   have hk1 : ¬ (k : Int) < l.length := by omega
   clear hlt hk
   go_wp2
   go_ret2
   refine ⟨?_, HB.out⟩
   rw [kv_miss HNO.out (by have := HNL.out; omega)]
   rfl
def magicB : Bytes := [122, 57, 104, 71, 52, 98, 75]
def branchB : Bytes := [98, 114, 97, 110, 99, 104]
def GoodBr (br : ByteArray) : Prop := Lib.hasPrefix br.data.toList magicB = true ∧ 7 < br.size
def IsMsgT (T : TypeId) : Prop := T = 80 ∨ T = 78
theorem na_to {T : TypeId} (hT : IsMsgT T) (a : Addr) (w : World) : (nilAhead 454 T (.pointer (some a)) "To").run Tryz.prog w = .ok (some false) w := by
 rcases hT with rfl | rfl <;> kernel_rfl
theorem me_to {T : TypeId} (hT : IsMsgT T) (m : Nat) (w : World) : (method 454 T (.pointer (some ⟨m, 0, none⟩)) "To").run Tryz.prog w = .ok (221, .pointer (some ⟨m, 0, none⟩)) w := by
 rcases hT with rfl | rfl <;> kernel_rfl
theorem na_from {T : TypeId} (hT : IsMsgT T) (a : Addr) (w : World) : (nilAhead 454 T (.pointer (some a)) "From").run Tryz.prog w = .ok (some false) w := by
 rcases hT with rfl | rfl <;> kernel_rfl
theorem me_from {T : TypeId} (hT : IsMsgT T) (m : Nat) (w : World) : (method 454 T (.pointer (some ⟨m, 0, none⟩)) "From").run Tryz.prog w = .ok (202, .pointer (some ⟨m, 0, none⟩)) w := by
 rcases hT with rfl | rfl <;> kernel_rfl
theorem na_callid {T : TypeId} (hT : IsMsgT T) (a : Addr) (w : World) : (nilAhead 454 T (.pointer (some a)) "CallID").run Tryz.prog w = .ok (some false) w := by
 rcases hT with rfl | rfl <;> kernel_rfl
theorem me_callid {T : TypeId} (hT : IsMsgT T) (m : Nat) (w : World) : (method 454 T (.pointer (some ⟨m, 0, none⟩)) "CallID").run Tryz.prog w = .ok (197, .pointer (some ⟨m, 0, none⟩)) w := by
 rcases hT with rfl | rfl <;> kernel_rfl
theorem hdrS_plain (h : LHead) (ht : 0 ≤ h.t ∧ h.t ≤ 14) : hdrS (plainH h) = hdrS h := by
 obtain ⟨t, name, text, display, u, params, num, proto, version, transport, host, port⟩ := h
 dsimp only at ht
 have hc : t = 0 ∨ t = 1 ∨ t = 2 ∨ t = 3 ∨ t = 4 ∨ t = 5 ∨ t = 6 ∨ t = 7 ∨ t = 8 ∨ t = 9 ∨ t = 10 ∨ t = 11 ∨ t = 12 ∨ t = 13 ∨ t = 14 := by omega
 rcases hc with rfl | rfl | rfl | rfl | rfl | rfl | rfl | rfl | rfl | rfl | rfl | rfl | rfl | rfl | rfl <;> rfl
theorem plain_bd {h : LHead} (H : HMs h) : HBd2 (plainH h) ∧ HOkU (plainH h) := by
 have e0 : UBd emptyU := ⟨by decide, by decide, by decide, by decide⟩
 obtain ⟨⟨b1, b2⟩, hu, -, -, -, -, -⟩ := H
 unfold HOkU at hu ⊢
 rw [plainH_t]
 unfold plainH
 by_cases h0 : h.t = 0
 ·rw [if_pos h0]
  exact ⟨⟨e0, by show (0 : Nat) ≤ _; omega⟩, fun _ => rfl⟩
 rw [if_neg h0]
 by_cases h1 : addrB h.t = true
 ·rw [if_pos h1]
  exact ⟨⟨b1, b2⟩, hu⟩
 rw [if_neg h1]
 by_cases h2 : routB h.t = true
 ·rw [if_pos h2]
  exact ⟨⟨b1, by show (0 : Nat) ≤ _; omega⟩, hu⟩
 rw [if_neg h2]
 refine ⟨?_, fun h3 => by rcases h3 with h3 | h3 <;> contradiction⟩
 repeat' split
 all_goals first | exact ⟨e0, by show (0 : Nat) ≤ _; omega⟩ | exact ⟨e0, b2⟩
theorem HMs.plain {h : LHead} (H : HMs h) : HMs (plainH h) := by
 have e := hdrS_plain h H.t
 obtain ⟨k1, k2⟩ := plain_bd H
 exact ⟨k1, k2, by rw [plainH_t]; exact H.t, by rw [e]; exact H.ok, by rw [e]; exact H.n7, by rw [e]; exact H.nm, by rw [e]; exact H.cl⟩
theorem first_of {l : List LHead} {t : Int} (h : countT t l = 1) : ∃ x, l.filter (isT t) = [x] ∧ x ∈ l ∧ x.t = t ∧ firstH t l = plainH x := by
 unfold countT at h
 cases hf : l.filter (isT t) with
 | nil => rw [hf] at h; simp at h
 | cons a r =>
  rw [hf] at h
  have hr : r = [] := List.eq_nil_of_length_eq_zero (by simpa using h)
  subst hr
  have h1 : a ∈ l.filter (isT t) := by rw [hf]; simp
  have h2 := (List.mem_filter.1 h1)
  refine ⟨a, rfl, h2.1, by simpa [isT] using h2.2, ?_⟩
  unfold firstH
  rw [← List.head?_filter, hf]
  rfl
theorem filt_chg (t : Int) (h : LHead) : ∀ (l : List LHead), (l.map fun x => chgH x h).filter (isT t) = if t = h.t then (l.filter (isT t)).map (fun _ => h) else l.filter (isT t)
 | [] => by simp
 | x :: r => by
  rw [List.map_cons]
  have ih := filt_chg t h r
  by_cases hx : x.t = h.t
  ·have e : chgH x h = h := by unfold chgH; rw [if_pos hx]
   rw [e]
   by_cases ht : t = h.t
   ·subst ht
    rw [if_pos rfl] at ih ⊢
    rw [List.filter_cons_of_pos (by simp [isT]), List.filter_cons_of_pos (by simp [isT, hx]), List.map_cons, ih]
   ·rw [if_neg ht] at ih ⊢
    rw [List.filter_cons_of_neg (by simpa [isT] using Ne.symm ht), List.filter_cons_of_neg (by simpa [isT, hx] using Ne.symm ht), ih]
  ·have e : chgH x h = x := by unfold chgH; rw [if_neg hx]
   rw [e]
   by_cases ht : t = h.t
   ·rw [if_pos ht] at ih ⊢
    rw [List.filter_cons_of_neg (by simpa [isT, ht] using hx), List.filter_cons_of_neg (by simpa [isT, ht] using hx), ih]
   ·rw [if_neg ht] at ih ⊢
    by_cases hxt : isT t x = true
    ·rw [List.filter_cons_of_pos hxt, List.filter_cons_of_pos hxt, ih]
    ·rw [List.filter_cons_of_neg hxt, List.filter_cons_of_neg hxt, ih]
theorem filt_in {m : LMsg} {t : Int} {h x : LHead} (hf : m.heads.filter (isT t) = [x]) (ht : h.t = t) : (chgM m h).heads.filter (isT t) = [h] := by
 show (m.heads.map fun x => chgH x h).filter (isT t) = _
 rw [filt_chg, if_pos ht.symm, hf]
 rfl
theorem filt_out {m : LMsg} {t : Int} {h x : LHead} (hf : m.heads.filter (isT t) = [x]) (ht : t ≠ h.t) : (chgM m h).heads.filter (isT t) = [x] := by
 show (m.heads.map fun x => chgH x h).filter (isT t) = _
 rw [filt_chg, if_neg ht, hf]
theorem chg_all {P : LHead → Prop} {l : List LHead} {h : LHead} (h1 : ∀ x ∈ l, P x) (h2 : P h) : ∀ x ∈ l.map (fun x => chgH x h), P x := by
 intro x hx
 obtain ⟨y, hy, rfl⟩ := List.mem_map.1 hx
 unfold chgH
 split
 ·exact h2
 ·exact h1 y hy
theorem get_param (l : BKVs) (k : Bytes) : kvGet (strKVs l) k = ((l.find? fun p => p.1 == k).map (·.2)).map bs := by
 unfold kvGet strKVs
 rw [List.find?_map, Option.map_map, Option.map_map]
 rfl
theorem find_setK (l : BKVs) (k v : Bytes) (h : (l.find? fun p => p.1 == k).isSome = true) : (((l.map (setK k v)).find? fun p => p.1 == k).map (·.2)) = some v := by
 induction l with
 | nil => simp at h
 | cons p r ih =>
  rw [List.map_cons]
  by_cases hp : p.1 = k
  ·have e : setK k v p = (p.1, v) := by unfold setK; rw [if_pos hp]
   rw [e, List.find?_cons_of_pos (by simp [hp])]
   rfl
  ·have e : setK k v p = p := by unfold setK; rw [if_neg hp]
   rw [e, List.find?_cons_of_neg (by simpa using hp)]
   rw [List.find?_cons_of_neg (by simpa using hp)] at h
   exact ih h
theorem find_of_len {l : BKVs} {k : Bytes} (h : 0 < (paramV l k).length) : (l.find? fun p => p.1 == k).isSome = true ∧ (l.find? fun p => p.1 == k).map (·.2) = some (paramV l k) := by
 unfold paramV at h ⊢
 cases e : l.find? fun p => p.1 == k with
 | none => rw [e] at h; simp at h
 | some p => exact ⟨rfl, rfl⟩
theorem slot_iff2 (t : Int) : slotT t = 2 ↔ t = 2 := by
 constructor
 ·intro h
  by_cases e1 : t = 1
  ·first | exact e1 | (subst e1; exact absurd h (by decide))
  by_cases e2 : t = 2
  ·first | exact e2 | (subst e2; exact absurd h (by decide))
  by_cases e3 : t = 3
  ·first | exact e3 | (subst e3; exact absurd h (by decide))
  by_cases e9 : t = 9
  ·first | exact e9 | (subst e9; exact absurd h (by decide))
  by_cases e11 : t = 11
  ·first | exact e11 | (subst e11; exact absurd h (by decide))
  by_cases e12 : t = 12
  ·first | exact e12 | (subst e12; exact absurd h (by decide))
  by_cases e4 : t = 4
  ·first | exact e4 | (subst e4; exact absurd h (by decide))
  by_cases e5 : t = 5
  ·first | exact e5 | (subst e5; exact absurd h (by decide))
  by_cases e6 : t = 6
  ·first | exact e6 | (subst e6; exact absurd h (by decide))
  by_cases e8 : t = 8
  ·first | exact e8 | (subst e8; exact absurd h (by decide))
  by_cases e10 : t = 10
  ·first | exact e10 | (subst e10; exact absurd h (by decide))
  simp only [slotT, e1, e2, e3, e9, e11, e12, e4, e5, e6, e8, e10, if_false] at h
  exact absurd h (by decide)
 ·rintro rfl
  rfl
theorem slot_iff3 (t : Int) : slotT t = 3 ↔ t = 1 := by
 constructor
 ·intro h
  by_cases e1 : t = 1
  ·first | exact e1 | (subst e1; exact absurd h (by decide))
  by_cases e2 : t = 2
  ·first | exact e2 | (subst e2; exact absurd h (by decide))
  by_cases e3 : t = 3
  ·first | exact e3 | (subst e3; exact absurd h (by decide))
  by_cases e9 : t = 9
  ·first | exact e9 | (subst e9; exact absurd h (by decide))
  by_cases e11 : t = 11
  ·first | exact e11 | (subst e11; exact absurd h (by decide))
  by_cases e12 : t = 12
  ·first | exact e12 | (subst e12; exact absurd h (by decide))
  by_cases e4 : t = 4
  ·first | exact e4 | (subst e4; exact absurd h (by decide))
  by_cases e5 : t = 5
  ·first | exact e5 | (subst e5; exact absurd h (by decide))
  by_cases e6 : t = 6
  ·first | exact e6 | (subst e6; exact absurd h (by decide))
  by_cases e8 : t = 8
  ·first | exact e8 | (subst e8; exact absurd h (by decide))
  by_cases e10 : t = 10
  ·first | exact e10 | (subst e10; exact absurd h (by decide))
  simp only [slotT, e1, e2, e3, e9, e11, e12, e4, e5, e6, e8, e10, if_false] at h
  exact absurd h (by decide)
 ·rintro rfl
  rfl
theorem slot_iff4 (t : Int) : slotT t = 4 ↔ t = 4 := by
 constructor
 ·intro h
  by_cases e1 : t = 1
  ·first | exact e1 | (subst e1; exact absurd h (by decide))
  by_cases e2 : t = 2
  ·first | exact e2 | (subst e2; exact absurd h (by decide))
  by_cases e3 : t = 3
  ·first | exact e3 | (subst e3; exact absurd h (by decide))
  by_cases e9 : t = 9
  ·first | exact e9 | (subst e9; exact absurd h (by decide))
  by_cases e11 : t = 11
  ·first | exact e11 | (subst e11; exact absurd h (by decide))
  by_cases e12 : t = 12
  ·first | exact e12 | (subst e12; exact absurd h (by decide))
  by_cases e4 : t = 4
  ·first | exact e4 | (subst e4; exact absurd h (by decide))
  by_cases e5 : t = 5
  ·first | exact e5 | (subst e5; exact absurd h (by decide))
  by_cases e6 : t = 6
  ·first | exact e6 | (subst e6; exact absurd h (by decide))
  by_cases e8 : t = 8
  ·first | exact e8 | (subst e8; exact absurd h (by decide))
  by_cases e10 : t = 10
  ·first | exact e10 | (subst e10; exact absurd h (by decide))
  simp only [slotT, e1, e2, e3, e9, e11, e12, e4, e5, e6, e8, e10, if_false] at h
  exact absurd h (by decide)
 ·rintro rfl
  rfl
theorem isT_of {k : Nat} {t : Int} (h : ∀ x, slotT x = k ↔ x = t) (x : LHead) : ((hdrS x).slot == k) = isT t x := by
 rw [hdrS_slot, Bool.eq_iff_iff, beq_iff_eq, h]
 unfold isT
 rw [beq_iff_eq]
theorem isT_from (x : LHead) : ((hdrS x).slot == 2) = isT 2 x := isT_of slot_iff2 x
theorem isT_to (x : LHead) : ((hdrS x).slot == 3) = isT 1 x := isT_of slot_iff3 x
theorem isT_callid (x : LHead) : ((hdrS x).slot == 4) = isT 4 x := isT_of slot_iff4 x
theorem filt_slot (k : Nat) (t : Int) (hk : k ≠ 7) (ht : ∀ h, ((hdrS h).slot == k) = isT t h) (l : List LHead) (n : Nat) : (l.map hdrS ++ [SH.clen n]).filter (fun h => h.slot == k) = (l.filter (isT t)).map hdrS := by
 rw [List.filter_append, List.filter_map]
 have h1 : ([SH.clen n].filter fun h => h.slot == k) = [] := by
  have : (7 == k) = false := by simpa using Ne.symm hk
  simp [SH.slot, this]
 rw [h1, List.append_nil]
 congr 1
 exact List.filter_congr fun h _ => ht h
theorem ref_of {n0 m : Nat} {T : TypeId} {hs : List (Nat × SH)} {X : List Value} {w : World} (hM : MRep n0 w m T hs (refsOf hs) X) {l : List LHead} {n : Nat} (hmap : hs.map (·.2) = l.map hdrS ++ [SH.clen n]) (k : Nat) (t : Int) (h1 : 1 ≤ k) (h11 : k ≤ 11) (h7 : k ≠ 7) (ht : ∀ h, ((hdrS h).slot == k) = isT t h) (x : LHead) (hx : l.filter (isT t) = [x]) :
  ∃ g, w.cell? ⟨m, k, none⟩ = some (refV (some g)) ∧ (hdrS x).rep w g := by
 obtain ⟨g, e1, e2⟩ := refsOf_one (k := k) (by omega) hmap (s := hdrS x) (by rw [filt_slot k t h7 ht, hx]; rfl)
 have h2 := mref_cell hM k h1 h11
 rw [e1] at h2
 exact ⟨g, h2, hM.reps _ e2⟩
theorem filt_t {l : List LHead} {t : Int} {x : LHead} (h : l.filter (isT t) = [x]) : x.t = t := by
 have h1 : x ∈ l.filter (isT t) := by rw [h]; simp
 simpa [isT] using (List.mem_filter.1 h1).2
theorem hdr_callid {x : LHead} (h : x.t = 4) : hdrS x = .callid (bs x.text) := by unfold hdrS; simp [h]
theorem hdr_to {x : LHead} (h : x.t = 1) : hdrS x = .to_ (bs x.display) (toS x.uri) (strKVs x.params) := by unfold hdrS; simp [h]
theorem hdr_from {x : LHead} (h : x.t = 2) : hdrS x = .from_ (bs x.display) (toS x.uri) (strKVs x.params) := by unfold hdrS; simp [h]
def mtyI (m : LMsg) : TypeId := if m.resp then 78 else 80
structure KMsg (N : Nat) (m : LMsg) (cs : List Value) (w : World) : Prop where
 at_ : LM w m cs
 hasBody : m.hasBody = true
 compact : m.compact = false
 version : m.version = sip20B
 len : m.reason.length ≤ 70368744177664 ∧ m.method.length ≤ 70368744177664
 body : m.body.length < 4294967296
 many : m.heads.length ≤ 1000
 heads : ∀ h ∈ m.heads, HMs h
 uri : m.resp = false → UBd m.uri ∧ m.uri.raw = []
theorem KMsg.below {N : Nat} {m : LMsg} {cs : List Value} {w w' : World} (h : KMsg N m cs w) (hb : Below w.heap.size w w') : KMsg N m cs w' := ⟨h.at_.below hb, h.hasBody, h.compact, h.version, h.len, h.body, h.many, h.heads, h.uri⟩
theorem KMsg.message {N : Nat} {m : LMsg} {cs : List Value} {w : World} (h : KMsg N m cs w) (hG : Gl N w) : Calls Tryz.prog 38 #[.agg cs.toArray] w (MPostR m w) := by
 obtain ⟨h1, h2, h3, h4, h5, h6, h7, h8, h9⟩ := h
 obtain ⟨resp, method, u, code, reason, version, heads, body, hasBody, compact⟩ := m
 dsimp only at h2 h3 h4 h5 h6 h7 h8 h9
 subst h2 h3 h4
 cases resp with
 | true => exact message_resR N method u code reason heads body cs w hG h1 h5 h6 h7 h8
 | false => exact message_reqR N method u code reason heads body cs w hG h1 h5 h6 h7 h8 (h9 rfl)
def IKey (s : Bytes) (w : World) (e : Ending) (w' : World) : Prop := ∃ v, e = .returned (.tuple #[v, .bool true]) ∧ SBu w' v s ∧ Below w.heap.size w w'
theorem HB.ck {N : Nat} {w w' : World} {g : Nat} {t : TypeId} {cs : Array Value} (h : HB w g t cs) (k : CK N w w') : HB w' g t cs := ⟨k.same h.1 h.2.1, h.2⟩
theorem ViaAt.ck {N : Nat} {w w' : World} {g : Nat} {v : SVia} (h : ViaAt w g v) (k : CK N w w') : ViaAt w' g v := by
 obtain ⟨cs, h1, c0, c1, c2, c3, c4, vp, c5, h5⟩ := h
 exact ⟨cs, h1.ck k, c0, c1, c2, c3, c4, vp, c5, h5.ck k⟩
def VCAt (m : LMsg) (sv : SVia) (num : Int) (meth : ByteArray) (v : Value) (w : World) : Prop := ∃ mm g9 g5, v = .iface (mtyI m) (.pointer (some ⟨mm, 0, none⟩)) ∧ w.cell? ⟨mm, 1, none⟩ = some (refV (some g9)) ∧ w.cell? ⟨mm, 6, none⟩ = some (refV (some g5)) ∧ ViaAt w g9 sv ∧ HB w g5 138 #[.int .u32 num, .string meth]
theorem VCAt.ck {N : Nat} {m : LMsg} {sv : SVia} {num : Int} {meth : ByteArray} {v : Value} {w w' : World} (h : VCAt m sv num meth v w) (k : CK N w w') : VCAt m sv num meth v w' := by
 obtain ⟨mm, g9, g5, h1, h2, h3, h4, h5⟩ := h
 exact ⟨mm, g9, g5, h1, k.cell h2, k.cell h3, h4.ck k, h5.ck k⟩
def joinS (a b c : ByteArray) : Bytes := a.data.toList ++ [95, 95] ++ b.data.toList ++ [95, 95] ++ c.data.toList
def sum3 (a b c : ByteArray) (k : Nat) : Int := match k with | 0 => 4 | 1 => 4 + a.size | 2 => 4 + a.size + b.size | _ => 4 + a.size + b.size + c.size
def txt3 (a b c : ByteArray) (k : Nat) : Bytes := match k with | 0 => a.data.toList | 1 => a.data.toList ++ [95, 95] ++ b.data.toList | _ => joinS a b c
theorem join3_any (a b c : ByteArray) (g : Nat) (fz : Nat × Nat) (w : World) (hg : w.heap[g]? = some (.cells #[.string a, .string b, .string c] 9 fz)) (hl : a.size ≤ 1073741824 ∧ b.size ≤ 1073741824 ∧ c.size ≤ 1073741824) :
  Calls Tryz.prog 91 #[.slice (some ⟨g, 0, none⟩) 3 3, .string ⟨#[95, 95]⟩] w fun e w' => e = .returned (.string ⟨(joinS a b c).toArray⟩) ∧ Below w.heap.size w w' := by
 have HG := hid (show ∀ wx, Below w.heap.size w wx → wx.heap[g]? = some (.cells #[.string a, .string b, .string c] 9 fz) from fun wx h => by rw [h.block _ (heap_lt hg)]; exact hg)
 have HL := hid hl
 have ha : (a.size : Int) ≤ 1073741824 := by omega
 have hb : (b.size : Int) ≤ 1073741824 := by omega
 have hc : (c.size : Int) ≤ 1073741824 := by omega
 have HB0 := hid (Below.refl w.heap.size w)
 clear hg hl
 go_enter Tryz.func91, Tryz.ntmps91
 go_wp2_with fail
 go_loopw [5, 41] (fun n i wr => ∃ k : Nat, k ≤ 3 ∧ i = .int .i64 k ∧ n = .int .i64 (sum3 a b c k) ∧ Below w.heap.size w wr) (fun _ i _ => 3 - (intOf i).toNat)
 case atStart => exact ⟨0, by omega, rfl, rfl, HB0.out⟩
 case round =>
  obtain ⟨k, hk, rfl, rfl, hbw⟩ := hrel
  have HBR := hid hbw
  have hk3 : k = 0 ∨ k = 1 ∨ k = 2 ∨ k = 3 := by omega
  have cc := HG.out _ hbw
  clear hbw
  have c0 := row_at (l := [.string a, .string b, .string c]) cc 0 _ rfl
  have c1 := row_at (l := [.string a, .string b, .string c]) cc 1 _ rfl
  have c2 := row_at (l := [.string a, .string b, .string c]) cc 2 _ rfl
  clear cc
  rcases hk3 with rfl | rfl | rfl | rfl
  ·simp only [sum3]
   go_wp2_with fail
   go_roundw
   case rel => exact ⟨1, by omega, rfl, by simp [sum3], HBR.out⟩
   case measure => first | decide | (simp [intOf])
  ·simp only [sum3]
   go_wp2_with fail
   go_roundw
   case rel => exact ⟨2, by omega, rfl, by simp [sum3], HBR.out⟩
   case measure => first | decide | (simp [intOf])
  ·simp only [sum3]
   go_wp2_with fail
   go_roundw
   case rel => exact ⟨3, by omega, rfl, by simp [sum3], HBR.out⟩
   case measure => first | decide | (simp [intOf])
  ·simp only [sum3]
   clear c0 c1 c2
   have hn : ((4 : Int) + a.size + b.size + c.size) = ((4 + a.size + b.size + c.size : Nat) : Int) := by omega
   rw [hn]
   clear hn
   obtain ⟨b0, hb0⟩ : ∃ b0, b0 = wr.heap.size := ⟨_, rfl⟩
   have HGR := hid (Tryz.Builder_Grow_fresh wr.heap.size wr.heap.size (4 + a.size + b.size + c.size) (wr.alloc (.cells #[.pointer none, .slice none 0 0] 148)) (Nat.le_refl _) (heap_alloc_new wr _) (by simp) (by have := HL.out; omega))
   have HWA := hid (show Below w.heap.size w (wr.alloc (.cells #[.pointer none, .slice none 0 0] 148)) from HBR.out.trans (((Below.refl _ wr).alloc (Nat.le_refl _) _).mono HBR.out.size))
   have HB1 := hid (show w.heap.size ≤ b0 by rw [hb0]; exact HBR.out.size)
   rw [← hb0] at HGR
   have HBB := hid hb0
   go_upto_region 20 with (go_at_call 88; rw [← HBB.out]; refine HGR.out.mono ?_; rintro e w1 ⟨rfl, hat, hbg⟩)
   have HW1 := hid (show BW b0 b0 [] w1 from .inr (Lib.BuilderAtF.of hat))
   have HBZ := hid (HWA.out.trans (hbg.mono HB1.out))
   have c0 := row_at (l := [.string a, .string b, .string c]) (HG.out _ HBZ.out) 0 _ rfl
   clear hat hbg HGR hb0
   have HWS := hid (ws_any b0 b0 [] a w1 HW1.out (by have := HL.out; simp; omega))
   go_upto_region 22 with (go_at_call 89; first | rw [← HBB.out] | skip; refine HWS.out.mono ?_; rintro e w2 ⟨rfl, hbw, hk⟩)
   have HW2 := hid (show BW b0 b0 (txt3 a b c 0) w2 from hbw)
   have HBY := hid (HBZ.out.trans (hk.1.mono HB1.out))
   clear hbw hk c0 HWS
   go_loopw [65] (fun i wz => ∃ k : Nat, k ≤ 2 ∧ i = .int .i64 k ∧ BW b0 b0 (txt3 a b c k) wz ∧ Below w.heap.size w wz) (fun i _ => 2 - (intOf i).toNat)
   case atStart => exact ⟨0, by omega, rfl, HW2.out, HBY.out⟩
   case round =>
    obtain ⟨k, hk, rfl, hbw, hbz⟩ := hrel
    have HW := hid hbw
    have HBQ := hid hbz
    have c1 := row_at (l := [.string a, .string b, .string c]) (HG.out _ hbz) 1 _ rfl
    have c2 := row_at (l := [.string a, .string b, .string c]) (HG.out _ hbz) 2 _ rfl
    have hk3 : k = 0 ∨ k = 1 ∨ k = 2 := by omega
    clear hbw hbz hk
    rcases hk3 with rfl | rfl | rfl
    ·have HS1 := hid (ws_any b0 b0 (txt3 a b c 0) ⟨#[95, 95]⟩ wr HW.out (by
      have := HL.out
      have e1 : a.data.toList.length = a.size := Array.length_toList
      have e2 : b.data.toList.length = b.size := Array.length_toList
      have e3 : (⟨#[95, 95]⟩ : ByteArray).size = 2 := rfl
      simp only [txt3, List.length_append, List.length_cons, List.length_nil]
      omega))
     go_upto_region 25 with (go_at_call 89; first | rw [← HBB.out] | skip; refine HS1.out.mono ?_; rintro e w3 ⟨rfl, hbw, hk⟩)
     have HW3 := hid (show BW b0 b0 (txt3 a b c 0 ++ [95, 95]) w3 from hbw)
     have HB3 := hid (HBQ.out.trans (hk.1.mono HB1.out))
     clear hbw hk HS1
     have HS2 := hid (ws_any b0 b0 _ b w3 HW3.out (by
      have := HL.out
      have e1 : a.data.toList.length = a.size := Array.length_toList
      have e2 : b.data.toList.length = b.size := Array.length_toList
      simp only [txt3, List.length_append, List.length_cons, List.length_nil]
      omega))
     go_wp2_with (go_at_call 89; first | rw [← HBB.out] | skip; refine HS2.out.mono ?_; rintro e w4 ⟨rfl, hbw, hk⟩)
     have HB4 := hid (HB3.out.trans (hk.1.mono HB1.out))
     have HW4 := hid hbw
     clear hbw hk HS2
     go_roundw
     case rel => exact ⟨1, by omega, rfl, HW4.out, HB4.out⟩
     case measure => first | decide | (simp [intOf])
    ·have HS1 := hid (ws_any b0 b0 (txt3 a b c 1) ⟨#[95, 95]⟩ wr HW.out (by
      have := HL.out
      have e1 : a.data.toList.length = a.size := Array.length_toList
      have e2 : b.data.toList.length = b.size := Array.length_toList
      have e3 : (⟨#[95, 95]⟩ : ByteArray).size = 2 := rfl
      simp only [txt3, List.length_append, List.length_cons, List.length_nil]
      omega))
     go_upto_region 25 with (go_at_call 89; first | rw [← HBB.out] | skip; refine HS1.out.mono ?_; rintro e w3 ⟨rfl, hbw, hk⟩)
     have HW3 := hid (show BW b0 b0 (txt3 a b c 1 ++ [95, 95]) w3 from hbw)
     have HB3 := hid (HBQ.out.trans (hk.1.mono HB1.out))
     clear hbw hk HS1
     have HS2 := hid (ws_any b0 b0 _ c w3 HW3.out (by
      have := HL.out
      have e1 : a.data.toList.length = a.size := Array.length_toList
      have e2 : b.data.toList.length = b.size := Array.length_toList
      simp only [txt3, List.length_append, List.length_cons, List.length_nil]
      omega))
     go_wp2_with (go_at_call 89; first | rw [← HBB.out] | skip; refine HS2.out.mono ?_; rintro e w4 ⟨rfl, hbw, hk⟩)
     have HB4 := hid (HB3.out.trans (hk.1.mono HB1.out))
     have HW4 := hid hbw
     clear hbw hk HS2
     go_roundw
     case rel => exact ⟨2, by omega, rfl, HW4.out, HB4.out⟩
     case measure => first | decide | (simp [intOf])
    ·clear c1 c2
     have HS1 := hid (bstr_any b0 b0 _ wr HW.out)
     go_wp2_with (go_at_call 84; first | rw [← HBB.out] | skip; refine HS1.out.mono ?_; rintro e w3 ⟨rfl, hbw, hk⟩)
     have HB3 := hid (HBQ.out.trans (hk.1.mono HB1.out))
     clear hbw hk
     go_ret
     exact ⟨rfl, HB3.out⟩
theorem dlgmake_any (a b c : ByteArray) (w : World) (hl : a.size ≤ 1073741824 ∧ b.size ≤ 1073741824 ∧ c.size ≤ 1073741824) :
  Calls Tryz.prog 65 #[.string a, .string b, .string c] w fun e w' => e = .returned (.string ⟨(joinS a b c).toArray⟩) ∧ Below w.heap.size w w' := by
 have HJ := hid (join3_any a b c w.heap.size (0, 0) (w.alloc (.cells #[.string a, .string b, .string c] 9)) (heap_alloc_new w _) hl)
 have HB0 := hid (show Below w.heap.size w (w.alloc (.cells #[.string a, .string b, .string c] 9)) from (Below.refl _ w).alloc (Nat.le_refl _) _)
 clear hl
 go_enter Tryz.func65, Tryz.ntmps65
 go_wp2_with (go_at_call 91; refine HJ.out.mono ?_; rintro e w1 ⟨rfl, hb⟩)
 have HB1 := hid (HB0.out.trans (hb.mono HB0.out.size))
 clear hb
 go_ret
 exact ⟨rfl, HB1.out⟩
def tagB : Bytes := [116, 97, 103]
structure DlgAt (m : Nat) (cid tt tf : ByteArray) (w : World) : Prop where
 ex : ∃ g2 g3 g4 df dt uf ut pf pt, w.cell? ⟨m, 2, none⟩ = some (refV (some g2)) ∧ w.cell? ⟨m, 3, none⟩ = some (refV (some g3)) ∧ w.cell? ⟨m, 4, none⟩ = some (refV (some g4)) ∧
  AddrAt 167 w g2 df uf pf ∧ AddrAt 165 w g3 dt ut pt ∧ HB w g4 136 #[.string cid] ∧ kvGet pf tagB = some tf ∧ kvGet pt tagB = some tt
theorem DlgAt.below {m : Nat} {cid tt tf : ByteArray} {w w' : World} (h : DlgAt m cid tt tf w) (hb : Below w.heap.size w w') : DlgAt m cid tt tf w' := by
 obtain ⟨g2, g3, g4, df, dt, uf, ut, pf, pt, h2, h3, h4, hf, ht, hc, e1, e2⟩ := h.ex
 exact ⟨g2, g3, g4, df, dt, uf, ut, pf, pt, cell_at_below h2 hb, cell_at_below h3 hb, cell_at_below h4 hb, hf.below hb, ht.below hb, hc.below hb, e1, e2⟩
theorem getdlg_any (T : TypeId) (hT : IsMsgT T) (m n0 p : Nat) (cid tt tf : ByteArray) (w : World) (hd : DlgAt m cid tt tf w) (hn : n0 ≤ p) (b1 : w.heap[p]? = some (.cells #[.string ⟨#[]⟩] 9 (0, 0))) (b2 : w.heap[p + 1]? = some (.cells #[.string ⟨#[]⟩] 9 (0, 0))) (b3 : w.heap[p + 2]? = some (.cells #[.string ⟨#[]⟩] 9 (0, 0))) :
  Calls Tryz.prog 64 #[.iface T (.pointer (some ⟨m, 0, none⟩)), .pointer (some ⟨p, 0, none⟩), .pointer (some ⟨p + 1, 0, none⟩), .pointer (some ⟨p + 2, 0, none⟩)] w fun e w' => e = .returned .nilIface ∧ Below n0 w w' ∧ w'.cell? ⟨p, 0, none⟩ = some (.string cid) ∧ w'.cell? ⟨p + 1, 0, none⟩ = some (.string tt) ∧ w'.cell? ⟨p + 2, 0, none⟩ = some (.string tf) := by
 obtain ⟨g2, g3, g4, df, dt, uf, ut, pf, pt, h2, h3, h4, hf, ht, hc, e1, e2⟩ := hd.ex
 have na2 := na_from hT
 have me2 := me_from hT
 have en2 := enters_of Tryz.func202 (by kernel_rfl) rfl
 have na3 := na_to hT
 have me3 := me_to hT
 have en3 := enters_of Tryz.func221 (by kernel_rfl) rfl
 have na4 := na_callid hT
 have me4 := me_callid hT
 have en4 := enters_of Tryz.func197 (by kernel_rfl) rfl
 have HC4 := hid (getcallid_any m g4 w h4)
 have HC3 := hid (getto_any m g3 w h3)
 have HC2 := hid (show ∀ wx, Below w.heap.size w wx → Calls Tryz.prog 202 #[.pointer (some ⟨m, 0, none⟩)] wx fun e w' => e = .returned (.pointer (some ⟨g2, 0, none⟩)) ∧ wx = w' from fun wx h => getfrom_any m g2 wx (cell_at_below h2 h))
 obtain ⟨-, -, vt, ct, hpt⟩ := ht.cells
 obtain ⟨-, -, vf, cf, hpf⟩ := hf.cells
 have HCF := hid cf
 have HG3 := hid (show Calls Tryz.prog 85 #[vt, .string ⟨#[116, 97, 103]⟩] w fun e w' => e = .returned (.tuple #[.string tt, .bool true]) ∧ Below w.heap.size w w' by
  have h := get_any vt pt ⟨#[116, 97, 103]⟩ w hpt
  rw [show kvGet pt (⟨#[116, 97, 103]⟩ : ByteArray).data.toList = some tt from e2] at h
  exact h)
 have HG2 := hid (show ∀ wx, Below w.heap.size w wx → Calls Tryz.prog 85 #[vf, .string ⟨#[116, 97, 103]⟩] wx fun e w' => e = .returned (.tuple #[.string tf, .bool true]) ∧ Below wx.heap.size wx w' by
  intro wx hx
  have h := get_any vf pf ⟨#[116, 97, 103]⟩ wx (hpf.below hx)
  rw [show kvGet pf (⟨#[116, 97, 103]⟩ : ByteArray).data.toList = some tf from e1] at h
  exact h)
 obtain ⟨At, ct', rfl⟩ := hpt.form
 obtain ⟨Af, cf', rfl⟩ := hpf.form
 have HCC := hid (hc.cell 0)
 have HBP := hid (And.intro b1 (And.intro b2 (And.intro b3 hn)))
 clear hd h2 h3 h4 hf ht hc e1 e2 hpt hpf b1 b2 b3 cf hn
 go_enter Tryz.func64, Tryz.ntmps64
 go_wp2_with fail
 refine HC4.out.mono ?_
 rintro e w1 ⟨rfl, rfl⟩
 go_wp2_with fail
 refine HC3.out.mono ?_
 rintro e w1 ⟨rfl, rfl⟩
 go_wp2_with fail
 refine HG3.out.mono ?_
 rintro e w2 ⟨rfl, hb2⟩
 have HB2 := hid hb2
 clear hb2 ct
 go_wp2_with fail
 refine (HC2.out _ HB2.out).mono ?_
 rintro e w3 ⟨rfl, rfl⟩
 have cf := cell_at_below HCF.out HB2.out
 go_wp2_with fail
 refine (HG2.out _ HB2.out).mono ?_
 rintro e w3 ⟨rfl, hb3⟩
 have HB3 := hid (HB2.out.trans (hb3.mono HB2.out.size))
 clear hb3 cf
 have cc := cell_at_below HCC.out HB3.out
 have p1 : w3.heap[p]? = some (.cells #[.string ⟨#[]⟩] 9 (0, 0)) := by rw [HB3.out.block _ (heap_lt HBP.out.1)]; exact HBP.out.1
 have p2 : w3.heap[p + 1]? = some (.cells #[.string ⟨#[]⟩] 9 (0, 0)) := by rw [HB3.out.block _ (heap_lt HBP.out.2.1)]; exact HBP.out.2.1
 have p3 : w3.heap[p + 2]? = some (.cells #[.string ⟨#[]⟩] 9 (0, 0)) := by rw [HB3.out.block _ (heap_lt HBP.out.2.2.1)]; exact HBP.out.2.2.1
 have d1 : w3.cell? ⟨p, 0, none⟩ = some (.string ⟨#[]⟩) := by rw [blk_cell p1]; rfl
 have f1 := blk_frozen p1 0
 have P1 := hid p1
 have P2 := hid p2
 have P3 := hid p3
 clear p1 p2 p3
 have HBN := hid (HB3.out.mono (show n0 ≤ w.heap.size by have := heap_lt HBP.out.1; have := HBP.out.2.2.2; omega))
 go_upto_region 17 with fail
 obtain ⟨W1, hW1⟩ : ∃ W1, W1 = w3.setCell ⟨p, 0, none⟩ (.string cid) := ⟨_, rfl⟩
 have A1 := hid (show W1.heap[p]? = some (.cells #[.string cid] 9 (0, 0)) by rw [hW1]; exact one_setCell P1.out)
 have A2 := hid (show W1.heap[p + 1]? = some (.cells #[.string ⟨#[]⟩] 9 (0, 0)) by rw [hW1, Below.heap_setCell _ _ _ _ (by simp)]; exact P2.out)
 have A3 := hid (show W1.heap[p + 2]? = some (.cells #[.string ⟨#[]⟩] 9 (0, 0)) by rw [hW1, Below.heap_setCell _ _ _ _ (by simp)]; exact P3.out)
 have HB4 := hid (show Below n0 w W1 by rw [hW1]; exact HBN.out.setCell (p := ⟨p, 0, none⟩) HBP.out.2.2.2 _)
 rw [← hW1]
 clear hW1 d1 f1 cc
 have d2 : W1.cell? ⟨p + 1, 0, none⟩ = some (.string ⟨#[]⟩) := by rw [blk_cell A2.out]; rfl
 have f2 := blk_frozen A2.out 0
 go_upto_region 18 with fail
 obtain ⟨W2, hW2⟩ : ∃ W2, W2 = W1.setCell ⟨p + 1, 0, none⟩ (.string tt) := ⟨_, rfl⟩
 have B1 := hid (show W2.heap[p]? = some (.cells #[.string cid] 9 (0, 0)) by rw [hW2, Below.heap_setCell _ _ _ _ (by simp)]; exact A1.out)
 have B2 := hid (show W2.heap[p + 1]? = some (.cells #[.string tt] 9 (0, 0)) by rw [hW2]; exact one_setCell A2.out)
 have B3 := hid (show W2.heap[p + 2]? = some (.cells #[.string ⟨#[]⟩] 9 (0, 0)) by rw [hW2, Below.heap_setCell _ _ _ _ (by simp)]; exact A3.out)
 have HB5 := hid (show Below n0 w W2 by rw [hW2]; exact HB4.out.setCell (p := ⟨p + 1, 0, none⟩) (by have := HBP.out.2.2.2; show n0 ≤ p + 1; omega) _)
 rw [← hW2]
 clear hW2 d2 f2
 have d3 : W2.cell? ⟨p + 2, 0, none⟩ = some (.string ⟨#[]⟩) := by rw [blk_cell B3.out]; rfl
 have f3 := blk_frozen B3.out 0
 go_wp2_with fail
 go_ret
 refine ⟨rfl, HB5.out.setCell (p := ⟨p + 2, 0, none⟩) (by have := HBP.out.2.2.2; show n0 ≤ p + 2; omega) _, ?_, ?_, ?_⟩
 ·rw [blk_cell (show (W2.setCell ⟨p + 2, 0, none⟩ (.string tf)).heap[p]? = _ by rw [Below.heap_setCell _ _ _ _ (by simp)]; exact B1.out)]; rfl
 ·rw [blk_cell (show (W2.setCell ⟨p + 2, 0, none⟩ (.string tf)).heap[p + 1]? = _ by rw [Below.heap_setCell _ _ _ _ (by simp)]; exact B2.out)]; rfl
 ·rw [blk_cell (one_setCell B3.out)]; rfl
theorem dlguas_any (m : Nat) (cid tt tf : ByteArray) (w : World) (hd : DlgAt m cid tt tf w) (hl : cid.size ≤ 1073741824 ∧ tt.size ≤ 1073741824 ∧ tf.size ≤ 1073741824) :
  Calls Tryz.prog 40 #[.pointer (some ⟨m, 0, none⟩)] w fun e w' => e = .returned (.tuple #[.string ⟨(joinS cid tt tf).toArray⟩, .nilIface]) ∧ Below w.heap.size w w' := by
 obtain ⟨wb, hwb⟩ : ∃ wb, wb = ((w.alloc (.cells #[.string ⟨#[]⟩] 9)).alloc (.cells #[.string ⟨#[]⟩] 9)).alloc (.cells #[.string ⟨#[]⟩] 9) := ⟨_, rfl⟩
 have b1 : wb.heap[w.heap.size]? = some (.cells #[.string ⟨#[]⟩] 9 (0, 0)) := by
  rw [hwb]
  exact ((((Below.refl (w.heap.size + 1) (w.alloc (.cells #[.string ⟨#[]⟩] 9))).alloc (by simp) _).alloc (by simp) _).block w.heap.size (by simp)).trans (heap_alloc_new w _)
 have b2 : wb.heap[w.heap.size + 1]? = some (.cells #[.string ⟨#[]⟩] 9 (0, 0)) := by
  rw [hwb]
  have h := heap_alloc_new (w.alloc (.cells #[.string ⟨#[]⟩] 9)) (.cells #[.string ⟨#[]⟩] 9)
  rw [World.size_alloc] at h
  exact (((Below.refl (w.heap.size + 2) ((w.alloc (.cells #[.string ⟨#[]⟩] 9)).alloc (.cells #[.string ⟨#[]⟩] 9))).alloc (by simp) _).block (w.heap.size + 1) (by simp)).trans h
 have b3 : wb.heap[w.heap.size + 2]? = some (.cells #[.string ⟨#[]⟩] 9 (0, 0)) := by
  rw [hwb]
  have h := heap_alloc_new ((w.alloc (.cells #[.string ⟨#[]⟩] 9)).alloc (.cells #[.string ⟨#[]⟩] 9)) (.cells #[.string ⟨#[]⟩] 9)
  rw [World.size_alloc, World.size_alloc] at h
  exact h
 have hb0 : Below w.heap.size w wb := by rw [hwb]; exact (((Below.refl _ w).alloc (Nat.le_refl _) _).alloc (by simp) _).alloc (by simp; omega) _
 have HGD := hid (getdlg_any 80 (.inl rfl) m w.heap.size w.heap.size cid tt tf wb (hd.below hb0) (Nat.le_refl _) b1 b2 b3)
 have HB0 := hid hb0
 have HMK := hid (fun wx => dlgmake_any cid tt tf wx ⟨by omega, by omega, by omega⟩)
 have HWB := hid hwb
 clear hd hl b1 b2 b3 hb0 hwb
 go_enter Tryz.func40, Tryz.ntmps40
 go_upto_region 2 with fail
 rw [← HWB.out, show w.heap.size + 1 + 1 = w.heap.size + 2 from rfl]
 go_upto_if 12 with (go_at_call 64; refine HGD.out.mono ?_; rintro e w1 ⟨rfl, hb1, q1, q2, q3⟩)
 have HB1 := hid (HB0.out.trans hb1)
 have HM := hid (HMK.out w1)
 clear hb1
 go_wp2_with (go_at_call 65; refine HM.out.mono ?_; rintro e w2 ⟨rfl, hb2⟩)
 have HB2 := hid (HB1.out.trans (hb2.mono HB1.out.size))
 clear hb2
 go_ret2
 exact ⟨rfl, HB2.out⟩
theorem ta_hit (T : TypeId) (hT : IsMsgT T) (a : Addr) (w : World) : Sem.run Tryz.prog (Instr.typeAssert (.iface T (.pointer (some a))) 75 T true) w = .ok (.tuple #[.pointer (some a), .bool true]) w := by
 rcases hT with rfl | rfl <;> kernel_rfl
theorem ta_miss (a : Addr) (w : World) : Sem.run Tryz.prog (Instr.typeAssert (.iface 80 (.pointer (some a))) 75 78 true) w = .ok (.tuple #[.pointer none, .bool false]) w := by
 kernel_rfl
structure DlgF (m : LMsg) (cid tt tf : Bytes) : Prop where
 ex : ∃ pf pt pi, m.heads.filter (isT 2) = [pf] ∧ m.heads.filter (isT 1) = [pt] ∧ m.heads.filter (isT 4) = [pi] ∧ pi.text = cid ∧ (pf.params.find? fun p => p.1 == tagB).map (·.2) = some tf ∧ (pt.params.find? fun p => p.1 == tagB).map (·.2) = some tt
 len : cid.length ≤ 1073741824 ∧ tt.length ≤ 1073741824 ∧ tf.length ≤ 1073741824
theorem msg_dlg {N : Nat} {m : LMsg} {cs : List Value} {w : World} {cid tt tf : Bytes} (hK : KMsg N m cs w) (hG : Gl N w) (hD : DlgF m cid tt tf) : Calls Tryz.prog 38 #[.agg cs.toArray] w fun e w' => ∃ mm, e = .returned (.iface (mtyI m) (.pointer (some ⟨mm, 0, none⟩))) ∧ DlgAt mm (bs cid) (bs tt) (bs tf) w' ∧ Below w.heap.size w w' :=
 (hK.message hG).mono fun e w' ⟨mm, hs, h1, _, hmap, hb, n0, X, hM⟩ => by
  obtain ⟨pf, pt, pi, h2, h3, h4, ei, ef, et⟩ := hD.ex
  obtain ⟨g2, c2, r2⟩ := ref_of hM hmap 2 2 (by omega) (by omega) (by omega) isT_from pf h2
  obtain ⟨g3, c3, r3⟩ := ref_of hM hmap 3 1 (by omega) (by omega) (by omega) isT_to pt h3
  obtain ⟨g4, c4, r4⟩ := ref_of hM hmap 4 4 (by omega) (by omega) (by omega) isT_callid pi h4
  rw [hdr_from (filt_t h2)] at r2
  rw [hdr_to (filt_t h3)] at r3
  rw [hdr_callid (filt_t h4), ei] at r4
  exact ⟨mm, h1, ⟨g2, g3, g4, _, _, _, _, _, _, c2, c3, c4, r2, r3, r4, by rw [get_param, ef]; rfl, by rw [get_param, et]; rfl⟩, hb⟩
theorem dlg_uas (N : Nat) (m : LMsg) (cs : List Value) (cid tt tf : Bytes) (w : World) (hG : Gl N w) (hK : KMsg N m cs w) (hD : DlgF m cid tt tf) (hr : m.resp = false) :
  Calls Tryz.prog 21 #[.agg cs.toArray, .int .i64 1] w (IKey (joinS (bs cid) (bs tt) (bs tf)) w) := by
 have hlen := hK.at_.len19
 have hty : mtyI m = 80 := by unfold mtyI; rw [hr]; rfl
 have HKL := hid (show (joinS (bs cid) (bs tt) (bs tf)).length ≤ 70368744177664 by
  have h1 := hD.len
  have e1 : (bs cid).data.toList.length = cid.length := by simp [bs]
  have e2 : (bs tt).data.toList.length = tt.length := by simp [bs]
  have e3 : (bs tf).data.toList.length = tf.length := by simp [bs]
  simp only [joinS, List.length_append, List.length_cons, List.length_nil]
  omega)
 have HLS := hid (show (bs cid).size ≤ 1073741824 ∧ (bs tt).size ≤ 1073741824 ∧ (bs tf).size ≤ 1073741824 by
  have h1 := hD.len
  rw [show (bs cid).size = cid.length from sz _, show (bs tt).size = tt.length from sz _, show (bs tf).size = tf.length from sz _]
  exact h1)
 have HK := hid hK
 have HG := hid hG
 have HDF := hid hD
 clear hK hG hD hr
 obtain ⟨x0, x1, x2, x3, x4, x5, x6, x7, x8, x9, x10, x11, x12, x13, x14, x15, x16, x17, x18, rfl⟩ := list19 hlen
 clear hlen
 obtain ⟨wb, hwb⟩ : ∃ wb, wb = w.alloc (.cells #[x0, x1, x2, x3, x4, x5, x6, x7, x8, x9, x10, x11, x12, x13, x14, x15, x16, x17, x18] 28) := ⟨_, rfl⟩
 have HWB1 := hid (show wb.heap[w.heap.size]? = some (.cells ([x0, x1, x2, x3, x4, x5, x6, x7, x8, x9, x10, x11, x12, x13, x14, x15, x16, x17, x18] : List Value).toArray 28 (0, 0)) by rw [hwb]; exact heap_alloc_new w _)
 have HB0 := hid (show Below w.heap.size w wb by rw [hwb]; exact (Below.refl _ w).alloc (Nat.le_refl _) _)
 have HC := hid (msg_dlg (HK.out.below HB0.out) (HG.out.below HB0.out HG.out.le) HDF.out)
 rw [hty] at HC
 obtain ⟨s, hs⟩ : ∃ s, s = joinS (bs cid) (bs tt) (bs tf) := ⟨_, rfl⟩
 rw [← hs] at HKL ⊢
 have HSE := hid hs
 clear hs hty
 go_enter Tryz.func21, Tryz.ntmps21
 go_upto_region 1 with fail
 rw [← hwb]
 generalize Value.agg #[x0, x1, x2, x3, x4, x5, x6, x7, x8, x9, x10, x11, x12, x13, x14, x15, x16, x17, x18] = arg0
 clear hwb
 go_upto_region 4 with (first
  | (refine wpList_load_blk (by rfl) 28 (.tmp 2) (by rfl) w.heap.size 28 (0, 0) [x0, x1, x2, x3, x4, x5, x6, x7, x8, x9, x10, x11, x12, x13, x14, x15, x16, x17, x18] (by rfl) HWB1.out _ Tryz.underlying28 rfl 19 msg_size rfl ?_)
  | (go_at_call 38; refine HC.out.mono ?_; rintro e w1 ⟨mm, rfl, hd, hb1⟩)
  | fail)
 have HB1 := hid (HB0.out.trans (hb1.mono HB0.out.size))
 have HD := hid (dlguas_any mm (bs cid) (bs tt) (bs tf) w1 hd HLS.out)
 rw [← HSE.out] at HD
 clear hd hb1
 have ta1 := ta_hit 80 (.inl rfl)
 have ta2 := ta_miss
 go_upto_region 17 with (go_at_call 40; refine HD.out.mono ?_; rintro e w2 ⟨rfl, hb2⟩)
 have HB2 := hid (HB1.out.trans (hb2.mono HB1.out.size))
 clear hb2
 refine wp_region_grow 5 (CK w2.heap.size) (IW w2)
  (fun i v w' => match i with
   | 0 => v = .string ⟨s.toArray⟩
   | 1 => SBu w' v s
   | 2 => v = .nilIface
   | 3 => v = .bool true
   | 4 => SBu w' v s
   | _ => True)
  [[], [0], [], [2], [1]] rfl (by kernel_rfl) (by kernel_rfl) (fun _ _ => IW.step) ?_ ?_ ?_ ?_
 ·intro j hj v w'
  match j, hj with
  | j + 5, _ => trivial
 ·exact CK.of_below (Below.refl _ _).drew (Nat.le_refl _)
 ·simp only [List.take_succ_cons, List.take_zero, fillAll]
  refine ⟨⟨?_, ?_⟩, ⟨?_, ?_⟩, ⟨?_, ?_⟩, ⟨?_, ?_⟩, ⟨?_, ?_⟩, trivial⟩
  ·exact fun v w1 w2 h k => h
  ·intro vals w1 hI hd
   unfold GStep
   go_wp2
   exact CK.refl _ _
  ·exact fun v w1 w2 h k => h.ku k.ku
  ·intro vals w1 hI hd
   have h1 : vals 0 = _ := hd.1
   have hr := Lib.run_convert_string_bytes (P := Tryz.prog) w1 9 22 5 ⟨s.toArray⟩ Tryz.underlying9 Tryz.underlying22 Tryz.underlying5
   have Y := hid (conv_sbu w1 ⟨s.toArray⟩ (by rw [sz]; exact HKL.out))
   unfold GStep
   go_wp2
   exact ⟨CK.of_below Y.out.2 hI.size, by have := Y.out.1; rw [sz] at this; exact this⟩
  ·exact fun v w1 w2 h k => h
  ·intro vals w1 hI hd
   unfold GStep
   go_wp2
   exact CK.refl _ _
  ·exact fun v w1 w2 h k => h
  ·intro vals w1 hI hd
   have h2 : vals 2 = _ := hd.1
   unfold GStep
   go_wp2
   exact CK.refl _ _
  ·exact fun v w1 w2 h k => h.ku k.ku
  ·intro vals w1 hI hd
   have h1 : SBu w1 (vals 1) s := hd.1
   have H1 := hid h1
   clear hd
   unfold GStep
   dsimp only
   generalize vals 1 = x1 at h1 H1 ⊢
   obtain ⟨k1, cap1, cs1, fz1, rfl, -⟩ := h1
   go_wp2
   exact ⟨CK.refl _ _, H1.out⟩
 ·intro vals w3 hI3 hR
  simp only [List.drop_succ_cons, List.drop_zero, List.take_succ_cons, List.take_zero, fillAll]
  obtain ⟨-, -, -, r3, r4, -⟩ := hR
  have e3 : vals 3 = _ := r3
  rw [e3]
  generalize vals 4 = x4 at r4 ⊢
  have H4 := hid r4
  obtain ⟨k1, cap1, cs1, fz1, rfl, -⟩ := r4
  have HI3 := hid hI3
  clear hI3 e3 r3
  go_wp2
  go_ret2
  exact ⟨_, rfl, H4.out, HB2.out.trans (HI3.out.below.mono HB2.out.size)⟩
structure MIn (N : Nat) (m : LMsg) : Prop where
 code : I64 m.code
 bd : MBd m
 uri : UBd m.uri
 heads : ∀ h ∈ m.heads, HBd2 h
 nums : ∀ h ∈ m.heads, 0 ≤ h.num ∧ h.num < 4294967296
 len : m.reason.length ≤ 70368744177664 ∧ m.method.length ≤ 70368744177664
theorem MIn.of {w : World} {m : LMsg} {cs : List Value} {n : Nat} (N : Nat) (hM : LM w m cs) (hB : MBk m n) (hn : n ≤ 1048576) : MIn N m := by
 obtain ⟨a, ul, b, c, hs, d, -, -, -, -, -, hh, -, hc⟩ := hM
 obtain ⟨⟨q1, q2, q3, q4, q5⟩, q6, q7, q8, q9, -, -⟩ := hB
 refine ⟨hc, ⟨by omega, fun h hk => ?_⟩, ⟨by omega, by omega, by omega, by omega⟩, fun h hk => ?_, fun h hk => ?_, by omega, by omega⟩
 ·obtain ⟨⟨r1, -⟩, -, r7⟩ := q7 h hk
  exact ⟨by omega, by omega⟩
 ·obtain ⟨⟨r1, r2, r3, r4, r5⟩, r6, -⟩ := q7 h hk
  exact ⟨⟨by omega, by omega, by omega, by omega⟩, by omega⟩
 ·obtain ⟨i, hi, rfl⟩ := List.getElem_of_mem hk
  obtain ⟨A, c', -, -, -, -, h5⟩ := hh
  obtain ⟨a', cs', -, hl, -⟩ := h5 i hi
  obtain ⟨_, _, _, _, _, _, _, _, _, _, _, _, _, _, _, _, _, _, _, _, hnum, _⟩ := hl
  exact hnum
theorem generic_nm {l : Bytes} (h : l[0]? = some 88) : lowT l ≠ nmCL ∧ lowT l ≠ [108] := by
 cases l with
 | nil => simp at h
 | cons a t =>
  obtain rfl : a = 88 := by simpa using h
  refine ⟨fun e => ?_, fun e => ?_⟩
  ·have h1 : lowB 88 = 99 := by simpa [lowT, nmCL] using congrArg List.head? e
   exact absurd h1 (by decide)
  ·have h1 : lowB 88 = 108 := by simpa [lowT] using congrArg List.head? e
   exact absurd h1 (by decide)
structure HTx (h : LHead) : Prop where
 bd : HBd2 h
 u : HOkU h
 t : 0 ≤ h.t ∧ h.t ≤ 14
 ok : (hdrS h).ok
 ll : (hdrS h).line.length ≤ 5000000
theorem HTx.of {h : LHead} (sh : SH) (e : hdrS h = sh) (bd : HBd2 h) (u : HOkU h) (t : 0 ≤ h.t ∧ h.t ≤ 14) (ok : sh.ok) (ll : sh.nm.length + 2 + sh.val.length ≤ 5000000) : HTx h := by
 subst e
 refine ⟨bd, u, t, ok, ?_⟩
 unfold SH.line
 simp only [List.length_append, List.length_cons, List.length_nil]
 omega
theorem bs_len (l : Bytes) : (bs l).data.toList.length = l.length := by simp
theorem addr_len (d : Bytes) (u : LUri) (p : BKVs) (hd : d.length ≤ 8192) (hu : RUri u) (hp : ParOK false p) : (addrT (bs d) (toS u) (strKVs p)).length ≤ 4000000 := by
 have h1 := ruri_len hu
 have h2 := tail_len 59 59 p _ (par_ok hp).2.1
 rw [← uriT_str u hu.raw] at h1
 rw [← tailT_str] at h2
 have h3 : (showT (bs d)).length ≤ 8195 := by
  unfold showT
  split <;> simp <;> omega
 simp only [addrT, List.length_append, List.length_cons, List.length_nil]
 omega
theorem rout_len (u : LUri) (hu : RUri u) : ([60] ++ uriT (toS u) ++ [62]).length ≤ 4000000 := by
 have h1 := ruri_len hu
 rw [← uriT_str u hu.raw] at h1
 simp only [List.length_append, List.length_cons, List.length_nil]
 omega
theorem itoa_len2 (n : Int) (h : 0 ≤ n ∧ n < 4294967296) : (Lib.itoa n).length ≤ 21 := itoa_len n (by unfold I64; omega)
theorem via_len (p v t h : Bytes) (port : Int) (l : BKVs) (hp : p.length ≤ 8192) (hv : v.length ≤ 8192) (ht : t.length ≤ 8192) (hh : h.length ≤ 8192) (hpo : 0 ≤ port ∧ port ≤ 65535) (hl : ParOK false l) : (viaT ⟨bs p, bs v, bs t, bs h, port, strKVs l⟩).length ≤ 4000000 := by
 have h2 := tail_len 59 59 l _ (par_ok hl).2.1
 rw [← tailT_str] at h2
 have h3 : (portT port).length ≤ 22 := port_len port hpo
 simp only [viaT, List.length_append, List.length_cons, List.length_nil, bs_len]
 omega
theorem hou_of {h : LHead} (R : RHead h) : HOkU h := fun k => by
 rcases k with k | k
 ·exact (R.addr k).2.1.raw
 ·exact (R.rout k).raw
theorem hostS_b {l : Bytes} (h : textS hostB l = true) : HostB (bs l) := (textS_host h).1
theorem htx_of {h : LHead} (R : RHead h) (hn : 0 ≤ h.num ∧ h.num < 4294967296) (B2 : HBd2 h) : HTx h := by
 have hu := hou_of R
 obtain ⟨t, name, text, display, u, params, num, proto, version, transport, host, port⟩ := h
 obtain ⟨hs, h0, ha, hr, h6, h7, h4, h10, h5, h9⟩ := R
 dsimp only at hs h0 ha hr h6 h7 h4 h10 h5 h9 hn
 have hi := itoa_len2 num hn
 rcases sort_cases hs with rfl | rfl | rfl | rfl | rfl | rfl | rfl | rfl | rfl | rfl | rfl | rfl | rfl | rfl | rfl
 ·refine HTx.of (.generic (bs name) (bs text)) rfl B2 hu hs trivial ?_
  have h1 := (wordS_ok (h0 rfl).1.2.2.2).2
  have h2 := lineS_len (h0 rfl).2
  simp only [SH.nm, SH.val, bs_len]
  omega
 ·have h1 := ha rfl
  refine HTx.of (.to_ (bs display) (toS u) (strKVs params)) rfl B2 hu hs ⟨ruri_ok h1.2.1, (par_ok h1.2.2).1⟩ ?_
  have h2 := addr_len display u params (shownS_len h1.1) h1.2.1 h1.2.2
  simp only [SH.nm, SH.val, List.length_cons, List.length_nil]
  omega
 ·have h1 := ha rfl
  refine HTx.of (.from_ (bs display) (toS u) (strKVs params)) rfl B2 hu hs ⟨ruri_ok h1.2.1, (par_ok h1.2.2).1⟩ ?_
  have h2 := addr_len display u params (shownS_len h1.1) h1.2.1 h1.2.2
  simp only [SH.nm, SH.val, List.length_cons, List.length_nil]
  omega
 ·have h1 := ha rfl
  refine HTx.of (.contact (bs display) (toS u) (strKVs params)) rfl B2 hu hs ⟨ruri_ok h1.2.1, h1.2.1.star, (par_ok h1.2.2).1⟩ ?_
  have h2 := addr_len display u params (shownS_len h1.1) h1.2.1 h1.2.2
  simp only [SH.nm, SH.val, List.length_cons, List.length_nil]
  omega
 ·refine HTx.of (.callid (bs text)) rfl B2 hu hs trivial ?_
  have h2 := (wordS_ok (h4 rfl)).2
  simp only [SH.nm, SH.val, List.length_cons, List.length_nil, bs_len]
  omega
 ·refine HTx.of (.cseq num (bs text)) rfl B2 hu hs hn ?_
  have h2 := (wordS_ok (h5 rfl).1).2
  simp only [SH.nm, SH.val, List.length_append, List.length_cons, List.length_nil, bs_len]
  omega
 ·refine HTx.of (.maxf num) rfl B2 hu hs hn ?_
  simp only [SH.nm, SH.val, List.length_cons, List.length_nil]
  omega
 ·refine HTx.of (.expires num) rfl B2 hu hs hn ?_
  simp only [SH.nm, SH.val, List.length_cons, List.length_nil]
  omega
 ·refine HTx.of (.clen num) rfl B2 hu hs hn ?_
  simp only [SH.nm, SH.val, List.length_cons, List.length_nil]
  omega
 ·obtain ⟨k1, k2, k3, k4, k5, k6⟩ := h9 rfl
  refine HTx.of (.via ⟨bs proto, bs version, bs transport, bs host, port, strKVs params⟩) rfl B2 hu hs ⟨hostS_b k4, ⟨by show _ ≤ port; omega, by show port ≤ _; omega⟩, (par_ok k6).1⟩ ?_
  have h2 := via_len proto version transport host port params (by rw [k1]; decide) (by rw [k2]; decide) (wordS_ok k3).2 (textS_len k4) k5 k6
  simp only [SH.nm, SH.val, List.length_cons, List.length_nil]
  omega
 ·refine HTx.of (.ctype (bs text)) rfl B2 hu hs trivial ?_
  have h2 := lineS_len (h10 rfl)
  simp only [SH.nm, SH.val, List.length_cons, List.length_nil, bs_len]
  omega
 ·have h1 := hr rfl
  refine HTx.of (.route (toS u)) rfl B2 hu hs (ruri_ok h1) ?_
  have h2 := rout_len u h1
  simp only [SH.nm, SH.val, List.length_cons, List.length_nil]
  omega
 ·have h1 := hr rfl
  refine HTx.of (.rroute (toS u)) rfl B2 hu hs (ruri_ok h1) ?_
  have h2 := rout_len u h1
  simp only [SH.nm, SH.val, List.length_cons, List.length_nil]
  omega
 ·have h1 := hr rfl
  refine HTx.of (.referto (toS u)) rfl B2 hu hs (ruri_ok h1) ?_
  have h2 := rout_len u h1
  simp only [SH.nm, SH.val, List.length_cons, List.length_nil]
  omega
 ·have h1 := ha rfl
  refine HTx.of (.refby (bs display) (toS u) (strKVs params)) rfl B2 hu hs ⟨ruri_ok h1.2.1, (par_ok h1.2.2).1⟩ ?_
  have h2 := addr_len display u params (shownS_len h1.1) h1.2.1 h1.2.2
  simp only [SH.nm, SH.val, List.length_cons, List.length_nil]
  omega
theorem hms_of {h : LHead} (R : RHead h) (hn : 0 ≤ h.num ∧ h.num < 4294967296) (B2 : HBd2 h) (h8 : h.t ≠ 8) : HMs h := by
 have H := htx_of R hn B2
 have key : (hdrS h).slot ≠ 7 ∧ (hdrS h).nm.length ≤ 70368744177664 ∧ lowT (hdrS h).nm ≠ nmCL ∧ lowT (hdrS h).nm ≠ [108] := by
  obtain ⟨t, name, text, display, u, params, num, proto, version, transport, host, port⟩ := h
  obtain ⟨hs, h0, ha, hr, h6, h7, h4, h10, h5, h9⟩ := R
  dsimp only at hs h0 h8
  clear H
  have fx : ∀ (sh : SH) (l : Bytes), sh.slot ≠ 7 → sh.nm = l → l.length ≤ 8192 → lowT l ≠ nmCL → lowT l ≠ [108] → sh.slot ≠ 7 ∧ sh.nm.length ≤ 70368744177664 ∧ lowT sh.nm ≠ nmCL ∧ lowT sh.nm ≠ [108] := by
   intro sh l h1 h2 h3 h4 h5
   rw [h2]
   exact ⟨h1, by omega, h4, h5⟩
  rcases sort_cases hs with rfl | rfl | rfl | rfl | rfl | rfl | rfl | rfl | rfl | rfl | rfl | rfl | rfl | rfl | rfl
  ·have h1 := (h0 rfl).1
   exact fx (.generic (bs name) (bs text)) name (show (0 : Nat) ≠ 7 by decide) (by simp [SH.nm]) (wordS_ok h1.2.2.2).2 (generic_nm h1.2.1).1 (generic_nm h1.2.1).2
  ·exact fx (.to_ (bs display) (toS u) (strKVs params)) (nameS 1) (show (3 : Nat) ≠ 7 by decide) rfl (by decide) (by decide) (by decide)
  ·exact fx (.from_ (bs display) (toS u) (strKVs params)) (nameS 2) (show (2 : Nat) ≠ 7 by decide) rfl (by decide) (by decide) (by decide)
  ·exact fx (.contact (bs display) (toS u) (strKVs params)) (nameS 3) (show (5 : Nat) ≠ 7 by decide) rfl (by decide) (by decide) (by decide)
  ·exact fx (.callid (bs text)) (nameS 4) (show (4 : Nat) ≠ 7 by decide) rfl (by decide) (by decide) (by decide)
  ·exact fx (.cseq num (bs text)) (nameS 5) (show (6 : Nat) ≠ 7 by decide) rfl (by decide) (by decide) (by decide)
  ·exact fx (.maxf num) (nameS 6) (show (11 : Nat) ≠ 7 by decide) rfl (by decide) (by decide) (by decide)
  ·exact fx (.expires num) (nameS 7) (show (0 : Nat) ≠ 7 by decide) rfl (by decide) (by decide) (by decide)
  ·exact absurd rfl h8
  ·exact fx (.via ⟨bs proto, bs version, bs transport, bs host, port, strKVs params⟩) (nameS 9) (show (1 : Nat) ≠ 7 by decide) rfl (by decide) (by decide) (by decide)
  ·exact fx (.ctype (bs text)) (nameS 10) (show (8 : Nat) ≠ 7 by decide) rfl (by decide) (by decide) (by decide)
  ·exact fx (.route (toS u)) (nameS 11) (show (9 : Nat) ≠ 7 by decide) rfl (by decide) (by decide) (by decide)
  ·exact fx (.rroute (toS u)) (nameS 12) (show (10 : Nat) ≠ 7 by decide) rfl (by decide) (by decide) (by decide)
  ·exact fx (.referto (toS u)) (nameS 13) (show (0 : Nat) ≠ 7 by decide) rfl (by decide) (by decide) (by decide)
  ·exact fx (.refby (bs display) (toS u) (strKVs params)) (nameS 14) (show (0 : Nat) ≠ 7 by decide) rfl (by decide) (by decide) (by decide)
 exact ⟨B2, H.u, H.t, H.ok, key.1, key.2.1, key.2.2⟩
structure PMsg (m : LMsg) : Prop where
 hasBody : m.hasBody = true
 compact : m.compact = false
 version : m.version = sip20B
 len : m.reason.length ≤ 70368744177664 ∧ m.method.length ≤ 70368744177664
 body : m.body.length < 4294967296
 many : m.heads.length ≤ 1000
 heads : ∀ h ∈ m.heads, HMs h
 uri : m.resp = false → UBd m.uri ∧ m.uri.raw = []
theorem PMsg.k {N : Nat} {m : LMsg} {cs : List Value} {w : World} (P : PMsg m) (h : LM w m cs) : KMsg N m cs w := ⟨h, P.hasBody, P.compact, P.version, P.len, P.body, P.many, P.heads, P.uri⟩
theorem PMsg.of {N : Nat} {m : LMsg} (H : MIn N m) (R : RMsg m) : PMsg m :=
 ⟨R.hasBody, R.compact, R.version, H.len, by have := R.body; omega, by have := R.many; omega, fun h hh => hms_of (R.heads h hh).1 (H.nums h hh) (H.heads h hh) (R.heads h hh).2, fun hr => ⟨H.uri, (R.req hr).2.raw⟩⟩
theorem PMsg.chg {m : LMsg} {h : LHead} (P : PMsg m) (H : HMs h) : PMsg (chgM m h) :=
 ⟨P.hasBody, P.compact, P.version, P.len, P.body, by show (m.heads.map _).length ≤ 1000; rw [List.length_map]; exact P.many, chg_all P.heads H, P.uri⟩
theorem HMs.par {h : LHead} (H : HMs h) (ht : h.t = 9) (k v : Bytes) (hv : ValB ⟨v.toArray⟩) : HMs (parH h k v) := by
 obtain ⟨t, name, text, display, u, params, num, proto, version, transport, host, port⟩ := h
 dsimp only at ht
 subst ht
 obtain ⟨⟨b1, b2⟩, hu, h3, h4, h5, h6, h7⟩ := H
 have h4' : VOk ⟨bs proto, bs version, bs transport, bs host, port, strKVs params⟩ := h4
 refine ⟨⟨b1, by show (params.map _).length ≤ _; rw [List.length_map]; exact b2⟩, hu, h3, ?_, h5, h6, h7⟩
 show VOk ⟨bs proto, bs version, bs transport, bs host, port, strKVs (params.map (setK k v))⟩
 refine ⟨h4'.host, h4'.port, ?_⟩
 intro q hq
 obtain ⟨p, hp, rfl⟩ := List.mem_map.1 hq
 obtain ⟨r, hr, rfl⟩ := List.mem_map.1 hp
 have h8 := h4'.params (strKV r) (List.mem_map.2 ⟨r, hr, rfl⟩)
 unfold setK
 split
 ·exact hv
 ·exact h8
theorem plain_9 {h : LHead} (ht : h.t = 9) : (plainH h).t = 9 ∧ (plainH h).params = h.params := by
 obtain ⟨t, name, text, display, u, params, num, proto, version, transport, host, port⟩ := h
 dsimp only at ht
 subst ht
 exact ⟨rfl, rfl⟩
theorem plain_5 {h : LHead} (ht : h.t = 5) : (plainH h).t = 5 ∧ (plainH h).text = h.text := by
 obtain ⟨t, name, text, display, u, params, num, proto, version, transport, host, port⟩ := h
 dsimp only at ht
 subst ht
 exact ⟨rfl, rfl⟩
theorem goodbr {l : Bytes} (h1 : 7 < l.length) (h2 : l.take 7 = [122, 57, 104, 71, 52, 98, 75]) : GoodBr (bs l) := by
 refine ⟨?_, by rw [show (bs l).size = l.length from sz l]; exact h1⟩
 obtain ⟨r, rfl⟩ : ∃ r, l = magicB ++ r := ⟨l.drop 7, by rw [← show l.take 7 = magicB from h2, List.take_append_drop]⟩
 show Lib.hasPrefix (magicB ++ r) magicB = true
 first | rfl | simp [Lib.hasPrefix, magicB]
structure CallF (m : LMsg) (via cq pv pc : LHead) : Prop where
 p : PMsg m
 h9 : m.heads.filter (isT 9) = [pv]
 h5 : m.heads.filter (isT 5) = [pc]
 f9 : firstH 9 m.heads = via
 f5 : firstH 5 m.heads = cq
 t9 : via.t = 9
 t5 : cq.t = 5
 ms9 : HMs via
 ms5 : HMs cq
 par : pv.params = via.params
 txt : pc.text = cq.text
 find : (via.params.find? fun p => p.1 == branchB).map (·.2) = some (paramV via.params branchK)
 good : GoodBr (bs (paramV via.params branchK))
 brl : (paramV via.params branchK).length ≤ 8192
 txl : cq.text.length ≤ 8192
 sorts : ∀ h ∈ m.heads, 0 ≤ h.t ∧ h.t ≤ 14
 parl : via.params.length ≤ 1073741824
theorem CallF.of {N : Nat} {m : LMsg} (H : MIn N m) (R : RCall m) : ∃ via cq pv pc, CallF m via cq pv pc := by
 obtain ⟨pv, h9, m9, t9, f9⟩ := first_of (R.one 9 (by simp))
 obtain ⟨pc, h5, m5, t5, f5⟩ := first_of (R.one 5 (by simp))
 have P := PMsg.of H R.msg
 have q9 := plain_9 t9
 have q5 := plain_5 t5
 have rv := (R.msg.heads pv m9).1.via t9
 have rc := (R.msg.heads pc m5).1.cseq t5
 have hbr := R.br
 rw [f9] at hbr
 have hf := find_of_len (l := (plainH pv).params) (k := branchK) (by omega)
 refine ⟨plainH pv, plainH pc, pv, pc, P, h9, h5, f9, f5, q9.1, q5.1, (P.heads pv m9).plain, (P.heads pc m5).plain, q9.2.symm, q5.2.symm, hf.2, goodbr hbr.1 hbr.2, ?_, ?_, fun h hh => (P.heads h hh).t, ?_⟩
 ·obtain ⟨p, hp, hp2⟩ := Option.map_eq_some_iff.1 hf.2
  have hm := List.mem_of_find?_eq_some hp
  rw [q9.2] at hm
  have h1 := rv.2.2.2.2.2.2 p hm
  rw [← hp2]
  simp only [parB, Bool.and_eq_true, Bool.or_eq_true, decide_eq_true_eq] at h1
  rcases h1.2 with h2 | h2
  ·exact (wordS_ok h2).2
  ·rw [h2.2]; simp
 ·rw [q5.2]
  exact (wordS_ok rc.1).2
 ·rw [q9.2]
  have := rv.2.2.2.2.2.1
  omega
theorem LM.parts {w : World} {m : LMsg} {l : List Value} (h : LM w m l) : ∃ v1 v15 A15 c15 A1 c1, l[0]? = some (.bool m.resp) ∧ l[1]? = some v1 ∧ l[15]? = some v15 ∧ v1 = .slice A1 m.method.length c1 ∧ v15 = .slice A15 m.heads.length c15 ∧ SB w v1 m.method ∧ SHs w v15 m.heads := by
 obtain ⟨v15, h15, hs⟩ := h.heads_at
 obtain ⟨A15, c15, rfl, -⟩ := hs.form
 obtain ⟨va, ul, vb, vc, vh, vd, rfl, hm, -⟩ := h
 obtain ⟨A1, c1, rfl, hml⟩ := hm.form
 exact ⟨_, _, A15, c15, A1, c1, rfl, rfl, h15, rfl, rfl, hm, hs⟩
theorem LH.h {n : Nat} {w w' : World} {h : LHead} {l : List Value} (H : LH w h l) (hb : Below w.heap.size w w') (hn : w.heap.size ≤ n) : LHh n w' h l := LH.sub H (sub_filt hb hn)
theorem SBs.ck {N : Nat} {w w' : World} {v : Value} {ls : List Bytes} (h : SBs w v ls) (k : CK N w w') : SBs w' v ls := by
 obtain ⟨A, c, h1, h2, h3, h4⟩ := h
 refine ⟨A, c, h1, h2, h3, fun i hi => ?_⟩
 obtain ⟨a, u, e1, e2, e3⟩ := h4 i hi
 exact ⟨a, u, e1, k.cell e2, e3.ck k⟩
def ClientKeyOk (w : World) (e : Ending) (w' : World) : Prop := e = .returned (.bool true) ∧ Below w.heap.size w w'
