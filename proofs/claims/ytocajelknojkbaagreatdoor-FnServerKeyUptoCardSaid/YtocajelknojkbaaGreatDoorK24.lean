import Derived.Test.YtocajelknojkbaaGreatDoorK23
set_option maxRecDepth 100000
set_option maxHeartbeats 16000000
set_option linter.all false
namespace Go.Proofs.YtocajelknojkbaaGreatDoor
open Go.Lib (hid)
open Go.RowKit
def selS (k : Nat) (hk : List (Nat × SH)) : List (Nat × SH) := hk.filter fun p => p.2.slot == k
theorem first_slot (h : SH) : h.first = true ↔ h.slot = 1 ∨ h.slot = 9 ∨ h.slot = 10 := by cases h <;> simp [SH.first, SH.slot]
theorem addRef_other (R : Nat → Option Nat) (h : SH) (g k : Nat) (hk : h.slot ≠ k) : addRef R h g k = R k := by
 unfold addRef setRef
 split
 ·rfl
 ·dsimp only
  rw [if_neg (fun h1 => hk h1.2.symm)]
theorem addRef_first (R : Nat → Option Nat) (h : SH) (g : Nat) (h0 : h.slot ≠ 0) (hf : h.first = true) : addRef R h g h.slot = (R h.slot).or (some g) := by
 unfold addRef setRef
 cases e : R h.slot with
 | none => simp [e, h0]
 | some x => simp [e, hf]
theorem addRef_last (R : Nat → Option Nat) (h : SH) (g : Nat) (h0 : h.slot ≠ 0) (hf : h.first = false) : addRef R h g h.slot = some g := by
 unfold addRef setRef
 simp [hf, h0]
theorem foldRef (k : Nat) (h0 : k ≠ 0) : ∀ (hk : List (Nat × SH)) (R : Nat → Option Nat), (hk.foldl (fun R p => addRef R p.2 p.1) R) k =
  if k = 1 ∨ k = 9 ∨ k = 10 then (R k).or ((selS k hk).head?.map (·.1)) else ((selS k hk).getLast?.map (·.1)).or (R k)
 | [], R => by simp [selS]
 | p :: r, R => by
  rw [List.foldl_cons, foldRef k h0 r]
  by_cases hp : p.2.slot = k
  ·have hs : selS k (p :: r) = p :: selS k r := by simp [selS, hp]
   rw [hs]
   by_cases hf : k = 1 ∨ k = 9 ∨ k = 10
   ·rw [if_pos hf, if_pos hf]
    subst hp
    rw [addRef_first R p.2 p.1 h0 ((first_slot _).2 hf)]
    cases R p.2.slot <;> simp
   ·rw [if_neg hf, if_neg hf]
    subst hp
    rw [addRef_last R p.2 p.1 h0 (by rw [Bool.eq_false_iff]; exact fun e => hf ((first_slot _).1 e))]
    rw [List.getLast?_cons]
    cases (selS p.2.slot r).getLast? <;> simp
  ·have hs : selS k (p :: r) = selS k r := by simp [selS, hp]
   rw [hs, addRef_other R p.2 p.1 k hp]
theorem refsOf_one {hk : List (Nat × SH)} {k : Nat} (h0 : k ≠ 0) {L : List SH} (hL : hk.map (·.2) = L) {s : SH} (hs : L.filter (fun h => h.slot == k) = [s]) : ∃ g, refsOf hk k = some g ∧ (g, s) ∈ hk := by
 have h1 : (selS k hk).map (·.2) = [s] := by
  rw [← hs, ← hL, List.filter_map]
  rfl
 obtain ⟨p, h2⟩ : ∃ p, selS k hk = [p] := by
  cases h : selS k hk with
  | nil => rw [h] at h1; simp at h1
  | cons a r =>
   rw [h] at h1
   cases r with
   | nil => exact ⟨a, rfl⟩
   | cons b c => simp at h1
 rw [h2] at h1
 obtain ⟨g, x⟩ := p
 simp only [List.map_cons, List.map_nil, List.cons.injEq, and_true] at h1
 subst h1
 refine ⟨g, ?_, ?_⟩
 ·unfold refsOf
  rw [foldRef k h0, h2]
  simp
 ·have h3 : (g, x) ∈ selS k hk := by rw [h2]; simp
  exact (List.mem_filter.1 h3).1
def slotT (t : Int) : Nat := if t = 1 then 3 else if t = 2 then 2 else if t = 3 then 5 else if t = 9 then 1 else if t = 11 then 9 else if t = 12 then 10 else if t = 4 then 4 else if t = 5 then 6 else if t = 6 then 11 else if t = 8 then 7 else if t = 10 then 8 else 0
theorem hdrS_slot (h : LHead) : (hdrS h).slot = slotT h.t := by
 by_cases e1 : h.t = 1
 ·simp [hdrS, slotT, e1, SH.slot]
 by_cases e2 : h.t = 2
 ·simp [hdrS, slotT, e2, SH.slot]
 by_cases e3 : h.t = 3
 ·simp [hdrS, slotT, e3, SH.slot]
 by_cases e9 : h.t = 9
 ·simp [hdrS, slotT, e9, SH.slot]
 by_cases e11 : h.t = 11
 ·simp [hdrS, slotT, e11, SH.slot]
 by_cases e12 : h.t = 12
 ·simp [hdrS, slotT, e12, SH.slot]
 by_cases e13 : h.t = 13
 ·simp [hdrS, slotT, e13, SH.slot]
 by_cases e14 : h.t = 14
 ·simp [hdrS, slotT, e14, SH.slot]
 by_cases e4 : h.t = 4
 ·simp [hdrS, slotT, e4, SH.slot]
 by_cases e5 : h.t = 5
 ·simp [hdrS, slotT, e5, SH.slot]
 by_cases e6 : h.t = 6
 ·simp [hdrS, slotT, e6, SH.slot]
 by_cases e7 : h.t = 7
 ·simp [hdrS, slotT, e7, SH.slot]
 by_cases e8 : h.t = 8
 ·simp [hdrS, slotT, e8, SH.slot]
 by_cases e10 : h.t = 10
 ·simp [hdrS, slotT, e10, SH.slot]
 simp [hdrS, slotT, SH.slot, e1, e2, e3, e9, e11, e12, e13, e14, e4, e5, e6, e7, e8, e10]
theorem mref_cell {n0 m : Nat} {T : TypeId} {hs : List (Nat × SH)} {R : Nat → Option Nat} {X : List Value} {w : World} (hM : MRep n0 w m T hs R X) (j : Nat) (h1 : 1 ≤ j) (h2 : j ≤ 11) : w.cell? ⟨m, j, none⟩ = some (refV (R j)) := by
 obtain ⟨v, _, hb, _, _⟩ := hM.at_
 rw [blk_cell hb]
 rcases (show j = 1 ∨ j = 2 ∨ j = 3 ∨ j = 4 ∨ j = 5 ∨ j = 6 ∨ j = 7 ∨ j = 8 ∨ j = 9 ∨ j = 10 ∨ j = 11 by omega) with rfl | rfl | rfl | rfl | rfl | rfl | rfl | rfl | rfl | rfl | rfl <;> rfl
theorem getvia_any (m g : Nat) (w : World) (h : w.cell? ⟨m, 1, none⟩ = some (refV (some g))) : Calls Tryz.prog 246 #[.pointer (some ⟨m, 0, none⟩)] w fun e w' => e = .returned (.pointer (some ⟨g, 0, none⟩)) ∧ w = w' := by
 simp only [refV, Option.map_some] at h
 go_enter Tryz.func246, Tryz.ntmps246
 go_wp2
 go_ret
 exact ⟨rfl, rfl⟩
theorem getcseq_any (m g : Nat) (w : World) (h : w.cell? ⟨m, 6, none⟩ = some (refV (some g))) : Calls Tryz.prog 220 #[.pointer (some ⟨m, 0, none⟩)] w fun e w' => e = .returned (.pointer (some ⟨g, 0, none⟩)) ∧ w = w' := by
 simp only [refV, Option.map_some] at h
 go_enter Tryz.func220, Tryz.ntmps220
 go_wp2
 go_ret
 exact ⟨rfl, rfl⟩
def kvGet (l : KVs) (k : Bytes) : Option ByteArray := (l.find? fun p => p.1.data.toList == k).map (·.2)
def GetPost (r : Option ByteArray) (w : World) (e : Ending) (w' : World) : Prop := e = .returned (.tuple #[.string (r.getD ⟨#[]⟩), .bool r.isSome]) ∧ Below w.heap.size w w'
theorem kv_drop {hs : KVs} {nm : Bytes} {k : Nat} (h : ∀ i p, hs[i]? = some p → i < k → (p.1.data.toList == nm) = false) : (hs.find? fun p => p.1.data.toList == nm) = (hs.drop k).find? fun p => p.1.data.toList == nm := by
 induction k generalizing hs with
 | zero => simp
 | succ k ih =>
  cases hs with
  | nil => simp
  | cons a r =>
   have h0 := h 0 a rfl (by omega)
   rw [List.find?_cons_of_neg (p := fun p : ByteArray × ByteArray => p.1.data.toList == nm) (a := a) (by simp [h0]), List.drop_succ_cons]
   exact ih (fun i p hi hk => h (i + 1) p (by simpa using hi) (by omega))
theorem kv_hit {l : KVs} {nm : Bytes} {k : Nat} {p : ByteArray × ByteArray} (h : ∀ i p, l[i]? = some p → i < k → (p.1.data.toList == nm) = false) (hp : l[k]? = some p) (e : p.1.data.toList = nm) : kvGet l nm = some p.2 := by
 obtain ⟨hk, rfl⟩ := List.getElem?_eq_some_iff.1 hp
 unfold kvGet
 rw [kv_drop h, List.drop_eq_getElem_cons hk, List.find?_cons_of_pos (p := fun p : ByteArray × ByteArray => p.1.data.toList == nm) (a := l[k]) (beq_iff_eq.2 e)]
 rfl
theorem kv_miss {l : KVs} {nm : Bytes} {k : Nat} (h : ∀ i p, l[i]? = some p → i < k → (p.1.data.toList == nm) = false) (hk : l.length ≤ k) : kvGet l nm = none := by
 unfold kvGet
 rw [kv_drop h, List.drop_eq_nil_of_le hk]
 rfl
theorem PRep.elems {w : World} {v : Value} {l : KVs} (hr : PRep w v l) : ∃ A cap, v = .slice A l.length cap ∧ l.length ≤ 9223372036854775807 ∧ ∀ (k : Nat) (p : ByteArray × ByteArray), l[k]? = some p → ∃ g, A = some ⟨g, 0, none⟩ ∧ w.cell? ⟨g, k * 2, none⟩ = some (.string p.1) ∧ w.cell? ⟨g, k * 2 + 1, none⟩ = some (.string p.2) := by
 rcases hr with ⟨rfl, rfl⟩ | ⟨g, cap, cs, rfl, h2, h2', h3, h4⟩
 ·exact ⟨none, 0, rfl, by simp, fun k p h => by simp at h⟩
 ·refine ⟨some ⟨g, 0, none⟩, cap, rfl, by omega, fun k p hk => ⟨g, rfl, ?_, ?_⟩⟩
  ·obtain ⟨hlt, rfl⟩ := List.getElem?_eq_some_iff.1 hk
   obtain ⟨p1, p2⟩ := h4 k hlt
   simp [World.cell?, h3, p1]
  ·obtain ⟨hlt, rfl⟩ := List.getElem?_eq_some_iff.1 hk
   obtain ⟨p1, p2⟩ := h4 k hlt
   simp [World.cell?, h3, p2]
theorem get_any (v : Value) (l : KVs) (key : ByteArray) (w : World) (hr : PRep w v l) : Calls Tryz.prog 101 #[v, .string key] w (GetPost (kvGet l key.data.toList) w) := by
 obtain ⟨A, cap, rfl, hm, h4⟩ := hr.elems
 have H4 := hid h4
 clear h4 hr
 go_enter Tryz.func101, Tryz.ntmps101
 go_wp2_with fail
 go_loopw [10] (fun i wr => ∃ k : Nat, k ≤ l.length ∧ i = .int .i64 k ∧ (∀ j p, l[j]? = some p → j < k → (p.1.data.toList == key.data.toList) = false) ∧ Below w.heap.size w wr) (fun i _ => l.length - (intOf i).toNat)
 case atStart => exact ⟨0, Nat.zero_le _, rfl, fun j _ _ h => absurd h (by omega), Below.refl _ _⟩
 case round =>
  obtain ⟨k, hk, rfl, hno, hb⟩ := hrel
  obtain ⟨wo, rfl⟩ : ∃ wo : World, wo = wr := ⟨_, rfl⟩
  have HNO := hid hno
  have HB := hid hb
  clear hno hb
  by_cases hlt : k < l.length
  ·obtain ⟨⟨pk, pv⟩, hp⟩ : ∃ p, l[k]? = some p := ⟨_, List.getElem?_eq_getElem hlt⟩
   obtain ⟨g, rfl, d1, d2⟩ := H4.out k _ hp
   have c1 := cell_at_below d1 HB.out
   have c2 := cell_at_below d2 HB.out
   have HP := hid hp
   have HB1 := hid (HB.out.alloc HB.out.size (.cells #[.string pk, .string pv] 207))
   have HLT := hid (Nat.succ_le_of_lt hlt)
   have hk1 : (k : Int) < l.length := by omega
   have hk0 : (0 : Int) ≤ k := by omega
   clear d1 d2 hp hlt hk
   by_cases hm : pk.data.toList = key.data.toList
   ·have hte : (pk.toList == key.toList) = true := by rw [ba_list, ba_list]; exact beq_iff_eq.2 hm
    have HM := hid hm
    clear hm
    go_wp2
    go_ret2
    refine ⟨?_, HB1.out⟩
    rw [kv_hit HNO.out HP.out HM.out]
    rfl
   ·have hte : (pk.toList == key.toList) = false := by rw [ba_list, ba_list]; exact beq_eq_false_iff_ne.2 hm
    have HM := hid hm
    clear hm
    go_wp2
    go_roundw
    case rel =>
     refine ⟨k + 1, HLT.out, by simp, fun j p hj hjk => ?_, HB1.out⟩
     by_cases hjl : j < k
     ·exact HNO.out j p hj hjl
     ·obtain rfl : j = k := by omega
      rw [HP.out] at hj
      cases hj
      exact beq_eq_false_iff_ne.2 HM.out
    case measure => exact meas_step HLT.out (by simp)
  ·have HNL := hid hlt
   have hk1 : ¬ (k : Int) < l.length := by omega
   clear hlt hk
   go_wp2
   go_ret2
   refine ⟨?_, HB.out⟩
   rw [kv_miss HNO.out (by have := HNL.out; omega)]
   rfl
def magicA : ByteArray := ⟨#[122, 57, 104, 71, 52, 98, 75]⟩
def magicB : Bytes := [122, 57, 104, 71, 52, 98, 75]
def branchB : Bytes := [98, 114, 97, 110, 99, 104]
def ackB : Bytes := [65, 67, 75]
def GoodBr (br : ByteArray) : Prop := Lib.hasPrefix br.data.toList magicB = true ∧ 7 < br.size
def keyM (a m : ByteArray) : ByteArray := if a.data.toList = [] then (if m.data.toList = ackB then ⟨#[73, 78, 86, 73, 84, 69]⟩ else m) else a
def IsMsgT (T : TypeId) : Prop := T = 85 ∨ T = 83
theorem na_via {T : TypeId} (hT : IsMsgT T) (a : Addr) (w : World) : (nilAhead 467 T (.pointer (some a)) "Via").run Tryz.prog w = .ok (some false) w := by
 rcases hT with rfl | rfl <;> kernel_rfl
theorem me_via {T : TypeId} (hT : IsMsgT T) (m : Nat) (w : World) : (method 467 T (.pointer (some ⟨m, 0, none⟩)) "Via").run Tryz.prog w = .ok (246, .pointer (some ⟨m, 0, none⟩)) w := by
 rcases hT with rfl | rfl <;> kernel_rfl
theorem na_cseq {T : TypeId} (hT : IsMsgT T) (a : Addr) (w : World) : (nilAhead 467 T (.pointer (some a)) "CSeq").run Tryz.prog w = .ok (some false) w := by
 rcases hT with rfl | rfl <;> kernel_rfl
theorem me_cseq {T : TypeId} (hT : IsMsgT T) (m : Nat) (w : World) : (method 467 T (.pointer (some ⟨m, 0, none⟩)) "CSeq").run Tryz.prog w = .ok (220, .pointer (some ⟨m, 0, none⟩)) w := by
 rcases hT with rfl | rfl <;> kernel_rfl
theorem trim_len {br : ByteArray} (h : GoodBr br) : ((((Lib.trimPrefix br.data.toList [122, 57, 104, 71, 52, 98, 75]).length : Nat) : Int) == 0) = false := by
 obtain ⟨h1, h2⟩ := h
 have h1' : Lib.hasPrefix br.data.toList [122, 57, 104, 71, 52, 98, 75] = true := h1
 rw [dl br] at h2
 have e : Lib.trimPrefix br.data.toList [122, 57, 104, 71, 52, 98, 75] = br.data.toList.drop 7 := by
  unfold Lib.trimPrefix
  rw [if_pos h1']
  rfl
 rw [e, List.length_drop, beq_eq_false_iff_ne]
 omega
theorem keyM_len (a m : ByteArray) : (keyM a m).size ≤ a.size + m.size + 6 := by
 unfold keyM
 split
 ·split
  ·show 6 ≤ _; omega
  ·omega
 ·omega
theorem choose_list {α : Type} {P : Nat → α → Prop} : ∀ (n : Nat), (∀ i, i < n → ∃ x, P i x) → ∃ xs : List α, xs.length = n ∧ ∀ i, i < n → ∃ x, xs[i]? = some x ∧ P i x
 | 0, _ => ⟨[], rfl, fun i h => absurd h (by omega)⟩
 | n + 1, h => by
  obtain ⟨xs, h1, h2⟩ := choose_list n (fun i hi => h i (by omega))
  obtain ⟨x, hx⟩ := h n (by omega)
  refine ⟨xs ++ [x], by simp [h1], fun i hi => ?_⟩
  by_cases hin : i < n
  ·obtain ⟨y, h3, h4⟩ := h2 i hin
   exact ⟨y, by rw [List.getElem?_append_left (by omega)]; exact h3, h4⟩
  ·obtain rfl : i = n := by omega
   exact ⟨x, by rw [List.getElem?_append_right (by omega), h1, Nat.sub_self]; rfl, hx⟩
theorem flat_get (s : Nat) : ∀ (css : List (List Value)), (∀ c ∈ css, c.length = s) → ∀ (i j : Nat), j < s → css.flatten[i * s + j]? = (css[i]?).bind (fun c => c[j]?)
 | [], _, i, j, _ => by simp
 | c :: r, h, 0, j, hj => by
  have h1 := h c (by simp)
  rw [List.flatten_cons, Nat.zero_mul, Nat.zero_add, List.getElem?_append_left (by omega)]
  rfl
 | c :: r, h, i + 1, j, hj => by
  have h1 := h c (by simp)
  rw [List.flatten_cons, List.getElem?_append_right (by rw [Nat.succ_mul]; omega), h1, show (i + 1) * s + j - s = i * s + j by rw [Nat.succ_mul]; omega, flat_get s r (fun c hc => h c (by simp [hc])) i j hj]
  rfl
theorem add_add (a : Addr) (m n : Nat) : (a.add m).add n = a.add (m + n) := by
 unfold Addr.add
 by_cases hm : m = 0
 ·subst hm; simp
 ·by_cases hn : n = 0
  ·subst hn; simp
  ·rw [if_neg hm, if_neg hn, if_neg (by omega)]
   simp [Nat.add_assoc]
section
variable {P : Program} {ops : Array Oper} {rest : List Oper} {o : Oper} {a : Act} {Q : Exit → Act → World → Prop}
theorem app_all {W : World} (base : Nat) (hgd : o.guard = none) (s x : Operand) (t e : TypeId) (z : Value) (size bytes : Nat)
  (ho : o.op = .call { callee := .builtin .append, args := #[s, x], argTypes := #[t, t] })
  (ht : P.underlying t = some (.slice e)) (hinfo : (P.info? e).map (fun i => (i.zero, i.size, i.bytes)) = some (some z, size, bytes)) (hz : z.cells.size = size) (hs0 : 0 < size) (hb0 : 0 < bytes)
  (v : Value) (n : Nat) (xs ys : List Value) (A : Option Addr) (k c : Nat) (hs : a.eval s = v) (hx : a.eval x = .slice A k c) (hy : ys.length = k * size) (hA : A = none → k = 0 ∧ c = 0) (hc : ∀ ad, A = some ad → ∀ j u, ys[j]? = some u → W.cell? (ad.add j) = some u) (h1 : ∀ u ∈ ys, u.oneCell' = true)
  (HO : W.ownsRow base e size v n xs) (hbase : base ≤ W.heap.size) (hl : (n + k) * bytes ≤ 140737488355328)
  (h : ∀ v1 w1, w1.ownsRow base e size v1 (n + k) (xs ++ ys) → W.grownBy w1 v.ownBlock → wpList P ops Q rest (a.put o.dst v1) w1) :
  wpList P ops Q (o :: rest) a W := by
 obtain ⟨i0, hi, hzz⟩ := Option.map_eq_some_iff.1 hinfo
 simp only [Prod.mk.injEq] at hzz
 obtain ⟨hz0, hz1, hz2⟩ := hzz
 have hlen : n + k ≤ 140737488355328 := Nat.le_trans (Nat.le_mul_of_pos_right _ hb0) hl
 cases A with
 | none =>
  obtain ⟨rfl, rfl⟩ := hA rfl
  obtain rfl : ys = [] := List.eq_nil_of_length_eq_zero (by simpa using hy)
  refine wpList_append_own_none hgd s x t ho base e i0 size ht hi v n xs hs HO hx ?_
  exact h v W (by simpa using HO) (World.grownBy.refl W _)
 | some ad =>
  refine wpList_append_own W hgd s x t ho base e i0 z size bytes ht hi hz0 hz1 hz2 hz hs0 v n xs hs HO ad k c ys hx hy (hc ad rfl) h1 (by simp only [maxLen]; omega) hl hbase ?_
  intro v1 w1 hown hg _
  exact h v1 w1 hown hg
end
theorem own_empty (w : World) (base g size : Nat) (t : TypeId) (hg : w.heap[g]? = some (Obj.cells #[] t (0, 0))) (hb : base ≤ g) : w.ownsRow base t size (.slice (some ⟨g, 0, none⟩) 0 0) 0 [] := ⟨by simp, .inr ⟨g, 0, #[], rfl, hb, hg, Nat.le_refl _, Nat.zero_le _, by simp, by simp⟩⟩
theorem SHs.rows {w : World} {A : Option Addr} {n c : Nat} {l : List LHead} (h : SHs w (.slice A n c) l) : n = l.length ∧ (A = none → n = 0 ∧ c = 0) ∧ ∃ css : List (List Value), css.length = l.length ∧ (∀ i (h : i < l.length), ∃ cs, css[i]? = some cs ∧ LH w l[i] cs) ∧ (∀ x ∈ css, x.length = 21 ∧ x.all (·.oneCell') = true) ∧ ∀ ad, A = some ad → ∀ j u, css.flatten[j]? = some u → w.cell? (ad.add j) = some u := by
 obtain ⟨A1, c1, h1, h2, h3, h4, h5⟩ := h
 injection h1 with e1 e2 e3
 subst e1 e2 e3
 have hch : ∀ i, i < l.length → ∃ cs : List Value, ∃ hi : i < l.length, LH w l[i] cs ∧ ∀ ad, A = some ad → ∀ j u, cs[j]? = some u → w.cell? ((ad.add (i * 21)).add j) = some u := by
  intro i hi
  obtain ⟨a, cs, e, hc, hd⟩ := h5 i hi
  refine ⟨cs, hi, hc, fun ad h => ?_⟩
  rw [e] at h
  injection h with h
  subst h
  exact hd
 obtain ⟨css, k1, k2⟩ := choose_list l.length hch
 have hall : ∀ x ∈ css, x.length = 21 ∧ x.all (·.oneCell') = true := by
  intro x hx
  obtain ⟨i, hi, rfl⟩ := List.mem_iff_getElem.1 hx
  obtain ⟨y, e1, hi2, e2, _⟩ := k2 i (by omega)
  rw [List.getElem?_eq_getElem hi] at e1
  injection e1 with e1
  subst e1
  exact ⟨(e2.x w).len, (e2.x w).one⟩
 refine ⟨rfl, fun hA => ?_, css, k1, fun i hi => ?_, hall, fun ad hA j u hj => ?_⟩
 ·obtain ⟨rfl, rfl⟩ := h4 hA
  exact ⟨rfl, rfl⟩
 ·obtain ⟨y, e1, hi2, e2, _⟩ := k2 i hi
  exact ⟨y, e1, e2⟩
 ·have hjl := (List.getElem?_eq_some_iff.1 hj).1
  rw [flat_len 21 css (fun x hx => (hall x hx).1), k1] at hjl
  have hq : j / 21 < l.length := by omega
  obtain ⟨y, e1, hi2, e2, e3⟩ := k2 (j / 21) hq
  have e4 : j = j / 21 * 21 + j % 21 := by omega
  rw [e4, flat_get 21 css (fun x hx => (hall x hx).1) (j / 21) (j % 21) (by omega), e1] at hj
  have e5 := e3 ad hA (j % 21) u hj
  rw [add_add, ← e4] at e5
  exact e5
theorem row_mid {w : World} {g : Nat} {t : TypeId} {fz : Nat × Nat} {pre mid post : List Value} (hg : w.heap[g]? = some (Obj.cells (pre ++ mid ++ post).toArray t fz)) (n : Nat) (hn : pre.length = n) : ∀ j v, mid[j]? = some v → w.cell? ((⟨g, n, none⟩ : Addr).add j) = some v := by
 intro j v hj
 rw [Addr.add_lit, blk_cell hg]
 have hjl := (List.getElem?_eq_some_iff.1 hj).1
 simp only [List.getElem?_toArray]
 rw [List.append_assoc, List.getElem?_append_right (by omega), hn, Nat.add_sub_cancel_left, List.getElem?_append_left hjl]
 exact hj
theorem OHs.shs {w0 w : World} {base : Nat} {v : Value} {hs : List LHead} (H : OHs w0 base w v hs) (hw : Sub w0 w) : SHs w v hs := by
 by_cases h0 : hs = []
 ·subst h0
  obtain ⟨css, h1, h2, h3⟩ := H
  rcases h2 with ⟨k1, ⟨rfl, k3⟩ | ⟨b, cap, cur, rfl, k4, k5, k6, k7, k8, k9⟩⟩
  ·exact ⟨none, 0, rfl, Nat.le_refl _, by omega, fun _ => ⟨rfl, rfl⟩, fun i h => absurd h (by simp)⟩
  ·exact ⟨some ⟨b, 0, none⟩, cap, rfl, Nat.zero_le _, by simpa [maxLen] using k7, fun h => (by cases h), fun i h => absurd h (by simp)⟩
 ·have hpos : 0 < hs.length := List.length_pos_iff.2 h0
  obtain ⟨b, c, cs, pre, suf, post, e1, e2, e3, e4, e5, e6, e7, _⟩ := H.at_ 0 hpos
  have hc : hs.length ≤ c ∧ c ≤ 9223372036854775807 := by
   obtain ⟨css, h1, h2, h3⟩ := H
   rcases h2 with ⟨k1, ⟨k2, k3⟩ | ⟨b2, cap, cur, k3, k4, k5, k6, k7, k8, k9⟩⟩
   ·omega
   ·rw [e1] at k3
    injection k3 with _ _ k3
    subst k3
    exact ⟨k6, by simpa [maxLen] using k7⟩
  refine ⟨some ⟨b, 0, none⟩, c, e1, hc.1, hc.2, fun h => (by cases h), fun i hi => ?_⟩
  obtain ⟨b2, c2, cs2, pre2, suf2, post2, f1, f2, f3, f4, f5, f6, f7, _⟩ := H.at_ i hi
  rw [e1] at f1
  injection f1 with f1 _ _
  injection f1 with f1
  injection f1 with f1 _ _
  subst f1 f6
  refine ⟨⟨b, 0, none⟩, suf2, rfl, f7.lh hw, fun j u hj => ?_⟩
  rw [Addr.add_lit, Nat.zero_add]
  exact row_mid f3 (i * 21) f4 j u hj
theorem ret_two {P : Program} {fn : Func} {R : Ending → World → Prop} {a : Act} {w : World} (s0 s : Nat) (x : Value) (ty : TypeId) (A : Addr) (cs : List Value) (d : TypeDesc) (hres : fn.results = #[.tmp s0, .cell s ty]) (h0 : a.tmps.getD s0 undef = x) (hs : a.tmps.getD s undef = .pointer (some A))
  (hc : ∀ j v, cs[j]? = some v → w.cell? (A.add j) = some v) (hu : P.underlying ty = some d) (hd : d.isRow = true) (n : Nat) (hi : (P.info? ty).map (·.size) = some n) (hn : cs.length = n) (hdf : a.defers = []) (hR : R (.returned (.tuple #[x, .agg cs.toArray])) w) : bodyPost P fn R .ret a w := by
 refine bodyPost_ret (v := .tuple #[x, .agg cs.toArray]) ?_ hdf hR
 have hl := run_loadVar_any (P := P) w A ty cs d hc hu hd (by rw [hn]; exact hi)
 have ha : (asAddr (Value.pointer (some A))).run P w = .ok A w := rfl
 rw [Array.getD_eq_getD_getElem?] at hs h0
 simp [results, hres, hs, h0, Sem.run_bind, ha, hl]
def isT (t : Int) (h : LHead) : Bool := h.t == t
def countT (t : Int) (l : List LHead) : Nat := (l.filter (isT t)).length
def noneH : LHead := ⟨-1, [], [], [], emptyU, [], 0, [], [], [], [], 0⟩
def firstH (t : Int) (l : List LHead) : LHead := match l.find? (isT t) with
 | some h => plainH h
 | none => noneH
theorem first_cons (t : Int) (h : LHead) (l : List LHead) (e : isT t h = true) : countT t (h :: l) = countT t l + 1 ∧ firstH t (h :: l) = plainH h := by
 unfold countT firstH
 simp [e]
theorem first_skip (t : Int) (h : LHead) (l : List LHead) (e : isT t h = false) : countT t (h :: l) = countT t l ∧ firstH t (h :: l) = firstH t l := by
 unfold countT firstH
 simp [e]
def noneC : List Value := [.int .i64 (-1), .slice none 0 0, .slice none 0 0, .slice none 0 0, .slice none 0 0, .slice none 0 0, .bool false, .bool false, .slice none 0 0, .slice none 0 0, .slice none 0 0, .int .i64 0, .slice none 0 0, .slice none 0 0, .slice none 0 0, .int .u32 0, .slice none 0 0, .slice none 0 0, .slice none 0 0, .slice none 0 0, .int .i64 0]
theorem noneH_at (w0 w : World) : LHx w0 w noneH noneC :=
 ⟨.slice none 0 0, .slice none 0 0, .slice none 0 0, _, .slice none 0 0, .slice none 0 0, .slice none 0 0, .slice none 0 0, .slice none 0 0, rfl, .inl (SB.nil _), .inl (SB.nil _), SB.nil _, LU.empty _, SK.nil _, SB.nil _, SB.nil _, SB.nil _, SB.nil _, by show I64 (-1); unfold I64; omega, by decide, by show I64 0; unfold I64; omega⟩
def FirstX (w0 : World) (t : Int) (l : List LHead) (w : World) (e : Ending) (w' : World) : Prop := ∃ cs, e = .returned (.tuple #[.int .i64 (countT t l : Nat), .agg cs.toArray]) ∧ LHx w0 w' (firstH t l) cs ∧ Below w.heap.size w w'
def FirstPost (t : Int) (l : List LHead) (w : World) (e : Ending) (w' : World) : Prop := FirstX w t l w e w'
def FB (w : World) (g : Nat) (h : LHead) (wr : World) : Prop := ∃ cs : List Value, wr.heap[g]? = some (Obj.cells cs.toArray 35 (0, 0)) ∧ LHx w wr h cs
theorem firsts_x (w0 : World) (v : Value) (l : List LHead) (t : Int) (w : World) (hS : SHs w0 v l) (hw : Sub w0 w) (ht : ∀ h ∈ l, 0 ≤ h.t ∧ h.t ≤ 14) (hl : l.length ≤ 1000) : Calls Tryz.prog 12 #[v, .int .i64 t] w (FirstX w0 t l w) := by
 have HW := hid hw
 clear hw
 have HS := hid hS
 have HL := hid hl
 have HT := hid ht
 obtain ⟨A, c, rfl, hlen⟩ := hS.form
 clear hS ht
 have hl2 : (l.length : Int) ≤ 1000 := by omega
 obtain ⟨wb, hwb⟩ : ∃ wb, wb = (w.alloc (.cells zeroH.toArray 35)).alloc (.cells zeroH.toArray 35) := ⟨_, rfl⟩
 have HWB1 := hid (show wb.heap[w.heap.size]? = some (.cells zeroH.toArray 35 (0, 0)) by rw [hwb]; exact ((Below.refl _ _).alloc (Nat.le_refl _) _).block w.heap.size (by simp) |>.trans (heap_alloc_new w _))
 have HWB2 := hid (show wb.heap[w.heap.size + 1]? = some (.cells zeroH.toArray 35 (0, 0)) by rw [hwb]; have := heap_alloc_new (w.alloc (.cells zeroH.toArray 35)) (.cells zeroH.toArray 35); rwa [World.size_alloc] at this)
 have HB0 := hid (show Below w.heap.size w wb by rw [hwb]; exact ((Below.refl _ w).alloc (Nat.le_refl _) _).alloc (by simp) _)
 go_enter Tryz.func12, Tryz.ntmps12
 go_upto_region 2 with (first
  | (refine wpList_store_blk (by rfl) 35 (.tmp 7) (.tmp 9) (by rfl) (w.heap.size + 1) 35 zeroH noneC (by rfl) (by rfl) rfl (by have := heap_alloc_new (w.alloc (.cells zeroH.toArray 35)) (.cells zeroH.toArray 35); rwa [World.size_alloc] at this) 21 head_size rfl rfl ?_; intro W3 hst3)
  | fail)
 have HK3 := hid (show Stored (w.heap.size + 1) 35 noneC wb W3 by rw [hwb]; exact hst3)
 clear hst3
 have HB3 := hid (show Below w.heap.size w W3 from HB0.out.trans (HK3.out.below.mono (by omega)))
 have HZ3 := hid (show W3.heap[w.heap.size]? = some (.cells zeroH.toArray 35 (0, 0)) from (HK3.out.other w.heap.size (by omega)).trans HWB1.out)
 have HF3 := hid (show FB w0 (w.heap.size + 1) noneH W3 from ⟨noneC, HK3.out.blk, noneH_at _ _⟩)
 clear hwb HWB1 HWB2
 go_wp2_with fail
 go_loopw [6, 8] (fun n i wr => ∃ j : Nat, ∃ x : Int, j ≤ l.length ∧ i = .int .i64 x ∧ x = (j : Int) - 1 ∧ n = .int .i64 (countT t (l.drop j) : Nat) ∧ FB w0 (w.heap.size + 1) (firstH t (l.drop j)) wr ∧ wr.heap[w.heap.size]? = some (.cells zeroH.toArray 35 (0, 0)) ∧ Below w.heap.size w wr) (fun _ i _ => (intOf i + 1).toNat)
 case atStart => exact ⟨l.length, _, Nat.le_refl _, rfl, by omega, by simp [countT], by simpa [firstH] using HF3.out, HZ3.out, HB3.out⟩
 case round =>
  obtain ⟨j, x, hj, rfl, hx, rfl, hfb, hz, hb⟩ := hrel
  obtain ⟨wo, rfl⟩ : ∃ wo : World, wo = wr := ⟨_, rfl⟩
  have HFB := hid hfb
  have HZ := hid hz
  have HB := hid hb
  have HJ := hid hj
  have hcn : countT t (l.drop j) ≤ 1000 := by
   unfold countT
   have h1 := List.length_filter_le (isT t) (l.drop j)
   rw [List.length_drop] at h1
   have := HL.out
   omega
  clear hfb hz hb
  cases j with
  | zero =>
   obtain rfl : x = -1 := by omega
   clear hx hcn hj
   have hfb0 : FB w0 (w.heap.size + 1) (firstH t l) wo := by simpa using HFB.out
   obtain ⟨cs, hg, hx⟩ := hfb0
   have HX := hid hx
   have HG := hid hg
   clear hx hg
   go_wp2_with fail
   refine wp_region_grow 3 (CK wo.heap.size) (IW wo)
    (fun i v w' => match i with
     | 0 => v = .int .i64 (countT t (l.drop 0) : Nat)
     | 1 => v = .agg cs.toArray
     | 2 => v = .int .i64 (countT t (l.drop 0) : Nat)
     | _ => True)
    [[], [], [0]] rfl (by kernel_rfl) (by kernel_rfl) (fun _ _ => IW.step) ?_ ?_ ?_ ?_
   ·intro j hj v w'
    match j, hj with
    | j + 3, _ => trivial
   ·exact CK.of_below (Below.refl _ _).drew (Nat.le_refl _)
   ·simp only [List.take_succ_cons, List.take_zero, fillAll]
    refine ⟨⟨?_, ?_⟩, ⟨?_, ?_⟩, ⟨?_, ?_⟩, trivial⟩
    ·exact fun v w1 w2 h k => h
    ·intro vals w1 hI hd
     unfold GStep
     go_wp2
     exact CK.refl _ _
    ·exact fun v w1 w2 h k => h
    ·intro vals w1 hI hd
     have HGI := hid (hI.same HG.out (by decide))
     unfold GStep
     refine wpList_load_blk (by rfl) 35 (.tmp 7) (by rfl) (w.heap.size + 1) 35 (0, 0) cs (by rfl) HGI.out _ Tryz.underlying35 rfl 21 head_size HX.out.len ?_
     go_wp2
     exact CK.refl _ _
    ·exact fun v w1 w2 h k => h
    ·intro vals w1 hI hd
     have h1 : vals 0 = _ := hd.1
     unfold GStep
     go_wp2
     exact CK.refl _ _
   ·intro vals w1 hI hR
    simp only [List.drop_succ_cons, List.drop_zero, List.take_succ_cons, List.take_zero, fillAll]
    obtain ⟨r0, r1, r2, -⟩ := hR
    have e0 : vals 0 = _ := r0
    have e1 : vals 1 = _ := r1
    have e2 : vals 2 = _ := r2
    rw [e0, e1, e2]
    have HZ1 := hid (hI.same HZ.out (by decide))
    have HI := hid hI
    have HX1 := hid (HX.out.ku hI.ku)
    clear hI e0 e1 e2 r0 r1 r2
    go_wp2_with (first
     | (refine wpList_store_blk (by rfl) 35 (.tmp 5) (.tmp 32) (by rfl) w.heap.size 35 zeroH cs (by rfl) (by rfl) (by rw [HX1.out.len]; rfl) HZ1.out 21 head_size HX1.out.len HX1.out.one ?_; intro W4 hst4; have HST4 := hid hst4; clear hst4)
     | fail)
    refine ret_two 4 5 (.int .i64 (countT t l : Nat)) 35 ⟨w.heap.size, 0, none⟩ cs _ rfl rfl rfl (row_cells HST4.out.blk) Tryz.underlying35 rfl 21 head_size HX1.out.len rfl ⟨cs, rfl, ?_, ?_⟩
    ·exact HX1.out.ku (HST4.out.ku (N := 0) (Nat.zero_le _) HZ1.out (by decide))
    ·exact HB.out.trans ((HI.out.below.mono HB.out.size).trans HST4.out.below)
  | succ k =>
   obtain rfl : x = (k : Int) := by omega
   have hk1 : (0 : Int) ≤ k := by omega
   have hk2 : (k : Int) ≤ 1000 := by omega
   have hkl : k < l.length := by omega
   obtain ⟨a, c', cs0, h, e1, hh, hLH, hcell⟩ := HS.out.at_ k hkl
   cases e1
   have h0 : cs0[0]? = some (.int .i64 h.t) := by
    obtain ⟨a, b, c, ul, p, d, e, f, g, h0, -⟩ := hLH
    rw [h0]
    rfl
   have d0 := cell_at_below (HW.out.cell _ _ (hcell 0 _ h0)) HB.out
   rw [Addr.add_zero'] at d0
   have HDR := hid (show l.drop k = h :: l.drop (k + 1) by
    obtain ⟨h1, h2⟩ := List.getElem?_eq_some_iff.1 hh
    rw [List.drop_eq_getElem_cons h1, h2])
   have hk3 : (k : Int) < l.length := by omega
   have HCE := hid (show ∀ j u, cs0[j]? = some u → wo.cell? ((a.add (k * 21)).add j) = some u from fun j u hj => cell_at_below (HW.out.cell _ _ (hcell j u hj)) HB.out)
   have HLX := hid (hLH.x wo)
   have HTH := hid (HT.out h (List.mem_of_getElem? hh))
   have hn0 : (0 : Int) ≤ (countT t (l.drop (k + 1)) : Nat) := by omega
   have hn1 : ((countT t (l.drop (k + 1)) : Nat) : Int) ≤ 1000 := by omega
   have HP := hid (plain_any w0 h cs0 wo HTH.out HLX.out (HW.out.trans (HB.out.mono HW.out.size)))
   have HKL := hid (Nat.le_of_lt hkl)
   clear hcell hLH h0 hh hkl hx hj hcn
   cases hte : (h.t == t)
   ·have hit : isT t h = false := hte
    have HN := hid (first_skip t h (l.drop (k + 1)) hit)
    clear hit
    go_wp2
    go_roundw
    case rel =>
     refine ⟨k, _, HKL.out, rfl, rfl, ?_, ?_, HZ.out, HB.out⟩
     ·rw [HDR.out, HN.out.1]
     ·rw [HDR.out, HN.out.2]; exact HFB.out
    case measure => simp only [intOf]; omega
   ·have hit : isT t h = true := hte
    have HN := hid (first_cons t h (l.drop (k + 1)) hit)
    clear hit
    go_wp2_with (first
     | (refine wpList_load_any (by rfl) 35 (.tmp 28) (by rfl) (a.add (k * 21)) (by rfl) cs0 _ HCE.out Tryz.underlying35 rfl (by rw [head_size, HLX.out.len]) ?_)
     | (go_at_call 23; refine HP.out.mono ?_; rintro e w2 ⟨cs2, rfl, hlx2, hb2⟩; have HL2 := hid hlx2; have HB2 := hid hb2; obtain ⟨csf, hgf, hxf⟩ := HFB.out; have HG2 := hid ((hb2.block _ (heap_lt hgf)).trans hgf); have HCF := hid hxf.len; clear hlx2 hb2 hgf hxf)
     | (refine wpList_store_blk (by rfl) 35 (.tmp 7) (.tmp 30) (by rfl) (w.heap.size + 1) 35 csf cs2 (by rfl) (by rfl) (by rw [HL2.out.len, HCF.out]) HG2.out 21 head_size HL2.out.len HL2.out.one ?_; intro W4 hst4; have HST4 := hid hst4; clear hst4)
     | fail)
    go_roundw
    case rel =>
     refine ⟨k, _, HKL.out, rfl, rfl, ?_, ⟨cs2, HST4.out.blk, ?_⟩, ?_, ?_⟩
     ·rw [HDR.out, HN.out.1]; rfl
     ·rw [HDR.out, HN.out.2]; exact HL2.out.ku (HST4.out.ku (N := 0) (Nat.zero_le _) HG2.out (by decide))
     ·rw [HST4.out.other _ (by omega)]; exact (HB2.out.block _ (heap_lt HZ.out)).trans HZ.out
     ·exact (HB.out.trans (HB2.out.mono HB.out.size)).trans (HST4.out.below.mono (by omega))
    case measure => simp only [intOf]; omega
theorem firsts_any (v : Value) (l : List LHead) (t : Int) (w : World) (hS : SHs w v l) (ht : ∀ h ∈ l, 0 ≤ h.t ∧ h.t ≤ 14) (hl : l.length ≤ 1000) : Calls Tryz.prog 12 #[v, .int .i64 t] w (FirstPost t l w) := firsts_x w v l t w hS (Sub.refl w) ht hl
def paramV (l : BKVs) (k : Bytes) : Bytes := ((l.find? fun p => p.1 == k).map (·.2)).getD []
theorem par_drop {hs : BKVs} {nm : Bytes} {k : Nat} (h : ∀ i (hi : i < hs.length), i < k → (hs[i].1 == nm) = false) : (hs.find? fun p => p.1 == nm) = (hs.drop k).find? fun p => p.1 == nm := by
 induction k generalizing hs with
 | zero => simp
 | succ k ih =>
  cases hs with
  | nil => simp
  | cons a r =>
   have h0 := h 0 (by simp) (by omega)
   simp only [List.getElem_cons_zero] at h0
   rw [List.find?_cons_of_neg (by simp [h0]), List.drop_succ_cons]
   exact ih (fun i hi hk => h (i + 1) (by simpa using hi) (by omega))
def VPost (l : Bytes) (w : World) (e : Ending) (w' : World) : Prop := ∃ v, e = .returned v ∧ SB w' v l ∧ Below w.heap.size w w'
def branchK : Bytes := [98, 114, 97, 110, 99, 104]
theorem branch_any (h : LHead) (cs : List Value) (w : World) (hH : LH w h cs) : Calls Tryz.prog 14 #[.agg cs.toArray] w (VPost (paramV h.params branchK) w) := by
 have hlen := (hH.x w).len
 obtain ⟨t, name, text, display, u, params, num, proto, version, transport, host, port⟩ := h
 obtain ⟨a, b, c, ul0, p, d, e, f, g, rfl, ha, hb, hc, hu, hp, hd, he, hf, hg, ht64, hnum, hport⟩ := hH
 obtain ⟨u0, u1, u4, u5, u6, u8, u9, rfl, -⟩ := hu
 dsimp only at *
 simp only [List.cons_append, List.nil_append]
 have HS := hid hp
 obtain ⟨Ap, cp, rfl, hpl⟩ := hp.form
 clear hlen ha hb hc hp hd he hf hg ht64 hnum hport
 obtain ⟨wb, hwb⟩ : ∃ wb, wb = w.alloc (.cells #[.int .i64 t, a, b, c, u0, u1, .bool u.star, .bool u.slashes, u4, u5, u6, .int .i64 u.port, u8, u9, .slice Ap params.length cp, .int .u32 num, d, e, f, g, .int .i64 port] 35) := ⟨_, rfl⟩
 have HWB1 := hid (show wb.heap[w.heap.size]? = some (.cells ([.int .i64 t, a, b, c, u0, u1, .bool u.star, .bool u.slashes, u4, u5, u6, .int .i64 u.port, u8, u9, .slice Ap params.length cp, .int .u32 num, d, e, f, g, .int .i64 port] : List Value).toArray 35 (0, 0)) by rw [hwb]; exact heap_alloc_new w _)
 have HB0 := hid (show Below w.heap.size w wb by rw [hwb]; exact (Below.refl _ w).alloc (Nat.le_refl _) _)
 have HSZ := hid (show wb.heap.size = w.heap.size + 1 by rw [hwb]; simp)
 go_enter Tryz.func14, Tryz.ntmps14
 go_upto_region 1 with fail
 rw [← hwb]
 generalize Value.agg #[.int .i64 t, a, b, c, u0, u1, .bool u.star, .bool u.slashes, u4, u5, u6, .int .i64 u.port, u8, u9, .slice Ap params.length cp, .int .u32 num, d, e, f, g, .int .i64 port] = arg0
 clear hwb
 go_wp2_with fail
 go_loopw [3] (fun i wr => ∃ k : Nat, k ≤ params.length ∧ i = .int .i64 k ∧ (∀ j (hj : j < params.length), j < k → (params[j].1 == branchK) = false) ∧ Below wb.heap.size wb wr) (fun i _ => params.length - (intOf i).toNat)
 case atStart => exact ⟨0, Nat.zero_le _, rfl, fun j _ h => absurd h (by omega), Below.refl _ _⟩
 case round =>
  obtain ⟨k, hk, rfl, hno, hb⟩ := hrel
  obtain ⟨wo, rfl⟩ : ∃ wo : World, wo = wr := ⟨_, rfl⟩
  have HNO := hid hno
  have HB := hid hb
  have HG := hid ((HB.out.block w.heap.size (by have := HSZ.out; omega)).trans HWB1.out)
  have HBW := hid (HB0.out.trans (HB.out.mono (by have := HSZ.out; omega)))
  have c14 := row_at HG.out 14 _ rfl
  clear hno hb
  by_cases hlt : k < params.length
  ·obtain ⟨a', c', vk, vv, p, e1, hc0, hc1, hk1, hv1, hp⟩ := HS.out.at_ k hlt
   cases e1
   have d0 := cell_at_below hc0 HBW.out
   have d1 := cell_at_below hc1 HBW.out
   have HIS := hid (is_any vk p.1 ⟨#[98, 114, 97, 110, 99, 104]⟩ wo (hk1.below HBW.out) (by show (6 : Nat) ≤ _; omega))
   have HLT := hid (And.intro (Nat.succ_le_of_lt hlt) hp)
   have hge : params[k] = p := by rw [List.getElem?_eq_getElem hlt] at hp; exact Option.some.inj hp
   have HGE := hid hge
   have HV := hid (hv1.below HBW.out)
   obtain ⟨Ak, ck, rfl, nk⟩ := hk1.form
   obtain ⟨Av, cv, rfl, nv⟩ := hv1.form
   have hk2 : (0 : Int) ≤ k := by omega
   have hk3 : (k : Int) < params.length := by omega
   clear hk1 hv1 hp hge hc0 hc1
   by_cases hm : p.1 = branchK
   ·have HD := hid (show ∀ e : Ending, e = .returned (.bool (decide (p.1 = (⟨#[98, 114, 97, 110, 99, 104]⟩ : ByteArray).data.toList))) → e = .returned (.bool true) from fun e h => by rw [h]; exact ret_bool (by simpa [branchK] using hm))
    have HM := hid hm
    clear hm
    go_wp2_with (go_at_call 35; refine HIS.out.mono ?_; rintro e w1 ⟨he, hb1⟩; have he' := HD.out e he; subst he'; have HB1 := hid hb1; have d2 := cell_at_below d1 hb1; have d14 := cell_at_below c14 hb1; clear he hb1)
    go_ret
    refine ⟨_, rfl, ?_, HBW.out.trans (HB1.out.mono HBW.out.size)⟩
    have hfi : paramV params branchK = p.2 := by
     unfold paramV
     rw [par_drop HNO.out, List.drop_eq_getElem_cons hlt, HGE.out, List.find?_cons_of_pos (by simp [HM.out])]
     rfl
    rw [hfi]
    exact HV.out.below HB1.out
   ·have HD := hid (show ∀ e : Ending, e = .returned (.bool (decide (p.1 = (⟨#[98, 114, 97, 110, 99, 104]⟩ : ByteArray).data.toList))) → e = .returned (.bool false) from fun e h => by rw [h]; exact ret_bool (by simpa [branchK] using hm))
    have HM := hid hm
    clear hm
    go_wp2_with (go_at_call 35; refine HIS.out.mono ?_; rintro e w1 ⟨he, hb1⟩; have he' := HD.out e he; subst he'; have HB1 := hid hb1; clear he hb1)
    go_roundw
    case rel =>
     refine ⟨k + 1, HLT.out.1, by simp, fun j hj hjk => ?_, HB.out.trans (HB1.out.mono HB.out.size)⟩
     by_cases hjl : j < k
     ·exact HNO.out j hj hjl
     ·obtain rfl : j = k := by omega
      rw [HGE.out]
      simpa using HM.out
    case measure => exact meas_step HLT.out.1 (by simp)
  ·have HNL := hid hlt
   have hk3 : ¬ (k : Int) < params.length := by omega
   clear hlt
   go_wp2
   go_ret
   refine ⟨_, rfl, ?_, HBW.out⟩
   have hfi : paramV params branchK = [] := by
    unfold paramV
    rw [par_drop HNO.out, List.drop_eq_nil_of_le (by have := HNL.out; omega)]
    rfl
   rw [hfi]
   exact SB.nil _
theorem issingle_any (v : Value) (l : List LHead) (w : World) (hS : SHs w v l) (ht : ∀ h ∈ l, 0 ≤ h.t ∧ h.t ≤ 14) (hl : l.length ≤ 1000) : Calls Tryz.prog 34 #[v] w (SomeB w) := by
 have HF := hid (fun (t : Int) (wz : World) (hz : Below w.heap.size w wz) => firsts_any v l t wz (hS.below hz) ht hl)
 clear ht hl
 obtain ⟨A, c, rfl, hlen⟩ := hS.form
 clear hS
 go_enter Tryz.func34, Tryz.ntmps34
 go_wp2_with fail
 go_loopw [3] (fun i wr => ∃ t : Nat, t ≤ 15 ∧ i = .int .i64 t ∧ Below w.heap.size w wr) (fun i _ => 15 - (intOf i).toNat)
 case atStart => exact ⟨1, by omega, rfl, Below.refl _ _⟩
 case round =>
  obtain ⟨t, ht, rfl, hb⟩ := hrel
  obtain ⟨wo, rfl⟩ : ∃ wo : World, wo = wr := ⟨_, rfl⟩
  have HB := hid hb
  clear hb
  by_cases hlt : t < 15
  ·have HC := hid (HF.out t wo HB.out)
   have HLT := hid (Nat.succ_le_of_lt hlt)
   have ht1 : (t : Int) < 15 := by omega
   have ht0 : (0 : Int) ≤ t := by omega
   go_wp2_with (first
    | (go_at_call 12; refine HC.out.mono ?_; rintro e w1 ⟨cs, rfl, hx, hb1⟩; have HX := hid hx; have HB1 := hid hb1; clear hx hb1)
    | (refine wpList_store_blk (by rfl) 35 (.tmp 5) (.tmp 15) (by rfl) w1.heap.size 35 [.int .i64 0, .slice none 0 0, .slice none 0 0, .slice none 0 0, .slice none 0 0, .slice none 0 0, .bool false, .bool false, .slice none 0 0, .slice none 0 0, .slice none 0 0, .int .i64 0, .slice none 0 0, .slice none 0 0, .slice none 0 0, .int .u32 0, .slice none 0 0, .slice none 0 0, .slice none 0 0, .slice none 0 0, .int .i64 0] cs (by rfl) (by rfl) (by rw [HX.out.len]; rfl) (heap_alloc_new w1 _) 21 head_size HX.out.len HX.out.one ?_; intro W2 hst2; have HB2 := hid (HB.out.trans ((HB1.out.trans ((((Below.refl _ w1).alloc (Nat.le_refl _) _).trans hst2.below).mono HB1.out.size)).mono HB.out.size)); clear hst2)
    | fail)
   ·go_ret
    exact ⟨⟨_, rfl⟩, HB2.out⟩
   ·go_roundw
    case rel => exact ⟨t + 1, HLT.out, by simp, HB2.out⟩
    case measure => exact meas_step HLT.out (by simp)
  ·have ht2 : ¬ (t : Int) < 15 := by omega
   go_wp2
   go_ret
   exact ⟨⟨_, rfl⟩, HB.out⟩
structure RCall (m : LMsg) : Prop where
 msg : RMsg m
 one : ∀ t ∈ ([9, 2, 1, 4, 5] : List Int), countT t m.heads = 1
 br : 7 < (paramV (firstH 9 m.heads).params branchK).length ∧ (paramV (firstH 9 m.heads).params branchK).take 7 = [122, 57, 104, 71, 52, 98, 75]
def callTs : List Int := [9, 2, 1, 4, 5]
theorem LM.heads_at {w : World} {m : LMsg} {l : List Value} (h : LM w m l) : ∃ v, l[15]? = some v ∧ SHs w v m.heads := by
 obtain ⟨va, ul, vb, vc, vh, vd, rfl, -, hu, -, -, hh, -⟩ := h
 obtain ⟨u0, u1, u4, u5, u6, u8, u9, rfl, -⟩ := hu
 exact ⟨vh, rfl, hh⟩
theorem iscall_any (m : LMsg) (cs : List Value) (w : World) (hM : LM w m cs) (hB : MBd m) : Calls Tryz.prog 8 #[.agg cs.toArray] w (Says (RCall m) w) := by
 have hlen : cs.length = 19 := by
  obtain ⟨va, ul, vb, vc, vh, vd, rfl, hm, hu, _⟩ := hM
  simp [hu.len]
 obtain ⟨vh, hvh, hsh⟩ := hM.heads_at
 obtain ⟨Ah, ch, rfl, hhl⟩ := hsh.form
 have HSH := hid hsh
 have HM := hid (And.intro hM hB)
 clear hM hB hsh
 obtain ⟨x0, x1, x2, x3, x4, x5, x6, x7, x8, x9, x10, x11, x12, x13, x14, x15, x16, x17, x18, rfl⟩ := list19 hlen
 obtain rfl : x15 = .slice Ah m.heads.length ch := by simpa using hvh
 clear hvh hlen
 obtain ⟨wb, hwb⟩ : ∃ wb, wb = w.alloc (.cells #[x0, x1, x2, x3, x4, x5, x6, x7, x8, x9, x10, x11, x12, x13, x14, .slice Ah m.heads.length ch, x16, x17, x18] 28) := ⟨_, rfl⟩
 have HWB1 := hid (show wb.heap[w.heap.size]? = some (.cells ([x0, x1, x2, x3, x4, x5, x6, x7, x8, x9, x10, x11, x12, x13, x14, .slice Ah m.heads.length ch, x16, x17, x18] : List Value).toArray 28 (0, 0)) by rw [hwb]; exact heap_alloc_new w _)
 have HB0 := hid (show Below w.heap.size w wb by rw [hwb]; exact (Below.refl _ w).alloc (Nat.le_refl _) _)
 have HSZ := hid (show wb.heap.size = w.heap.size + 1 by rw [hwb]; simp)
 have HBW := hid (show ∀ wx, Below wb.heap.size wb wx → Below w.heap.size w wx from fun wx h => HB0.out.trans (h.mono (by have := HSZ.out; omega)))
 have HG := hid (show ∀ wx, Below wb.heap.size wb wx → wx.heap[w.heap.size]? = some (.cells ([x0, x1, x2, x3, x4, x5, x6, x7, x8, x9, x10, x11, x12, x13, x14, .slice Ah m.heads.length ch, x16, x17, x18] : List Value).toArray 28 (0, 0)) from fun wx h => (h.block _ (by have := HSZ.out; omega)).trans HWB1.out)
 have HIM := hid (ismsg_any m _ wb (HM.out.1.below HB0.out) HM.out.2)
 have HBL := hid (Below.refl wb.heap.size wb)
 go_enter Tryz.func8, Tryz.ntmps8
 go_upto_region 1 with fail
 rw [← hwb]
 generalize Value.agg #[x0, x1, x2, x3, x4, x5, x6, x7, x8, x9, x10, x11, x12, x13, x14, .slice Ah m.heads.length ch, x16, x17, x18] = arg0
 clear hwb
 have c15 := row_at (HG.out _ HBL.out) 15 _ rfl
 go_upto_if 18 with (first
  | (refine wpList_load_blk (by rfl) 28 (.tmp 1) (by rfl) w.heap.size 28 (0, 0) [x0, x1, x2, x3, x4, x5, x6, x7, x8, x9, x10, x11, x12, x13, x14, .slice Ah m.heads.length ch, x16, x17, x18] (by rfl) (HG.out _ HBL.out) _ Tryz.underlying28 rfl 19 msg_size rfl ?_)
  | (go_at_call 33; refine HIM.out.mono ?_; rintro e w1 ⟨⟨b, rfl, hb⟩, hbb⟩; have HR := hid hb; have HBL := hid (HBL.out.trans hbb); have c15 := row_at (HG.out _ HBL.out) 15 _ rfl; clear hb hbb; cases b)
  | (go_at_call 34; refine (issingle_any _ m.heads _ (HSH.out.below (HBW.out _ HBL.out)) (fun h hh => ((HR.out (by first | rfl | trivial)).heads h hh).1.sort) (by have := (HR.out (by first | rfl | trivial)).many; omega)).mono ?_; rintro e w2 ⟨⟨b2, rfl⟩, hbb⟩; have HBL := hid (HBL.out.trans (hbb.mono HBL.out.size)); clear hbb; cases b2)
  | fail)
 any_goals
  (go_wp2_with fail
   go_ret
   exact ⟨⟨false, rfl, fun h => by simp at h⟩, HBW.out _ HBL.out⟩)
 have R := hid (HR.out (by first | rfl | trivial))
 have HFI := hid (show ∀ (t : Int) (wz : World), Below wb.heap.size wb wz → Calls Tryz.prog 12 #[.slice Ah m.heads.length ch, .int .i64 t] wz (FirstPost t m.heads wz) from fun t wz hz => firsts_any _ m.heads t wz (HSH.out.below (HBW.out _ hz)) (fun h hh => (R.out.heads h hh).1.sort) (by have := R.out.many; omega))
 obtain ⟨wc, hwc⟩ : ∃ wc, wc = w2.alloc (.cells #[.int .i64 9, .int .i64 2, .int .i64 1, .int .i64 4, .int .i64 5] 3) := ⟨_, rfl⟩
 have HWC := hid (show wc.heap[w2.heap.size]? = some (.cells (callTs.map fun x => Value.int .i64 x).toArray 3 (0, 0)) by rw [hwc]; exact heap_alloc_new w2 _)
 have HBC := hid (show Below wb.heap.size wb wc by rw [hwc]; exact HBL.out.alloc HBL.out.size _)
 have HSC := hid (show wc.heap.size = w2.heap.size + 1 by rw [hwc]; simp)
 go_upto_region 4 with fail
 rw [← hwc]
 clear hwc c15
 go_loopw [21] (fun i wr => ∃ k : Nat, k ≤ 5 ∧ i = .int .i64 k ∧ (∀ t ∈ callTs.take k, countT t m.heads = 1) ∧ Below wc.heap.size wc wr) (fun i _ => 5 - (intOf i).toNat)
 case atStart => exact ⟨0, by omega, rfl, fun t ht => (by simp at ht), Below.refl _ _⟩
 case round =>
  obtain ⟨k, hk, rfl, hall, hb⟩ := hrel
  obtain ⟨wo, rfl⟩ : ∃ wo : World, wo = wr := ⟨_, rfl⟩
  have HA := hid hall
  have HB := hid hb
  have HBL := hid (HBC.out.trans (hb.mono HBC.out.size))
  clear hall hb
  have d15 := row_at (HG.out _ HBL.out) 15 _ rfl
  by_cases hlt : k < 5
  ·obtain ⟨t, hkt⟩ : ∃ t, callTs[k]? = some t := ⟨callTs[k]'hlt, List.getElem?_eq_getElem _⟩
   have dk : wo.cell? ⟨w2.heap.size, k, none⟩ = some (.int .i64 t) := row_at ((HB.out.block _ (by have := HSC.out; omega)).trans HWC.out) k _ (by rw [List.getElem?_map, hkt]; rfl)
   have HKT := hid (And.intro hkt (Nat.succ_le_of_lt hlt))
   have HC := hid (HFI.out t wo HBL.out)
   have hk1 : (k : Int) < 5 := by omega
   have hk0 : (0 : Int) ≤ k := by omega
   clear hkt hlt hk
   by_cases hc1 : countT t m.heads = 1
   ·have hc2 : (((countT t m.heads : Nat) : Int) != 1) = false := by rw [hc1]; rfl
    have HC1 := hid hc1
    clear hc1
    go_wp2_with (first
     | (go_at_call 12; refine HC.out.mono ?_; rintro e w3 ⟨cs, rfl, hx, hb3⟩; have HX := hid hx; have HB3 := hid hb3; clear hx hb3)
     | (refine wpList_store_blk (by rfl) 35 (.tmp 6) (.tmp 31) (by rfl) w3.heap.size 35 zeroH cs (by rfl) (by rfl) (by rw [HX.out.len]; rfl) (heap_alloc_new w3 _) 21 head_size HX.out.len HX.out.one ?_; intro W4 hst4; have HB4 := hid (HB.out.trans ((HB3.out.trans ((((Below.refl _ w3).alloc (Nat.le_refl _) _).trans hst4.below).mono HB3.out.size)).mono HB.out.size)); clear hst4)
     | fail)
    go_roundw
    case rel =>
     refine ⟨k + 1, HKT.out.2, by simp, fun x hx => ?_, HB4.out⟩
     rw [List.take_add_one, HKT.out.1] at hx
     simp only [Option.toList_some, List.mem_append, List.mem_singleton] at hx
     rcases hx with hx | rfl
     ·exact HA.out x hx
     ·exact HC1.out
    case measure => exact meas_step HKT.out.2 (by simp)
   ·have hc2 : (((countT t m.heads : Nat) : Int) != 1) = true := by rw [bne_iff_ne]; omega
    clear hc1
    go_wp2_with (first
     | (go_at_call 12; refine HC.out.mono ?_; rintro e w3 ⟨cs, rfl, hx, hb3⟩; have HX := hid hx; have HB3 := hid hb3; clear hx hb3)
     | (refine wpList_store_blk (by rfl) 35 (.tmp 6) (.tmp 31) (by rfl) w3.heap.size 35 zeroH cs (by rfl) (by rfl) (by rw [HX.out.len]; rfl) (heap_alloc_new w3 _) 21 head_size HX.out.len HX.out.one ?_; intro W4 hst4; have HB4 := hid (HB.out.trans ((HB3.out.trans ((((Below.refl _ w3).alloc (Nat.le_refl _) _).trans hst4.below).mono HB3.out.size)).mono HB.out.size)); clear hst4)
     | fail)
    go_ret
    exact ⟨⟨false, rfl, fun h => by simp at h⟩, HBW.out _ (HBC.out.trans (HB4.out.mono HBC.out.size))⟩
  ·obtain rfl : k = 5 := by omega
   clear hlt hk
   have HC := hid (HFI.out 9 wo HBL.out)
   have hk1 : ¬ ((5 : Nat) : Int) < 5 := by omega
   go_upto_region 11 with (first
    | (go_at_call 12; refine HC.out.mono ?_; rintro e w3 ⟨cs, rfl, hx, hb3⟩; have HX := hid hx; have HB3 := hid hb3; clear hx hb3)
    | (refine wpList_store_blk (by rfl) 35 (.tmp 8) (.tmp 40) (by rfl) w3.heap.size 35 zeroH cs (by rfl) (by rfl) (by rw [HX.out.len]; rfl) (heap_alloc_new w3 _) 21 head_size HX.out.len HX.out.one ?_; intro W4 hst4; have HST4 := hid hst4; clear hst4)
    | fail)
   have hb34 : Below w3.heap.size w3 W4 := (((Below.refl _ w3).alloc (Nat.le_refl _) _).trans HST4.out.below)
   have HLH := hid ((HX.out.lh (Sub.of_below HB3.out)).below hb34)
   have HB4 := hid (show Below wb.heap.size wb W4 from HBL.out.trans ((HB3.out.trans (hb34.mono HB3.out.size)).mono HBL.out.size))
   have HBR := hid (branch_any _ cs W4 HLH.out)
   obtain ⟨br, hbr⟩ : ∃ br, br = paramV (firstH 9 m.heads).params branchK := ⟨_, rfl⟩
   rw [← hbr] at HBR
   have HBE := hid hbr
   clear hb34 hbr
   go_upto_region 12 with (first
    | (refine wpList_load_blk (by rfl) 35 (.tmp 8) (by rfl) w3.heap.size 35 (0, 0) cs (by rfl) HST4.out.blk _ Tryz.underlying35 rfl 21 head_size HX.out.len ?_)
    | (go_at_call 14; refine HBR.out.mono ?_; rintro e w5 ⟨v5, rfl, hs5, hb5⟩; have HS5 := hid hs5; have HB5 := hid (HB4.out.trans (hb5.mono HB4.out.size)); obtain ⟨A5, c5, rfl, hl5⟩ := hs5.form; clear hs5 hb5)
    | fail)
   by_cases h7 : 7 < br.length
   ·have h7i : (7 : Int) < br.length := by omega
    obtain ⟨a5, e5⟩ : ∃ a5, A5 = some a5 := by
     cases A5 with
     | none =>
      obtain ⟨A6, c6, e1, -, -, e4, -⟩ := HS5.out
      injection e1 with e1 _ _
      have := (e4 e1.symm).1
      rw [this] at h7
      simp at h7
     | some a5 => exact ⟨a5, rfl⟩
    subst e5
    have hc7 : (7 : Int) ≤ c5 := by
     obtain ⟨A6, c6, e1, e2, -⟩ := HS5.out
     injection e1 with _ _ e3
     omega
    have HIS := hid (is_any (.slice (some a5) 7 c5) (br.take 7) ⟨#[122, 57, 104, 71, 52, 98, 75]⟩ w5 (HS5.out.pre 7 (by omega)) (by show (7 : Nat) ≤ _; omega))
    have H7 := hid h7
    clear h7
    go_wp2_with (go_at_call 35; refine HIS.out.mono ?_; rintro e w6 ⟨rfl, hb6⟩; have HB6 := hid (HB5.out.trans (hb6.mono HB5.out.size)); clear hb6)
    go_ret
    refine ⟨⟨_, rfl, fun h => ⟨R.out, fun t ht => HA.out t ht, ?_⟩⟩, HBW.out _ HB6.out⟩
    rw [← HBE.out]
    exact ⟨H7.out, by simpa using h⟩
   ·have h7i : ¬ (7 : Int) < br.length := by omega
    go_wp2_with fail
    go_ret
    exact ⟨⟨false, rfl, fun h => by simp at h⟩, HBW.out _ HB5.out⟩
