import Derived.Test.YtglhcpmaiogdjaaGreatDoorD17
set_option maxRecDepth 100000
set_option maxHeartbeats 16000000
set_option linter.all false
namespace Go.Proofs.YtglhcpmaiogdjaaGreatDoor
open Go.Lib (hid)
open Go
theorem wpAny_growP {P : Program} {ops : Array Oper} {Q : Exit → Act → World → Prop} (n : Nat) (a0 : Act) (Le : World → World → Prop) (I0 : World → Prop) (R : Nat → (Nat → Value) → World → Prop) (B : Value → World → Prop) (KK : Nat → Bool) (hB : ∀ v w w', B v w → Le w w' → B v w')
  (hG : growB ops n = true) (hI : ∀ w w', I0 w → Le w w' → I0 w') (hR : ∀ j vals w w', R j vals w → Le w w' → R j vals w') (hRd : ∀ j vals vals' w, (∀ k, (k = j ∨ Region.waitsFor .any ops j k = true) → vals k = vals' k) → R j vals w → R j vals' w)
  (hstep : ∀ i o, ops[i]? = some o → i < n → ∀ vals w, I0 w → (∀ j, Region.waitsFor .any ops i j = true → R j vals w) → GStep P Le o (fun v w2 => R i (fun j => if j = i then v else vals j) w2 ∧ (KK i = true → B v w2 ∧ ¬ B v w)) (fillAll vals (ops.toList.take n) 0 a0) w)
  (hend : ∀ vals w, I0 w → (∀ j, j < n → R j vals w) → (∀ i j, i < n → j < n → KK i = true → KK j = true → i ≠ j → vals i ≠ vals j) → wpList P ops Q (ops.toList.drop n) (fillAll vals (ops.toList.take n) 0 a0) w) :
  ∀ (fuel : Nat) (listed : Array Bool) (a : Act) (w : World), HeadInv .any ops n listed → unl listed.toList = fuel →
   (∃ vals, a = fill (fun k => listed.getD k false) vals (ops.toList.take n) 0 a0 ∧ (∀ j, j < n → listed.getD j false = true → R j vals w ∧ (KK j = true → B (vals j) w)) ∧ ∀ i j, i < n → j < n → listed.getD i false = true → listed.getD j false = true → KK i = true → KK j = true → i ≠ j → vals i ≠ vals j) → I0 w → wpAny P .any ops Q fuel listed a w := by
 simp only [growB, Bool.and_eq_true, decide_eq_true_eq] at hG
 obtain ⟨⟨⟨⟨⟨hsel, hn⟩, hs⟩, hc⟩, hh⟩, hseq⟩ := hG
 intro fuel
 induction fuel with
 | zero =>
  intro listed a w inv hu _ _
  exfalso
  have h1 := inv.tail n (Nat.le_refl _) hn
  have h2 : listed.toList[n]? = some false := by
   have h3 : n < listed.size := by rw [inv.size]; exact hn
   rw [Array.getD_eq_getD_getElem?, Array.getElem?_eq_getElem h3] at h1
   simpa [h3] using h1
  have := unl_set _ _ h2
  omega
 | succ fuel ih =>
  intro listed a w inv hu ⟨vals, ha, hv, hd⟩ hI0
  by_cases hall : ∀ j, j < n → listed.getD j false = true
  ·have hl : listed = ((List.range ops.size).map (fun i => decide (i < n))).toArray := by
    apply Array.ext
    ·simp [inv.size]
    ·intro j h1 h2
     have h3 : j < ops.size := by rw [← inv.size]; exact h1
     simp only [List.getElem_toArray, List.getElem_map, List.getElem_range]
     by_cases hj : j < n
     ·have := hall j hj
      simp [h1] at this
      simp [this, hj]
     ·have := inv.tail j (by omega) h3
      simp [h1] at this
      simp [this, hj]
   have hfu : fuel + 1 = (ops.toList.drop n).length := by
    rw [← hu, hl]
    simp only [List.length_drop, Array.length_toList]
    exact unl_range n ops.size
   rw [hfu]
   have he : a = fillAll vals (ops.toList.take n) 0 a0 := by
    rw [ha]
    exact fillAll_eq vals _ 0 a0 _ (fun j _ h2 => hall j (by have := List.length_take_le n ops.toList; omega))
   refine wpAny_of_seq (ops.toList.drop n) n listed a w (fun j => by simp) ?_ ?_
   ·rw [List.length_drop, Array.length_toList, hl]
    exact hseq
   ·rw [he]
    exact hend vals w hI0 (fun j hj => (hv j hj (hall j hj)).1) (fun i j hi hj => hd i j hi hj (hall i hi) (hall j hj))
  ·have hex : ∃ j, j < n ∧ listed.getD j false = false := by
    apply Classical.byContradiction
    intro hne
    exact hall (fun j hj => by
     cases h : listed.getD j false with
     | true => rfl
     | false => exact absurd ⟨j, hj, h⟩ hne)
   have hmin : ∃ j, j < n ∧ listed.getD j false = false ∧ ∀ i, i < j → listed.getD i false = true := by
    obtain ⟨j, hj, hjf⟩ := hex
    induction j using Nat.strongRecOn with
    | _ j jh =>
     by_cases h : ∃ i, i < j ∧ listed.getD i false = false
     ·obtain ⟨i, h1, h2⟩ := h
      exact jh i h1 (by omega) h2
     ·exact ⟨j, hj, hjf, fun i hi => by
       cases hx : listed.getD i false with
       | true => rfl
       | false => exact absurd ⟨i, hi, hx⟩ h⟩
   obtain ⟨m, hm, hmf, hml⟩ := hmin
   have hmu : listed.getD m true = false := getD_in (by rw [inv.size]; omega) hmf
   have hready : m ∈ Region.ready .any ops listed := by
    have hlt : m < ops.size := by omega
    refine mem_ready.2 ⟨hmu, ops[m], Array.getElem?_eq_getElem hlt, fun e he hb => hml _ ?_⟩
    exact (headB_spec hh hm (Array.getElem?_eq_getElem hlt)).2.1 e he hb
   refine ⟨fun h0 => (by rw [h0] at hready; cases hready), fun i hi => ?_⟩
   have hin : i < n := by
    rcases Nat.lt_or_ge i n with h | h
    ·exact h
    ·exact absurd hi (tail_waits hs hc hn inv _ m rfl hm hmu i h)
   obtain ⟨hiu, o, ho, hwait⟩ := mem_ready.1 hi
   obtain ⟨h1, h2, h3, h4⟩ := headB_spec hh hin ho
   have hw : ∀ j, Region.waitsFor .any ops i j = true → listed.getD j false = true ∧ j < n := by
    intro j hj
    obtain ⟨o', ho', e, he, hb, rfl⟩ := Region.waitsFor_spec hj
    obtain rfl : o' = o := Option.some.inj (ho'.symm.trans ho)
    exact ⟨hwait e he hb, by have := h2 e he hb; omega⟩
   have htk : ∀ (j : Nat) (p : Oper), (ops.toList.take n)[j]? = some p → j < n ∧ ops[j]? = some p := by
    intro j p hp
    have hjl : j < n := by
     have := (List.getElem?_eq_some_iff.1 hp).1
     rw [List.length_take] at this
     omega
    rw [List.getElem?_take_of_lt hjl] at hp
    exact ⟨hjl, by simpa using hp⟩
   unfold wpOp
   simp only [ho]
   rw [if_pos (by simp [Region.wanted, h1])]
   refine .inl (gstep_use (hstep i o ho hin vals w hI0 (fun j hj => (hv j (hw j hj).2 (hw j hj).1).1)) h1 ?_ ?_ ?_ ?_)
   ·refine execOp_congr o (fun cs b => Region.noSelect_spec hsel i o cs b ho) (fun x hx => ?_)
    cases x with
    | tmp t =>
     rw [ha, ← fillAll_eq vals (ops.toList.take n) 0 a0 (fun _ => true) (fun _ _ _ => rfl)]
     refine fill_eval vals t _ _ _ 0 a0 a0 rfl rfl (fun j p hp => ?_)
     obtain ⟨hjl, hp'⟩ := htk j p hp
     rw [Nat.zero_add]
     cases hlj : listed.getD j false with
     | true => exact .inl rfl
     | false =>
      refine .inr (fun hd => h4 j p t hjl hp' ?_ hd ?_)
      ·cases hwj : Region.waitsFor .any ops i j with
       | false => rfl
       | true => rw [(hw j hwj).1] at hlj; cases hlj
      ·exact List.mem_append_left _ (List.mem_filterMap.2 ⟨.tmp t, by simpa using hx, rfl⟩)
    | _ => rfl
   ·rw [ha, ← fillAll_eq vals (ops.toList.take n) 0 a0 (fun _ => true) (fun _ _ _ => rfl), fill_size, fill_size]
   ·rw [ha, ← fillAll_eq vals (ops.toList.take n) 0 a0 (fun _ => true) (fun _ _ _ => rfl), fill_defers, fill_defers]
   ·intro v w' hle hr
    have hset : ∀ k, (listed.setIfInBounds i true).getD k false = if k = i then true else listed.getD k false := by
     intro k
     have his : i < listed.size := by rw [inv.size]; omega
     by_cases hk : k = i
     ·subst hk
      simp [his]
     ·rw [if_neg hk, getD_set_ne false (Ne.symm hk)]
    refine ih _ _ _ (inv.set hi hin) ?_ ⟨fun j => if j = i then v else vals j, ?_, fun j hj hjl => ?_, fun p q hp hq hpl hql kp kq hne => ?_⟩ (hI _ _ hI0 hle)
    ·have h5 : listed.toList[i]? = some false := by
      have his : i < listed.size := by rw [inv.size]; omega
      rw [Array.getD_eq_getD_getElem?, Array.getElem?_eq_getElem his] at hiu
      simpa [his] using hiu
     have := unl_set _ _ h5
     rw [Array.toList_setIfInBounds]
     omega
    ·rw [ha, fill_step (fun k => listed.getD k false) vals v (ops.toList.take n) 0 i o a0 (by rw [List.getElem?_take_of_lt hin]; simpa using ho) (by rw [Nat.zero_add]; exact getD_both hiu)
      (fun j p hp hji => h3 j p (htk j p hp).1 (htk j p hp).2 hji)]
     refine fill_congr _ _ _ _ _ 0 a0 (fun j _ => ?_)
     rw [Nat.zero_add, hset]
     exact ⟨rfl, rfl⟩
    ·show R j (fun j => if j = i then v else vals j) w' ∧ (KK j = true → B (if j = i then v else vals j) w')
     by_cases hji : j = i
     ·subst hji
      rw [if_pos rfl]
      exact ⟨hr.1, fun kj => (hr.2 kj).1⟩
     ·rw [if_neg hji]
      rw [hset, if_neg hji] at hjl
      refine ⟨hRd j vals _ _ (fun k hk => ?_) (hR _ _ _ _ (hv j hj hjl).1 hle), fun kj => hB _ _ _ ((hv j hj hjl).2 kj) hle⟩
      have hkl : listed.getD k false = true := by
       rcases hk with rfl | hk
       ·exact hjl
       ·obtain ⟨o', ho', e, he, hb, rfl⟩ := Region.waitsFor_spec hk
        exact inv.closed j o' ho' hjl e he hb
      have hki : k ≠ i := by
       rintro rfl
       rw [getD_both hiu] at hkl
       cases hkl
      show vals k = if k = i then v else vals k
      rw [if_neg hki]
    ·show (if p = i then v else vals p) ≠ (if q = i then v else vals q)
     by_cases hpi : p = i
     ·subst hpi
      rw [if_pos rfl, if_neg (Ne.symm hne)]
      rw [hset, if_neg (Ne.symm hne)] at hql
      intro e
      exact (hr.2 kp).2 (e ▸ (hv q hq hql).2 kq)
     ·by_cases hqi : q = i
      ·subst hqi
       rw [if_neg hpi, if_pos rfl]
       rw [hset, if_neg hpi] at hpl
       intro e
       exact (hr.2 kq).2 (e ▸ (hv p hp hpl).2 kp)
      ·rw [if_neg hpi, if_neg hqi]
       rw [hset, if_neg hpi] at hpl
       rw [hset, if_neg hqi] at hql
       exact hd p q hp hq hpl hql kp kq hne
theorem wp_region_growP0 {P : Program} {Q : Exit → Act → World → Prop} {id : Nat} {a : Act} {w : World} {l : List Oper} (n : Nat) (Le : World → World → Prop) (I0 : World → Prop) (R : Nat → (Nat → Value) → World → Prop) (B : Value → World → Prop) (KK : Nat → Bool) (hB : ∀ v w w', B v w → Le w w' → B v w')
  (hm : P.follows .mixedOrders = true) (hG : growB l.toArray n = true) (hI : ∀ w w', I0 w → Le w w' → I0 w') (hR : ∀ j vals w w', R j vals w → Le w w' → R j vals w') (hRd : ∀ j vals vals' w, (∀ k, (k = j ∨ Region.waitsFor .any l.toArray j k = true) → vals k = vals' k) → R j vals w → R j vals' w) (h0 : I0 w.drew)
  (hstep : ∀ i o, l.toArray[i]? = some o → i < n → ∀ vals w, I0 w → (∀ j, Region.waitsFor .any l.toArray i j = true → R j vals w) → GStep P Le o (fun v w2 => R i (fun j => if j = i then v else vals j) w2 ∧ (KK i = true → B v w2 ∧ ¬ B v w)) (fillAll vals (l.take n) 0 a) w)
  (hend : ∀ vals w, I0 w → (∀ j, j < n → R j vals w) → (∀ i j, i < n → j < n → KK i = true → KK j = true → i ≠ j → vals i ≠ vals j) → wpList P l.toArray Q (l.drop n) (fillAll vals (l.take n) 0 a) w) : (Code.region id l.toArray true).wp P Q a w := by
 refine wp_region_any hm ?_
 refine wpAny_growP n a Le I0 R B KK hB hG hI hR hRd hstep hend _ _ _ _ ?_ ?_ ⟨fun _ => undef, ?_, fun j _ hj => ?_, fun p q _ _ hpl => ?_⟩ h0
 ·exact ⟨by simp, fun j oj _ hl => (by rw [getD_replicate_false] at hl; cases hl), fun t _ ht => getD_in (by simpa using ht) (getD_replicate_false _ _)⟩
 ·simp [unl, List.countP_replicate]
 ·have h1 : ∀ (l : List Oper) (k : Nat) (a : Act) (L : Nat → Bool), (∀ j, L j = false) → fill L (fun _ => undef) l k a = a := by
   intro l
   induction l with
   | nil => intro k a L _; rfl
   | cons o l ih =>
    intro k a L hL
    rw [fill, hL, if_neg (by simp)]
    exact ih _ _ _ hL
  exact (h1 _ _ _ _ (fun j => getD_replicate_false _ _)).symm
 ·rw [getD_replicate_false] at hj
  cases hj
 ·rw [getD_replicate_false] at hpl
  cases hpl
def DepsV (R : Nat → (Nat → Value) → World → Prop) (vals : Nat → Value) (w : World) : List Nat → Prop
 | [] => True
 | j :: d => R j vals w ∧ DepsV R vals w d
theorem DepsV.of {R : Nat → (Nat → Value) → World → Prop} {vals : Nat → Value} {w : World} : ∀ (d : List Nat), (∀ j ∈ d, R j vals w) → DepsV R vals w d
 | [], _ => trivial
 | j :: d, h => ⟨h j (by simp), DepsV.of d (fun k hk => h k (by simp [hk]))⟩
def GStepsP (P : Program) (Le : World → World → Prop) (I0 : World → Prop) (R : Nat → (Nat → Value) → World → Prop) (B : Value → World → Prop) (KK : Nat → Bool) (A : (Nat → Value) → Act) : List Oper → List (List Nat) → Nat → Prop
 | [], _, _ => True
 | _ :: _, [], _ => False
 | o :: l, d :: D, i => ((∀ vals w w', R i vals w → Le w w' → R i vals w') ∧ (∀ vals vals' w, vals i = vals' i → (∀ k ∈ d, vals k = vals' k) → R i vals w → R i vals' w) ∧ ∀ vals w, I0 w → DepsV R vals w d → GStep P Le o (fun v w2 => R i (fun j => if j = i then v else vals j) w2 ∧ (KK i = true → B v w2 ∧ ¬ B v w)) (A vals) w) ∧ GStepsP P Le I0 R B KK A l D (i + 1)
theorem GStepsP.get {P : Program} {Le : World → World → Prop} {I0 : World → Prop} {R : Nat → (Nat → Value) → World → Prop} {B : Value → World → Prop} {KK : Nat → Bool} {A : (Nat → Value) → Act} : ∀ {l : List Oper} {D : List (List Nat)} {k : Nat}, GStepsP P Le I0 R B KK A l D k →
  ∀ (i : Nat) (o : Oper), l[i]? = some o → (∀ vals w w', R (k + i) vals w → Le w w' → R (k + i) vals w') ∧ (∀ vals vals' w, vals (k + i) = vals' (k + i) → (∀ q ∈ D.getD i [], vals q = vals' q) → R (k + i) vals w → R (k + i) vals' w) ∧ ∀ vals w, I0 w → DepsV R vals w (D.getD i []) → GStep P Le o (fun v w2 => R (k + i) (fun j => if j = k + i then v else vals j) w2 ∧ (KK (k + i) = true → B v w2 ∧ ¬ B v w)) (A vals) w
 | [], _, _, _, _, _, h => by simp at h
 | _ :: _, [], _, h, _, _, _ => h.elim
 | x :: l, d :: D, k, h, 0, o, ho => by
  simp only [List.getElem?_cons_zero, Option.some.injEq] at ho
  subst ho
  exact h.1
 | x :: l, d :: D, k, h, i + 1, o, ho => by
  have := GStepsP.get h.2 i o (by simpa using ho)
  rw [show k + 1 + i = k + (i + 1) by omega] at this
  exact this
theorem wp_region_growP {P : Program} {Q : Exit → Act → World → Prop} {id : Nat} {a : Act} {w : World} {l : List Oper} (n : Nat) (Le : World → World → Prop) (I0 : World → Prop) (R : Nat → (Nat → Value) → World → Prop) (B : Value → World → Prop) (KK : Nat → Bool) (hB : ∀ v w w', B v w → Le w w' → B v w') (D : List (List Nat))
  (hm : P.follows .mixedOrders = true) (hG : growB l.toArray n = true) (hD : depsB l.toArray n D = true) (hI : ∀ w w', I0 w → Le w w' → I0 w') (hRn : ∀ j, n ≤ j → ∀ vals w, R j vals w) (h0 : I0 w.drew)
  (hstep : GStepsP P Le I0 R B KK (fun vals => fillAll vals (l.take n) 0 a) (l.take n) D 0)
  (hend : ∀ vals w, I0 w → DepsV R vals w (List.range n) → (∀ i j, i < n → j < n → KK i = true → KK j = true → i ≠ j → vals i ≠ vals j) → wpList P l.toArray Q (l.drop n) (fillAll vals (l.take n) 0 a) w) : (Code.region id l.toArray true).wp P Q a w := by
 have hln : n ≤ l.length := by
  simp only [growB, Bool.and_eq_true, decide_eq_true_eq] at hG
  have := hG.1.1.1.1.2
  simp at this
  omega
 have hget : ∀ i, i < n → ∃ o, (l.take n)[i]? = some o := fun i hi => ⟨(l.take n)[i]'(by rw [List.length_take]; omega), List.getElem?_eq_getElem _⟩
 refine wp_region_growP0 n Le I0 R B KK hB hm hG hI (fun j v w1 w2 h1 h2 => ?_) (fun j vals vals' w1 h1 h2 => ?_) h0 (fun i o ho hi vals w1 h1 h2 => ?_) (fun vals w1 h1 h2 h3 => hend vals w1 h1 (DepsV.of _ (fun j hj => h2 j (List.mem_range.1 hj))) h3)
 ·by_cases hj : j < n
  ·obtain ⟨o, ho⟩ := hget j hj
   have := (hstep.get j o ho).1
   rw [Nat.zero_add] at this
   exact this v w1 w2 h1 h2
  ·exact hRn j (by omega) v w2
 ·by_cases hj : j < n
  ·obtain ⟨o, ho⟩ := hget j hj
   have := (hstep.get j o ho).2.1
   rw [Nat.zero_add] at this
   exact this vals vals' w1 (h1 j (.inl rfl)) (fun k hk => h1 k (.inr (List.all_eq_true.1 (List.all_eq_true.1 hD j (List.mem_range.2 hj)) k hk))) h2
  ·exact hRn j (by omega) vals' w1
 ·have h3 : (l.take n)[i]? = some o := by
   rw [List.getElem?_take_of_lt hi]
   simpa using ho
  have := (hstep.get i o h3).2.2 vals w1 h1
  rw [Nat.zero_add] at this
  refine this (DepsV.of _ (fun j hj => h2 j ?_))
  exact List.all_eq_true.1 (List.all_eq_true.1 hD i (List.mem_range.2 hi)) j hj
