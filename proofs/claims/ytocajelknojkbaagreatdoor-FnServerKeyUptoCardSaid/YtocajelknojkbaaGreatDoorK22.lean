import Derived.Test.YtocajelknojkbaaGreatDoorK21
set_option maxRecDepth 100000
set_option maxHeartbeats 16000000
set_option linter.all false
namespace Go.Proofs.YtocajelknojkbaaGreatDoor
section
open Go.Lib (hid)
open Go.RowKit
theorem plain_any (w0 : World) (h : LHead) (cs : List Value) (w : World) (ht : 0 ≤ h.t ∧ h.t ≤ 14) (hH : LHx w0 w h cs) (hw : Sub w0 w) : Calls Tryz.prog 23 #[.agg cs.toArray] w (PHP w0 (plainH h) w) :=
 plain_raw w0 h.t h.name h.text h.display h.uri h.params h.num h.proto h.version h.transport h.host h.port cs w ht hH hw
theorem list21 {l : List Value} (h : l.length = 21) : ∃ x0 x1 x2 x3 x4 x5 x6 x7 x8 x9 x10 x11 x12 x13 x14 x15 x16 x17 x18 x19 x20, l = [x0, x1, x2, x3, x4, x5, x6, x7, x8, x9, x10, x11, x12, x13, x14, x15, x16, x17, x18, x19, x20] := by
 match l, h with
 | [x0, x1, x2, x3, x4, x5, x6, x7, x8, x9, x10, x11, x12, x13, x14, x15, x16, x17, x18, x19, x20], _ => exact ⟨x0, x1, x2, x3, x4, x5, x6, x7, x8, x9, x10, x11, x12, x13, x14, x15, x16, x17, x18, x19, x20, rfl⟩
def zeroH : List Value := [.int .i64 0, .slice none 0 0, .slice none 0 0, .slice none 0 0, .slice none 0 0, .slice none 0 0, .bool false, .bool false, .slice none 0 0, .slice none 0 0, .slice none 0 0, .int .i64 0, .slice none 0 0, .slice none 0 0, .slice none 0 0, .int .u32 0, .slice none 0 0, .slice none 0 0, .slice none 0 0, .slice none 0 0, .int .i64 0]
theorem head_info : (Tryz.prog.info? 35).map (fun i => (i.zero, i.size, i.bytes)) = some (some (.agg zeroH.toArray), 21, 400) := by kernel_rfl
def OHs (w0 : World) (base : Nat) (w : World) (v : Value) (hs : List LHead) : Prop := ∃ css : List (List Value), css.length = hs.length ∧ w.ownsRow base 35 21 v hs.length css.flatten ∧ ∀ i (h : i < hs.length), ∃ cs, css[i]? = some cs ∧ LHx w0 w hs[i] cs
theorem OHs.nil (w0 : World) (base : Nat) (w : World) : OHs w0 base w (.slice none 0 0) [] := ⟨[], rfl, World.ownsRow_nil _ _ _ _, fun i h => absurd h (by simp)⟩
theorem OHs.kept {w0 w w1 : World} {base : Nat} {v : Value} {hs : List LHead} (h : OHs w0 base w v hs) (hb : Below w.heap.size w w1) : OHs w0 base w1 v hs := by
 obtain ⟨css, h1, h2, h3⟩ := h
 refine ⟨css, h1, World.ownsRow.kept (row := none) h2 ⟨hb.os, hb.tape, hb.output, hb.size, fun k hk _ => hb.block k hk⟩ (by cases v.ownBlock <;> simp), fun i hi => ?_⟩
 obtain ⟨cs, h4, h5⟩ := h3 i hi
 exact ⟨cs, h4, h5.ku (KU.of_below hb (Nat.zero_le _))⟩
theorem plainH_t (h : LHead) : (plainH h).t = h.t := by
 unfold plainH
 repeat' split
 all_goals rfl
theorem msg_size : (Tryz.prog.info? 28).map (·.size) = some 19 := by kernel_rfl
theorem own_ck {w w' : World} {N base size n : Nat} {e : TypeId} {v : Value} {xs : List Value} (h : w.ownsRow base e size v n xs) (k : CK N w w') (he : e ≠ 5) : w'.ownsRow base e size v n xs := by
 rcases h with ⟨h1, h2 | ⟨g, cap, cur, h3, h4, h5, h6⟩⟩
 ·exact ⟨h1, .inl h2⟩
 ·exact ⟨h1, .inr ⟨g, cap, cur, h3, h4, k.same h5 he, h6⟩⟩
theorem OHs.ck {w0 w w' : World} {N base : Nat} {v : Value} {hs : List LHead} (h : OHs w0 base w v hs) (k : CK N w w') : OHs w0 base w' v hs := by
 obtain ⟨css, h1, h2, h3⟩ := h
 refine ⟨css, h1, own_ck h2 k (by decide), fun i hi => ?_⟩
 obtain ⟨cs, h4, h5⟩ := h3 i hi
 exact ⟨cs, h4, h5.ku k.ku⟩
theorem own_stored {w w' : World} {g base size n : Nat} {ty e : TypeId} {l l0 : List Value} {v : Value} {xs : List Value} (h : w.ownsRow base e size v n xs) (hs : Stored g ty l w w') (hg : w.heap[g]? = some (Obj.cells l0.toArray ty (0, 0))) (hne : e ≠ ty) : w'.ownsRow base e size v n xs := by
 rcases h with ⟨h1, h2 | ⟨k, cap, cur, h3, h4, h5, h6⟩⟩
 ·exact ⟨h1, .inl h2⟩
 ·refine ⟨h1, .inr ⟨k, cap, cur, h3, h4, ?_, h6⟩⟩
  rw [hs.other k]
  ·exact h5
  ·rintro rfl
   rw [hg] at h5
   injection h5 with h5
   injection h5 with _ h5 _
   exact hne h5.symm
theorem OHs.stored {w0 w w' : World} {g base : Nat} {ty : TypeId} {l l0 : List Value} {v : Value} {hs : List LHead} (h : OHs w0 base w v hs) (k : Stored g ty l w w') (hg : w.heap[g]? = some (Obj.cells l0.toArray ty (0, 0))) (hne : 35 ≠ ty) (hu : ty ≠ 5) : OHs w0 base w' v hs := by
 obtain ⟨css, h1, h2, h3⟩ := h
 refine ⟨css, h1, own_stored h2 k hg hne, fun i hi => ?_⟩
 obtain ⟨cs, h4, h5⟩ := h3 i hi
 exact ⟨cs, h4, h5.ku (k.ku (N := 0) (Nat.zero_le _) hg hu)⟩
theorem OHs.cg {w0 w w' : World} {g base : Nat} {ty : TypeId} {tgt l0 : List Value} {v : Value} {hs : List LHead} (h : OHs w0 base w v hs) (k : CG g ty tgt w w') (hg : w.heap[g]? = some (Obj.cells l0.toArray ty (0, 0))) (hne : 35 ≠ ty) (hu : ty ≠ 5) : OHs w0 base w' v hs := by
 obtain ⟨css, h1, h2, h3⟩ := h
 refine ⟨css, h1, ?_, fun i hi => ?_⟩
 ·rcases h2 with ⟨k1, k2 | ⟨b, cap, cur, k3, k4, k5, k6⟩⟩
  ·exact ⟨k1, .inl k2⟩
  ·refine ⟨k1, .inr ⟨b, cap, cur, k3, k4, ?_, k6⟩⟩
   have hbg : b ≠ g := by
    rintro rfl
    rw [hg] at k5
    injection k5 with k5
    injection k5 with _ k5 _
    exact hne k5.symm
   obtain ⟨fz', e1, e2⟩ := k.2.1 b cur _ _ hbg k5
   rw [e1, e2 (by decide)]
 ·obtain ⟨cs, h4, h5⟩ := h3 i hi
  exact ⟨cs, h4, h5.ku (k.ku (N := 0) (Nat.zero_le _) hg hu)⟩
theorem OHs.form {w0 w : World} {base : Nat} {v : Value} {hs : List LHead} (h : OHs w0 base w v hs) : ∃ A c, v = .slice A hs.length c := by
 obtain ⟨css, h1, h2, h3⟩ := h
 exact own_slice h2
theorem OHs.less {w0 w : World} {base b2 : Nat} {v : Value} {hs : List LHead} (h : OHs w0 base w v hs) (hb : b2 ≤ base) : OHs w0 b2 w v hs := by
 obtain ⟨css, h1, h2, h3⟩ := h
 refine ⟨css, h1, ?_, h3⟩
 rcases h2 with ⟨k1, k2 | ⟨g, cap, cur, k3, k4, k5⟩⟩
 ·exact ⟨k1, .inl k2⟩
 ·exact ⟨k1, .inr ⟨g, cap, cur, k3, Nat.le_trans hb k4, k5⟩⟩
section
variable {P : Program} {ops : Array Oper} {rest : List Oper} {o : Oper} {a : Act} {Q : Exit → Act → World → Prop}
end
theorem list19 {l : List Value} (h : l.length = 19) : ∃ x0 x1 x2 x3 x4 x5 x6 x7 x8 x9 x10 x11 x12 x13 x14 x15 x16 x17 x18, l = [x0, x1, x2, x3, x4, x5, x6, x7, x8, x9, x10, x11, x12, x13, x14, x15, x16, x17, x18] := by
 match l, h with
 | [x0, x1, x2, x3, x4, x5, x6, x7, x8, x9, x10, x11, x12, x13, x14, x15, x16, x17, x18], _ => exact ⟨x0, x1, x2, x3, x4, x5, x6, x7, x8, x9, x10, x11, x12, x13, x14, x15, x16, x17, x18, rfl⟩
theorem flat_len (s : Nat) : ∀ (css : List (List Value)), (∀ c ∈ css, c.length = s) → css.flatten.length = css.length * s
 | [], _ => by simp
 | c :: r, h => by
  rw [List.flatten_cons, List.length_append, h c (by simp), flat_len s r (fun d hd => h d (by simp [hd])), List.length_cons, Nat.succ_mul]
  omega
theorem flat_set (s : Nat) : ∀ (css : List (List Value)) (i : Nat) (d : List Value), (∀ c ∈ css, c.length = s) → i < css.length → d.length = s → (css.set i d).flatten = css.flatten.take (i * s) ++ d ++ css.flatten.drop (i * s + s)
 | [], i, _, _, h, _ => absurd h (by simp)
 | c :: r, 0, d, hc, _, hd => by
  have h1 := hc c (by simp)
  rw [List.set_cons_zero, List.flatten_cons, List.flatten_cons, Nat.zero_mul, List.take_zero, List.nil_append, Nat.zero_add, List.drop_left' h1]
 | c :: r, i + 1, d, hc, hi, hd => by
  have h1 := hc c (by simp)
  rw [List.set_cons_succ, List.flatten_cons, List.flatten_cons, flat_set s r i d (fun e he => hc e (by simp [he])) (by simpa using hi) hd]
  have e0 : (i + 1) * s = c.length + i * s := by rw [h1, Nat.succ_mul]; omega
  have e1 : (c ++ r.flatten).take ((i + 1) * s) = c ++ r.flatten.take (i * s) := by
   rw [List.take_append, List.take_of_length_le (l := c) (by omega), e0, show c.length + i * s - c.length = i * s by omega]
  have e2 : (c ++ r.flatten).drop ((i + 1) * s + s) = r.flatten.drop (i * s + s) := by
   rw [List.drop_append, show c.drop ((i + 1) * s + s) = [] from List.drop_eq_nil_of_le (by omega), e0, show c.length + i * s + s - c.length = i * s + s by omega, List.nil_append]
  rw [e1, e2]
  simp [List.append_assoc]
theorem OHs.at_ {w0 w : World} {base : Nat} {v : Value} {hs : List LHead} (H : OHs w0 base w v hs) (i : Nat) (hi : i < hs.length) : ∃ b c cs pre suf post, v = .slice (some ⟨b, 0, none⟩) hs.length c ∧ base ≤ b ∧ w.heap[b]? = some (Obj.cells (pre ++ suf ++ post).toArray 35 (0, 0)) ∧ pre.length = i * 21 ∧ suf.length = 21 ∧ suf = cs ∧ LHx w0 w hs[i] cs ∧
  ∀ (w' : World) (h' : LHead) (cs' : List Value), Stored b 35 (pre ++ cs' ++ post) w w' → LHx w0 w' h' cs' → OHs w0 base w' v (hs.set i h') := by
 obtain ⟨css, h1, h2, h3⟩ := H
 have hall : ∀ c ∈ css, c.length = 21 := by
  intro c hc
  obtain ⟨j, hj, rfl⟩ := List.mem_iff_getElem.1 hc
  obtain ⟨cs, e1, e2⟩ := h3 j (by omega)
  rw [List.getElem?_eq_getElem hj] at e1
  injection e1 with e1
  rw [e1]
  exact e2.len
 have hfl := flat_len 21 css hall
 obtain ⟨cs, hcs, hx⟩ := h3 i hi
 rcases h2 with ⟨k1, ⟨k2, k3⟩ | ⟨b, cap, cur, k3, k4, k5, k6, k7, k8, k9⟩⟩
 ·omega
 ·obtain ⟨lc, rfl⟩ : ∃ lc : List Value, cur = lc.toArray := ⟨cur.toList, by simp⟩
  simp only [List.size_toArray] at k8
  have k9' : lc.take (hs.length * 21) = css.flatten := by simpa using k9
  have hll : hs.length * 21 ≤ lc.length := by rw [k8]; exact Nat.mul_le_mul_right _ k6
  have hin : i * 21 + 21 ≤ hs.length * 21 := by omega
  have hcl := hx.len
  have hget : (lc.drop (i * 21)).take 21 = cs := by
   apply List.ext_getElem?
   intro j
   by_cases hj : j < 21
   ·rw [List.getElem?_take_of_lt hj, List.getElem?_drop]
    have e1 : (css.flatten)[i * 21 + j]? = lc[i * 21 + j]? := by rw [← k9', List.getElem?_take_of_lt (by omega)]
    rw [← e1]
    have e2 : css.set i cs = css := by
     apply List.ext_getElem?
     intro q
     by_cases hq : q = i
     ·subst hq
      rw [List.getElem?_set_self (by omega), hcs]
     ·rw [List.getElem?_set_ne (Ne.symm hq)]
    have e3 := flat_set 21 css i cs hall (by omega) hcl
    rw [e2] at e3
    rw [e3, List.getElem?_append_left (by simp [hfl, hcl]; omega), List.getElem?_append_right (by simp [hfl]; omega)]
    congr 1
    simp [hfl]
    omega
   ·rw [List.getElem?_eq_none (by simp; omega), List.getElem?_eq_none (by omega)]
  refine ⟨b, cap, cs, lc.take (i * 21), (lc.drop (i * 21)).take 21, lc.drop (i * 21 + 21), k3, k4, ?_, by rw [List.length_take]; omega, by rw [hget, hcl], hget, hx, ?_⟩
  ·rw [k5, List.append_assoc, ← List.drop_drop, List.take_append_drop, List.take_append_drop]
  ·intro w' h' cs' hst hx'
   have hcl' := hx'.len
   refine ⟨css.set i cs', by simp [h1], ⟨?_, .inr ⟨b, cap, _, by rw [List.length_set]; exact k3, k4, hst.blk, by rw [List.length_set]; exact k6, k7, ?_, ?_⟩⟩, fun j hj => ?_⟩
   ·rw [List.length_set, flat_len 21 (css.set i cs') (fun c hc => by
     rcases List.mem_or_eq_of_mem_set hc with h | h
     ·exact hall c h
     ·rw [h, hcl'])]
    simp [h1]
   ·simp only [List.size_toArray, List.length_append, List.length_take, List.length_drop, hcl']
    omega
   ·rw [List.length_set, flat_set 21 css i cs' hall (by omega) hcl', ← k9']
    simp only [List.toList_toArray]
    apply List.ext_getElem?
    intro q
    have q1 : (lc.take (i * 21)).length = i * 21 := by rw [List.length_take]; omega
    by_cases hq : q < hs.length * 21
    ·rw [List.getElem?_take_of_lt hq]
     by_cases h4 : q < i * 21
     ·rw [List.append_assoc, List.append_assoc, List.getElem?_append_left (by omega), List.getElem?_append_left (by rw [List.length_take, List.length_take]; omega), List.getElem?_take_of_lt h4, List.getElem?_take_of_lt h4, List.getElem?_take_of_lt hq]
     ·by_cases h5 : q < i * 21 + 21
      ·rw [List.getElem?_append_left (by rw [List.length_append, q1, hcl']; omega), List.getElem?_append_right (by omega), List.getElem?_append_left (by rw [List.length_append, List.length_take, List.length_take, hcl']; omega), List.getElem?_append_right (by rw [List.length_take, List.length_take]; omega)]
       congr 1
       rw [List.length_take, List.length_take, List.length_take]
       omega
      ·rw [List.getElem?_append_right (by rw [List.length_append, q1, hcl']; omega), List.getElem?_append_right (by rw [List.length_append, List.length_take, List.length_take, hcl']; omega), List.getElem?_drop, List.getElem?_drop, List.length_append, List.length_append, q1, hcl', List.length_take, List.length_take]
       rw [List.getElem?_take_of_lt (by omega)]
       congr 1
       omega
    ·rw [List.getElem?_eq_none (by rw [List.length_take]; omega), List.getElem?_eq_none]
     simp only [List.length_append, List.length_take, List.length_drop, hcl']
     omega
   ·rw [List.length_set] at hj
    by_cases hji : j = i
    ·subst hji
     exact ⟨cs', by simp [h1, hi], by simpa using hx'⟩
    ·obtain ⟨c, e1, e2⟩ := h3 j hj
     refine ⟨c, by rw [List.getElem?_set_ne (Ne.symm hji)]; exact e1, ?_⟩
     rw [List.getElem_set_ne (Ne.symm hji)]
     exact e2.ku (hst.ku (N := 0) (Nat.zero_le _) (l0 := lc) k5 (by decide))
end
section
open Go.Lib (hid)
open Go
def guardB (ops : Array Oper) (n i : Nat) (o : Oper) : Bool := match o.guard with
 | none => true
 | some (g, _) => decide (g < n) && Region.waitsFor .any ops i g && ((ops[g]?).bind (·.dst)).isSome
def headB2 (ops : Array Oper) (n : Nat) : Bool :=
 (List.range n).all fun i => match ops[i]? with
  | none => false
  | some o => guardB ops n i o && (o.after.all fun e => !Region.binds .any e || decide (e.on < i)) && (List.range n).all fun j => match ops[j]? with
   | none => false
   | some p => (j == i || !(o.dst.isSome && o.dst == p.dst)) && (Region.waitsFor .any ops i j || match p.dst with | none => true | some d => !(o.looksAt ops).contains d)
def growB2 (ops : Array Oper) (n : Nat) : Bool :=
 Region.noSelect ops && decide (n < ops.size) && Region.sinkB .any ops n && Region.chainB .any ops n && headB2 ops n && Region.seqB .any ops (ops.size - n) n ((List.range ops.size).map (fun i => decide (i < n))).toArray
theorem headB2_spec {ops : Array Oper} {n : Nat} (h : headB2 ops n = true) {i : Nat} {o : Oper} (hi : i < n) (ho : ops[i]? = some o) :
  guardB ops n i o = true ∧ (∀ e ∈ o.after, Region.binds .any e = true → e.on < i) ∧ (∀ j p, j < n → ops[j]? = some p → j ≠ i → ∀ e, o.dst = some e → p.dst ≠ some e) ∧
  ∀ j p d, j < n → ops[j]? = some p → Region.waitsFor .any ops i j = false → p.dst = some d → d ∉ o.looksAt ops := by
 have h1 := List.all_eq_true.1 h i (List.mem_range.2 hi)
 simp only [ho, Bool.and_eq_true] at h1
 obtain ⟨⟨h2, h3⟩, h4⟩ := h1
 refine ⟨h2, fun e he hb => ?_, fun j p hj hp hne e he hpe => ?_, fun j p d hj hp hw hpd hmem => ?_⟩
 ·have := Array.all_eq_true_iff_forall_mem.1 h3 e he
  simpa [hb] using this
 ·have h5 := List.all_eq_true.1 h4 j (List.mem_range.2 hj)
  simp [hp, hne, he, hpe] at h5
 ·have h5 := List.all_eq_true.1 h4 j (List.mem_range.2 hj)
  simp [hp, hw, hpd] at h5
  exact h5.2 hmem
def strip (o : Oper) : Oper := { o with guard := none }
def StepG (P : Program) (Le : World → World → Prop) (o : Oper) (R : Value → World → Prop) (vals : Nat → Value) (A : Act) (w : World) : Prop := match o.guard with
 | none => GStep P Le o R A w
 | some (g, b) => ∃ c, vals g = .bool c ∧ if c = b then GStep P Le (strip o) R A w else R undef w
theorem StepG.plain {P : Program} {Le : World → World → Prop} {o : Oper} {R : Value → World → Prop} {vals : Nat → Value} {A : Act} {w : World} (h : o.guard = none) (hs : GStep P Le o R A w) : StepG P Le o R vals A w := by
 unfold StepG
 rw [h]
 exact hs
theorem StepG.go {P : Program} {Le : World → World → Prop} {o : Oper} {R : Value → World → Prop} {vals : Nat → Value} {A : Act} {w : World} {g : Nat} {b : Bool} (h : o.guard = some (g, b)) (hv : vals g = .bool b) (hs : GStep P Le (strip o) R A w) : StepG P Le o R vals A w := by
 unfold StepG
 rw [h]
 exact ⟨b, hv, by rw [if_pos rfl]; exact hs⟩
theorem StepG.skip {P : Program} {Le : World → World → Prop} {o : Oper} {R : Value → World → Prop} {vals : Nat → Value} {A : Act} {w : World} {g : Nat} {b : Bool} (h : o.guard = some (g, b)) (hv : vals g = .bool (!b)) (hr : R undef w) : StepG P Le o R vals A w := by
 unfold StepG
 rw [h]
 exact ⟨!b, hv, by rw [if_neg (by cases b <;> simp)]; exact hr⟩
theorem fill_get (L : Nat → Bool) (vals : Nat → Value) (t : Tmp) : ∀ (l : List Oper) (k i : Nat) (o : Oper) (a : Act), l[i]? = some o → o.dst = some t → L (k + i) = true → t < a.tmps.size →
  (∀ j p, l[j]? = some p → j ≠ i → p.dst ≠ some t) → (fill L vals l k a).tmps[t]? = some (vals (k + i))
 | [], _, _, _, _, h, _, _, _, _ => by simp at h
 | x :: l, k, 0, o, a, h, hd, hL, ht, hu => by
  simp only [List.getElem?_cons_zero, Option.some.injEq] at h
  subst h
  rw [Nat.add_zero] at hL ⊢
  rw [fill, hL, if_pos rfl]
  have h1 : (fill L vals l (k + 1) (a.put x.dst (vals k))).eval (.tmp t) = (fill (fun _ => false) vals l (k + 1) (a.put x.dst (vals k))).eval (.tmp t) :=
   fill_eval vals t _ _ l (k + 1) _ _ rfl rfl (fun j p hj => .inr (hu (j + 1) p (by simpa using hj) (by omega)))
  have h2 : ∀ (l : List Oper) (k : Nat) (a : Act), fill (fun _ => false) vals l k a = a := by
   intro l
   induction l with
   | nil => intro k a; rfl
   | cons o l ih => intro k a; rw [fill, if_neg (by simp)]; exact ih _ _
  rw [h2, hd, eval_put_self, if_pos ht] at h1
  have h3 : t < (fill L vals l (k + 1) (a.put x.dst (vals k))).tmps.size := by rw [fill_size, put_size]; exact ht
  rw [hd] at h3 ⊢
  simp only [Act.eval, Array.getD_eq_getD_getElem?, Array.getElem?_eq_getElem h3, Option.getD_some] at h1
  rw [Array.getElem?_eq_getElem h3, h1]
 | x :: l, k, i + 1, o, a, h, hd, hL, ht, hu => by
  rw [fill, fill_get L vals t l (k + 1) i o _ (by simpa using h) hd (by rw [show k + 1 + i = k + (i + 1) by omega]; exact hL) (by split <;> simp [put_size, ht]) (fun j p hj hji => hu (j + 1) p (by simpa using hj) (by omega)), show k + 1 + i = k + (i + 1) by omega]
theorem wpAny_growG {P : Program} {ops : Array Oper} {Q : Exit → Act → World → Prop} (n : Nat) (a0 : Act) (Le : World → World → Prop) (I0 : World → Prop) (R : Nat → Value → World → Prop)
  (hG : growB2 ops n = true) (hsz : ∀ i o t, ops[i]? = some o → i < n → o.dst = some t → t < a0.tmps.size) (hrf : ∀ w, Le w w) (hI : ∀ w w', I0 w → Le w w' → I0 w') (hR : ∀ j v w w', R j v w → Le w w' → R j v w')
  (hstep : ∀ i o, ops[i]? = some o → i < n → ∀ vals w, I0 w → (∀ j, Region.waitsFor .any ops i j = true → R j (vals j) w) → StepG P Le o (R i) vals (fillAll vals (ops.toList.take n) 0 a0) w)
  (hend : ∀ vals w, I0 w → (∀ j, j < n → R j (vals j) w) → wpList P ops Q (ops.toList.drop n) (fillAll vals (ops.toList.take n) 0 a0) w) :
  ∀ (fuel : Nat) (listed : Array Bool) (a : Act) (w : World), HeadInv .any ops n listed → unl listed.toList = fuel →
   (∃ vals, a = fill (fun k => listed.getD k false) vals (ops.toList.take n) 0 a0 ∧ ∀ j, j < n → listed.getD j false = true → R j (vals j) w) → I0 w → wpAny P .any ops Q fuel listed a w := by
 simp only [growB2, Bool.and_eq_true, decide_eq_true_eq] at hG
 obtain ⟨⟨⟨⟨⟨hsel, hn⟩, hs⟩, hc⟩, hh⟩, hseq⟩ := hG
 intro fuel
 induction fuel with
 | zero =>
  intro listed a w inv hu _ _
  exfalso
  have h1 := inv.tail n (Nat.le_refl _) hn
  have h2 : listed.toList[n]? = some false := by
   have h3 : n < listed.size := by rw [inv.size]; exact hn
   rw [Array.getD_eq_getD_getElem?, Array.getElem?_eq_getElem h3] at h1
   simpa [h3] using h1
  have := unl_set _ _ h2
  omega
 | succ fuel ih =>
  intro listed a w inv hu ⟨vals, ha, hv⟩ hI0
  by_cases hall : ∀ j, j < n → listed.getD j false = true
  ·have hl : listed = ((List.range ops.size).map (fun i => decide (i < n))).toArray := by
    apply Array.ext
    ·simp [inv.size]
    ·intro j h1 h2
     have h3 : j < ops.size := by rw [← inv.size]; exact h1
     simp only [List.getElem_toArray, List.getElem_map, List.getElem_range]
     by_cases hj : j < n
     ·have := hall j hj
      simp [h1] at this
      simp [this, hj]
     ·have := inv.tail j (by omega) h3
      simp [h1] at this
      simp [this, hj]
   have hfu : fuel + 1 = (ops.toList.drop n).length := by
    rw [← hu, hl]
    simp only [List.length_drop, Array.length_toList]
    exact unl_range n ops.size
   rw [hfu]
   have he : a = fillAll vals (ops.toList.take n) 0 a0 := by
    rw [ha]
    exact fillAll_eq vals _ 0 a0 _ (fun j _ h2 => hall j (by have := List.length_take_le n ops.toList; omega))
   refine wpAny_of_seq (ops.toList.drop n) n listed a w (fun j => by simp) ?_ ?_
   ·rw [List.length_drop, Array.length_toList, hl]
    exact hseq
   ·rw [he]
    exact hend vals w hI0 (fun j hj => hv j hj (hall j hj))
  ·have hex : ∃ j, j < n ∧ listed.getD j false = false := by
    apply Classical.byContradiction
    intro hne
    exact hall (fun j hj => by
     cases h : listed.getD j false with
     | true => rfl
     | false => exact absurd ⟨j, hj, h⟩ hne)
   have hmin : ∃ j, j < n ∧ listed.getD j false = false ∧ ∀ i, i < j → listed.getD i false = true := by
    obtain ⟨j, hj, hjf⟩ := hex
    induction j using Nat.strongRecOn with
    | _ j jh =>
     by_cases h : ∃ i, i < j ∧ listed.getD i false = false
     ·obtain ⟨i, h1, h2⟩ := h
      exact jh i h1 (by omega) h2
     ·exact ⟨j, hj, hjf, fun i hi => by
       cases hx : listed.getD i false with
       | true => rfl
       | false => exact absurd ⟨i, hi, hx⟩ h⟩
   obtain ⟨m, hm, hmf, hml⟩ := hmin
   have hmu : listed.getD m true = false := getD_in (by rw [inv.size]; omega) hmf
   have hready : m ∈ Region.ready .any ops listed := by
    have hlt : m < ops.size := by omega
    refine mem_ready.2 ⟨hmu, ops[m], Array.getElem?_eq_getElem hlt, fun e he hb => hml _ ?_⟩
    exact (headB2_spec hh hm (Array.getElem?_eq_getElem hlt)).2.1 e he hb
   refine ⟨fun h0 => (by rw [h0] at hready; cases hready), fun i hi => ?_⟩
   have hin : i < n := by
    rcases Nat.lt_or_ge i n with h | h
    ·exact h
    ·exact absurd hi (tail_waits hs hc hn inv _ m rfl hm hmu i h)
   obtain ⟨hiu, o, ho, hwait⟩ := mem_ready.1 hi
   obtain ⟨h1, h2, h3, h4⟩ := headB2_spec hh hin ho
   have hw : ∀ j, Region.waitsFor .any ops i j = true → listed.getD j false = true ∧ j < n := by
    intro j hj
    obtain ⟨o', ho', e, he, hb, rfl⟩ := Region.waitsFor_spec hj
    obtain rfl : o' = o := Option.some.inj (ho'.symm.trans ho)
    exact ⟨hwait e he hb, by have := h2 e he hb; omega⟩
   have htk : ∀ (j : Nat) (p : Oper), (ops.toList.take n)[j]? = some p → j < n ∧ ops[j]? = some p := by
    intro j p hp
    have hjl : j < n := by
     have := (List.getElem?_eq_some_iff.1 hp).1
     rw [List.length_take] at this
     omega
    rw [List.getElem?_take_of_lt hjl] at hp
    exact ⟨hjl, by simpa using hp⟩
   have hfl : fillAll vals (ops.toList.take n) 0 a0 = fill (fun _ => true) vals (ops.toList.take n) 0 a0 := (fillAll_eq vals _ 0 a0 _ (fun _ _ _ => rfl)).symm
   have hexec : ∀ x ∈ o.op.operands, (fillAll vals (ops.toList.take n) 0 a0).eval x = a.eval x := by
    intro x hx
    cases x with
    | tmp t =>
     rw [ha, hfl]
     refine fill_eval vals t _ _ _ 0 a0 a0 rfl rfl (fun j p hp => ?_)
     obtain ⟨hjl, hp'⟩ := htk j p hp
     rw [Nat.zero_add]
     cases hlj : listed.getD j false with
     | true => exact .inl rfl
     | false =>
      refine .inr (fun hd => h4 j p t hjl hp' ?_ hd ?_)
      ·cases hwj : Region.waitsFor .any ops i j with
       | false => rfl
       | true => rw [(hw j hwj).1] at hlj; cases hlj
      ·exact List.mem_append_left _ (List.mem_filterMap.2 ⟨.tmp t, by simpa using hx, rfl⟩)
    | _ => rfl
   have hsz1 : (fillAll vals (ops.toList.take n) 0 a0).tmps.size = a.tmps.size := by rw [ha, hfl, fill_size, fill_size]
   have hdf : (fillAll vals (ops.toList.take n) 0 a0).defers = a.defers := by rw [ha, hfl, fill_defers, fill_defers]
   have hcont : ∀ v w', Le w w' → R i v w' → wpAny P .any ops Q fuel (listed.setIfInBounds i true) (a.put o.dst v) w' := by
    intro v w' hle hr
    have hset : ∀ k, (listed.setIfInBounds i true).getD k false = if k = i then true else listed.getD k false := by
     intro k
     have his : i < listed.size := by rw [inv.size]; omega
     by_cases hk : k = i
     ·subst hk
      simp [his]
     ·rw [if_neg hk, getD_set_ne false (Ne.symm hk)]
    refine ih _ _ _ (inv.set hi hin) ?_ ⟨fun j => if j = i then v else vals j, ?_, fun j hj hjl => ?_⟩ (hI _ _ hI0 hle)
    ·have h5 : listed.toList[i]? = some false := by
      have his : i < listed.size := by rw [inv.size]; omega
      rw [Array.getD_eq_getD_getElem?, Array.getElem?_eq_getElem his] at hiu
      simpa [his] using hiu
     have := unl_set _ _ h5
     rw [Array.toList_setIfInBounds]
     omega
    ·rw [ha, fill_step (fun k => listed.getD k false) vals v (ops.toList.take n) 0 i o a0 (by rw [List.getElem?_take_of_lt hin]; simpa using ho) (by rw [Nat.zero_add]; exact getD_both hiu)
      (fun j p hp hji => h3 j p (htk j p hp).1 (htk j p hp).2 hji)]
     refine fill_congr _ _ _ _ _ 0 a0 (fun j _ => ?_)
     rw [Nat.zero_add, hset]
     exact ⟨rfl, rfl⟩
    ·show R j (if j = i then v else vals j) w'
     by_cases hji : j = i
     ·subst hji
      rw [if_pos rfl]
      exact hr
     ·rw [if_neg hji]
      rw [hset, if_neg hji] at hjl
      exact hR _ _ _ _ (hv j hj hjl) hle
   have hst := hstep i o ho hin vals w hI0 (fun j hj => hv j (hw j hj).2 (hw j hj).1)
   unfold wpOp
   simp only [ho]
   cases hgd : o.guard with
   | none =>
    unfold StepG at hst
    rw [hgd] at hst
    rw [if_pos (by simp [Region.wanted, hgd])]
    exact .inl (gstep_use hst hgd (execOp_congr o (fun cs b => Region.noSelect_spec hsel i o cs b ho) hexec) hsz1 hdf hcont)
   | some gb =>
    obtain ⟨g, b⟩ := gb
    unfold StepG at hst
    rw [hgd] at hst
    obtain ⟨c, hc1, hc2⟩ := hst
    unfold guardB at h1
    rw [hgd] at h1
    simp only [Bool.and_eq_true, decide_eq_true_eq] at h1
    obtain ⟨⟨hgn, hgw⟩, hgd2⟩ := h1
    obtain ⟨og, hog⟩ : ∃ og, ops[g]? = some og := ⟨ops[g]'(by omega), Array.getElem?_eq_getElem (by omega)⟩
    obtain ⟨t, ht⟩ : ∃ t, og.dst = some t := by
     rw [hog] at hgd2
     exact Option.isSome_iff_exists.1 hgd2
    have htm : a.tmps[t]? = some (.bool c) := by
     rw [ha, fill_get _ vals t (ops.toList.take n) 0 g og a0 (by rw [List.getElem?_take_of_lt hgn]; simpa using hog) ht (by rw [Nat.zero_add]; exact (hw g hgw).1) (hsz g og t hog hgn ht)
      (fun j p hp hji hpd => (headB2_spec hh hgn hog).2.2.1 j p (htk j p hp).1 (htk j p hp).2 hji t ht hpd), Nat.zero_add, hc1]
    have hyl : yielded ops a.tmps g = some c := by
     unfold yielded
     rw [hog]
     simp [ht, htm]
    by_cases hcb : c = b
    ·rw [if_pos hcb] at hc2
     rw [if_pos (by simp [Region.wanted, hgd, hyl, hcb])]
     refine .inl ?_
     have h5 := gstep_use (B := a) (Q := Q) (K := fun a' w' => wpAny P .any ops Q fuel (listed.setIfInBounds i true) a' w') hc2 rfl (execOp_congr (strip o) (fun cs b => Region.noSelect_spec hsel i o cs b ho) hexec) hsz1 hdf hcont
     exact h5
    ·rw [if_neg hcb] at hc2
     rw [if_neg (by simp [Region.wanted, hgd, hyl, hcb])]
     exact hcont undef w (hrf w) hc2
def GStepsG (P : Program) (Le : World → World → Prop) (I0 : World → Prop) (R : Nat → Value → World → Prop) (A : (Nat → Value) → Act) : List Oper → List (List Nat) → Nat → Prop
 | [], _, _ => True
 | _ :: _, [], _ => False
 | o :: l, d :: D, i => ((∀ v w w', R i v w → Le w w' → R i v w') ∧ ∀ vals w, I0 w → Deps R vals w d → StepG P Le o (R i) vals (A vals) w) ∧ GStepsG P Le I0 R A l D (i + 1)
theorem GStepsG.get {P : Program} {Le : World → World → Prop} {I0 : World → Prop} {R : Nat → Value → World → Prop} {A : (Nat → Value) → Act} : ∀ {l : List Oper} {D : List (List Nat)} {k : Nat}, GStepsG P Le I0 R A l D k →
  ∀ (i : Nat) (o : Oper), l[i]? = some o → (∀ v w w', R (k + i) v w → Le w w' → R (k + i) v w') ∧ ∀ vals w, I0 w → Deps R vals w (D.getD i []) → StepG P Le o (R (k + i)) vals (A vals) w
 | [], _, _, _, _, _, h => by simp at h
 | _ :: _, [], _, h, _, _, _ => h.elim
 | x :: l, d :: D, k, h, 0, o, ho => by
  simp only [List.getElem?_cons_zero, Option.some.injEq] at ho
  subst ho
  exact h.1
 | x :: l, d :: D, k, h, i + 1, o, ho => by
  have := GStepsG.get h.2 i o (by simpa using ho)
  rw [show k + 1 + i = k + (i + 1) by omega] at this
  exact this
def sizeB (l : List Oper) (n m : Nat) : Bool := (l.take n).all fun o => match o.dst with | none => true | some t => decide (t < m)
theorem wp_region_growG {P : Program} {Q : Exit → Act → World → Prop} {id : Nat} {a : Act} {w : World} {l : List Oper} (n m : Nat) (Le : World → World → Prop) (I0 : World → Prop) (R : Nat → Value → World → Prop) (D : List (List Nat))
  (hm : P.follows .mixedOrders = true) (hG : growB2 l.toArray n = true) (hD : depsB l.toArray n D = true) (hz : sizeB l n m = true) (hmz : m ≤ a.tmps.size) (hrf : ∀ w, Le w w) (hI : ∀ w w', I0 w → Le w w' → I0 w') (hRn : ∀ j, n ≤ j → ∀ v w, R j v w) (h0 : I0 w.drew)
  (hstep : GStepsG P Le I0 R (fun vals => fillAll vals (l.take n) 0 a) (l.take n) D 0)
  (hend : ∀ vals w, I0 w → Deps R vals w (List.range n) → wpList P l.toArray Q (l.drop n) (fillAll vals (l.take n) 0 a) w) : (Code.region id l.toArray true).wp P Q a w := by
 have hln : n ≤ l.length := by
  simp only [growB2, Bool.and_eq_true, decide_eq_true_eq] at hG
  have := hG.1.1.1.1.2
  simp at this
  omega
 have hget : ∀ i, i < n → ∃ o, (l.take n)[i]? = some o := fun i hi => ⟨(l.take n)[i]'(by rw [List.length_take]; omega), List.getElem?_eq_getElem _⟩
 refine wp_region_any hm ?_
 refine wpAny_growG n a Le I0 R hG (fun i o t ho hi ht => ?_) hrf hI (fun j v w1 w2 h1 h2 => ?_) (fun i o ho hi vals w1 h1 h2 => ?_) (fun vals w1 h1 h2 => hend vals w1 h1 (Deps.of _ (fun j hj => h2 j (List.mem_range.1 hj)))) _ _ _ _ ?_ ?_ ⟨fun _ => undef, ?_, fun j _ hj => ?_⟩ h0
 ·have h3 : (l.take n)[i]? = some o := by
   rw [List.getElem?_take_of_lt hi]
   simpa using ho
  have h4 := List.all_eq_true.1 hz o (List.mem_of_getElem? h3)
  rw [ht] at h4
  have h5 : t < m := by simpa using h4
  omega
 ·by_cases hj : j < n
  ·obtain ⟨o, ho⟩ := hget j hj
   have := (hstep.get j o ho).1
   rw [Nat.zero_add] at this
   exact this v w1 w2 h1 h2
  ·exact hRn j (by omega) v w2
 ·have h3 : (l.take n)[i]? = some o := by
   rw [List.getElem?_take_of_lt hi]
   simpa using ho
  have := (hstep.get i o h3).2 vals w1 h1
  rw [Nat.zero_add] at this
  refine this (Deps.of _ (fun j hj => h2 j ?_))
  exact List.all_eq_true.1 (List.all_eq_true.1 hD i (List.mem_range.2 hi)) j hj
 ·exact ⟨by simp, fun j oj _ hl => (by rw [getD_replicate_false] at hl; cases hl), fun t _ ht => getD_in (by simpa using ht) (getD_replicate_false _ _)⟩
 ·simp [unl, List.countP_replicate]
 ·have h1 : ∀ (l : List Oper) (k : Nat) (a : Act) (L : Nat → Bool), (∀ j, L j = false) → fill L (fun _ => undef) l k a = a := by
   intro l
   induction l with
   | nil => intro k a L _; rfl
   | cons o l ih =>
    intro k a L hL
    rw [fill, hL, if_neg (by simp)]
    exact ih _ _ _ hL
  exact (h1 _ _ _ _ (fun j => getD_replicate_false _ _)).symm
 ·rw [getD_replicate_false] at hj
  cases hj
end
section
open Go.Lib (hid)
open Go.RowKit
theorem SB.drewN {w : World} {v : Value} {l : Bytes} (h : SB w v l) (n : Nat) : SB (w.drewN n) v l := h
theorem SK.drewN {w : World} {v : Value} {l : BKVs} (h : SK w v l) (n : Nat) : SK (w.drewN n) v l := h
theorem below_drewN {B : Nat} {w w' : World} (h : Below B w w') (n : Nat) : Below B w (w'.drewN n) := ⟨h.os, h.tape, h.output, h.size, h.block⟩
def Quiet (b : Bool) (w : World) (e : Ending) (w' : World) : Prop := e = .returned (.bool b) ∧ ∃ n, w' = w.drewN n
theorem equal_q (v u : Value) (l m : Bytes) (w : World) (hS : SB w v l) (hT : SB w u m) : Calls Tryz.prog 19 #[v, u] w (Quiet (decide (l = m)) w) := by
 have HS := hid hS
 have HT := hid hT
 obtain ⟨A, c, rfl, hlen⟩ := hS.form
 obtain ⟨A2, c2, rfl, hlen2⟩ := hT.form
 clear hS hT
 by_cases hlm : l.length = m.length
 ·have HLM := hid hlm
  have hz : ((l.length : Int) == m.length) = true := by simp [hlm]
  rw [← hlm] at hlen2 ⊢
  clear hlm hlen2 hz
  go_enter Tryz.func19, Tryz.ntmps19
  go_wp2_with fail
  go_loopw [5] (fun i wr => ∃ k n : Nat, k ≤ l.length ∧ i = .int .i64 k ∧ l.take k = m.take k ∧ wr = w.drewN n) (fun i _ => l.length - (intOf i).toNat)
  case atStart => exact ⟨0, 0, Nat.zero_le _, rfl, by simp, rfl⟩
  case round =>
   obtain ⟨k, n, hk, rfl, hall, hb⟩ := hrel
   have HA := hid hall
   have HB := hid hb
   obtain ⟨wo, rfl⟩ : ∃ wo : World, wo = wr := ⟨_, rfl⟩
   clear hall hb
   by_cases hlt : k < l.length
   ·obtain ⟨a, c', e1, hc⟩ := HS.out.at_ k hlt
    cases e1
    have hlt2 : k < m.length := by rw [← HLM.out]; exact hlt
    obtain ⟨a2, c2', e2, hc2⟩ := HT.out.at_ k hlt2
    rw [← HLM.out] at e2
    cases e2
    have d1 : wo.cell? (a.add k) = some (.int .u8 l[k].toNat) := by rw [HB.out]; exact hc
    have d2 : wo.cell? (a2.add k) = some (.int .u8 m[k].toNat) := by rw [HB.out]; exact hc2
    have HLT := hid hlt
    have HLT2 := hid hlt2
    have hk1 : (k : Int) < l.length := by omega
    have hk2 : (0 : Int) ≤ k := by omega
    clear hc hc2
    by_cases hq : l[k] = m[k]
    ·have hq2 : ((l[k].toNat : Int) == m[k].toNat) = true := by simp [hq]
     have HQ := hid hq
     clear hq
     go_wp2_with fail
     go_still (by kernel_rfl)
     go_wp2
     go_roundw
     case rel => exact ⟨k + 1, n + 1, HLT.out, by simp, by rw [take_step l k HLT.out, take_step m k HLT2.out, HA.out]; exact congrArg (fun x => _ ++ [x]) HQ.out, by rw [HB.out]; rfl⟩
     case measure => exact meas_step HLT.out (by simp)
    ·have hq2 : ((l[k].toNat : Int) == m[k].toNat) = false := by
      rw [beq_eq_false_iff_ne]
      intro e
      exact hq (UInt8.toNat_inj.1 (by omega))
     have HQ := hid hq
     clear hq
     go_wp2_with fail
     go_still (by kernel_rfl)
     go_wp2
     go_ret
     refine ⟨ret_bool ?_, n + 1, by rw [HB.out]; rfl⟩
     symm
     rw [decide_eq_false_iff_not]
     intro e
     subst e
     exact HQ.out rfl
   ·have HLT := hid hlt
    go_wp2
    go_ret
    refine ⟨ret_bool ?_, n, HB.out⟩
    have := HA.out
    rw [List.take_of_length_le (by have := HLT.out; omega), List.take_of_length_le (by have := HLT.out; have := HLM.out; omega)] at this
    simp [this]
 ·have hz : ((l.length : Int) == m.length) = false := by simp; omega
  have HLM := hid hlm
  have hne : ¬ (l.length : Int) = m.length := by omega
  clear hlm
  go_enter Tryz.func19, Tryz.ntmps19
  go_wp2
  go_ret
  refine ⟨ret_bool ?_, 0, rfl⟩
  symm
  rw [decide_eq_false_iff_not]
  exact fun e => HLM.out (by rw [e])
theorem take_eq_step {α : Type} {l m : List α} {k : Nat} {p q : α} (hp : l[k]? = some p) (hq : m[k]? = some q) (h : l.take k = m.take k) (e : p = q) : l.take (k + 1) = m.take (k + 1) := by
 rw [List.take_add_one, List.take_add_one, hp, hq, h, e]
theorem samekvs_any (v u : Value) (l m : BKVs) (w : World) (hS : SK w v l) (hT : SK w u m) : Calls Tryz.prog 59 #[v, u] w (Quiet (decide (l = m)) w) := by
 have HS := hid hS
 have HT := hid hT
 obtain ⟨A, c, rfl, hlen⟩ := hS.form
 obtain ⟨A2, c2, rfl, hlen2⟩ := hT.form
 clear hS hT
 by_cases hlm : l.length = m.length
 ·have HLM := hid hlm
  rw [← hlm] at hlen2 ⊢
  clear hlm hlen2
  go_enter Tryz.func59, Tryz.ntmps59
  go_wp2_with fail
  go_loopw [5] (fun i wr => ∃ k n : Nat, k ≤ l.length ∧ i = .int .i64 k ∧ l.take k = m.take k ∧ wr = w.drewN n) (fun i _ => l.length - (intOf i).toNat)
  case atStart => exact ⟨0, 0, Nat.zero_le _, rfl, by simp, rfl⟩
  case round =>
   obtain ⟨k, n, hk, rfl, hall, hb⟩ := hrel
   have HA := hid hall
   have HB := hid hb
   obtain ⟨wo, rfl⟩ : ∃ wo : World, wo = wr := ⟨_, rfl⟩
   clear hall hb
   by_cases hlt : k < l.length
   ·obtain ⟨a, c', vk, vv, p, e1, hc0, hc1, hk1, hv1, hp⟩ := HS.out.at_ k hlt
    cases e1
    obtain ⟨a2, c2', vk2, vv2, q, e2, hd0, hd1, hk2, hv2, hq⟩ := HT.out.at_ k (by rw [← HLM.out]; exact hlt)
    rw [← HLM.out] at e2
    cases e2
    have HLT := hid (And.intro (Nat.succ_le_of_lt hlt) (And.intro hp hq))
    obtain ⟨Ak, ck, rfl, nk⟩ := hk1.form
    obtain ⟨Av, cv, rfl, nv⟩ := hv1.form
    obtain ⟨Bk, dk, rfl, nk2⟩ := hk2.form
    obtain ⟨Bv, dv, rfl, nv2⟩ := hv2.form
    have D := hid (And.intro (And.intro hk1 hv1) (And.intro hk2 hv2))
    have x0 : wo.cell? (a.add (k * 2)) = some (.slice Ak p.1.length ck) := by rw [HB.out]; exact hc0
    have x1 : wo.cell? ⟨(a.add (k * 2)).block, (a.add (k * 2)).off + 1, none⟩ = some (.slice Av p.2.length cv) := by rw [HB.out]; exact hc1
    have x2 : wo.cell? (a2.add (k * 2)) = some (.slice Bk q.1.length dk) := by rw [HB.out]; exact hd0
    have x3 : wo.cell? ⟨(a2.add (k * 2)).block, (a2.add (k * 2)).off + 1, none⟩ = some (.slice Bv q.2.length dv) := by rw [HB.out]; exact hd1
    have HE1 := hid (show ∀ n, Calls Tryz.prog 19 #[.slice Ak p.1.length ck, .slice Bk q.1.length dk] (wo.drewN n) (Quiet (decide (p.1 = q.1)) (wo.drewN n)) from fun n => equal_q _ _ p.1 q.1 _ (by rw [HB.out]; exact D.out.1.1) (by rw [HB.out]; exact D.out.2.1))
    have HE2 := hid (show ∀ n, Calls Tryz.prog 19 #[.slice Av p.2.length cv, .slice Bv q.2.length dv] (wo.drewN n) (Quiet (decide (p.2 = q.2)) (wo.drewN n)) from fun n => equal_q _ _ p.2 q.2 _ (by rw [HB.out]; exact D.out.1.2) (by rw [HB.out]; exact D.out.2.2))
    have b1 : (k : Int) < l.length := by omega
    have b2 : (0 : Int) ≤ k := by omega
    clear hc0 hc1 hd0 hd1 hk1 hv1 hk2 hv2 hp hq nk nv nk2 nv2
    by_cases h1 : p.1 = q.1
    ·rw [decide_eq_true h1] at HE1
     have H1 := hid h1
     clear h1
     by_cases h2 : p.2 = q.2
     ·rw [decide_eq_true h2] at HE2
      have H2 := hid h2
      clear h2
      go_wp2_with fail
      go_quiet (first | (go_at_call_of 19 (Value.slice Ak p.1.length ck); exact Calls.quiet_of (HE1.out _)) | (go_at_call_of 19 (Value.slice Av p.2.length cv); exact Calls.quiet_of (HE2.out _)))
      go_wp2
      go_roundw
      case rel => exact ⟨k + 1, n + nq, HLT.out.1, by simp, take_eq_step HLT.out.2.1 HLT.out.2.2 HA.out (Prod.ext H1.out H2.out), by rw [HB.out, World.drewN_drewN]⟩
      case measure => exact meas_step HLT.out.1 (by simp)
     ·rw [decide_eq_false h2] at HE2
      have H2 := hid h2
      clear h2
      go_wp2_with fail
      go_quiet (first | (go_at_call_of 19 (Value.slice Ak p.1.length ck); exact Calls.quiet_of (HE1.out _)) | (go_at_call_of 19 (Value.slice Av p.2.length cv); exact Calls.quiet_of (HE2.out _)))
      go_wp2
      go_ret
      refine ⟨ret_bool ?_, n + nq, by rw [HB.out, World.drewN_drewN]⟩
      symm
      rw [decide_eq_false_iff_not]
      intro e
      subst e
      exact H2.out (by rw [Option.some.inj (HLT.out.2.1.symm.trans HLT.out.2.2)])
    ·rw [decide_eq_false h1] at HE1
     have H1 := hid h1
     clear h1
     go_wp2_with fail
     go_quiet (first | (go_at_call_of 19 (Value.slice Ak p.1.length ck); exact Calls.quiet_of (HE1.out _)))
     go_wp2
     go_ret
     refine ⟨ret_bool ?_, n + nq, by rw [HB.out, World.drewN_drewN]⟩
     symm
     rw [decide_eq_false_iff_not]
     intro e
     subst e
     exact H1.out (by rw [Option.some.inj (HLT.out.2.1.symm.trans HLT.out.2.2)])
   ·have HLT := hid hlt
    go_wp2
    go_ret
    refine ⟨ret_bool ?_, n, HB.out⟩
    have := HA.out
    rw [List.take_of_length_le (by have := HLT.out; omega), List.take_of_length_le (by have := HLT.out; have := HLM.out; omega)] at this
    simp [this]
 ·have hne : ¬ (l.length : Int) = m.length := by omega
  have HLM := hid hlm
  clear hlm
  go_enter Tryz.func59, Tryz.ntmps59
  go_wp2
  go_ret
  refine ⟨ret_bool ?_, 0, rfl⟩
  symm
  rw [decide_eq_false_iff_not]
  exact fun e => HLM.out (by rw [e])
end
