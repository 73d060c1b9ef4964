import Derived.Test.YtocajelknojkbaaGreatDoorK17
set_option maxRecDepth 100000
set_option maxHeartbeats 16000000
set_option linter.all false
namespace Go.Proofs.YtocajelknojkbaaGreatDoor
open Go.Lib (hid)
open Go.RowKit
def KU (N : Nat) (w w' : World) : Prop := Below N w w' ∧ ∀ (k : Nat) (cs : Array Value) (fz : Nat × Nat), w.heap[k]? = some (Obj.cells cs 5 fz) → ∃ fz' : Nat × Nat, w'.heap[k]? = some (Obj.cells cs 5 fz')
theorem KU.refl (N : Nat) (w : World) : KU N w w := ⟨Below.refl _ _, fun _ _ fz h => ⟨fz, h⟩⟩
theorem KU.trans {N : Nat} {a b c : World} (h : KU N a b) (k : KU N b c) : KU N a c := ⟨h.1.trans k.1, fun i cs fz hi => by
 obtain ⟨f1, h1⟩ := h.2 i cs fz hi
 exact k.2 i cs f1 h1⟩
theorem KU.of_below {N : Nat} {w w' : World} (h : Below w.heap.size w w') (hn : N ≤ w.heap.size) : KU N w w' := ⟨h.mono hn, fun k _ fz hk => ⟨fz, (h.block k (heap_lt hk)).trans hk⟩⟩
theorem CK.ku {N : Nat} {w w' : World} (h : CK N w w') : KU N w w' := ⟨h.1, fun k cs fz hk => h.blk ⟨fz, hk⟩⟩
def SBu (w : World) (v : Value) (l : Bytes) : Prop := ∃ k cap cs fz, v = .slice (some ⟨k, 0, none⟩) l.length cap ∧ l.length ≤ cap ∧ cap ≤ 9223372036854775807 ∧ w.heap[k]? = some (Obj.cells cs 5 fz) ∧ ∀ i (h : i < l.length), cs[i]? = some (.int .u8 l[i].toNat)
theorem SBu.ku {N : Nat} {w w' : World} {v : Value} {l : Bytes} (h : SBu w v l) (k : KU N w w') : SBu w' v l := by
 obtain ⟨g, cap, cs, fz, h1, h2, h3, h4, h5⟩ := h
 obtain ⟨fz', h6⟩ := k.2 g cs fz h4
 exact ⟨g, cap, cs, fz', h1, h2, h3, h6, h5⟩
theorem SBu.sb {w : World} {v : Value} {l : Bytes} (h : SBu w v l) : SB w v l := by
 obtain ⟨g, cap, cs, fz, rfl, h2, h3, h4, h5⟩ := h
 exact SB.lit h4 h5 cap h2 h3
def SBf (b : Nat) (w : World) (v : Value) (l : Bytes) : Prop := ∃ k cap cs fz, v = .slice (some ⟨k, 0, none⟩) l.length cap ∧ b ≤ k ∧ l.length ≤ cap ∧ cap ≤ 9223372036854775807 ∧ w.heap[k]? = some (Obj.cells cs 5 fz) ∧ ∀ i (h : i < l.length), cs[i]? = some (.int .u8 l[i].toNat)
theorem SBf.ku {b N : Nat} {w w' : World} {v : Value} {l : Bytes} (h : SBf b w v l) (k : KU N w w') : SBf b w' v l := by
 obtain ⟨g, cap, cs, fz, h1, hb, h2, h3, h4, h5⟩ := h
 obtain ⟨fz', h6⟩ := k.2 g cs fz h4
 exact ⟨g, cap, cs, fz', h1, hb, h2, h3, h6, h5⟩
theorem SBf.u {b : Nat} {w : World} {v : Value} {l : Bytes} (h : SBf b w v l) : SBu w v l := by
 obtain ⟨g, cap, cs, fz, h1, hb, h2⟩ := h
 exact ⟨g, cap, cs, fz, h1, h2⟩
structure Sub (w0 w : World) : Prop where
 size : w0.heap.size ≤ w.heap.size
 cell : ∀ a v, w0.cell? a = some v → w.cell? a = some v
theorem Sub.refl (w : World) : Sub w w := ⟨Nat.le_refl _, fun _ _ h => h⟩
theorem Sub.of_below {w0 w : World} (h : Below w0.heap.size w0 w) : Sub w0 w := ⟨h.size, fun a v hc => (h.cell (World.block_lt_of_cell? w0 a hc)).trans hc⟩
theorem Sub.trans {w0 w w' : World} (h : Sub w0 w) (k : Below w0.heap.size w w') : Sub w0 w' := by
 have := h.size
 exact ⟨Nat.le_trans h.size k.size, fun a v hc => (k.cell (World.block_lt_of_cell? w0 a hc)).trans (h.cell a v hc)⟩
theorem SB.sub {w w' : World} {v : Value} {l : Bytes} (h : SB w v l) (hb : Sub w w') : SB w' v l := by
 obtain ⟨A, c, h1, h2, h3, h4, h5⟩ := h
 refine ⟨A, c, h1, h2, h3, h4, fun i hi => ?_⟩
 obtain ⟨a, e, hc⟩ := h5 i hi
 exact ⟨a, e, hb.cell _ _ hc⟩
theorem SK.sub {w w' : World} {v : Value} {l : BKVs} (h : SK w v l) (hb : Sub w w') : SK w' v l := by
 obtain ⟨A, c, h1, h2, h3, h4, h5⟩ := h
 refine ⟨A, c, h1, h2, h3, h4, fun i hi => ?_⟩
 obtain ⟨a, vk, vv, e, k1, k2, k3, k4⟩ := h5 i hi
 exact ⟨a, vk, vv, e, hb.cell _ _ k1, hb.cell _ _ k2, k3.sub hb, k4.sub hb⟩
theorem LU.sub {w w' : World} {u : LUri} {l : List Value} (h : LU w u l) (hb : Sub w w') : LU w' u l := by
 obtain ⟨a, b, c, d, e, p, q, h0, h1, h2, h3, h4, h5, h6, h7, h8⟩ := h
 exact ⟨a, b, c, d, e, p, q, h0, h1.sub hb, h2.sub hb, h3.sub hb, h4.sub hb, h5.sub hb, h6.sub hb, h7.sub hb, h8⟩
def SBx (w0 w : World) (v : Value) (l : Bytes) : Prop := SB w0 v l ∨ SBf w0.heap.size w v l
theorem SBx.ku {N : Nat} {w0 w w' : World} {v : Value} {l : Bytes} (h : SBx w0 w v l) (k : KU N w w') : SBx w0 w' v l := h.imp id (fun h => h.ku k)
theorem SBx.sb {w0 w : World} {v : Value} {l : Bytes} (h : SBx w0 w v l) (hb : Sub w0 w) : SB w v l := by
 rcases h with h | h
 ·exact h.sub hb
 ·exact h.u.sb
theorem SBx.form {w0 w : World} {v : Value} {l : Bytes} (h : SBx w0 w v l) : ∃ A c, v = .slice A l.length c := by
 rcases h with h | ⟨k, cap, cs, fz, rfl, _⟩
 ·obtain ⟨A, c, e, _⟩ := h.form
  exact ⟨A, c, e⟩
 ·exact ⟨_, _, rfl⟩
theorem SB.nil (w : World) : SB w (.slice none 0 0) [] := ⟨none, 0, rfl, Nat.le_refl _, by omega, fun _ => ⟨rfl, rfl⟩, fun i hi => absurd hi (by simp)⟩
theorem SK.nil (w : World) : SK w (.slice none 0 0) [] := ⟨none, 0, rfl, Nat.le_refl _, by omega, fun _ => ⟨rfl, rfl⟩, fun i hi => absurd hi (by simp)⟩
theorem conv_sbu (w : World) (s : ByteArray) (hs : s.size ≤ 70368744177664) : SBu (Lib.bytesWorld w 5 s) (.slice (some ⟨w.heap.size, 0, none⟩) s.size (grownCap w s.size 0 5)) s.data.toList ∧ Below w.heap.size w (Lib.bytesWorld w 5 s) := by
 refine ⟨⟨w.heap.size, _, _, _, by rw [dl], by rw [← dl]; exact grownCap_ge w _ _ _, ?_, Lib.bytesWorld_at_new w _ s, fun i h => ?_⟩, (conv_sb w s hs).2⟩
 ·have := grownCap_le_maxLen w s.size 0 5 (by simp only [maxLen]; omega)
  simpa [maxLen] using this
 ·have h1 : i < s.data.size := by simpa using h
  have h2 : i < s.size := h1
  simp [Lib.bytesCells, Array.getElem?_append, h1, h2]
theorem conv_sbf (b : Nat) (w : World) (s : ByteArray) (hs : s.size ≤ 70368744177664) (hb : b ≤ w.heap.size) : SBf b (Lib.bytesWorld w 5 s) (.slice (some ⟨w.heap.size, 0, none⟩) s.size (grownCap w s.size 0 5)) s.data.toList ∧ Below w.heap.size w (Lib.bytesWorld w 5 s) := by
 obtain ⟨⟨k, cap, cs, fz, h1, h2⟩, h3⟩ := conv_sbu w s hs
 refine ⟨⟨k, cap, cs, fz, h1, ?_, h2⟩, h3⟩
 injection h1 with h1
 injection h1 with h1
 injection h1 with h1
 omega
def emptyU : LUri := ⟨[], [], false, false, [], [], [], 0, [], []⟩
theorem LU.empty (w : World) : LU w emptyU [.slice none 0 0, .slice none 0 0, .bool false, .bool false, .slice none 0 0, .slice none 0 0, .slice none 0 0, .int .i64 0, .slice none 0 0, .slice none 0 0] :=
 ⟨_, _, _, _, _, _, _, rfl, SB.nil w, SB.nil w, SB.nil w, SB.nil w, SB.nil w, SK.nil w, SK.nil w, by show I64 0; unfold I64; omega⟩
def LHx (w0 w : World) (h : LHead) (l : List Value) : Prop := ∃ a b c ul p d e f g, l = .int .i64 h.t :: a :: b :: c :: (ul ++ [p, .int .u32 h.num, d, e, f, g, .int .i64 h.port]) ∧
 SBx w0 w a h.name ∧ SBx w0 w b h.text ∧ SB w0 c h.display ∧ LU w0 h.uri ul ∧ SK w0 p h.params ∧ SB w0 d h.proto ∧ SB w0 e h.version ∧ SB w0 f h.transport ∧ SB w0 g h.host ∧ I64 h.t ∧ (0 ≤ h.num ∧ h.num < 4294967296) ∧ I64 h.port
theorem LH.x {w0 : World} {h : LHead} {l : List Value} (H : LH w0 h l) (w : World) : LHx w0 w h l := by
 obtain ⟨a, b, c, ul, p, d, e, f, g, h0, h1, h2, h3⟩ := H
 exact ⟨a, b, c, ul, p, d, e, f, g, h0, .inl h1, .inl h2, h3⟩
theorem LHx.ku {N : Nat} {w0 w w' : World} {h : LHead} {l : List Value} (H : LHx w0 w h l) (k : KU N w w') : LHx w0 w' h l := by
 obtain ⟨a, b, c, ul, p, d, e, f, g, h0, h1, h2, h3⟩ := H
 exact ⟨a, b, c, ul, p, d, e, f, g, h0, h1.ku k, h2.ku k, h3⟩
theorem LHx.lh {w0 w : World} {h : LHead} {l : List Value} (H : LHx w0 w h l) (hb : Sub w0 w) : LH w h l := by
 obtain ⟨a, b, c, ul, p, d, e, f, g, h0, h1, h2, h3, h4, h5, h6, h7, h8, h9, h10⟩ := H
 exact ⟨a, b, c, ul, p, d, e, f, g, h0, h1.sb hb, h2.sb hb, h3.sub hb, h4.sub hb, h5.sub hb, h6.sub hb, h7.sub hb, h8.sub hb, h9.sub hb, h10⟩
theorem LU.len {w : World} {u : LUri} {l : List Value} (h : LU w u l) : l.length = 10 := by
 obtain ⟨a, b, c, d, e, p, q, rfl, _⟩ := h
 rfl
theorem LHx.len {w0 w : World} {h : LHead} {l : List Value} (H : LHx w0 w h l) : l.length = 21 := by
 obtain ⟨a, b, c, ul, p, d, e, f, g, rfl, _, _, _, hu, _⟩ := H
 simp [hu.len]
def CG (g : Nat) (ty : TypeId) (tgt : List Value) (w w' : World) : Prop := Below g w w' ∧ (∀ (k : Nat) (cs : Array Value) (t : TypeId) (fz : Nat × Nat), k ≠ g → w.heap[k]? = some (Obj.cells cs t fz) → ∃ fz' : Nat × Nat, w'.heap[k]? = some (Obj.cells cs t fz') ∧ (t ≠ 5 → fz' = fz)) ∧
 ∀ l : List Value, w.heap[g]? = some (Obj.cells l.toArray ty (0, 0)) → ∃ l' : List Value, w'.heap[g]? = some (Obj.cells l'.toArray ty (0, 0)) ∧ l'.length = l.length ∧ ∀ j : Nat, l'[j]? = l[j]? ∨ l'[j]? = tgt[j]?
theorem CG.refl (g : Nat) (ty : TypeId) (tgt : List Value) (w : World) : CG g ty tgt w w := ⟨Below.refl _ _, fun _ _ _ fz _ h => ⟨fz, h, fun _ => rfl⟩, fun l h => ⟨l, h, rfl, fun _ => .inl rfl⟩⟩
theorem CG.trans {g : Nat} {ty : TypeId} {tgt : List Value} {a b c : World} (h : CG g ty tgt a b) (k : CG g ty tgt b c) : CG g ty tgt a c := by
 refine ⟨h.1.trans k.1, fun i cs t fz hn hi => ?_, fun l hl => ?_⟩
 ·obtain ⟨f1, h1, e1⟩ := h.2.1 i cs t fz hn hi
  obtain ⟨f2, h2, e2⟩ := k.2.1 i cs t f1 hn h1
  exact ⟨f2, h2, fun ht => (e2 ht).trans (e1 ht)⟩
 ·obtain ⟨l1, h1, h2, h3⟩ := h.2.2 l hl
  obtain ⟨l2, k1, k2, k3⟩ := k.2.2 l1 h1
  refine ⟨l2, k1, k2.trans h2, fun j => ?_⟩
  rcases k3 j with e | e
  ·rw [e]; exact h3 j
  ·exact .inr e
theorem CG.of_below {g : Nat} {ty : TypeId} {tgt : List Value} {w w' : World} (h : Below w.heap.size w w') (hg : g < w.heap.size) : CG g ty tgt w w' :=
 ⟨h.mono (Nat.le_of_lt hg), fun k _ _ fz _ hk => ⟨fz, (h.block k (heap_lt hk)).trans hk, fun _ => rfl⟩, fun l hl => ⟨l, (h.block g hg).trans hl, rfl, fun _ => .inl rfl⟩⟩
theorem CG.set {g : Nat} {ty : TypeId} {tgt : List Value} {w : World} {l : List Value} (h : w.heap[g]? = some (Obj.cells l.toArray ty (0, 0))) (j : Nat) (v : Value) (hv : tgt[j]? = some v) (hj : j < l.length) :
  CG g ty tgt w (w.setCell ⟨g, j, none⟩ v) ∧ ∃ l' : List Value, (w.setCell ⟨g, j, none⟩ v).heap[g]? = some (Obj.cells l'.toArray ty (0, 0)) ∧ l'[j]? = tgt[j]? := by
 have hs := blk_set h j v
 refine ⟨⟨(Below.refl _ _).setCell (p := ⟨g, j, none⟩) (Nat.le_refl _) _, fun k cs t fz hn hk => ⟨fz, by rw [Below.heap_setCell _ _ _ _ (fun e => hn e)]; exact hk, fun _ => rfl⟩, fun l2 h2 => ?_⟩, l.set j v, hs, by rw [hv]; simp [hj]⟩
 rw [h] at h2
 injection h2 with h2
 injection h2 with h2 _ _
 have h3 : l = l2 := by simpa using congrArg Array.toList h2
 subst h3
 refine ⟨l.set j v, hs, by simp, fun i => ?_⟩
 by_cases hi : i = j
 ·subst hi
  right
  rw [hv]
  simp [hj]
 ·left
  rw [List.getElem?_set_ne (Ne.symm hi)]
def Wr (g : Nat) (ty : TypeId) (tgt : List Value) (j : Nat) (w : World) : Prop := ∃ l : List Value, w.heap[g]? = some (Obj.cells l.toArray ty (0, 0)) ∧ l[j]? = tgt[j]?
theorem Wr.cg {g : Nat} {ty : TypeId} {tgt : List Value} {j : Nat} {w w' : World} (h : Wr g ty tgt j w) (k : CG g ty tgt w w') : Wr g ty tgt j w' := by
 obtain ⟨l, h1, h2⟩ := h
 obtain ⟨l', k1, k2, k3⟩ := k.2.2 l h1
 refine ⟨l', k1, ?_⟩
 rcases k3 j with e | e
 ·rw [e, h2]
 ·exact e
theorem setCells_row {ty : TypeId} {fz : Nat × Nat} {g : Nat} : ∀ (vs pre suf : List Value) (w : World) (rest : List Value), suf.length = vs.length → w.heap[g]? = some (Obj.cells (pre ++ suf ++ rest).toArray ty fz) →
  (w.setCells g pre.length vs).heap[g]? = some (Obj.cells (pre ++ vs ++ rest).toArray ty fz) ∧ (∀ k, k ≠ g → (w.setCells g pre.length vs).heap[k]? = w.heap[k]?) ∧ (w.setCells g pre.length vs).heap.size = w.heap.size ∧ (w.setCells g pre.length vs).os = w.os ∧ (w.setCells g pre.length vs).tape = w.tape ∧ (w.setCells g pre.length vs).output = w.output
 | [], pre, suf, w, rest, hs, h => by
  obtain rfl := List.length_eq_zero_iff.1 hs
  exact ⟨by show w.heap[g]? = _; simpa using h, fun _ _ => rfl, rfl, rfl, rfl, rfl⟩
 | v :: r, pre, suf, w, rest, hs, h => by
  cases suf with
  | nil => simp at hs
  | cons s suf =>
   have e : (w.setCell ⟨g, pre.length, none⟩ v).heap[g]? = some (Obj.cells ((pre ++ [v]) ++ suf ++ rest).toArray ty fz) := by
    rw [blk_set h]
    simp
   have := setCells_row r (pre ++ [v]) suf (w.setCell ⟨g, pre.length, none⟩ v) rest (by simpa using hs) e
   rw [World.setCells]
   simp only [List.length_append, List.length_cons, List.length_nil] at this
   obtain ⟨h1, h2, h3, h4, h5, h6⟩ := this
   refine ⟨by simpa using h1, fun k hk => ?_, ?_, h4, h5, h6⟩
   ·rw [h2 k hk, Below.heap_setCell _ _ _ _ (fun e => hk e)]
   ·rw [h3]
    simp [World.setCell]
structure Stored (g : Nat) (ty : TypeId) (l : List Value) (w w' : World) : Prop where
 blk : w'.heap[g]? = some (Obj.cells l.toArray ty (0, 0))
 other : ∀ k, k ≠ g → w'.heap[k]? = w.heap[k]?
 size : w'.heap.size = w.heap.size
 below : Below g w w'
theorem Stored.ku {g N : Nat} {ty : TypeId} {l : List Value} {w w' : World} (h : Stored g ty l w w') (hn : N ≤ g) {l0 : List Value} (hg : w.heap[g]? = some (Obj.cells l0.toArray ty (0, 0))) (ht : ty ≠ 5) : KU N w w' := by
 refine ⟨h.below.mono hn, fun k cs fz hk => ⟨fz, ?_⟩⟩
 by_cases hkg : k = g
 ·subst hkg
  rw [hg] at hk
  injection hk with hk
  injection hk with _ hk _
  exact absurd hk ht
 ·rw [h.other k hkg]
  exact hk
theorem stored_cells {g : Nat} {ty : TypeId} {pre suf rest vs : List Value} {w : World} (hg : w.heap[g]? = some (Obj.cells (pre ++ suf ++ rest).toArray ty (0, 0))) (hs : suf.length = vs.length) (o : Nat) (ho : o = pre.length) :
  Stored g ty (pre ++ vs ++ rest) w (w.setCells g o vs) := by
 subst ho
 obtain ⟨h1, h2, h3, h4, h5, h6⟩ := setCells_row vs pre suf w rest hs hg
 exact ⟨h1, h2, h3, ⟨h4, h5, h6, by rw [h3]; exact Nat.le_refl _, fun k hk => h2 k (by omega)⟩⟩
theorem there_row {w : World} {g : Nat} {ty : TypeId} {l : List Value} (hg : w.heap[g]? = some (Obj.cells l.toArray ty (0, 0))) (o n : Nat) (h : o + n ≤ l.length) : w.there g o n := fun j hj => by
 refine ⟨?_, ?_⟩
 ·rw [blk_cell hg]
  simp
  omega
 ·exact blk_frozen hg _
theorem wpList_store_blk {P : Program} {ops : Array Oper} {rest : List Oper} {op : Oper} {a : Act} {W : World} {Q : Exit → Act → World → Prop} (hgd : op.guard = none) (ty : TypeId) (x y : Operand) (ho : op.op = .store ty x y)
  (g : Nat) (ty' : TypeId) (zs cells : List Value) (hx : a.eval x = .pointer (some ⟨g, 0, none⟩)) (hy : a.eval y = .agg cells.toArray) (hz : zs.length = cells.length) (hg : W.heap[g]? = some (Obj.cells zs.toArray ty' (0, 0)))
  (n : Nat) (hi : (P.info? ty).map (·.size) = some n) (hn : cells.length = n) (h1 : cells.all (·.oneCell') = true)
  (h : ∀ W', Stored g ty' cells W W' → wpList P ops Q rest (a.put op.dst undef) W') : wpList P ops Q (op :: rest) a W := by
 refine wpList_store_mid hgd ty x y ho g 0 cells.toArray hx hy (there_row hg 0 _ (by simp [hz])) (by subst hn; simpa using hi) (by simpa using h1) ?_
 refine h _ ?_
 have := stored_cells (pre := []) (suf := zs) (rest := []) (vs := cells) (by simpa using hg) hz 0 rfl
 simpa using this
theorem wpList_store_part {P : Program} {ops : Array Oper} {rest : List Oper} {op : Oper} {a : Act} {W : World} {Q : Exit → Act → World → Prop} (hgd : op.guard = none) (ty : TypeId) (x y : Operand) (ho : op.op = .store ty x y)
  (g o : Nat) (ty' : TypeId) (pre suf post cells : List Value) (hx : a.eval x = .pointer (some ⟨g, o, none⟩)) (hy : a.eval y = .agg cells.toArray) (hz : suf.length = cells.length) (hop : o = pre.length) (hg : W.heap[g]? = some (Obj.cells (pre ++ suf ++ post).toArray ty' (0, 0)))
  (n : Nat) (hi : (P.info? ty).map (·.size) = some n) (hn : cells.length = n) (h1 : cells.all (·.oneCell') = true)
  (h : ∀ W', Stored g ty' (pre ++ cells ++ post) W W' → wpList P ops Q rest (a.put op.dst undef) W') : wpList P ops Q (op :: rest) a W := by
 refine wpList_store_mid hgd ty x y ho g o cells.toArray hx hy (there_row hg o _ (by simp [hz, hop])) (by subst hn; simpa using hi) (by simpa using h1) ?_
 exact h _ (stored_cells hg hz o hop)
theorem ret_cell {P : Program} {fn : Func} {R : Ending → World → Prop} {a : Act} {w : World} (s : Nat) (ty : TypeId) (A : Addr) (cs : List Value) (d : TypeDesc) (hres : fn.results = #[.cell s ty]) (hs : a.tmps.getD s undef = .pointer (some A))
  (hc : ∀ j v, cs[j]? = some v → w.cell? (A.add j) = some v) (hu : P.underlying ty = some d) (hd : d.isRow = true) (n : Nat) (hi : (P.info? ty).map (·.size) = some n) (hn : cs.length = n) (hdf : a.defers = []) (hR : R (.returned (.agg cs.toArray)) w) : bodyPost P fn R .ret a w := by
 refine bodyPost_ret (v := .agg cs.toArray) ?_ hdf hR
 have hl := run_loadVar_any (P := P) w A ty cs d hc hu hd (by rw [hn]; exact hi)
 have ha : (asAddr (Value.pointer (some A))).run P w = .ok A w := rfl
 rw [Array.getD_eq_getD_getElem?] at hs
 simp [results, hres, hs, Sem.run_bind, ha, hl]
theorem row_at {w : World} {g : Nat} {t : TypeId} {l : List Value} {fz : Nat × Nat} (hg : w.heap[g]? = some (Obj.cells l.toArray t fz)) (j : Nat) (v : Value) (hj : l[j]? = some v) : w.cell? ⟨g, j, none⟩ = some v := by
 rw [blk_cell hg]
 simpa using hj
theorem row_cells {w : World} {g : Nat} {t : TypeId} {l : List Value} {fz : Nat × Nat} (hg : w.heap[g]? = some (Obj.cells l.toArray t fz)) : ∀ j v, l[j]? = some v → w.cell? ((⟨g, 0, none⟩ : Addr).add j) = some v := fun j v hj => by
 rw [Addr.add_lit, Nat.zero_add, blk_cell hg]
 simpa using hj
theorem wpList_load_blk {P : Program} {ops : Array Oper} {rest : List Oper} {op : Oper} {a : Act} {w : World} {Q : Exit → Act → World → Prop} (hgd : op.guard = none) (ty : TypeId) (x : Operand) (ho : op.op = .load ty x)
  (g : Nat) (ty' : TypeId) (fz : Nat × Nat) (cs : List Value) (hx : a.eval x = .pointer (some ⟨g, 0, none⟩)) (hg : w.heap[g]? = some (Obj.cells cs.toArray ty' fz)) (d : TypeDesc)
  (hu : P.underlying ty = some d) (hd : d.isRow = true) (n : Nat) (hi : (P.info? ty).map (·.size) = some n) (hn : cs.length = n)
  (h : wpList P ops Q rest (a.put op.dst (.agg cs.toArray)) w) : wpList P ops Q (op :: rest) a w :=
 wpList_load_any hgd ty x ho ⟨g, 0, none⟩ hx cs d (row_cells hg) hu hd (by rw [hn]; exact hi) h
theorem CG.ku {g N : Nat} {ty : TypeId} {tgt l0 : List Value} {w w' : World} (h : CG g ty tgt w w') (hn : N ≤ g) (hg : w.heap[g]? = some (Obj.cells l0.toArray ty (0, 0))) (ht : ty ≠ 5) : KU N w w' := by
 have key : ∀ k cs fz, w.heap[k]? = some (Obj.cells cs 5 fz) → k ≠ g := ?_
 ·refine ⟨h.1.mono hn, fun k cs fz hk => ?_⟩
  obtain ⟨f1, h1, _⟩ := h.2.1 k cs _ fz (key k cs fz hk) hk
  exact ⟨f1, h1⟩
 rintro k cs fz hk rfl
 rw [hg] at hk
 injection hk with hk
 injection hk with _ hk _
 exact ht hk
theorem CG.done {g : Nat} {ty : TypeId} {tgt l0 : List Value} {w w1 : World} (hI : CG g ty tgt w w1) (hg : w.heap[g]? = some (Obj.cells l0.toArray ty (0, 0))) (S : List Nat) (hS : ∀ j ∈ S, Wr g ty tgt j w1) (jl : Nat) (v : Value) (hv : tgt[jl]? = some v)
  (hlen : l0.length = tgt.length) (heq : ∀ j, j < tgt.length → j ∉ S → j ≠ jl → l0[j]? = tgt[j]?) : Stored g ty tgt w1 (w1.setCell ⟨g, jl, none⟩ v) := by
 obtain ⟨l, h1, h2, h3⟩ := hI.2.2 _ hg
 have hjl : jl < l.length := by
  have := (List.getElem?_eq_some_iff.1 hv).1
  omega
 have e : l.set jl v = tgt := by
  apply List.ext_getElem?
  intro j
  by_cases hj : j = jl
  ·subst hj
   rw [hv]
   simp [hjl]
  ·rw [List.getElem?_set_ne (Ne.symm hj)]
   by_cases hjt : j < tgt.length
   ·by_cases hjs : j ∈ S
    ·obtain ⟨l2, k1, k2⟩ := hS j hjs
     rw [h1] at k1
     injection k1 with k1
     injection k1 with k1 _ _
     have k3 : l = l2 := by simpa using congrArg Array.toList k1
     rw [k3]
     exact k2
    ·rcases h3 j with e | e
     ·rw [e]
      exact heq j hjt hjs hj
     ·exact e
   ·rw [List.getElem?_eq_none (by omega), List.getElem?_eq_none (by omega)]
 refine ⟨?_, fun k hk => Below.heap_setCell _ _ _ _ (fun e => hk e), by simp [World.setCell], (Below.refl _ _).setCell (p := ⟨g, jl, none⟩) (Nat.le_refl _) _⟩
 rw [blk_set h1, e]
theorem CG.part {g : Nat} {ty : TypeId} {tgt l : List Value} {w w' : World} {o : Nat} {cells : List Value} (h : w.heap[g]? = some (Obj.cells l.toArray ty (0, 0))) (hs : Stored g ty (l.take o ++ cells ++ l.drop (o + cells.length)) w w') (hl : o + cells.length ≤ l.length)
  (hc : ∀ i, i < cells.length → tgt[o + i]? = cells[i]?) : CG g ty tgt w w' ∧ ∀ i, i < cells.length → Wr g ty tgt (o + i) w' := by
 have hget : ∀ j, (l.take o ++ cells ++ l.drop (o + cells.length))[j]? = if o ≤ j ∧ j < o + cells.length then cells[j - o]? else l[j]? := by
  intro j
  have ht : (l.take o).length = o := by rw [List.length_take]; omega
  by_cases h1 : j < o
  ·rw [List.append_assoc, List.getElem?_append_left (by omega), List.getElem?_take_of_lt h1, if_neg (by omega)]
  ·by_cases h2 : j < o + cells.length
   ·rw [List.getElem?_append_left (by simp; omega), List.getElem?_append_right (by omega), ht, if_pos (by omega)]
   ·rw [List.getElem?_append_right (by simp; omega), List.getElem?_drop, if_neg (by omega)]
    congr 1
    simp
    omega
 refine ⟨⟨hs.below, fun k cs t fz hn hk => ⟨fz, by rw [hs.other k hn]; exact hk, fun _ => rfl⟩, fun l2 h2 => ?_⟩, fun i hi => ⟨_, hs.blk, ?_⟩⟩
 ·rw [h] at h2
  injection h2 with h2
  injection h2 with h2 _ _
  have h3 : l = l2 := by simpa using congrArg Array.toList h2
  subst h3
  refine ⟨_, hs.blk, by simp; omega, fun j => ?_⟩
  rw [hget]
  split
  ·rename_i hj
   right
   have := hc (j - o) (by omega)
   rw [show o + (j - o) = j by omega] at this
   exact this.symm
  ·exact .inl rfl
 ·rw [hget, if_pos (by omega), show o + i - o = i by omega]
  exact (hc i hi).symm
def baseH (t : Int) : LHead := ⟨t, nameS t, [], [], emptyU, [], 0, [], [], [], [], 0⟩
def plainH (h : LHead) : LHead :=
 if h.t = 0 then { baseH h.t with name := h.name, text := h.text }
 else if addrB h.t then { baseH h.t with display := h.display, uri := h.uri, params := h.params }
 else if routB h.t then { baseH h.t with uri := h.uri }
 else if numbB h.t then { baseH h.t with num := h.num }
 else if h.t = 4 ∨ h.t = 10 then { baseH h.t with text := h.text }
 else if h.t = 5 then { baseH h.t with num := h.num, text := h.text }
 else if h.t = 9 then { baseH h.t with proto := h.proto, version := h.version, transport := h.transport, host := h.host, port := h.port, params := h.params }
 else baseH h.t
theorem head_size : (Tryz.prog.info? 35).map (·.size) = some 21 := by kernel_rfl
theorem uri_size : (Tryz.prog.info? 25).map (·.size) = some 10 := by kernel_rfl
theorem nameS_len (t : Int) : (nameS t).length ≤ 14 := by
 have h : ∀ (c : Prop) [Decidable c] (x y : Bytes), x.length ≤ 14 → y.length ≤ 14 → (if c then x else y).length ≤ 14 := by
  intro c _ x y hx hy
  split
  ·exact hx
  ·exact hy
 unfold nameS
 repeat (first | (refine h _ _ _ (by decide) ?_))
 decide
def PHP (w0 : World) (h : LHead) (w : World) (e : Ending) (w' : World) : Prop := ∃ cs, e = .returned (.agg cs.toArray) ∧ LHx w0 w' h cs ∧ Below w.heap.size w w'
theorem SB.one {w : World} {v : Value} {l : Bytes} (h : SB w v l) : v.oneCell' = true := by
 obtain ⟨A, c, rfl, _⟩ := h
 rfl
theorem SK.one {w : World} {v : Value} {l : BKVs} (h : SK w v l) : v.oneCell' = true := by
 obtain ⟨A, c, rfl, _⟩ := h
 rfl
theorem SBx.one {w0 w : World} {v : Value} {l : Bytes} (h : SBx w0 w v l) : v.oneCell' = true := by
 rcases h with h | ⟨k, cap, cs, fz, rfl, _⟩
 ·exact h.one
 ·rfl
theorem LU.one {w : World} {u : LUri} {l : List Value} (h : LU w u l) : l.all (·.oneCell') = true := by
 obtain ⟨a, b, c, d, e, p, q, rfl, h1, h2, h3, h4, h5, h6, h7, _⟩ := h
 simp only [List.all_cons, List.all_nil, h1.one, h2.one, h3.one, h4.one, h5.one, h6.one, h7.one]
 rfl
theorem LHx.one {w0 w : World} {h : LHead} {l : List Value} (H : LHx w0 w h l) : l.all (·.oneCell') = true := by
 obtain ⟨a, b, c, ul, p, d, e, f, g, rfl, h1, h2, h3, h4, h5, h6, h7, h8, h9, _⟩ := H
 simp only [List.all_cons, List.all_append, List.all_nil, h1.one, h2.one, h3.one, h4.one, h5.one, h6.one, h7.one, h8.one, h9.one]
 rfl
theorem SBf.x {w w0 : World} {v : Value} {l : Bytes} (h : SBf w0.heap.size w v l) : SBx w0 w v l := .inr h
