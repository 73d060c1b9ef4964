import Derived.Test.YtocajelknojkbaaGreatDoorK01
import Derived.Laws.AppendOwnNone
import Derived.Lib.SlBytesConst
import Derived.Lib.ItoaLen
set_option maxRecDepth 100000
set_option maxHeartbeats 16000000
set_option linter.all false
namespace Go.Proofs.YtocajelknojkbaaGreatDoor
open Go.Lib (hid)
open Go.RowKit
section
variable {P : Program} {ops : Array Oper} {rest : List Oper} {o : Oper} {a : Act} {Q : Exit → Act → World → Prop}
theorem app_one {W : World} (base : Nat) (hgd : o.guard = none) (s x : Operand) (t e : TypeId) (z : Value) (size bytes : Nat)
  (ho : o.op = .call { callee := .builtin .append, args := #[s, x], argTypes := #[t, t] })
  (ht : P.underlying t = some (.slice e)) (hinfo : (P.info? e).map (fun i => (i.zero, i.size, i.bytes)) = some (some z, size, bytes)) (hz : z.cells.size = size) (hs0 : 0 < size) (hb0 : 0 < bytes)
  (v : Value) (n : Nat) (xs ys : List Value) (fz : Nat × Nat) (hs : a.eval s = v) (hx : a.eval x = .slice (some ⟨W.heap.size, 0, none⟩) 1 1) (hy : ys.length = size) (h1 : ∀ u ∈ ys, u.oneCell' = true)
  (HO : W.ownsRow base e size v n xs) (hbase : base ≤ W.heap.size) (hl : (n + 1) * bytes ≤ 140737488355328)
  (h : ∀ v1 w1, w1.ownsRow base e size v1 (n + 1) (xs ++ ys) → W.grownBy w1 v.ownBlock → wpList P ops Q rest (a.put o.dst v1) w1) :
  wpList P ops Q (o :: rest) a (W.alloc (.cells ys.toArray e fz)) := by
 obtain ⟨i0, hi, hzz⟩ := Option.map_eq_some_iff.1 hinfo
 simp only [Prod.mk.injEq] at hzz
 obtain ⟨hz0, hz1, hz2⟩ := hzz
 have hlen : n + 1 ≤ 140737488355328 := Nat.le_trans (Nat.le_mul_of_pos_right _ hb0) hl
 refine wpList_append_own (W.alloc (.cells ys.toArray e fz)) hgd s x t ho base e i0 z size bytes ht hi hz0 hz1 hz2 hz hs0 v n xs hs (HO.alloc _) ⟨W.heap.size, 0, none⟩ 1 1 ys hx (by omega) ?_ h1 (by simp only [maxLen]; omega) hl (by simp; omega) ?_
 ·intro j u hj
  rw [Addr.add_lit, Nat.zero_add]
  rw [Lib.cell_of_heap (heap_alloc_new W _)]
  simpa using hj
 ·intro v1 w1 hown hg _
  exact h v1 w1 hown (World.grownBy.trans (World.grownBy_alloc W _ _) hg)
end
theorem Below.of_grown {B : Nat} {w w' : World} {row : Option Nat} (hg : w.grownBy w' row) (hB : B ≤ w.heap.size) (hr : ∀ k, row = some k → B ≤ k) : Below B w w' := (Below.refl B w).grown hg hB hr
theorem own_slice {w : World} {base : Nat} {e : TypeId} {size n : Nat} {v : Value} {xs : List Value} (h : w.ownsRow base e size v n xs) : ∃ A c, v = .slice A n c := by
 rcases h.2 with ⟨rfl, rfl⟩ | ⟨g, cap, cur, hv, _⟩
 ·exact ⟨none, 0, rfl⟩
 ·exact ⟨_, cap, hv⟩
theorem own_ne_block {w : World} {base : Nat} {e t : TypeId} {size n g : Nat} {v : Value} {xs : List Value} {cs : Array Value} {fz : Nat × Nat} (h : w.ownsRow base e size v n xs) (hg : w.heap[g]? = some (.cells cs t fz)) (hne : e ≠ t) : some g ≠ v.ownBlock := by
 rcases h.2 with ⟨rfl, _⟩ | ⟨k, cap, cur, rfl, hb, hh, _⟩
 ·simp [Value.ownBlock]
 ·intro e1
  simp only [Value.ownBlock, Option.some.injEq] at e1
  subst e1
  rw [hh] at hg
  injection hg with hg
  injection hg with _ hg _
  exact hne hg
theorem blk_set {w : World} {g : Nat} {t : TypeId} {l : List Value} {fz : Nat × Nat} (h : w.heap[g]? = some (.cells l.toArray t fz)) (i : Nat) (u : Value) : (w.setCell ⟨g, i, none⟩ u).heap[g]? = some (.cells (l.set i u).toArray t fz) := by
 simp [World.setCell, Array.getElem?_modify, h]
theorem blk_cell {w : World} {g : Nat} {t : TypeId} {cs : Array Value} {fz : Nat × Nat} (h : w.heap[g]? = some (.cells cs t fz)) (i : Nat) : w.cell? ⟨g, i, none⟩ = cs[i]? := by simp [World.cell?, h]
theorem blk_frozen {w : World} {g : Nat} {t : TypeId} {cs : Array Value} (h : w.heap[g]? = some (.cells cs t (0, 0))) (i : Nat) : w.frozen? ⟨g, i, none⟩ = false := by simp [World.frozen?, h]
def SB (w : World) (v : Value) (l : Bytes) : Prop := ∃ A c, v = .slice A l.length c ∧ l.length ≤ c ∧ c ≤ 9223372036854775807 ∧ (A = none → l = [] ∧ c = 0) ∧ ∀ i (h : i < l.length), ∃ a, A = some a ∧ w.cell? (a.add i) = some (.int .u8 l[i].toNat)
theorem SB.below {w w' : World} {v : Value} {l : Bytes} (h : SB w v l) (hb : Below w.heap.size w w') : SB w' v l := by
 obtain ⟨A, c, h1, h2, h3, h4, h5⟩ := h
 refine ⟨A, c, h1, h2, h3, h4, fun i hi => ?_⟩
 obtain ⟨a, e, hc⟩ := h5 i hi
 exact ⟨a, e, cell_at_below hc hb⟩
theorem SB.conv {w : World} {v : Value} {l : Bytes} (h : SB w v l) (dst : TypeId) (hd : Tryz.prog.underlying dst = some .string) : Sem.run Tryz.prog (convert 22 dst v) w = .ok (.string ⟨l.toArray⟩) w := by
 obtain ⟨A, c, rfl, _, _, h4, h5⟩ := h
 cases A with
 | none =>
  obtain ⟨rfl, rfl⟩ := h4 rfl
  exact run_convert_bytes_nil w 22 5 Tryz.underlying22 Tryz.underlying5 0 0 dst hd
 | some a =>
  refine run_convert_bytes_back (P := Tryz.prog) w 22 dst 5 a c l Tryz.underlying22 Tryz.underlying5 hd (fun j hj => ?_)
  obtain ⟨a', e, hc⟩ := h5 j hj
  cases e
  exact hc
abbrev BKVs := List (Bytes × Bytes)
def SK (w : World) (v : Value) (l : BKVs) : Prop := ∃ A c, v = .slice A l.length c ∧ l.length ≤ c ∧ c ≤ 9223372036854775807 ∧ (A = none → l = [] ∧ c = 0) ∧
 ∀ i (h : i < l.length), ∃ a vk vv, A = some a ∧ w.cell? (a.add (i * 2)) = some vk ∧ w.cell? ⟨(a.add (i * 2)).block, (a.add (i * 2)).off + 1, none⟩ = some vv ∧ SB w vk l[i].1 ∧ SB w vv l[i].2
theorem SK.below {w w' : World} {v : Value} {l : BKVs} (h : SK w v l) (hb : Below w.heap.size w w') : SK w' v l := by
 obtain ⟨A, c, h1, h2, h3, h4, h5⟩ := h
 refine ⟨A, c, h1, h2, h3, h4, fun i hi => ?_⟩
 obtain ⟨a, vk, vv, e, hc, hd, h6, h7⟩ := h5 i hi
 exact ⟨a, vk, vv, e, cell_at_below hc hb, cell_at_below hd hb, h6.below hb, h7.below hb⟩
theorem u8_info : (Tryz.prog.info? 5).map (fun i => (i.zero, i.size, i.bytes)) = some (some (.int .u8 0), 1, 1) := by kernel_rfl
def OB (base : Nat) (w : World) (v : Value) (l : Bytes) : Prop := w.ownsRow base 5 1 v l.length (Lib.byteCells l)
theorem OB.nil (base : Nat) (w : World) : OB base w (.slice none 0 0) [] := World.ownsRow_nil _ _ _ _
theorem OB.sb {base : Nat} {w : World} {v : Value} {l : Bytes} (h : OB base w v l) : SB w v l := by
 rcases h.2 with ⟨rfl, hn⟩ | ⟨g, cap, cur, rfl, hb, hg, hn, hc, hs, ht⟩
 ·obtain rfl := List.length_eq_zero_iff.1 hn
  exact ⟨none, 0, rfl, Nat.le_refl _, by omega, fun _ => ⟨rfl, rfl⟩, fun i hi => absurd hi (by simp)⟩
 ·refine ⟨some ⟨g, 0, none⟩, cap, rfl, hn, hc, fun e => by simp at e, fun i hi => ⟨_, rfl, ?_⟩⟩
  rw [Addr.add_lit, Nat.zero_add, blk_cell hg]
  have h1 : (Lib.byteCells l)[i]? = some (.int .u8 l[i].toNat) := by simp [Lib.byteCells, hi]
  rw [← ht, List.getElem?_take_of_lt (by omega)] at h1
  simpa using h1
theorem OB.kept {base : Nat} {w w' : World} {v : Value} {l : Bytes} (h : OB base w v l) (hb : Below w.heap.size w w') : OB base w' v l :=
 World.ownsRow.kept (row := none) h ⟨hb.os, hb.tape, hb.output, hb.size, fun k hk _ => hb.block k hk⟩ (by cases v.ownBlock <;> simp)
theorem OB.less {base b2 : Nat} {w : World} {v : Value} {l : Bytes} (h : OB base w v l) (hb : b2 ≤ base) : OB b2 w v l := by
 rcases h with ⟨h1, h2 | ⟨g, cap, cur, h3, h4, h5⟩⟩
 ·exact ⟨h1, .inl h2⟩
 ·exact ⟨h1, .inr ⟨g, cap, cur, h3, Nat.le_trans hb h4, h5⟩⟩
theorem OB.slice {base : Nat} {w : World} {v : Value} {l : Bytes} (h : OB base w v l) : ∃ A c, v = .slice A l.length c := own_slice h
theorem SB.lit {w : World} {g : Nat} {t : TypeId} {fz : Nat × Nat} {l : Bytes} {cs : Array Value} (hg : w.heap[g]? = some (.cells cs t fz)) (hcs : ∀ i (h : i < l.length), cs[i]? = some (.int .u8 l[i].toNat)) (c : Nat) (h1 : l.length ≤ c) (h2 : c ≤ 9223372036854775807) : SB w (.slice (some ⟨g, 0, none⟩) l.length c) l :=
 ⟨some ⟨g, 0, none⟩, c, rfl, h1, h2, fun e => by simp at e, fun i hi => ⟨_, rfl, by rw [Addr.add_lit, Nat.zero_add, blk_cell hg]; exact hcs i hi⟩⟩
theorem OB.lit (base : Nat) {w : World} {g : Nat} {l : Bytes} (hg : w.heap[g]? = some (.cells (Lib.byteCells l).toArray 5 (0, 0))) (hb : base ≤ g) (h1 : l.length ≤ 9223372036854775807) : OB base w (.slice (some ⟨g, 0, none⟩) l.length l.length) l :=
 ⟨by simp [Lib.byteCells], .inr ⟨g, l.length, _, rfl, hb, hg, Nat.le_refl _, h1, by simp [Lib.byteCells], by rw [List.take_of_length_le (by simp [Lib.byteCells])]⟩⟩
section
variable {ops : Array Oper} {rest : List Oper} {o : Oper} {a : Act} {Q : Exit → Act → World → Prop}
theorem app_bytes {W : World} (base : Nat) (hgd : o.guard = none) (s x : Operand)
  (ho : o.op = .call { callee := .builtin .append, args := #[s, x], argTypes := #[22, 22] })
  (v xv : Value) (l m : Bytes) (hs : a.eval s = v) (hx : a.eval x = xv) (HO : OB base W v l) (HS : SB W xv m) (hbase : base ≤ W.heap.size) (hl : l.length + m.length ≤ 140737488355328)
  (h : ∀ v1 w1, OB base w1 v1 (l ++ m) → W.grownBy w1 v.ownBlock → wpList Tryz.prog ops Q rest (a.put o.dst v1) w1) :
  wpList Tryz.prog ops Q (o :: rest) a W := by
 obtain ⟨i0, hi, hzz⟩ := Option.map_eq_some_iff.1 u8_info
 simp only [Prod.mk.injEq] at hzz
 obtain ⟨hz0, hz1, hz2⟩ := hzz
 obtain ⟨A, c, rfl, h2, h3, h4, h5⟩ := HS
 cases A with
 | none =>
  obtain ⟨rfl, rfl⟩ := h4 rfl
  refine wpList_append_own_none hgd s x 22 ho base 5 i0 1 Tryz.underlying22 hi v l.length _ hs HO hx ?_
  exact h v W (by simpa [OB] using HO) (World.grownBy.refl W _)
 | some ad =>
  refine wpList_append_own W hgd s x 22 ho base 5 i0 (.int .u8 0) 1 1 Tryz.underlying22 hi hz0 hz1 hz2 rfl (by decide) v l.length _ hs HO ad m.length c (Lib.byteCells m) hx (by simp [Lib.byteCells]) ?_ ?_ (by simp only [maxLen]; omega) (by omega) hbase ?_
  ·intro j u hj
   have hjl : j < m.length := by
    have := (List.getElem?_eq_some_iff.1 hj).1
    simpa [Lib.byteCells] using this
   obtain ⟨a1, e1, hc⟩ := h5 j hjl
   obtain rfl : ad = a1 := Option.some.inj e1
   rw [hc]
   simpa [Lib.byteCells, hjl] using hj
  ·intro u hu
   simp only [Lib.byteCells, List.mem_map] at hu
   obtain ⟨b, _, rfl⟩ := hu
   rfl
  ·intro v1 w1 hown hg _
   exact h v1 w1 (by simpa [OB, Lib.byteCells] using hown) hg
theorem step_bytes {W : World} {K : Act → World → Prop} {E : Prop} (base : Nat) (hgd : o.guard = none) (s x : Operand)
  (ho : o.op = .call { callee := .builtin .append, args := #[s, x], argTypes := #[22, 22] })
  (v xv : Value) (l m : Bytes) (hs : a.eval s = v) (hx : a.eval x = xv) (HO : OB base W v l) (HS : SB W xv m) (hbase : base ≤ W.heap.size) (hl : l.length + m.length ≤ 140737488355328)
  (h : ∀ v1 w1, OB base w1 v1 (l ++ m) → W.grownBy w1 v.ownBlock → K (a.put o.dst v1) w1) :
  if Region.wanted o (yielded ops a.tmps) = true then Oper.wp Tryz.prog o a W K Q else E := by
 have hw : Region.wanted o (yielded ops a.tmps) = true := by simp [Region.wanted, hgd]
 rw [if_pos hw]
 obtain ⟨i0, hi, hzz⟩ := Option.map_eq_some_iff.1 u8_info
 simp only [Prod.mk.injEq] at hzz
 obtain ⟨hz0, hz1, hz2⟩ := hzz
 obtain ⟨A, c, rfl, h2, h3, h4, h5⟩ := HS
 cases A with
 | none =>
  obtain ⟨rfl, rfl⟩ := h4 rfl
  have hrun := run_append_owned_none (P := Tryz.prog) (w := W) base 22 o.type 5 i0 1 Tryz.underlying22 hi v l.length _ HO
  unfold Oper.wp
  simp [execOp, ho, resolve, invoke, builtin, hs, hx, hrun, Result.andThen]
  exact h v W (by simpa [OB] using HO) (World.grownBy.refl W _)
 | some ad =>
  refine wp_append_own W s x 22 ho base 5 i0 (.int .u8 0) 1 1 Tryz.underlying22 hi hz0 hz1 hz2 rfl (by decide) v l.length _ hs HO ad m.length c (Lib.byteCells m) hx (by simp [Lib.byteCells]) ?_ ?_ (by simp only [maxLen]; omega) (by omega) hbase ?_
  ·intro j u hj
   have hjl : j < m.length := by
    have := (List.getElem?_eq_some_iff.1 hj).1
    simpa [Lib.byteCells] using this
   obtain ⟨a1, e1, hc⟩ := h5 j hjl
   obtain rfl : ad = a1 := Option.some.inj e1
   rw [hc]
   simpa [Lib.byteCells, hjl] using hj
  ·intro u hu
   simp only [Lib.byteCells, List.mem_map] at hu
   obtain ⟨b, _, rfl⟩ := hu
   rfl
  ·intro v1 w1 hown hg _
   exact h v1 w1 (by simpa [OB, Lib.byteCells] using hown) hg
theorem app_byte {W : World} (base : Nat) (hgd : o.guard = none) (s x : Operand)
  (ho : o.op = .call { callee := .builtin .append, args := #[s, x], argTypes := #[22, 22] })
  (v : Value) (l : Bytes) (c : UInt8) (k : Int) (hk : k = c.toNat) (hs : a.eval s = v) (hx : a.eval x = .slice (some ⟨W.heap.size, 0, none⟩) 1 1) (HO : OB base W v l) (hbase : base ≤ W.heap.size) (hl : l.length + 1 ≤ 140737488355328)
  (h : ∀ v1 w1, OB base w1 v1 (l ++ [c]) → W.grownBy w1 v.ownBlock → wpList Tryz.prog ops Q rest (a.put o.dst v1) w1) :
  wpList Tryz.prog ops Q (o :: rest) a (W.alloc (.cells #[.int .u8 k] 5)) := by
 subst hk
 refine app_one base hgd s x 22 5 (.int .u8 0) 1 1 ho Tryz.underlying22 u8_info rfl (by decide) (by decide) v l.length _ [.int .u8 c.toNat] (0, 0) hs hx rfl (by simp [Value.oneCell']) HO hbase (by omega) ?_
 intro v1 w1 h1 h2
 exact h v1 w1 (by simpa [OB, Lib.byteCells] using h1) h2
theorem app_front {W : World} (base : Nat) (hgd : o.guard = none) (s x : Operand)
  (ho : o.op = .call { callee := .builtin .append, args := #[s, x], argTypes := #[22, 22] })
  (v : Value) (l : Bytes) (c : UInt8) (k : Int) (hk : k = c.toNat) (hs : a.eval s = .slice (some ⟨W.heap.size, 0, none⟩) 1 1) (hx : a.eval x = v) (HS : SB W v l) (hbase : base ≤ W.heap.size) (hl : 1 + l.length ≤ 140737488355328)
  (h : ∀ v1 w1, OB base w1 v1 (c :: l) → Below W.heap.size W w1 → wpList Tryz.prog ops Q rest (a.put o.dst v1) w1) :
  wpList Tryz.prog ops Q (o :: rest) a (W.alloc (.cells #[.int .u8 k] 5)) := by
 subst hk
 have hb := (Below.refl W.heap.size W).alloc (Nat.le_refl _) (.cells #[.int .u8 c.toNat] 5)
 refine app_bytes (W := W.alloc (.cells #[.int .u8 c.toNat] 5)) base hgd s x ho (.slice (some ⟨W.heap.size, 0, none⟩) 1 1) v [c] l hs hx (OB.lit (l := [c]) base (heap_alloc_new W _) hbase (by simp)) (HS.below hb) (Nat.le_trans hbase hb.size) hl ?_
 intro v1 w1 h1 h2
 exact h v1 w1 h1 (hb.trans ((Below.refl _ _).grown h2 hb.size (fun k hk => by simp only [Value.ownBlock, Option.some.injEq] at hk; omega)))
end
theorem OB.grown {base n0 : Nat} {W w1 : World} {v : Value} {l : Bytes} (h : OB base W v l) (hg : W.grownBy w1 v.ownBlock) (h1 : n0 ≤ base) (h2 : n0 ≤ W.heap.size) : Below n0 W w1 :=
 (Below.refl n0 W).grown hg h2 (fun k hk => Nat.le_trans h1 (World.ownsRow.lt h k hk).1)
theorem conv_sb (w : World) (s : ByteArray) (hs : s.size ≤ 70368744177664) : SB (Lib.bytesWorld w 5 s) (.slice (some ⟨w.heap.size, 0, none⟩) s.size (grownCap w s.size 0 5)) s.data.toList ∧ Below w.heap.size w (Lib.bytesWorld w 5 s) := by
 refine ⟨?_, ?_⟩
 ·refine SB.lit (Lib.bytesWorld_at_new w _ s) (fun i h => ?_) _ (grownCap_ge w _ _ _) ?_
  ·have h1 : i < s.data.size := by simpa using h
   have h2 : i < s.size := h1
   simp [Lib.bytesCells, Array.getElem?_append, h1, h2]
  ·have := grownCap_le_maxLen w s.size 0 5 (by simp only [maxLen]; omega)
   simpa [maxLen] using this
 ·have h1 := ((Below.refl w.heap.size w).drew).alloc (Nat.le_refl _) (.cells (Lib.bytesCells w 5 s) 5)
  refine ⟨h1.os, h1.tape, h1.output, by rw [Lib.bytesWorld_size]; omega, fun k hk => Lib.bytesWorld_at_old w _ s k hk⟩
structure LUri where
 scheme : Bytes
 raw : Bytes
 star : Bool
 slashes : Bool
 user : Bytes
 pass : Bytes
 host : Bytes
 port : Int
 params : BKVs
 hdrs : BKVs
structure LHead where
 t : Int
 name : Bytes
 text : Bytes
 display : Bytes
 uri : LUri
 params : BKVs
 num : Int
 proto : Bytes
 version : Bytes
 transport : Bytes
 host : Bytes
 port : Int
structure LMsg where
 resp : Bool
 method : Bytes
 uri : LUri
 code : Int
 reason : Bytes
 version : Bytes
 heads : List LHead
 body : Bytes
 hasBody : Bool
 compact : Bool
def I64 (n : Int) : Prop := -9223372036854775808 ≤ n ∧ n ≤ 9223372036854775807
def LU (w : World) (u : LUri) (l : List Value) : Prop := ∃ a b c d e p h, l = [a, b, .bool u.star, .bool u.slashes, c, d, e, .int .i64 u.port, p, h] ∧
 SB w a u.scheme ∧ SB w b u.raw ∧ SB w c u.user ∧ SB w d u.pass ∧ SB w e u.host ∧ SK w p u.params ∧ SK w h u.hdrs ∧ I64 u.port
def LH (w : World) (h : LHead) (l : List Value) : Prop := ∃ a b c ul p d e f g, l = .int .i64 h.t :: a :: b :: c :: (ul ++ [p, .int .u32 h.num, d, e, f, g, .int .i64 h.port]) ∧
 SB w a h.name ∧ SB w b h.text ∧ SB w c h.display ∧ LU w h.uri ul ∧ SK w p h.params ∧ SB w d h.proto ∧ SB w e h.version ∧ SB w f h.transport ∧ SB w g h.host ∧ I64 h.t ∧ (0 ≤ h.num ∧ h.num < 4294967296) ∧ I64 h.port
def SHs (w : World) (v : Value) (l : List LHead) : Prop := ∃ A c, v = .slice A l.length c ∧ l.length ≤ c ∧ c ≤ 9223372036854775807 ∧ (A = none → l = [] ∧ c = 0) ∧
 ∀ i (h : i < l.length), ∃ a cs, A = some a ∧ LH w l[i] cs ∧ ∀ j u, cs[j]? = some u → w.cell? ((a.add (i * 21)).add j) = some u
def LM (w : World) (m : LMsg) (l : List Value) : Prop := ∃ a ul b c hs d, l = .bool m.resp :: a :: (ul ++ [.int .i64 m.code, b, c, hs, d, .bool m.hasBody, .bool m.compact]) ∧
 SB w a m.method ∧ LU w m.uri ul ∧ SB w b m.reason ∧ SB w c m.version ∧ SHs w hs m.heads ∧ SB w d m.body ∧ I64 m.code
theorem LU.below {w w' : World} {u : LUri} {l : List Value} (h : LU w u l) (hb : Below w.heap.size w w') : LU w' u l := by
 obtain ⟨a, b, c, d, e, p, q, h0, h1, h2, h3, h4, h5, h6, h7, h8⟩ := h
 exact ⟨a, b, c, d, e, p, q, h0, h1.below hb, h2.below hb, h3.below hb, h4.below hb, h5.below hb, h6.below hb, h7.below hb, h8⟩
theorem LH.below {w w' : World} {x : LHead} {l : List Value} (h : LH w x l) (hb : Below w.heap.size w w') : LH w' x l := by
 obtain ⟨a, b, c, ul, p, d, e, f, g, h0, h1, h2, h3, h4, h5, h6, h7, h8, h9, h10⟩ := h
 exact ⟨a, b, c, ul, p, d, e, f, g, h0, h1.below hb, h2.below hb, h3.below hb, h4.below hb, h5.below hb, h6.below hb, h7.below hb, h8.below hb, h9.below hb, h10⟩
theorem SHs.below {w w' : World} {v : Value} {l : List LHead} (h : SHs w v l) (hb : Below w.heap.size w w') : SHs w' v l := by
 obtain ⟨A, c, h1, h2, h3, h4, h5⟩ := h
 refine ⟨A, c, h1, h2, h3, h4, fun i hi => ?_⟩
 obtain ⟨a, cs, e, hc, hd⟩ := h5 i hi
 exact ⟨a, cs, e, hc.below hb, fun j u hj => cell_at_below (hd j u hj) hb⟩
theorem LM.below {w w' : World} {m : LMsg} {l : List Value} (h : LM w m l) (hb : Below w.heap.size w w') : LM w' m l := by
 obtain ⟨a, ul, b, c, hs, d, h0, h1, h2, h3, h4, h5, h6, h7⟩ := h
 exact ⟨a, ul, b, c, hs, d, h0, h1.below hb, h2.below hb, h3.below hb, h4.below hb, h5.below hb, h6.below hb, h7⟩
theorem SB.at_ {w : World} {v : Value} {l : Bytes} (h : SB w v l) (i : Nat) (hi : i < l.length) : ∃ a c, v = .slice (some a) l.length c ∧ w.cell? (a.add i) = some (.int .u8 l[i].toNat) := by
 obtain ⟨A, c, h1, _, _, _, h5⟩ := h
 obtain ⟨a, rfl, hc⟩ := h5 i hi
 exact ⟨a, c, h1, hc⟩
theorem SB.get {w : World} {v : Value} {l : Bytes} (h : SB w v l) (i : Nat) (hi : i < l.length) : ∃ a c, ∃ d : UInt8, v = .slice (some a) l.length c ∧ w.cell? (a.add i) = some (.int .u8 d.toNat) ∧ l[i]? = some d := by
 obtain ⟨a, c, h1, h2⟩ := h.at_ i hi
 exact ⟨a, c, l[i], h1, h2, List.getElem?_eq_getElem hi⟩
theorem SB.form {w : World} {v : Value} {l : Bytes} (h : SB w v l) : ∃ A c, v = .slice A l.length c ∧ l.length ≤ 9223372036854775807 := by
 obtain ⟨A, c, h1, h2, h3, _⟩ := h
 exact ⟨A, c, h1, Nat.le_trans h2 h3⟩
theorem SK.form {w : World} {v : Value} {l : BKVs} (h : SK w v l) : ∃ A c, v = .slice A l.length c ∧ l.length ≤ 9223372036854775807 := by
 obtain ⟨A, c, h1, h2, h3, _⟩ := h
 exact ⟨A, c, h1, Nat.le_trans h2 h3⟩
theorem SHs.form {w : World} {v : Value} {l : List LHead} (h : SHs w v l) : ∃ A c, v = .slice A l.length c ∧ l.length ≤ 9223372036854775807 := by
 obtain ⟨A, c, h1, h2, h3, _⟩ := h
 exact ⟨A, c, h1, Nat.le_trans h2 h3⟩
def letterB (c : UInt8) : Bool := (decide (97 ≤ c.toNat) && decide (c.toNat ≤ 122)) || (decide (65 ≤ c.toNat) && decide (c.toNat ≤ 90))
def digitB (c : UInt8) : Bool := decide (48 ≤ c.toNat) && decide (c.toNat ≤ 57)
def wordB (c : UInt8) : Bool := letterB c || digitB c || c.toNat == 45 || c.toNat == 46 || c.toNat == 33 || c.toNat == 42 || c.toNat == 95 || c.toNat == 43 || c.toNat == 126
theorem conv_const (w : World) (C : Array Value) (n c : Nat) : Sem.run Tryz.prog (convert 22 22 (.slice (some ⟨w.heap.size, 0, none⟩) n c)) (w.alloc (.cells C 5)) = .ok (.slice (some ⟨w.heap.size, 0, none⟩) n c) (w.alloc (.cells C 5 (C.size, C.size + 1))) :=
 Lib.run_convert_bytes_const (P := Tryz.prog) w 22 5 C n c Tryz.underlying22 Tryz.underlying5
def SBs (w : World) (v : Value) (ls : List Bytes) : Prop := ∃ A c, v = .slice A ls.length c ∧ ls.length ≤ c ∧ c ≤ 9223372036854775807 ∧ ∀ i (h : i < ls.length), ∃ a u, A = some a ∧ w.cell? (a.add i) = some u ∧ SB w u ls[i]
theorem SBs.of_block {w : World} {g : Nat} {t : TypeId} {fz : Nat × Nat} {us : List Value} {ls : List Bytes} {n : Nat} (hg : w.heap[g]? = some (.cells us.toArray t fz)) (hn : n = ls.length) (hl : us.length = ls.length) (hm : ls.length ≤ 1000) (hS : ∀ i (h : i < ls.length), ∃ u, us[i]? = some u ∧ SB w u ls[i]) : SBs w (.slice (some ⟨g, 0, none⟩) n n) ls := by
 subst hn
 refine ⟨_, _, rfl, Nat.le_refl _, by omega, fun i hi => ?_⟩
 obtain ⟨u, h1, h2⟩ := hS i hi
 refine ⟨_, u, rfl, ?_, h2⟩
 rw [Addr.add_lit, Nat.zero_add, blk_cell hg]
 simpa using h1
theorem SBs.two {w : World} {g : Nat} {t : TypeId} {fz : Nat × Nat} {u1 u2 : Value} {l1 l2 : Bytes} (hg : w.heap[g]? = some (.cells #[u1, u2] t fz)) (h1 : SB w u1 l1) (h2 : SB w u2 l2) : SBs w (.slice (some ⟨g, 0, none⟩) 2 2) [l1, l2] :=
 SBs.of_block (us := [u1, u2]) hg rfl rfl (by simp) (fun i hi => by
  match i, hi with
  | 0, _ => exact ⟨u1, rfl, h1⟩
  | 1, _ => exact ⟨u2, rfl, h2⟩)
theorem SBs.three {w : World} {g : Nat} {t : TypeId} {fz : Nat × Nat} {u1 u2 u3 : Value} {l1 l2 l3 : Bytes} (hg : w.heap[g]? = some (.cells #[u1, u2, u3] t fz)) (h1 : SB w u1 l1) (h2 : SB w u2 l2) (h3 : SB w u3 l3) : SBs w (.slice (some ⟨g, 0, none⟩) 3 3) [l1, l2, l3] :=
 SBs.of_block (us := [u1, u2, u3]) hg rfl rfl (by simp) (fun i hi => by
  match i, hi with
  | 0, _ => exact ⟨u1, rfl, h1⟩
  | 1, _ => exact ⟨u2, rfl, h2⟩
  | 2, _ => exact ⟨u3, rfl, h3⟩)
def JPost (l : Bytes) (w : World) (e : Ending) (w' : World) : Prop := ∃ v, e = .returned v ∧ OB w.heap.size w' v l ∧ Below w.heap.size w w'
theorem flat_take (ls : List Bytes) (k : Nat) (h : k < ls.length) : (ls.take (k + 1)).flatten = (ls.take k).flatten ++ ls[k] := by
 rw [take_step ls k h, List.flatten_append]
 simp
theorem flat_le (ls : List Bytes) (k : Nat) : (ls.take k).flatten.length ≤ ls.flatten.length := by
 have : ls.flatten = (ls.take k).flatten ++ (ls.drop k).flatten := by rw [← List.flatten_append, List.take_append_drop]
 rw [this, List.length_append]
 omega
theorem joined_any (v : Value) (ls : List Bytes) (w : World) (hS : SBs w v ls) (hl : ls.flatten.length ≤ 140737488355328) : Calls Tryz.prog 17 #[v] w (JPost ls.flatten w) := by
 obtain ⟨A, c, rfl, h2, h3, h5⟩ := hS
 have H5 := hid h5
 have HL := hid hl
 have hlen : ls.length ≤ 9223372036854775807 := by omega
 clear h2 h3 h5 hl
 go_enter Tryz.func17, Tryz.ntmps17
 go_wp2_with fail
 go_loopw [3, 4] (fun o i wr => ∃ k : Nat, k ≤ ls.length ∧ i = .int .i64 k ∧ OB w.heap.size wr o (ls.take k).flatten ∧ Below w.heap.size w wr) (fun _ i _ => ls.length - (intOf i).toNat)
 case atStart => exact ⟨0, Nat.zero_le _, rfl, OB.nil _ _, Below.refl _ _⟩
 case round =>
  obtain ⟨k, hk, rfl, ho, hb⟩ := hrel
  have HO := hid ho
  have HB := hid hb
  obtain ⟨wo, rfl⟩ : ∃ wo : World, wo = wr := ⟨_, rfl⟩
  clear ho hb
  by_cases hlt : k < ls.length
  ·obtain ⟨a, u, rfl, hc, hsb⟩ := H5.out k hlt
   have d1 := cell_at_below hc HB.out
   have HSB := hid (hsb.below HB.out)
   have HLT := hid hlt
   have HM := hid (And.intro (flat_take ls k hlt) (flat_le ls (k + 1)))
   have HN := hid (show (ls.take k).flatten.length + ls[k].length ≤ 140737488355328 by
    have h1 := HM.out.2
    rw [HM.out.1, List.length_append] at h1
    exact Nat.le_trans h1 HL.out)
   clear hc hsb
   go_wp2_with (at_builtin; refine app_bytes w.heap.size rfl _ _ rfl _ u _ _ rfl rfl HO.out HSB.out HB.out.size HN.out ?_)
   intro v1 w2 ho1 hgr
   have HO1 := hid (show OB w.heap.size w2 v1 (ls.take (k + 1)).flatten by rw [HM.out.1]; exact ho1)
   have HB1 := hid (HB.out.trans (HO.out.grown hgr (Nat.le_refl _) HB.out.size))
   clear ho1 hgr
   go_wp2
   go_roundw
   case rel => exact ⟨k + 1, HLT.out, by simp, HO1.out, HB1.out⟩
   case measure => exact meas_step HLT.out (by simp)
  ·have hke : k = ls.length := by omega
   subst hke
   go_wp2
   go_ret
   have := HO.out
   rw [List.take_length] at this
   exact ⟨_, rfl, this, HB.out⟩
theorem decD_step {n : Nat} (h : ¬ n < 10) : Lib.decDigits n = Lib.decDigits (n / 10) ++ [UInt8.ofNat (48 + n % 10)] := by rw [Lib.decDigits, dif_neg h]
theorem decD_small {n : Nat} (h : n < 10) : Lib.decDigits n = [UInt8.ofNat (48 + n)] := by rw [Lib.decDigits, dif_pos h]
def DPost (n : Int) (w : World) (e : Ending) (w' : World) : Prop := ∃ v l, e = .returned v ∧ OB w.heap.size w' v l ∧ (0 ≤ n → l = Lib.itoa n) ∧ l.length ≤ 21 ∧ Below w.heap.size w w'
def bn : Value → Nat | .bool true => 1 | _ => 0
theorem byte_of (x : Int) : x % 256 = ((UInt8.ofNat (x % 256).toNat).toNat : Int) := by
 rw [UInt8.toNat_ofNat']
 omega
theorem dig_of {n : Int} (h : 0 ≤ n) : UInt8.ofNat (wrap64 (48 + n.tmod 10) % 256).toNat = UInt8.ofNat (48 + n.toNat % 10) := by
 congr 1
 rw [Int.tmod_eq_emod_of_nonneg h]
 unfold wrap64
 omega
theorem byte_pos {n : Int} (h : 0 < n) : 48 + n % 10 = ((UInt8.ofNat (wrap64 (48 + n.tmod 10) % 256).toNat).toNat : Int) := by
 rw [dig_of (by omega), UInt8.toNat_ofNat']
 omega
def DI (N n : Int) (l : Bytes) (f : Bool) : Prop := f = true ∧ n = N ∧ l = [] ∨ f = false ∧ (0 ≤ N → 0 ≤ n ∧ Lib.decDigits N.toNat = (if n = 0 then [] else Lib.decDigits n.toNat) ++ l) ∧ (N < 0 → n ≤ 0 ∧ l.length = 1)
theorem DI.step {N n : Int} {l : Bytes} {f : Bool} (h : DI N n l f) (hgo : f = true ∨ 0 < n) : DI N (n.tdiv 10) (UInt8.ofNat (wrap64 (48 + n.tmod 10) % 256).toNat :: l) false := by
 refine .inr ⟨rfl, fun h0 => ?_, fun h0 => ?_⟩
 ·have hn : 0 ≤ n ∧ Lib.decDigits N.toNat = Lib.decDigits n.toNat ++ l := by
   rcases h with ⟨_, rfl, rfl⟩ | ⟨rfl, h1, _⟩
   ·exact ⟨h0, by simp⟩
   ·obtain ⟨h2, h3⟩ := h1 h0
    have h4 : 0 < n := by simpa using hgo
    rw [if_neg (by omega)] at h3
    exact ⟨h2, h3⟩
  have hd : n.tdiv 10 = n / 10 := Int.tdiv_eq_ediv_of_nonneg hn.1
  rw [hd, dig_of hn.1]
  refine ⟨by omega, ?_⟩
  rw [hn.2]
  by_cases hs : n.toNat < 10
  ·rw [if_pos (by omega), decD_small hs, List.nil_append, show 48 + n.toNat % 10 = 48 + n.toNat by omega]
   rfl
  ·rw [if_neg (by omega), decD_step hs, show (n / 10).toNat = n.toNat / 10 by omega, List.append_assoc]
   rfl
 ·have hn : n ≤ 0 ∧ l = [] := by
   rcases h with ⟨_, rfl, rfl⟩ | ⟨rfl, _, h1⟩
   ·exact ⟨by omega, rfl⟩
   ·have h4 : 0 < n := by simpa using hgo
    exact absurd (h1 h0).1 (by omega)
  obtain ⟨h1, rfl⟩ := hn
  refine ⟨?_, rfl⟩
  have : n.tdiv 10 = -((-n).tdiv 10) := by rw [Int.neg_tdiv, Int.neg_neg]
  rw [this, Int.tdiv_eq_ediv_of_nonneg (by omega)]
  omega
theorem DI.len {N n : Int} {l : Bytes} {f : Bool} (h : DI N n l f) (hN : I64 N) : l.length ≤ 21 := by
 rcases h with ⟨_, _, rfl⟩ | ⟨_, h1, h2⟩
 ·simp
 ·by_cases h0 : 0 ≤ N
  ·obtain ⟨_, h3⟩ := h1 h0
   have h4 := Lib.itoa_length_le N hN.1 hN.2
   have h5 : Lib.itoa N = Lib.decDigits N.toNat := by unfold Lib.itoa; rw [if_neg (by omega)]
   rw [h5, h3, List.length_append] at h4
   omega
  ·rw [(h2 (by omega)).2]; omega
theorem tdiv_i64 {n : Int} (h : I64 n) : wrap64 (n.tdiv 10) = n.tdiv 10 ∧ I64 (n.tdiv 10) ∧ (0 < n → (n.tdiv 10).toNat < n.toNat) ∧ (n ≤ 0 → (n.tdiv 10).toNat = 0) := by
 obtain ⟨h1, h2⟩ := h
 by_cases h0 : 0 ≤ n
 ·rw [Int.tdiv_eq_ediv_of_nonneg h0]
  unfold wrap64 I64
  refine ⟨?_, ?_, ?_, ?_⟩ <;> omega
 ·have : n.tdiv 10 = -((-n).tdiv 10) := by rw [Int.neg_tdiv, Int.neg_neg]
  rw [this, Int.tdiv_eq_ediv_of_nonneg (by omega)]
  unfold wrap64 I64
  refine ⟨?_, ?_, ?_, ?_⟩ <;> omega
theorem decimal_any (N : Int) (w : World) (hN : I64 N) : Calls Tryz.prog 130 #[.int .i64 N] w (DPost N w) := by
 have HN := hid hN
 clear hN
 go_enter Tryz.func130, Tryz.ntmps130
 go_wp2_with fail
 go_loopw [0, 3, 4] (fun nv o fv wr => ∃ (n : Int) (l : Bytes) (f : Bool), nv = .int .i64 n ∧ fv = .bool f ∧ I64 n ∧ OB w.heap.size wr o l ∧ DI N n l f ∧ Below w.heap.size w wr) (fun nv _ fv _ => (intOf nv).toNat + bn fv)
 case atStart => exact ⟨N, [], true, rfl, rfl, HN.out, OB.nil _ _, .inl ⟨rfl, rfl, rfl⟩, Below.refl _ _⟩
 case round =>
  obtain ⟨n, l, f, rfl, rfl, hn, ho, hI, hb⟩ := hrel
  have HO := hid ho
  have HB := hid hb
  have HI := hid hI
  have HT := hid (tdiv_i64 hn)
  have HLN := hid (hI.len HN.out)
  obtain ⟨wo, rfl⟩ : ∃ wo : World, wo = wr := ⟨_, rfl⟩
  clear ho hb hI hn
  by_cases hgo : f = true ∨ 0 < n
  ·have HGO := hid hgo
   have hw2 := HT.out.1
   cases f
   all_goals (try have hpos : (0 : Int) < n := by simpa using HGO.out)
   all_goals
    (clear hgo
     go_wp2_with (at_builtin; refine app_front w.heap.size (by rfl) _ _ (by rfl) _ l (UInt8.ofNat (wrap64 (48 + n.tmod 10) % 256).toNat) _ ?_ (by rfl) (by rfl) ?_ ?_ ?_ ?_)
     rotate_left 1
     ·exact HO.out.sb
     ·exact HB.out.size
     ·have := HLN.out; omega
     rotate_left 1
     ·first | exact byte_pos hpos | exact byte_of _ | omega
     intro v1 w2 ho1 hb1
     have HO1 := hid ho1
     have HB1 := hid (HB.out.trans (hb1.mono HB.out.size))
     clear ho1 hb1
     go_wp2
     go_roundw
     (case rel => exact ⟨n.tdiv 10, _, false, by rw [HT.out.1], rfl, HT.out.2.1, HO1.out, HI.out.step (by first | exact HGO.out | exact .inl rfl), HB1.out⟩)
     (case measure =>
      simp only [intOf, bn, HT.out.1]
      have h1 := HT.out.2.2.1
      have h2 := HT.out.2.2.2
      have h3 := HGO.out
      by_cases hp : 0 < n
      ·have := h1 hp; omega
      ·have := h2 (by omega)
       simp at h3
       omega))
  ·have hf : f = false := by cases f <;> simp at hgo ⊢
   subst hf
   have hnp : ¬ (0 : Int) < n := by simpa using hgo
   clear hgo
   go_wp2
   go_ret
   refine ⟨_, l, rfl, HO.out, fun h0 => ?_, HLN.out, HB.out⟩
   rcases HI.out with ⟨h, _⟩ | ⟨_, h1, _⟩
   ·cases h
   ·obtain ⟨h2, h3⟩ := h1 h0
    rw [if_pos (by omega), List.nil_append] at h3
    unfold Lib.itoa
    rw [if_neg (by omega), h3]
def lportT (n : Int) : Bytes := if 0 < n then 58 :: Lib.itoa n else []
def HPost (host : Bytes) (port : Int) (w : World) (e : Ending) (w' : World) : Prop := ∃ v l, e = .returned v ∧ SB w' v l ∧ (0 ≤ port → l = host ++ lportT port) ∧ l.length ≤ host.length + 22 ∧ Below w.heap.size w w'
theorem hosttext_any (v : Value) (host : Bytes) (port : Int) (w : World) (hS : SB w v host) (hp : I64 port) (hl : host.length ≤ 70368744177664) : Calls Tryz.prog 113 #[v, .int .i64 port] w (HPost host port w) := by
 have HS := hid hS
 have HL := hid hl
 have HP := hid hp
 obtain ⟨Ah, ch, rfl, hlen⟩ := hS.form
 clear hS hl hp
 by_cases h0 : port = 0
 ·subst h0
  go_enter Tryz.func113, Tryz.ntmps113
  go_wp2
  go_ret
  exact ⟨_, host, rfl, HS.out, fun _ => by simp [lportT], by omega, Below.refl _ _⟩
 ·go_enter Tryz.func113, Tryz.ntmps113
  go_wp2_with fail
  refine (decimal_any port _ HP.out).mono ?_
  rintro e w1 ⟨v1, l1, rfl, ho1, hd1, hn1, hb1⟩
  have hA := (Below.refl w.heap.size w).alloc (Nat.le_refl _) (.cells #[.int .u8 58] 5)
  have hg := (hb1.block w.heap.size (by simp)).trans (heap_alloc_new w (.cells #[.int .u8 58] 5))
  have hb2 := (hA.trans (hb1.mono hA.size)).alloc (Nat.le_trans hA.size hb1.size) (.cells #[.slice Ah host.length ch, .slice (some ⟨w.heap.size, 0, none⟩) 1 1, v1] 22)
  have hJ := joined_any _ [host, [58], l1] _ (SBs.three (heap_alloc_new w1 (.cells #[.slice Ah host.length ch, .slice (some ⟨w.heap.size, 0, none⟩) 1 1, v1] 22)) (HS.out.below hb2)
   ((SB.lit (l := [58]) hg (fun i hi => by match i, hi with | 0, _ => rfl) 1 (Nat.le_refl _) (by omega)).below ((Below.refl _ w1).alloc (Nat.le_refl _) _))
   (ho1.sb.below ((Below.refl _ w1).alloc (Nat.le_refl _) _))) (by have := HL.out; simp; omega)
  have HJ := hid hJ
  have HB2 := hid hb2
  have HD := hid (And.intro hd1 hn1)
  clear hA hg hb2 hJ hd1 hn1 hb1
  obtain ⟨A1, c1, rfl⟩ := ho1.slice
  clear ho1
  go_wp2_with (go_at_call 17; refine HJ.out.mono ?_; rintro e w2 ⟨v2, rfl, ho2, hb3⟩)
  go_ret
  refine ⟨v2, _, rfl, ho2.sb, fun hp => ?_, ?_, HB2.out.trans (hb3.mono HB2.out.size)⟩
  ·rw [HD.out.1 hp, lportT, if_pos (by omega)]
   simp
  ·have := HD.out.2
   simp
   omega
def kvB (p : Bytes × Bytes) : Bytes := p.1 ++ (if p.2 = [] then [] else 61 :: p.2)
def lpsepT (sep : UInt8) (l : BKVs) : Bytes := l.flatMap fun p => sep :: kvB p
def lparT (sep : UInt8) (l : BKVs) : Bytes := (lpsepT sep l).drop 1
theorem lpsep_take (sep : UInt8) (l : BKVs) (k : Nat) (p : Bytes × Bytes) (h : l[k]? = some p) : lpsepT sep (l.take (k + 1)) = lpsepT sep (l.take k) ++ sep :: kvB p := by
 rw [List.take_add_one, h, lpsepT, List.flatMap_append]
 simp [lpsepT]
theorem lpsep_pos (sep : UInt8) (l : BKVs) (k : Nat) (h : k < l.length) (hk : 0 < k) : 1 ≤ (lpsepT sep (l.take k)).length := by
 obtain ⟨j, rfl⟩ : ∃ j, k = j + 1 := ⟨k - 1, by omega⟩
 rw [lpsep_take sep l j l[j] (List.getElem?_eq_getElem (by omega)), List.length_append, List.length_cons]
 omega
theorem lpar_step (sep : UInt8) (l : BKVs) (k : Nat) (p : Bytes × Bytes) (h : l[k]? = some p) : lparT sep (l.take (k + 1)) = (if k = 0 then [] else lparT sep (l.take k) ++ [sep]) ++ kvB p := by
 have hk' := (List.getElem?_eq_some_iff.1 h).1
 rw [lparT, lpsep_take sep l k p h]
 by_cases hk : k = 0
 ·subst hk
  simp [lpsepT]
 ·rw [if_neg hk, List.drop_append_of_le_length (lpsep_pos sep l k hk' (by omega)), lparT]
  simp
theorem lpar_le (sep : UInt8) (l : BKVs) (k : Nat) : (lparT sep (l.take k)).length ≤ (lparT sep l).length := by
 have : lpsepT sep l = lpsepT sep (l.take k) ++ lpsepT sep (l.drop k) := by
  rw [lpsepT, lpsepT, lpsepT, ← List.flatMap_append, List.take_append_drop]
 rw [lparT, lparT, this, List.length_drop, List.length_drop, List.length_append]
 omega
theorem SK.at_ {w : World} {v : Value} {l : BKVs} (h : SK w v l) (i : Nat) (hi : i < l.length) : ∃ a c vk vv, ∃ p : Bytes × Bytes, v = .slice (some a) l.length c ∧ w.cell? (a.add (i * 2)) = some vk ∧ w.cell? ⟨(a.add (i * 2)).block, (a.add (i * 2)).off + 1, none⟩ = some vv ∧ SB w vk p.1 ∧ SB w vv p.2 ∧ l[i]? = some p := by
 obtain ⟨A, c, h1, _, _, _, h5⟩ := h
 obtain ⟨a, vk, vv, rfl, hc⟩ := h5 i hi
 exact ⟨a, c, vk, vv, l[i], h1, hc.1, hc.2.1, hc.2.2.1, hc.2.2.2, List.getElem?_eq_getElem hi⟩
theorem partext_any (v : Value) (sep : UInt8) (l : BKVs) (w : World) (hS : SK w v l) (hl : (lparT sep l).length ≤ 70368744177664) : Calls Tryz.prog 90 #[v, .int .u8 sep.toNat] w (JPost (lparT sep l) w) := by
 have HS := hid hS
 have HL := hid hl
 obtain ⟨A, c, rfl, hlen⟩ := hS.form
 clear hS hl
 go_enter Tryz.func90, Tryz.ntmps90
 go_wp2_with fail
 go_loopw [5, 6] (fun o i wr => ∃ k : Nat, k ≤ l.length ∧ i = .int .i64 k ∧ OB w.heap.size wr o (lparT sep (l.take k)) ∧ Below w.heap.size w wr) (fun _ i _ => l.length - (intOf i).toNat)
 case atStart => exact ⟨0, Nat.zero_le _, rfl, OB.nil _ _, Below.refl _ _⟩
 case round =>
  obtain ⟨k, hk, rfl, ho, hb⟩ := hrel
  have HO := hid ho
  have HB := hid hb
  obtain ⟨wo, rfl⟩ : ∃ wo : World, wo = wr := ⟨_, rfl⟩
  clear ho hb
  by_cases hlt : k < l.length
  ·obtain ⟨a, c', vk, vv, p, e1, hc0, hc1, hk1, hv1, hp⟩ := HS.out.at_ k hlt
   cases e1
   have HLT := hid (Nat.succ_le_of_lt hlt)
   have hst := lpar_step sep l k p hp
   have hle := lpar_le sep l (k + 1)
   rw [hst] at hle
   have hln : (if k = 0 then [] else lparT sep (l.take k) ++ [sep]).length + p.1.length + 1 + p.2.length ≤ 140737488355328 := by
    have h1 := HL.out
    rw [List.length_append, kvB, List.length_append] at hle
    by_cases hpe : p.2 = []
    ·rw [hpe]; simp; omega
    ·rw [if_neg hpe, List.length_cons] at hle; omega
   obtain ⟨pre, hpre⟩ : ∃ pre, pre = (if k = 0 then [] else lparT sep (l.take k) ++ [sep]) := ⟨_, rfl⟩
   rw [← hpre] at hln hst
   have HST := hid hst
   have HLN := hid hln
   have HPRE := hid hpre
   have C := hid (And.intro hc0 (And.intro hc1 (And.intro hk1 hv1)))
   obtain ⟨Ak, ck, rfl, hkl⟩ := hk1.form
   obtain ⟨Av, cv, rfl, hvl⟩ := hv1.form
   clear hpre hp hst hle hln hc0 hc1 hk1 hv1
   have d0 := cell_at_below C.out.1 HB.out
   have d1 := cell_at_below C.out.2.1 HB.out
   have hsep : ∀ (Q : Exit → Act → World → Prop), True := fun _ => trivial
   clear hsep
   by_cases hk0 : k = 0
   ·subst hk0
    have C1 := hid (show w.cell? ⟨a.block, a.off + 1, none⟩ = some (.slice Av p.2.length cv) by have := C.out.2.1; simpa [Addr.add] using this)
    have e0 : wo.cell? a = some (.slice Ak p.1.length ck) := by simpa [Addr.add] using d0
    clear d0 d1
    have HO2 := hid (show OB w.heap.size wo _ pre by rw [HPRE.out, if_pos rfl]; exact HO.out)
    have HB2 := hid HB.out
    by_cases hpe : p.2 = []
    ·go_wp2_with (at_builtin; refine app_bytes w.heap.size (by rfl) _ _ (by rfl) _ _ _ p.1 (by rfl) (by rfl) HO2.out (C.out.2.2.1.below HB2.out) HB2.out.size (by have := HLN.out; omega) ?_)
     intro v3 w3 ho3 hgr3
     have HO3 := hid ho3
     have HB3 := hid (HB2.out.trans (HO2.out.grown hgr3 (Nat.le_refl _) HB2.out.size))
     have x1 := cell_at_below C1.out HB3.out
     clear ho3 hgr3
     have hv0 : ¬ (0 : Int) < p.2.length := by rw [hpe]; simp
     go_wp2
     go_roundw
     case rel => exact ⟨0 + 1, HLT.out, by simp, by rw [HST.out, kvB, if_pos hpe, List.append_nil]; exact HO3.out, HB3.out⟩
     case measure => exact meas_step HLT.out (by simp)
    ·go_wp2_with (at_builtin; refine app_bytes w.heap.size (by rfl) _ _ (by rfl) _ _ _ p.1 (by rfl) (by rfl) HO2.out (C.out.2.2.1.below HB2.out) HB2.out.size (by have := HLN.out; omega) ?_)
     intro v3 w3 ho3 hgr3
     have HO3 := hid ho3
     have HB3 := hid (HB2.out.trans (HO2.out.grown hgr3 (Nat.le_refl _) HB2.out.size))
     have x1 := cell_at_below C1.out HB3.out
     clear ho3 hgr3
     have hv0 : (0 : Int) < p.2.length := by have := List.length_pos_iff.2 hpe; omega
     have HPE := hid hpe
     clear hpe
     have A5 := hid (HB3.out.trans ((((Below.refl _ w3).alloc (Nat.le_refl _) (.cells #[.int .u8 61] 5)).drew).mono HB3.out.size))
     have A1 := hid (HO3.out.kept (((Below.refl _ w3).alloc (Nat.le_refl _) (.cells #[.int .u8 61] 5)).drew))
     have A2 := hid (show SB (w3.alloc (.cells #[.int .u8 61] 5)).drew (.slice (some ⟨w3.heap.size, 0, none⟩) 1 1) [61] from SB.lit (l := [61]) (heap_alloc_new w3 _) (fun i hi => by match i, hi with | 0, _ => rfl) 1 (Nat.le_refl _) (by omega))
     have A3 := hid A5.out.size
     have A4 := hid (show (pre ++ p.1).length + ([61] : Bytes).length ≤ 140737488355328 by have h1 := HLN.out; rw [List.length_append, List.length_singleton]; omega)
     have A6 := hid (show (pre ++ p.1 ++ [61]).length + p.2.length ≤ 140737488355328 by have h1 := HLN.out; rw [List.length_append, List.length_append, List.length_singleton]; omega)
     go_wp2_with fail
     go_region_held3 (fun w' => w'.cell? ⟨a.block, a.off + 1, none⟩ = some (.slice Av p.2.length cv)) (first | go_keep | exact cell_at_below C1.out HB5.out | exact cell_at_below C1.out HB4.out)
      (first
       | (refine step_bytes w.heap.size (by rfl) (.tmp 33) (.tmp 34) (by rfl) v3 (.slice (some ⟨w3.heap.size, 0, none⟩) 1 1) (pre ++ p.1) [61] (by rfl) (by rfl) A1.out A2.out A3.out A4.out ?_; intro v4 w4 ho4 hgr4; have HB4 := hid (A5.out.trans (OB.grown A1.out hgr4 (Nat.le_refl _) A3.out)); have HO4 := hid ho4; clear ho4 hgr4)
       | (refine step_bytes w.heap.size (by rfl) (.tmp 35) (.tmp 40) (by rfl) v4 (.slice Av p.2.length cv) (pre ++ p.1 ++ [61]) p.2 (by rfl) (by rfl) HO4.out (C.out.2.2.2.below HB4.out) HB4.out.size A6.out ?_; intro v5 w5 ho5 hgr5; have HB5 := hid (HB4.out.trans (HO4.out.grown hgr5 (Nat.le_refl _) HB4.out.size)); have HO5 := hid ho5; clear ho5 hgr5))
     go_wp2
     go_roundw
     case rel => exact ⟨0 + 1, HLT.out, by simp, by rw [HST.out, kvB, if_neg HPE.out]; simpa using HO5.out, HB5.out⟩
     case measure => exact meas_step HLT.out (by simp)
   ·have hk0i : (0 : Int) < k := by omega
    have HK0 := hid hk0
    have C1 := hid C.out.2.1
    clear hk0
    go_wp2_with (at_builtin; refine app_byte w.heap.size (by rfl) _ _ (by rfl) _ _ sep _ (by rfl) (by rfl) (by rfl) HO.out HB.out.size (by have h1 := HLN.out; have h2 := HPRE.out; rw [if_neg HK0.out] at h2; rw [h2, List.length_append, List.length_singleton] at h1; omega) ?_)
    intro v2 w2 ho2 hgr2
    have HO2 := hid (show OB w.heap.size w2 v2 pre by rw [HPRE.out, if_neg HK0.out]; exact ho2)
    have HB2 := hid (HB.out.trans (HO.out.grown hgr2 (Nat.le_refl _) HB.out.size))
    clear ho2 hgr2 d0 d1
    have d0 := cell_at_below C.out.1 HB2.out
    by_cases hpe : p.2 = []
    ·go_wp2_with (at_builtin; refine app_bytes w.heap.size (by rfl) _ _ (by rfl) _ _ _ p.1 (by rfl) (by rfl) HO2.out (C.out.2.2.1.below HB2.out) HB2.out.size (by have := HLN.out; omega) ?_)
     intro v3 w3 ho3 hgr3
     have HO3 := hid ho3
     have HB3 := hid (HB2.out.trans (HO2.out.grown hgr3 (Nat.le_refl _) HB2.out.size))
     have x1 := cell_at_below C1.out HB3.out
     clear ho3 hgr3
     have hv0 : ¬ (0 : Int) < p.2.length := by rw [hpe]; simp
     go_wp2
     go_roundw
     case rel => exact ⟨k + 1, HLT.out, by simp, by rw [HST.out, kvB, if_pos hpe, List.append_nil]; exact HO3.out, HB3.out⟩
     case measure => exact meas_step HLT.out (by simp)
    ·go_wp2_with (at_builtin; refine app_bytes w.heap.size (by rfl) _ _ (by rfl) _ _ _ p.1 (by rfl) (by rfl) HO2.out (C.out.2.2.1.below HB2.out) HB2.out.size (by have := HLN.out; omega) ?_)
     intro v3 w3 ho3 hgr3
     have HO3 := hid ho3
     have HB3 := hid (HB2.out.trans (HO2.out.grown hgr3 (Nat.le_refl _) HB2.out.size))
     have x1 := cell_at_below C1.out HB3.out
     clear ho3 hgr3
     have hv0 : (0 : Int) < p.2.length := by have := List.length_pos_iff.2 hpe; omega
     have HPE := hid hpe
     clear hpe
     have A5 := hid (HB3.out.trans ((((Below.refl _ w3).alloc (Nat.le_refl _) (.cells #[.int .u8 61] 5)).drew).mono HB3.out.size))
     have A1 := hid (HO3.out.kept (((Below.refl _ w3).alloc (Nat.le_refl _) (.cells #[.int .u8 61] 5)).drew))
     have A2 := hid (show SB (w3.alloc (.cells #[.int .u8 61] 5)).drew (.slice (some ⟨w3.heap.size, 0, none⟩) 1 1) [61] from SB.lit (l := [61]) (heap_alloc_new w3 _) (fun i hi => by match i, hi with | 0, _ => rfl) 1 (Nat.le_refl _) (by omega))
     have A3 := hid A5.out.size
     have A4 := hid (show (pre ++ p.1).length + ([61] : Bytes).length ≤ 140737488355328 by have h1 := HLN.out; rw [List.length_append, List.length_singleton]; omega)
     have A6 := hid (show (pre ++ p.1 ++ [61]).length + p.2.length ≤ 140737488355328 by have h1 := HLN.out; rw [List.length_append, List.length_append, List.length_singleton]; omega)
     go_wp2_with fail
     go_region_held3 (fun w' => w'.cell? ⟨(a.add (k * 2)).block, (a.add (k * 2)).off + 1, none⟩ = some (.slice Av p.2.length cv)) (first | go_keep | exact cell_at_below C1.out HB5.out | exact cell_at_below C1.out HB4.out)
      (first
       | (refine step_bytes w.heap.size (by rfl) (.tmp 33) (.tmp 34) (by rfl) v3 (.slice (some ⟨w3.heap.size, 0, none⟩) 1 1) (pre ++ p.1) [61] (by rfl) (by rfl) A1.out A2.out A3.out A4.out ?_; intro v4 w4 ho4 hgr4; have HB4 := hid (A5.out.trans (OB.grown A1.out hgr4 (Nat.le_refl _) A3.out)); have HO4 := hid ho4; clear ho4 hgr4)
       | (refine step_bytes w.heap.size (by rfl) (.tmp 35) (.tmp 40) (by rfl) v4 (.slice Av p.2.length cv) (pre ++ p.1 ++ [61]) p.2 (by rfl) (by rfl) HO4.out (C.out.2.2.2.below HB4.out) HB4.out.size A6.out ?_; intro v5 w5 ho5 hgr5; have HB5 := hid (HB4.out.trans (HO4.out.grown hgr5 (Nat.le_refl _) HB4.out.size)); have HO5 := hid ho5; clear ho5 hgr5))
     go_wp2
     go_roundw
     case rel => exact ⟨k + 1, HLT.out, by simp, by rw [HST.out, kvB, if_neg HPE.out]; simpa using HO5.out, HB5.out⟩
     case measure => exact meas_step HLT.out (by simp)
  ·have hke : k = l.length := by omega
   subst hke
   go_wp2
   go_ret
   have := HO.out
   rw [List.take_length] at this
   exact ⟨_, rfl, this, HB.out⟩
