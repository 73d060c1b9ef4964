import Derived.Test.YtpjhmfoegmaodaaGreatDoorM31
import Derived.Test.YtpjhmfoegmaodaaGreatDoorM29
set_option maxRecDepth 100000
set_option maxHeartbeats 16000000
set_option linter.all false
namespace Go.Proofs.YtpjhmfoegmaodaaGreatDoor
open Go.Lib (hid)
open Go.RowKit
theorem app_own {W : World} (base : Nat) (ty : TypeId) (v xv : Value) (l m : Bytes) (HO : OB base W v l) (HS : SB W xv m) (hbase : base ≤ W.heap.size) (hl : l.length + m.length ≤ 140737488355328) :
  ∃ v1 w1, (Builtin.append_ #[22, 22] ty #[v, xv]).run Tryz.prog W = .ok v1 w1 ∧ OB base w1 v1 (l ++ m) ∧ W.grownBy w1 v.ownBlock ∧ ∀ k, v1.ownBlock = some k → v.ownBlock = some k ∨ W.heap.size ≤ k := by
 obtain ⟨i0, hi, hzz⟩ := Option.map_eq_some_iff.1 u8_info
 simp only [Prod.mk.injEq] at hzz
 obtain ⟨hz0, hz1, hz2⟩ := hzz
 obtain ⟨A, c, rfl, h2, h3, h4, h5⟩ := HS
 cases A with
 | none =>
  obtain ⟨rfl, rfl⟩ := h4 rfl
  exact ⟨v, W, run_append_owned_none (P := Tryz.prog) (w := W) base 22 ty 5 i0 1 Tryz.underlying22 hi v l.length _ HO, by simpa [OB] using HO, World.grownBy.refl W _, fun k hk => .inl hk⟩
 | some ad =>
  have hnews : ∀ j u, (Lib.byteCells m)[j]? = some u → W.cell? (ad.add j) = some u := by
   intro j u hj
   have hjl : j < m.length := by
    have := (List.getElem?_eq_some_iff.1 hj).1
    simpa [Lib.byteCells] using this
   obtain ⟨a1, e1, hc⟩ := h5 j hjl
   obtain rfl : ad = a1 := Option.some.inj e1
   rw [hc]
   simpa [Lib.byteCells, hjl] using hj
  have hone : ∀ u ∈ Lib.byteCells m, u.oneCell' = true := by
   intro u hu
   simp only [Lib.byteCells, List.mem_map] at hu
   obtain ⟨b, _, rfl⟩ := hu
   rfl
  have hml : (Lib.byteCells m).length = m.length * 1 := by simp [Lib.byteCells]
  have h63 : l.length + m.length ≤ maxLen := by simp only [maxLen]; omega
  obtain ⟨v1, w1, hr, k2, k3, -⟩ := run_append_own (P := Tryz.prog) W base 22 ty 5 i0 (.int .u8 0) 1 1 Tryz.underlying22 hi hz0 hz1 hz2 rfl (by decide) v l.length _ HO ad m.length c (Lib.byteCells m) hml hnews hone h63 (by omega) hbase
  refine ⟨v1, w1, hr, by simpa [OB, Lib.byteCells] using k2, k3, fun k hk => ?_⟩
  rcases HO.2 with ⟨rfl, hn⟩ | ⟨g, cap, cur, rfl, hbg, hg, hnc, hcm, hcs, htake⟩
  ·obtain rfl := List.length_eq_zero_iff.1 hn
   obtain ⟨v2, w2, hr2, q2, -⟩ := run_append_own (P := Tryz.prog) W W.heap.size 22 ty 5 i0 (.int .u8 0) 1 1 Tryz.underlying22 hi hz0 hz1 hz2 rfl (by decide) (.slice none 0 0) 0 [] (World.ownsRow_nil _ _ _ _) ad m.length c (Lib.byteCells m) hml hnews hone (by simpa using h63) (by simpa using hl) (Nat.le_refl _)
   have e := hr.symm.trans hr2
   injection e with e1 e2
   subst e1 e2
   exact .inr (World.ownsRow.lt q2 k hk).1
  ·by_cases hroom : l.length + m.length ≤ cap
   ·have hr2 := run_append_room (P := Tryz.prog) W 22 ty 5 i0 Tryz.underlying22 hi g l.length cap cur hg ad m.length c (Lib.byteCells m) (by rw [hz1]; exact hml) hnews hone hroom (by rw [hz1, hml, hcs]; omega)
    have e := hr.symm.trans hr2
    injection e with e1 e2
    subst e1
    exact .inl hk
   ·have holds : ∀ j u, (Lib.byteCells l)[j]? = some u → W.cell? ((⟨g, 0, none⟩ : Addr).add j) = some u := World.ownsRow.cells HO (g := g) rfl
    have hr2 := run_append_grow (P := Tryz.prog) W 22 ty 5 i0 (.int .u8 0) Tryz.underlying22 hi hz0 ⟨g, 0, none⟩ l.length cap (Lib.byteCells l) (by simp [Lib.byteCells, hz1]) holds ad m.length c (Lib.byteCells m) (by rw [hz1]; exact hml) hnews (by omega) (by omega) (growslice_fits (by omega) (by rw [hz2]; omega))
    have e := hr.symm.trans hr2
    injection e with e1 e2
    subst e1
    simp only [Value.ownBlock, Option.some.injEq] at hk
    exact .inr (by omega)
theorem app_ownS {W : World} (base : Nat) (ty : TypeId) (v : Value) (l : Bytes) (s : ByteArray) (HO : OB base W v l) (hbase : base ≤ W.heap.size) (hl : l.length + s.size ≤ 140737488355328) :
  ∃ v1 w1, (Builtin.append_ #[22, 9] ty #[v, .string s]).run Tryz.prog W = .ok v1 w1 ∧ OB base w1 v1 (l ++ s.data.toList) ∧ W.grownBy w1 v.ownBlock ∧ ∀ k, v1.ownBlock = some k → v.ownBlock = some k ∨ W.heap.size ≤ k := by
 obtain ⟨i0, hi, hzz⟩ := Option.map_eq_some_iff.1 u8_info
 simp only [Prod.mk.injEq] at hzz
 obtain ⟨hz0, hz1, hz2⟩ := hzz
 have h63 : l.length + s.size ≤ maxLen := by simp only [maxLen]; omega
 obtain ⟨v1, w1, hr, k2, k3, -⟩ := Lib.run_append_own_string (P := Tryz.prog) W base 22 9 ty 5 i0 Tryz.underlying22 Tryz.underlying9 hi hz0 hz1 hz2 v l.length (Lib.byteCells l) HO s h63 hl hbase
 have e1 : (l ++ s.data.toList).length = l.length + s.size := by rw [List.length_append]; rfl
 have e2 : Lib.byteCells (l ++ s.data.toList) = Lib.byteCells l ++ Lib.strCells s := by simp [Lib.byteCells, Lib.strCells]
 refine ⟨v1, w1, hr, by unfold OB; rw [e1, e2]; exact k2, k3, fun k hk => ?_⟩
 rcases HO.2 with ⟨rfl, hn⟩ | ⟨g, cap, cur, rfl, hbg, hg, hnc, hcm, hcs, htake⟩
 ·obtain rfl := List.length_eq_zero_iff.1 hn
  obtain ⟨v2, w2, hr2, q2, -⟩ := Lib.run_append_own_string (P := Tryz.prog) W W.heap.size 22 9 ty 5 i0 Tryz.underlying22 Tryz.underlying9 hi hz0 hz1 hz2 (.slice none 0 0) 0 [] (World.ownsRow_nil _ _ _ _) s (by simpa using h63) (by simpa using hl) (Nat.le_refl _)
  have e := hr.symm.trans hr2
  injection e with e1 e2
  subst e1 e2
  exact .inr (World.ownsRow.lt q2 k hk).1
 ·by_cases hroom : l.length + s.size ≤ cap
  ·have hr2 := Lib.run_append_room_string (P := Tryz.prog) W 22 9 ty 5 i0 Tryz.underlying22 Tryz.underlying9 hi hz1 g l.length cap cur hg s hroom (by omega)
   have e := hr.symm.trans hr2
   injection e with e1 e2
   subst e1
   exact .inl hk
  ·have holds : ∀ j u, (Lib.byteCells l)[j]? = some u → W.cell? ((⟨g, 0, none⟩ : Addr).add j) = some u := World.ownsRow.cells HO (g := g) rfl
   have hr2 := Lib.run_append_grow_string (P := Tryz.prog) W 22 9 ty 5 i0 (.int .u8 0) Tryz.underlying22 Tryz.underlying9 hi hz0 ⟨g, 0, none⟩ l.length cap (Lib.byteCells l) (by simp [Lib.byteCells, hz1]) holds s (by omega) (by omega) (growslice_fits (by omega) (by rw [hz2]; omega))
   have e := hr.symm.trans hr2
   injection e with e1 e2
   subst e1
   simp only [Value.ownBlock, Option.some.injEq] at hk
   exact .inr (by omega)
def OBx (base lo hi : Nat) (w : World) (v : Value) (l : Bytes) : Prop := OB base w v l ∧ ∀ k, v.ownBlock = some k → k < lo ∨ hi ≤ k
def Two (n lo hi : Nat) (w w' : World) : Prop := Below n w w' ∧ ∀ k, lo ≤ k → k < hi → w'.heap[k]? = w.heap[k]?
theorem Two.refl (n lo hi : Nat) (w : World) : Two n lo hi w w := ⟨Below.refl _ _, fun _ _ _ => rfl⟩
theorem Two.trans {n lo hi : Nat} {a b c : World} (h : Two n lo hi a b) (k : Two n lo hi b c) : Two n lo hi a c := ⟨h.1.trans k.1, fun j h1 h2 => (k.2 j h1 h2).trans (h.2 j h1 h2)⟩
theorem Two.of_below {n lo hi : Nat} {w w' : World} (h : Below w.heap.size w w') (hn : n ≤ w.heap.size) (hh : hi ≤ w.heap.size) : Two n lo hi w w' := ⟨h.mono hn, fun k _ h2 => h.block k (by omega)⟩
theorem Two.of_grown {base n lo hi : Nat} {w w' : World} {v : Value} {l : Bytes} (h : OBx base lo hi w v l) (hg : w.grownBy w' v.ownBlock) (hb : n ≤ base) (hn : n ≤ w.heap.size) (hh : hi ≤ w.heap.size) : Two n lo hi w w' := by
 refine ⟨h.1.grown hg hb hn, fun k h1 h2 => hg.block k (by omega) fun e => ?_⟩
 have := h.2 k e.symm
 omega
section
variable {ops : Array Oper} {rest : List Oper} {o : Oper} {a : Act} {Q : Exit → Act → World → Prop}
theorem appx_bytes {W : World} (base lo hi : Nat) (hgd : o.guard = none) (s x : Operand)
  (ho : o.op = .call { callee := .builtin .append, args := #[s, x], argTypes := #[22, 22] })
  (v xv : Value) (l m : Bytes) (hs : a.eval s = v) (hx : a.eval x = xv) (HO : OBx base lo hi W v l) (HS : SB W xv m) (hbase : base ≤ W.heap.size) (hhi : hi ≤ W.heap.size) (hl : l.length + m.length ≤ 140737488355328)
  (h : ∀ v1 w1, OBx base lo hi w1 v1 (l ++ m) → Two base lo hi W w1 → wpList Tryz.prog ops Q rest (a.put o.dst v1) w1) :
  wpList Tryz.prog ops Q (o :: rest) a W := by
 refine wpList_plain hgd fun K hK => ?_
 obtain ⟨v1, w1, hr, h2, h3, h4⟩ := app_own base o.type v xv l m HO.1 HS hbase hl
 unfold Oper.wp
 simp [execOp, ho, resolve, invoke, builtin, hs, hx, hr, Result.andThen]
 refine hK _ _ (h v1 w1 ⟨h2, fun k hk => ?_⟩ (Two.of_grown HO h3 (Nat.le_refl _) hbase hhi))
 rcases h4 k hk with h5 | h5
 ·exact HO.2 k h5
 ·exact .inr (by omega)
theorem appx_str {W : World} (base lo hi : Nat) (hgd : o.guard = none) (s x : Operand)
  (ho : o.op = .call { callee := .builtin .append, args := #[s, x], argTypes := #[22, 9] })
  (v : Value) (l : Bytes) (str : ByteArray) (hs : a.eval s = v) (hx : a.eval x = .string str) (HO : OBx base lo hi W v l) (hbase : base ≤ W.heap.size) (hhi : hi ≤ W.heap.size) (hl : l.length + str.size ≤ 140737488355328)
  (h : ∀ v1 w1, OBx base lo hi w1 v1 (l ++ str.data.toList) → Two base lo hi W w1 → wpList Tryz.prog ops Q rest (a.put o.dst v1) w1) :
  wpList Tryz.prog ops Q (o :: rest) a W := by
 refine wpList_plain hgd fun K hK => ?_
 obtain ⟨v1, w1, hr, h2, h3, h4⟩ := app_ownS base o.type v l str HO.1 hbase hl
 unfold Oper.wp
 simp [execOp, ho, resolve, invoke, builtin, hs, hx, hr, Result.andThen]
 refine hK _ _ (h v1 w1 ⟨h2, fun k hk => ?_⟩ (Two.of_grown HO h3 (Nat.le_refl _) hbase hhi))
 rcases h4 k hk with h5 | h5
 ·exact HO.2 k h5
 ·exact .inr (by omega)
end
def eraseW (w : World) (n : Nat) : World := { w with heap := w.heap.mapIdx fun i o => if i < n then o else .cells #[] 0 }
theorem erase_size (w : World) (n : Nat) : (eraseW w n).heap.size = w.heap.size := by simp [eraseW]
theorem erase_old (w : World) (n k : Nat) (h : k < n) : (eraseW w n).heap[k]? = w.heap[k]? := by
 simp only [eraseW, Array.getElem?_mapIdx]
 cases hk : w.heap[k]? with
 | none => rfl
 | some o => simp [h]
theorem erase_below {n : Nat} {w w' : World} (h : Below n w w') : Below n w (eraseW w' n) :=
 ⟨h.os, h.tape, h.output, by rw [erase_size]; exact h.size, fun k hk => (erase_old w' n k hk).trans (h.block k hk)⟩
theorem erase_sub {n : Nat} {w w' : World} (h : Below n w w') (hs : w.heap.size ≤ w'.heap.size) : Sub (eraseW w n) w' := by
 refine ⟨by rw [erase_size]; exact hs, fun a v hc => ?_⟩
 by_cases hb : a.block < n
 ·rw [← hc]
  exact World.cell?_of_block (w := eraseW w n) ((h.block _ hb).trans (erase_old w n _ hb).symm)
 ·exfalso
  unfold World.cell? at hc
  simp only [eraseW, Array.getElem?_mapIdx] at hc
  cases hk : w.heap[a.block]? with
  | none => simp [hk] at hc
  | some o => simp [hk, hb] at hc
theorem SBf.far {b : Nat} {w w' : World} {v : Value} {l : Bytes} (h : SBf b w v l) (hf : ∀ k, b ≤ k → k < w.heap.size → w'.heap[k]? = w.heap[k]?) : SB w' v l := by
 obtain ⟨k, cap, cs, fz, rfl, hb, h2, h3, h4, h5⟩ := h
 exact SB.lit ((hf k hb (heap_lt h4)).trans h4) h5 cap h2 h3
theorem LHx.far {w0 w w' : World} {h : LHead} {l : List Value} (H : LHx w0 w h l) (hs : Sub w0 w') (hf : ∀ k, w0.heap.size ≤ k → k < w.heap.size → w'.heap[k]? = w.heap[k]?) : LH w' h l := by
 obtain ⟨a, b, c, ul, p, d, e, f, g, h0, h1, h2, h3, h4, h5, h6, h7, h8, h9, h10⟩ := H
 refine ⟨a, b, c, ul, p, d, e, f, g, h0, ?_, ?_, h3.sub hs, h4.sub hs, h5.sub hs, h6.sub hs, h7.sub hs, h8.sub hs, h9.sub hs, h10⟩
 ·rcases h1 with h1 | h1
  ·exact h1.sub hs
  ·exact h1.far hf
 ·rcases h2 with h2 | h2
  ·exact h2.sub hs
  ·exact h2.far hf
theorem lit_conv (w : World) (l : Bytes) (hl : l.length ≤ 1000) : ∃ w', Sem.run Tryz.prog (convert 22 22 (.slice (some ⟨w.heap.size, 0, none⟩) l.length l.length)) (w.alloc (.cells (Lib.byteCells l).toArray 5)) = .ok (.slice (some ⟨w.heap.size, 0, none⟩) l.length l.length) w' ∧
  Below w.heap.size w w' ∧ SB w' (.slice (some ⟨w.heap.size, 0, none⟩) l.length l.length) l := by
 have hn := heap_alloc_new w (.cells (Lib.byteCells l).toArray 5)
 obtain ⟨w', hr, hk⟩ := conv_lit hn w.heap.size l.length l.length (Nat.le_refl _)
 exact ⟨w', hr, ((Below.refl _ w).alloc (Nat.le_refl _) _).trans hk.1, SB.litB (hk.blk ⟨_, hn⟩) hl⟩
theorem lit_crlf (w : World) : ∃ w', Sem.run Tryz.prog (convert 22 22 (.slice (some ⟨w.heap.size, 0, none⟩) 2 2)) (w.alloc (.cells #[.int .u8 13, .int .u8 10] 5)) = .ok (.slice (some ⟨w.heap.size, 0, none⟩) 2 2) w' ∧
  Below w.heap.size w w' ∧ SB w' (.slice (some ⟨w.heap.size, 0, none⟩) 2 2) [13, 10] := lit_conv w [13, 10] (by decide)
theorem join2 (w : World) (v u : Value) (l m : Bytes) (h1 : SB w v l) (h2 : SB w u m) (hl : l.length + m.length ≤ 140737488355328) :
  Calls Tryz.prog 12 #[.slice (some ⟨w.heap.size, 0, none⟩) 2 2] (w.alloc (.cells #[v, u] 22)) fun e w' => ∃ r, e = .returned r ∧ OB w.heap.size w' r (l ++ m) ∧ Below w.heap.size w w' := by
 have hb := (Below.refl w.heap.size w).alloc (Nat.le_refl _) (.cells #[v, u] 22)
 refine (joined_any _ [l, m] _ (SBs.two (heap_alloc_new w _) (h1.below hb) (h2.below hb)) (by simpa using hl)).mono ?_
 rintro e w' ⟨r, rfl, ho, hb2⟩
 exact ⟨r, rfl, by simpa using ho.less hb.size, hb.trans (hb2.mono hb.size)⟩
theorem join3 (w : World) (v u x : Value) (l m n L : Bytes) (hL : L = l ++ m ++ n) (h1 : SB w v l) (h2 : SB w u m) (h3 : SB w x n) (hl : l.length + m.length + n.length ≤ 140737488355328) :
  Calls Tryz.prog 12 #[.slice (some ⟨w.heap.size, 0, none⟩) 3 3] (w.alloc (.cells #[v, u, x] 22)) fun e w' => ∃ r, e = .returned r ∧ OB w.heap.size w' r L ∧ Below w.heap.size w w' := by
 subst hL
 have hb := (Below.refl w.heap.size w).alloc (Nat.le_refl _) (.cells #[v, u, x] 22)
 refine (joined_any _ [l, m, n] _ (SBs.three (heap_alloc_new w _) (h1.below hb) (h2.below hb) (h3.below hb)) (by simp; omega)).mono ?_
 rintro e w' ⟨r, rfl, ho, hb2⟩
 exact ⟨r, rfl, by simpa using ho.less hb.size, hb.trans (hb2.mono hb.size)⟩
def startL (m : LMsg) : Bytes := if m.resp then (sip20B ++ [32]) ++ Lib.itoa m.code ++ [32] ++ m.reason else m.method ++ [32] ++ luriT m.uri ++ ([32] ++ sip20B)
theorem starttext_any (m : LMsg) (cs : List Value) (w : World) (hM : LM w m cs) (R : RMsg m) (hul : luriN m.uri ≤ 70368744177664) : Calls Tryz.prog 13 #[.agg cs.toArray] w (JPost (startL m) w) := by
 unfold startL
 by_cases hr : m.resp = true
 ·rw [if_pos hr]
  have h1 := R.res hr
  exact starttext_res m cs w hM hr (by omega) (lineS_len h1.2.2)
 ·rw [if_neg hr]
  have hr' : m.resp = false := by simpa using hr
  have h1 := R.req hr'
  have h2 : m.method.length ≤ 8192 := by
   have := h1.1
   simp only [loudS, Bool.and_eq_true] at this
   exact (wordS_ok this.2).2
  exact starttext_req m cs w hM hr' h1.2.port.1 h2 hul
theorem list15 {l : List Value} (h : l.length = 15) : ∃ x0 x1 x2 x3 x4 x5 x6 x7 x8 x9 x10 x11 x12 x13 x14, l = [x0, x1, x2, x3, x4, x5, x6, x7, x8, x9, x10, x11, x12, x13, x14] := by
 match l, h with
 | [x0, x1, x2, x3, x4, x5, x6, x7, x8, x9, x10, x11, x12, x13, x14], _ => exact ⟨x0, x1, x2, x3, x4, x5, x6, x7, x8, x9, x10, x11, x12, x13, x14, rfl⟩
theorem list3 {l : List Value} (h : l.length = 3) : ∃ x0 x1 x2, l = [x0, x1, x2] := by
 match l, h with
 | [x0, x1, x2], _ => exact ⟨x0, x1, x2, rfl⟩
theorem heads_field (p0 p1 p2 p3 p4 p5 p6 p7 p8 p9 p10 p11 p12 p13 p14 v s0 s1 s2 : Value) (w : World) : Sem.run Tryz.prog (Instr.field 28 (.agg #[p0, p1, p2, p3, p4, p5, p6, p7, p8, p9, p10, p11, p12, p13, p14, v, s0, s1, s2]) 6) w = .ok v w := by kernel_rfl
def crlfB : ByteArray := ⟨#[13, 10]⟩
def wantL (m : LMsg) (k : Nat) : Bytes := (startL m ++ [13, 10]) ++ ((readHs m).take k).flatMap fun h => (hdrS h).line ++ [13, 10]
theorem wantL_step (m : LMsg) (k : Nat) (h : LHead) (hk : (readHs m)[k]? = some h) : wantL m (k + 1) = wantL m k ++ (hdrS h).line ++ crlfB.data.toList := by
 unfold wantL
 rw [List.take_add_one, hk, List.flatMap_append]
 simp [crlfB]
theorem wantL_all (m : LMsg) (k : Nat) (hk : ¬ k < (readHs m).length) : wantL m k = (startL m ++ [13, 10]) ++ (readHs m).flatMap fun h => (hdrS h).line ++ [13, 10] := by
 unfold wantL
 rw [List.take_of_length_le (by omega)]
theorem wantL_len (m : LMsg) (R : RMsg m) (hc : I64 m.code) (hx : ∀ h ∈ m.heads, HTx h) (k : Nat) : (wantL m k).length ≤ 410000000 := by
 have h1 := start_len m [] R hc
 rw [starts_eq m [] R] at h1
 have h2 := readHs_len m R hx
 have h3 : (((readHs m).take k).flatMap fun h => (hdrS h).line ++ [13, 10]).length ≤ ((readHs m).flatMap fun h => (hdrS h).line ++ [13, 10]).length := by
  have e : (readHs m) = (readHs m).take k ++ (readHs m).drop k := (List.take_append_drop _ _).symm
  generalize (readHs m).take k = A at e ⊢
  generalize (readHs m).drop k = B at e
  rw [e, List.flatMap_append, List.length_append]
  omega
 unfold wantL startL
 simp only [List.length_append, List.length_cons, List.length_nil] at h1 h3 ⊢
 omega
structure MIn (N : Nat) (m : LMsg) : Prop where
 code : I64 m.code
 bd : MBd m
 uri : UBd m.uri
 heads : ∀ h ∈ m.heads, HBd2 h
 nums : ∀ h ∈ m.heads, 0 ≤ h.num ∧ h.num < 4294967296
 len : m.reason.length ≤ 70368744177664 ∧ m.method.length ≤ 70368744177664
theorem MIn.of {w : World} {m : LMsg} {cs : List Value} {n : Nat} (N : Nat) (hM : LM w m cs) (hB : MBk m n) (hn : n ≤ 1048576) : MIn N m := by
 obtain ⟨a, ul, b, c, hs, d, -, -, -, -, -, hh, -, hc⟩ := hM
 obtain ⟨⟨q1, q2, q3, q4, q5⟩, q6, q7, q8, q9, -, -⟩ := hB
 refine ⟨hc, ⟨by omega, fun h hk => ?_⟩, ⟨by omega, by omega, by omega, by omega⟩, fun h hk => ?_, fun h hk => ?_, by omega, by omega⟩
 ·obtain ⟨⟨r1, -⟩, -, r7⟩ := q7 h hk
  exact ⟨by omega, by omega⟩
 ·obtain ⟨⟨r1, r2, r3, r4, r5⟩, r6, -⟩ := q7 h hk
  exact ⟨⟨by omega, by omega, by omega, by omega⟩, by omega⟩
 ·obtain ⟨i, hi, rfl⟩ := List.getElem_of_mem hk
  obtain ⟨A, c', -, -, -, -, h5⟩ := hh
  obtain ⟨a', cs', -, hl, -⟩ := h5 i hi
  obtain ⟨_, _, _, _, _, _, _, _, _, _, _, _, _, _, _, _, _, _, _, _, hnum, _⟩ := hl
  exact hnum
theorem MIn.htx {N : Nat} {m : LMsg} (H : MIn N m) (R : RMsg m) : ∀ h ∈ m.heads, HTx h := fun h hh => htx_of (R.heads h hh).1 (H.nums h hh) (H.heads h hh)
theorem readHs_htx {N : Nat} {m : LMsg} (H : MIn N m) (R : RMsg m) : ∀ h ∈ readHs m, HTx h := by
 intro h hh
 unfold readHs at hh
 rw [List.map_append, List.mem_append] at hh
 rcases hh with hh | hh
 ·rw [List.map_map] at hh
  obtain ⟨x, hx, rfl⟩ := List.mem_map.1 hh
  exact htx_read (R.heads x hx).1 (H.nums x hx) (H.heads x hx)
 ·simp only [List.map_cons, List.map_nil, List.mem_singleton] at hh
  subst hh
  exact htx_len m.body.length ⟨by omega, by have := R.body; omega⟩
theorem readHs_count (m : LMsg) : (readHs m).length = m.heads.length + 1 := by simp [readHs]
theorem msgtext_any (N : Nat) (m : LMsg) (cs : List Value) (w : World) (hG : Gl N w) (hM : LM w m cs) (HIN : MIn N m) :
  Calls Tryz.prog 4 #[.agg cs.toArray] w fun e w' => e = .returned (.bool true) ∧ Below w.heap.size w w' := by
 obtain ⟨x0, x1, x2, x3, x4, x5, x6, x7, x8, x9, x10, x11, x12, x13, x14, x15, x16, x17, x18, rfl⟩ := list19 hM.len
 have HBO := hid (show SB w x16 m.body by
  obtain ⟨a, ul, b, c, hs, d, e, -, hu, -, -, -, hb, -⟩ := hM
  obtain ⟨u0, u1, u4, u5, u6, u8, u9, rfl, -⟩ := hu
  simp only [List.cons_append, List.nil_append, List.cons.injEq] at e
  obtain ⟨-, -, -, -, -, -, -, -, -, -, -, -, -, -, -, -, rfl, -⟩ := e
  exact hb)
 obtain ⟨A16, c16, rfl, -⟩ := HBO.out.form
 obtain ⟨wb, hwb⟩ : ∃ wb, wb = w.alloc (.cells #[x0, x1, x2, x3, x4, x5, x6, x7, x8, x9, x10, x11, x12, x13, x14, x15, .slice A16 m.body.length c16, x17, x18] 28) := ⟨_, rfl⟩
 have HB0 := hid (show Below w.heap.size w wb by rw [hwb]; exact (Below.refl _ w).alloc (Nat.le_refl _) _)
 have HSZ := hid (show wb.heap.size = w.heap.size + 1 by rw [hwb]; simp)
 have HX := hid (show ∀ wx, Below wb.heap.size wb wx → wx.heap[w.heap.size]? = some (.cells ([x0, x1, x2, x3, x4, x5, x6, x7, x8, x9, x10, x11, x12, x13, x14, x15, .slice A16 m.body.length c16, x17, x18] : List Value).toArray 28 (0, 0)) by
  intro wx h
  rw [h.block _ (by have := HSZ.out; omega), hwb]
  exact heap_alloc_new w _)
 have HLM := hid (show ∀ wx, Below wb.heap.size wb wx → LM wx m [x0, x1, x2, x3, x4, x5, x6, x7, x8, x9, x10, x11, x12, x13, x14, x15, .slice A16 m.body.length c16, x17, x18] from fun wx h => hM.below (HB0.out.trans (h.mono (by have := HSZ.out; omega))))
 have HBW := hid (show ∀ wx, Below wb.heap.size wb wx → Below w.heap.size w wx from fun wx h => HB0.out.trans (h.mono (by have := HSZ.out; omega)))
 have HGL := hid (show ∀ wx, Below wb.heap.size wb wx → Gl N wx from fun wx h => hG.below (HBW.out wx h) hG.le)
 have HI := hid HIN
 have HF := hid (fits1_any m _ wb (HLM.out wb (Below.refl _ _)))
 have HB00 := hid (Below.refl wb.heap.size wb)
 clear hG hM HIN
 go_enter Tryz.func4, Tryz.ntmps4
 go_upto_region 1 with fail
 rw [← hwb]
 generalize Value.agg #[x0, x1, x2, x3, x4, x5, x6, x7, x8, x9, x10, x11, x12, x13, x14, x15, .slice A16 m.body.length c16, x17, x18] = arg0
 clear hwb
 go_upto_if 12 with (first
  | (refine wpList_load_blk (by rfl) 28 (.tmp 1) (by rfl) w.heap.size 28 (0, 0) _ (by rfl) (HX.out _ HB00.out) _ Tryz.underlying28 rfl 19 msg_size rfl ?_)
  | (go_at_call 5; refine HF.out.mono ?_; rintro e w1 ⟨⟨b, rfl⟩, hb1⟩)
  | fail)
 have HB1 := hid hb1
 clear hb1
 cases b with
 | false =>
  go_wp2_with fail
  go_ret
  exact ⟨rfl, HBW.out _ HB1.out⟩
 | true =>
 have HIM := hid (ismsg_any m _ w1 (HLM.out w1 HB1.out) HI.out.bd)
 go_upto_if 15 with (first
  | (refine wpList_load_blk (by rfl) 28 (.tmp 1) (by rfl) w.heap.size 28 (0, 0) _ (by rfl) (HX.out _ HB1.out) _ Tryz.underlying28 rfl 19 msg_size rfl ?_)
  | (go_at_call 6; refine HIM.out.mono ?_; rintro e w2 ⟨⟨b2, rfl, hb2⟩, hbb⟩)
  | fail)
 have HR := hid hb2
 have HB2 := hid (HB1.out.trans (hbb.mono HB1.out.size))
 clear hb2 hbb
 cases b2 with
 | false =>
  have HK := hid (known_any N w2 (HGL.out _ HB2.out))
  go_wp2_with (go_at_call 7; refine HK.out.mono ?_; rintro e w3 ⟨rfl, hb⟩)
  go_ret
  exact ⟨rfl, HBW.out _ (HB2.out.trans (hb.mono HB2.out.size))⟩
 | true =>
 have R := hid (HR.out rfl)
 have HHX := hid (HI.out.htx R.out)
 have HT := hid (text_any N m _ w2 (HGL.out _ HB2.out) (HLM.out _ HB2.out) (msok_of m R.out HI.out.code HHX.out) ⟨R.out.hasBody, R.out.compact, R.out.version⟩ HI.out.len (by have := R.out.body; omega) R.out.many
  (fun h hh => hms_of (R.out.heads h hh).1 (HI.out.nums h hh) (HI.out.heads h hh) (R.out.heads h hh).2) (fun hr => ⟨HI.out.uri, (R.out.req hr).2.raw⟩))
 go_upto_region 6 with (first
  | (refine wpList_load_blk (by rfl) 28 (.tmp 1) (by rfl) w.heap.size 28 (0, 0) _ (by rfl) (HX.out _ HB2.out) _ Tryz.underlying28 rfl 19 msg_size rfl ?_)
  | (go_at_call 8; refine HT.out.mono ?_; rintro e w3 ⟨hs, v1, v2, hmap, rfl, hv1, hv2, hb3⟩)
  | fail)
 have HV1 := hid hv1
 have HV2 := hid hv2
 have HMP := hid hmap
 have HB3 := hid (HB2.out.trans (hb3.mono HB2.out.size))
 clear hb3 hmap
 obtain ⟨k1, c1, cs1, fz1, rfl, -⟩ := hv1
 obtain ⟨k2, c2, cs2, fz2, rfl, -⟩ := hv2
 have HST := hid (starttext_any m _ w3 (HLM.out _ HB3.out) R.out HI.out.bd.1)
 have HWL := hid (wantL_len m R.out HI.out.code HHX.out)
 have HSL := hid (show (startL m).length + ([13, 10] : Bytes).length ≤ 140737488355328 by
  have h := HWL.out 0
  unfold wantL at h
  simp only [List.length_append, List.length_cons, List.length_nil] at h ⊢
  omega)
 go_upto_region 7 with (first
  | (refine wpList_load_blk (by rfl) 28 (.tmp 1) (by rfl) w.heap.size 28 (0, 0) _ (by rfl) (HX.out _ HB3.out) _ Tryz.underlying28 rfl 19 msg_size rfl ?_)
  | (go_at_call 13; refine HST.out.mono ?_; rintro e w4 ⟨v4, rfl, ho4, hb4⟩; have HO4 := hid ho4; have HB4 := hid hb4; obtain ⟨A4, n4, rfl⟩ := ho4.slice; obtain ⟨w6, hr6, hb6, hs6⟩ := lit_crlf w4; have HB6 := hid hb6; have HJ := hid (join2 w6 _ _ (startL m) [13, 10] (ho4.sb.below hb6) hs6 HSL.out); clear ho4 hb4 hb6 hs6)
  | (go_at_call 12; refine HJ.out.mono ?_; rintro e w7 ⟨v7, rfl, ho7, hb7⟩)
  | fail)
 have HB36 := hid (HB4.out.trans (HB6.out.mono HB4.out.size))
 have HT37 := hid (HB36.out.trans (hb7.mono HB36.out.size))
 have HB7 := hid (HB3.out.trans (HT37.out.mono HB3.out.size))
 have HO7 := hid (ho7.less HB36.out.size)
 clear hb7 ho7 hr6 HJ HST HB36
 have HE0 := hid (erase_sub (Below.refl w3.heap.size w7) (Nat.le_refl _))
 have HRD := hid (read_any (eraseW w7 w3.heap.size) m _ w7 ((HLM.out _ HB3.out).below (erase_below HT37.out)) HE0.out (fun h hh => (R.out.heads h hh).1.sort) R.out.many R.out.body)
 go_upto_region 8 with (first
  | (refine wpList_load_blk (by rfl) 28 (.tmp 1) (by rfl) w.heap.size 28 (0, 0) _ (by rfl) (HX.out _ HB7.out) _ Tryz.underlying28 rfl 19 msg_size rfl ?_)
  | (go_at_call 11; refine HRD.out.mono ?_; rintro e w9 ⟨pre, v9, post, rfl, hpre, hpost, hoh, hb9⟩; obtain ⟨p0, p1, p2, p3, p4, p5, p6, p7, p8, p9, p10, p11, p12, p13, p14, rfl⟩ := list15 hpre; obtain ⟨s0, s1, s2, rfl⟩ := list3 hpost; simp only [List.cons_append, List.nil_append]; have HOH := hid hoh; have HB9 := hid hb9; obtain ⟨A9, c9, rfl⟩ := hoh.form; have hfd := heads_field p0 p1 p2 p3 p4 p5 p6 p7 p8 p9 p10 p11 p12 p13 p14 (.slice A9 (readHs m).length c9) s0 s1 s2; clear hoh hb9 hpre hpost)
  | fail)
 have HB39 := hid (HT37.out.trans (HB9.out.mono HT37.out.size))
 have HOX := hid (show OBx w3.heap.size w7.heap.size w9.heap.size w9 v7 (wantL m 0) from ⟨by unfold wantL; simpa using HO7.out.kept HB9.out, fun k hk => .inl (World.ownsRow.lt HO7.out k hk).2⟩)
 have HEZ := hid (erase_size w7 w3.heap.size)
 have HCN := hid (readHs_count m)
 have HRX := hid (readHs_htx HI.out R.out)
 have hlen9 : ((readHs m).length : Int) ≤ 65 := by have := HCN.out; have := R.out.many; omega
 clear HRD HO7 HE0
 go_wp2_with fail
 go_loopw [5, 7] (fun o i wr => ∃ k : Nat, k ≤ (readHs m).length ∧ i = .int .i64 k ∧ OBx w3.heap.size w7.heap.size w9.heap.size wr o (wantL m k) ∧ Two w3.heap.size w7.heap.size w9.heap.size w9 wr) (fun _ i _ => (readHs m).length - (intOf i).toNat)
 case atStart => exact ⟨0, Nat.zero_le _, rfl, HOX.out, Two.refl _ _ _ _⟩
 case round =>
  obtain ⟨k, hk, rfl, ho, htw⟩ := hrel
  have HO := hid ho
  have HTW := hid htw
  obtain ⟨Ao, co, rfl⟩ := ho.1.slice
  have HB3R := hid (HB39.out.trans htw.1)
  have HBR := hid (HB3.out.trans (HB3R.out.mono HB3.out.size))
  have HN := hid (And.intro HB3R.out.size htw.1.size)
  clear ho htw
  by_cases hlt : k < (readHs m).length
  ·obtain ⟨b9, c9', cs9, pre9, suf9, post9, hv9, hb9, hg9, hp9, hl9, he9, hx9, -⟩ := HOH.out.at_ k hlt
   subst he9
   injection hv9 with hA9 _ hc9
   subst hA9 hc9
   have HHD := hid (HRX.out _ (List.getElem_mem hlt))
   have HSB := hid (erase_sub (n := w3.heap.size) (w := w7) (w' := wr) ((HB9.out.mono HT37.out.size).trans HTW.out.1) (Nat.le_trans HB9.out.size HTW.out.1.size))
   have HLH := hid (hx9.far HSB.out (fun k h1 h2 => HTW.out.2 k (by rw [HEZ.out] at h1; exact h1) h2))
   have HG9 := hid (show wr.heap[b9]? = some (Obj.cells (pre9 ++ suf9 ++ post9).toArray 41 (0, 0)) from (HTW.out.2 b9 hb9 (heap_lt hg9)).trans hg9)
   have HROW := hid (fun j u (hj : suf9[j]? = some u) => row_sub HG9.out (k * 21) hp9 j u hj)
   have HHT := hid (headtext_any N _ suf9 wr (HGL.out _ HBR.out) HHD.out.bd HLH.out HHD.out.u HHD.out.t HHD.out.ok (by have := HHD.out.ll; omega) HHD.out.vl)
   have HKK := hid (wantL_step m k _ (List.getElem?_eq_getElem hlt))
   have HWK := hid (show (wantL m k).length ≤ 410000000 ∧ (hdrS (readHs m)[k]).line.length ≤ 5000000 from ⟨HWL.out k, HHD.out.ll⟩)
   have HLK := hid hlt
   have k1 : (k : Int) < (readHs m).length := by omega
   have k2 : (0 : Int) ≤ k := by omega
   have k3 : (k : Int) ≤ 65 := by omega
   have HL9 := hid hl9
   have HG10 := hid hg9
   clear HLH hx9
   generalize (readHs m)[k] = hd at HHD HHT HKK HWK
   clear hb9 hg9 hp9 hl9 hlt HSB
   go_upto_region 12 with (first
    | (refine wpList_load_any (by rfl) 41 (.tmp 40) (by rfl) ⟨b9, k * 21, none⟩ (by simp [Act.eval, Act.put]) suf9 _ HROW.out Tryz.underlying41 (by rfl) (by rw [head_size, HL9.out]) ?_)
    | (go_at_call 14; refine HHT.out.mono ?_; rintro e w10 ⟨y1, y2, rfl, hy1, hb10⟩)
    | fail)
   have HY1 := hid hy1.sb
   have HB10 := hid hb10
   have HO10 := hid (show OBx w3.heap.size w7.heap.size w9.heap.size w10 (.slice Ao (wantL m k).length co) (wantL m k) from ⟨HO.out.1.kept hb10, HO.out.2⟩)
   have HTW10 := hid (HTW.out.trans (Two.of_below hb10 HN.out.1 HN.out.2))
   have HN10 := hid (And.intro (Nat.le_trans HN.out.1 hb10.size) (Nat.le_trans HN.out.2 hb10.size))
   have HL1 := hid (show (wantL m k).length + (hdrS hd).line.length ≤ 140737488355328 by have := HWK.out; omega)
   have HL2 := hid (show (wantL m k ++ (hdrS hd).line).length + crlfB.size ≤ 140737488355328 by have h := HWK.out; have e : crlfB.size = 2 := rfl; simp only [List.length_append]; omega)
   obtain ⟨ky, cy, csy, fzy, rfl, -⟩ := hy1
   clear hb10
   go_wp2_with (first
    | (at_builtin; refine appx_bytes w3.heap.size w7.heap.size w9.heap.size (by rfl) (.tmp 45) (.tmp 46) (by rfl) _ _ (wantL m k) ((hdrS hd).line) (by rfl) (by rfl) HO10.out HY1.out HN10.out.1 HN10.out.2 HL1.out ?_; intro v11 w11 ho11 ht11; have HO11 := hid ho11; have HT11 := hid ht11; obtain ⟨A11, c11, rfl⟩ := ho11.1.slice; clear ho11 ht11)
    | (at_builtin; refine appx_str w3.heap.size w7.heap.size w9.heap.size (by rfl) (.tmp 47) (.const (.string crlfB)) (by rfl) _ (wantL m k ++ (hdrS hd).line) crlfB (by rfl) (by rfl) HO11.out (Nat.le_trans HN10.out.1 HT11.out.1.size) (Nat.le_trans HN10.out.2 HT11.out.1.size) HL2.out ?_; intro v12 w12 ho12 ht12; rw [← HKK.out] at ho12; have HO12 := hid ho12; have HT12 := hid ht12; obtain ⟨A12, c12, rfl⟩ := ho12.1.slice; clear ho12 ht12)
    | fail)
   go_roundw
   case rel => exact ⟨k + 1, HLK.out, by simp, HO12.out, (HTW10.out.trans HT11.out).trans HT12.out⟩
   case measure => exact meas_step HLK.out (by simp)
  ·have hke : k = (readHs m).length := by omega
   have HWA := hid (wantL_all m k hlt)
   have HLW := hid (HWL.out k)
   have hk1 : ¬ (k : Int) < (readHs m).length := by omega
   clear hlt
   clear hke
   have HST := hid (starttext_any m _ wr (HLM.out _ HBR.out) R.out HI.out.bd.1)
   have HD1 := hid (show ∀ e : Ending, e = .returned (.bool (decide (lineT (msgS m hs) = startL m))) → e = .returned (.bool true) by
    intro e h
    rw [h, starts_eq m hs R.out]
    simp [startL])
   have HD2 := hid (show ∀ e : Ending, e = .returned (.bool (decide (msgT (msgS m hs) = wantL m k ++ [13, 10] ++ m.body))) → e = .returned (.bool true) by
    intro e h
    rw [h, msgT_eq m hs HMP.out (fun h hh => (R.out.heads h hh).1.sort), HWA.out, starts_eq m hs R.out]
    simp [startL])
   obtain ⟨L3, hL3⟩ : ∃ L3, L3 = wantL m k ++ [13, 10] ++ m.body := ⟨_, rfl⟩
   rw [← hL3] at HD2
   have HL3E := hid hL3
   clear hL3
   have HL3 := hid (show (wantL m k).length + ([13, 10] : Bytes).length + m.body.length ≤ 140737488355328 by have h := HLW.out; have h2 := R.out.body; simp only [List.length_cons, List.length_nil]; omega)
   go_wp2_with (first
    | (refine wpList_load_blk (by rfl) 28 (.tmp 1) (by rfl) w.heap.size 28 (0, 0) _ (by rfl) (HX.out _ HBR.out) _ Tryz.underlying28 rfl 19 msg_size rfl ?_)
    | (go_at_call 13; refine HST.out.mono ?_; rintro e w11 ⟨v11, rfl, ho11, hb11⟩; have HO11 := hid ho11.sb; have HB11 := hid hb11; have HE1 := hid (equal_any (.slice (some ⟨k2, 0, none⟩) (lineT (msgS m hs)).length c2) v11 (lineT (msgS m hs)) (startL m) w11 (HV2.out.sb.below (HB3R.out.trans (hb11.mono HB3R.out.size))) HO11.out); obtain ⟨A11, c11, rfl⟩ := ho11.slice; clear ho11 hb11)
    | (go_at_call_of 9 k2; refine HE1.out.mono ?_; rintro e w12 ⟨he, hb12⟩; have he' := HD1.out e he; subst he'; have HB12 := hid (HB11.out.trans (hb12.mono HB11.out.size)); obtain ⟨w14, hr14, hb14, hs14⟩ := lit_crlf w12; have HB14 := hid (HB12.out.trans (hb14.mono HB12.out.size)); have HBF := hid (HBR.out.trans (HB14.out.mono HBR.out.size)); have d16 := row_at (HX.out _ HBF.out) 16 _ rfl; have HJ3 := hid (join3 w14 (.slice Ao (wantL m k).length co) _ (.slice A16 m.body.length c16) (wantL m k) [13, 10] m.body L3 HL3E.out (HO.out.1.sb.below HB14.out) hs14 (HBO.out.below (HBW.out _ HBF.out)) HL3.out); clear hb12 he hb14 hs14)
    | (go_at_call 12; refine HJ3.out.mono ?_; rintro e w15 ⟨v15, rfl, ho15, hb15⟩; have HB15 := hid (HB14.out.trans (hb15.mono HB14.out.size)); have HE2 := hid (equal_any (.slice (some ⟨k1, 0, none⟩) (msgT (msgS m hs)).length c1) v15 (msgT (msgS m hs)) L3 w15 (HV1.out.sb.below (HB3R.out.trans (HB15.out.mono HB3R.out.size))) ho15.sb); obtain ⟨A15, c15, rfl⟩ := ho15.slice; clear ho15 hb15)
    | (go_at_call_of 9 k1; refine HE2.out.mono ?_; rintro e w16 ⟨he, hb16⟩; have he' := HD2.out e he; subst he'; have HB16 := hid (HB15.out.trans (hb16.mono HB15.out.size)); have HBZ := hid (HBR.out.trans (HB16.out.mono HBR.out.size)); have HKN := hid (known_any N w16 (HGL.out _ HBZ.out)); clear hb16 he)
    | (go_at_call 7; refine HKN.out.mono ?_; rintro e w17 ⟨rfl, hb17⟩)
    | fail)
   go_ret
   exact ⟨rfl, HBW.out _ (HBZ.out.trans (hb17.mono HBZ.out.size))⟩
