import Derived.Test.YtocajelknojkbaaGreatDoorRows
import Derived.Deep.Slices
import Derived.Test.YtocajelknojkbaaGreatDoorK23
set_option maxRecDepth 100000
set_option maxHeartbeats 16000000
set_option linter.all false
namespace Go.Proofs.YtocajelknojkbaaGreatDoor
section
open Go.Lib (hid)
open Go.RowKit Go.ChangeShapes Go.WideShapes Go.Deep
theorem bulk_one {H : Type} (d : DataW H) : 1 ≤ Rows.uptoBulk d := by
 cases d with
 | lit l => cases l <;> simp [Rows.uptoBulk]
 | nil => simp [Rows.uptoBulk]
 | ptr d => simp [Rows.uptoBulk]
 | slice elems spare => simp [Rows.uptoBulk]
 | agg parts => simp [Rows.uptoBulk]
 | iface t d => simp [Rows.uptoBulk]
 | map entries => simp [Rows.uptoBulk]
 | held h => simp [Rows.uptoBulk]
theorem bulk_part {H : Type} {d : DataW H} {l : List (DataW H)} (h : d ∈ l) : Rows.uptoBulk d ≤ Rows.uptoBulkAll l := by
 induction l with
 | nil => cases h
 | cons x r ih =>
  simp only [Rows.uptoBulkAll]
  cases List.mem_cons.1 h with
  | inl e => subst e; omega
  | inr e => have := ih e; omega
theorem bulk_len {H : Type} (l : List (DataW H)) : l.length ≤ Rows.uptoBulkAll l := by
 induction l with
 | nil => simp [Rows.uptoBulkAll]
 | cons x r ih => have := bulk_one x; simp only [Rows.uptoBulkAll, List.length_cons]; omega
theorem bulk_slice {H : Type} (elems spare : List (DataW H)) : elems.length + 1 ≤ Rows.uptoBulk (.slice elems spare) ∧ Rows.uptoBulkAll elems + 1 ≤ Rows.uptoBulk (.slice elems spare) := by
 have := bulk_len elems
 simp only [Rows.uptoBulk]
 omega
theorem bulk_agg {H : Type} (l : List (DataW H)) : Rows.uptoBulk (.agg l) = Rows.uptoBulkAll l + 1 := by simp only [Rows.uptoBulk]
theorem bulk_sum {H : Type} {α : Type} (D : Nat → DataW H) (g : Nat → List α) (l : List Nat) (h : ∀ i ∈ l, (g i).length ≤ Rows.uptoBulk (D i)) : (l.flatMap g).length ≤ Rows.uptoBulkAll (l.map D) := by
 induction l with
 | nil => simp [Rows.uptoBulkAll]
 | cons a t ih =>
  have h1 := h a (List.mem_cons_self)
  have h2 := ih fun i hi => h i (List.mem_cons_of_mem _ hi)
  simp only [List.flatMap_cons, List.length_append, List.map_cons, Rows.uptoBulkAll]
  omega
theorem wf_u8 {k : Int} (h : (Lit.int .u8 k).wf = true) : 0 ≤ k ∧ k ≤ 255 := by
 have h2 : (decide ((0 : Int) ≤ k) && decide (k ≤ (255 : Int))) = true := h
 simpa using h2
theorem wf_u32 {k : Int} (h : (Lit.int .u32 k).wf = true) : 0 ≤ k ∧ k < 4294967296 := by
 have h2 : (decide ((0 : Int) ≤ k) && decide (k ≤ (4294967295 : Int))) = true := h
 have h3 : 0 ≤ k ∧ k ≤ 4294967295 := by simpa using h2
 omega
theorem wf_i64 {k : Int} (h : (Lit.int .i64 k).wf = true) : I64 k := by
 have h2 : (decide ((-9223372036854775808 : Int) ≤ k) && decide (k ≤ (9223372036854775807 : Int))) = true := h
 simpa [I64] using h2
theorem cells_u8 : Tryz.prog.cellsOf 5 = 1 := by kernel_rfl
theorem cells_bs : Tryz.prog.cellsOf 22 = 1 := by kernel_rfl
theorem cells_kv : Tryz.prog.cellsOf 73 = 2 := by kernel_rfl
theorem cells_kvs : Tryz.prog.cellsOf 23 = 1 := by kernel_rfl
theorem cells_uri : Tryz.prog.cellsOf 25 = 10 := by kernel_rfl
theorem cells_head : Tryz.prog.cellsOf 35 = 21 := by kernel_rfl
theorem cells_heads : Tryz.prog.cellsOf 26 = 1 := by kernel_rfl
theorem cells_msg : Tryz.prog.cellsOf 28 = 19 := by kernel_rfl
theorem cells_int : Tryz.prog.cellsOf 3 = 1 := by kernel_rfl
theorem cells_bool : Tryz.prog.cellsOf 4 = 1 := by kernel_rfl
theorem cells_u32 : Tryz.prog.cellsOf 33 = 1 := by kernel_rfl
section
variable {H : Type} {enc : TypeId × Value → H} {W : World} {fuel : Nat} {cs : List Value} {x : DataW H × List MemPlace}
theorem open_sb (h : DataW.trod enc Tryz.prog W 0 (fun _ => true) true fuel 22 cs = some x) : ∃ v l, cs = [v] ∧ SB W v l ∧ l.length + 1 ≤ Rows.uptoBulk x.1 := by
 rcases open_slice1 Tryz.underlying22 cells_u8 h with ⟨rfl, rfl⟩ | ⟨a, len, cap, m, n, V, D, Pl, rfl, hb, hl, hm, hmm, rfl, hx⟩
 ·exact ⟨_, [], rfl, ⟨none, 0, rfl, Nat.le_refl _, by omega, fun _ => ⟨rfl, rfl⟩, fun i hi => absurd hi (by simp)⟩, by simp [Rows.uptoBulk]⟩
 ·have hlm : len ≤ m := by rw [hmm]; split <;> omega
  have key : ∀ i, i < len → ∃ b : UInt8, W.cell? (a.add i) = some (.int .u8 b.toNat) := fun i hi => by
   obtain ⟨h1, h2⟩ := hx i (by omega)
   obtain ⟨k, hk, -, hw⟩ := DataW.trod_int Tryz.underlying5 h2
   simp only [List.cons.injEq, and_true] at hk
   have hw2 := wf_u8 hw
   refine ⟨UInt8.ofNat k.toNat, ?_⟩
   rw [h1, hk]
   have e : ((UInt8.ofNat k.toNat).toNat : Int) = k := by
    rw [UInt8.toNat_ofNat']
    omega
   rw [e]
  obtain ⟨f, hf⟩ := choose_lt key
  refine ⟨_, (List.range len).map f, rfl, ⟨some a, cap, by simp, by simpa using hl, by simpa [maxLen] using hm, fun e => by simp at e, fun i hi => ⟨a, rfl, ?_⟩⟩, ?_⟩
  ·have hi' : i < len := by simpa using hi
   rw [hf i hi']
   simp
  ·have := (bulk_slice ((List.range len).map D) ((List.range (m - len)).map fun j => D (len + j))).1
   simpa using this
theorem fld {t : TypeId} {o n i : Nat} {xs : List (DataW H × List MemPlace)} {y : DataW H × List MemPlace} (hc : Tryz.prog.cellsOf t = n) (h : DataW.trod enc Tryz.prog W 0 (fun _ => true) true fuel t ((cs.drop o).take (Tryz.prog.cellsOf t)) = xs[i]?) (hy : xs[i]? = some y) :
  DataW.trod enc Tryz.prog W 0 (fun _ => true) true fuel t ((cs.drop o).take n) = some y := by rw [← hc, h, hy]
theorem cell_of_row {w : World} {a : Addr} {n : Nat} {cs : List Value} (h : w.cells? 0 a n = some cs) : cs.length = n ∧ ∀ j u, cs[j]? = some u → w.cell? (a.add j) = some u := by
 obtain ⟨-, h1, h2⟩ := World.cells?_some h
 refine ⟨h1, fun j u hj => ?_⟩
 have hjl := (List.getElem?_eq_some_iff.1 hj).1
 rw [h2 j (by omega), hj]
theorem list2 {α : Type} {l : List α} (h : l.length = 2) : ∃ a b, l = [a, b] := by
 match l, h with
 | [a, b], _ => exact ⟨a, b, rfl⟩
theorem open_kv (h : DataW.trod enc Tryz.prog W 0 (fun _ => true) true fuel 73 cs = some x) : ∃ vk vv, ∃ p : Bytes × Bytes, cs = [vk, vv] ∧ SB W vk p.1 ∧ SB W vv p.2 ∧ p.1.length + p.2.length + 3 ≤ Rows.uptoBulk x.1 := by
 obtain ⟨xs, n, rfl, rfl, hlen, hxl, hx⟩ := DataW.trod_struct Tryz.underlying73 h
 rw [cells_kv] at hlen
 obtain ⟨c0, c1, rfl⟩ := list2 hlen
 obtain ⟨y0, y1, rfl⟩ := list2 (show xs.length = 2 from hxl)
 obtain ⟨vk, lk, e0, h0, b0⟩ := open_sb (fld (y := y0) cells_bs (hx 0 _ rfl) rfl)
 obtain ⟨vv, lv, e1, h1, b1⟩ := open_sb (fld (y := y1) cells_bs (hx 1 _ rfl) rfl)
 obtain rfl : c0 = vk := by simpa using e0
 obtain rfl : c1 = vv := by simpa using e1
 refine ⟨c0, c1, (lk, lv), rfl, h0, h1, ?_⟩
 simp only [bulk_agg, List.map_cons, List.map_nil, Rows.uptoBulkAll]
 omega
theorem kv_len (sep : UInt8) (p : Bytes × Bytes) (n : Nat) (h : p.1.length + p.2.length + 3 ≤ n) : (sep :: kvB p).length ≤ n := by
 unfold kvB
 split <;> simp <;> omega
theorem open_sk (h : DataW.trod enc Tryz.prog W 0 (fun _ => true) true fuel 23 cs = some x) : ∃ v l, cs = [v] ∧ SK W v l ∧ l.length ≤ Rows.uptoBulk x.1 ∧ ∀ sep, (lparT sep l).length ≤ Rows.uptoBulk x.1 := by
 rcases open_slice Tryz.underlying23 h with ⟨rfl, rfl⟩ | ⟨a, len, cap, m, n, D, Pl, rfl, hb, hl, hm, hmm, rfl, hx⟩
 ·exact ⟨_, [], rfl, ⟨none, 0, rfl, Nat.le_refl _, by omega, fun _ => ⟨rfl, rfl⟩, fun i hi => absurd hi (by simp)⟩, by simp, fun sep => by simp [lparT, lpsepT]⟩
 ·have hlm : len ≤ m := by rw [hmm]; split <;> omega
  have key : ∀ i, i < len → ∃ p : Bytes × Bytes, (∃ vk vv, W.cell? (a.add (i * 2)) = some vk ∧ W.cell? ⟨(a.add (i * 2)).block, (a.add (i * 2)).off + 1, none⟩ = some vv ∧ SB W vk p.1 ∧ SB W vv p.2) ∧ p.1.length + p.2.length + 3 ≤ Rows.uptoBulk (D i) := fun i hi => by
   obtain ⟨cs', h1, h2⟩ := hx i (by omega)
   rw [cells_kv] at h1
   obtain ⟨vk, vv, p, rfl, h3, h4, h5⟩ := open_kv h2
   obtain ⟨-, h6⟩ := cell_of_row h1
   have h7 := h6 0 vk rfl
   have h8 := h6 1 vv rfl
   rw [show (a.add (i * 2)).add 0 = a.add (i * 2) by simp [Addr.add]] at h7
   rw [show (a.add (i * 2)).add 1 = ⟨(a.add (i * 2)).block, (a.add (i * 2)).off + 1, none⟩ by simp [Addr.add]] at h8
   exact ⟨p, ⟨vk, vv, h7, h8, h3, h4⟩, h5⟩
  obtain ⟨f, hf⟩ := choose_lt key
  have hbk := bulk_slice ((List.range len).map D) ((List.range (m - len)).map fun j => D (len + j))
  refine ⟨_, (List.range len).map f, rfl, ⟨some a, cap, by simp, by simpa using hl, by simpa [maxLen] using hm, fun e => by simp at e, fun i hi => ?_⟩, ?_, fun sep => ?_⟩
  ·have hi' : i < len := by simpa using hi
   obtain ⟨⟨vk, vv, h1, h2, h3, h4⟩, -⟩ := hf i hi'
   have e : ((List.range len).map f)[i] = f i := by simp
   rw [e]
   exact ⟨a, vk, vv, rfl, h1, h2, h3, h4⟩
  ·have := hbk.1
   simp only [List.length_map, List.length_range] at this ⊢
   omega
  ·have h1 := bulk_sum D (fun i => sep :: kvB (f i)) (List.range len) (fun i hi => kv_len sep _ _ (hf i (List.mem_range.1 hi)).2)
   have h2 : (lpsepT sep ((List.range len).map f)).length ≤ Rows.uptoBulkAll ((List.range len).map D) := by
    rw [lpsepT, List.flatMap_map]
    exact h1
   have h3 : (lparT sep ((List.range len).map f)).length ≤ (lpsepT sep ((List.range len).map f)).length := by
    unfold lparT
    simp
   dsimp only
   omega
theorem list10' {α : Type} {l : List α} (h : l.length = 10) : ∃ a b c d e f g i j k, l = [a, b, c, d, e, f, g, i, j, k] := by
 match l, h with
 | [a, b, c, d, e, f, g, i, j, k], _ => exact ⟨a, b, c, d, e, f, g, i, j, k, rfl⟩
theorem open_i64 {t : TypeId} (ht : Tryz.prog.underlying t = some (.int .i64)) (h : DataW.trod enc Tryz.prog W 0 (fun _ => true) true fuel t cs = some x) : ∃ n, cs = [.int .i64 n] ∧ I64 n := by
 obtain ⟨n, h1, -, hw⟩ := DataW.trod_int ht h
 exact ⟨n, h1, wf_i64 hw⟩
def UBk (u : LUri) (n : Nat) : Prop := luriN u ≤ n + 99 ∧ u.scheme.length ≤ n ∧ u.raw.length ≤ n ∧ u.params.length ≤ n ∧ u.hdrs.length ≤ n
theorem open_lu (h : DataW.trod enc Tryz.prog W 0 (fun _ => true) true fuel 25 cs = some x) : ∃ u, LU W u cs ∧ UBk u (Rows.uptoBulk x.1) := by
 obtain ⟨xs, n, rfl, rfl, hlen, hxl, hx⟩ := DataW.trod_struct Tryz.underlying25 h
 rw [cells_uri] at hlen
 obtain ⟨c0, c1, c2, c3, c4, c5, c6, c7, c8, c9, rfl⟩ := list10' hlen
 obtain ⟨y0, y1, y2, y3, y4, y5, y6, y7, y8, y9, rfl⟩ := list10' (show xs.length = 10 from hxl)
 obtain ⟨v0, l0, e0, h0, b0⟩ := open_sb (fld (y := y0) cells_bs (hx 0 _ rfl) rfl)
 obtain ⟨v1, l1, e1, h1, b1⟩ := open_sb (fld (y := y1) cells_bs (hx 1 _ rfl) rfl)
 obtain ⟨z2, e2, -⟩ := DataW.trod_bool Tryz.underlying4 (fld (y := y2) cells_bool (hx 2 _ rfl) rfl)
 obtain ⟨z3, e3, -⟩ := DataW.trod_bool Tryz.underlying4 (fld (y := y3) cells_bool (hx 3 _ rfl) rfl)
 obtain ⟨v4, l4, e4, h4, b4⟩ := open_sb (fld (y := y4) cells_bs (hx 4 _ rfl) rfl)
 obtain ⟨v5, l5, e5, h5, b5⟩ := open_sb (fld (y := y5) cells_bs (hx 5 _ rfl) rfl)
 obtain ⟨v6, l6, e6, h6, b6⟩ := open_sb (fld (y := y6) cells_bs (hx 6 _ rfl) rfl)
 obtain ⟨z7, e7, h7⟩ := open_i64 Tryz.underlying3 (fld (y := y7) cells_int (hx 7 _ rfl) rfl)
 obtain ⟨v8, l8, e8, h8, b8, b8'⟩ := open_sk (fld (y := y8) cells_kvs (hx 8 _ rfl) rfl)
 obtain ⟨v9, l9, e9, h9, b9, b9'⟩ := open_sk (fld (y := y9) cells_kvs (hx 9 _ rfl) rfl)
 obtain rfl : c0 = v0 := by simpa using e0
 obtain rfl : c1 = v1 := by simpa using e1
 obtain rfl : c2 = .bool z2 := by simpa using e2
 obtain rfl : c3 = .bool z3 := by simpa using e3
 obtain rfl : c4 = v4 := by simpa using e4
 obtain rfl : c5 = v5 := by simpa using e5
 obtain rfl : c6 = v6 := by simpa using e6
 obtain rfl : c7 = .int .i64 z7 := by simpa using e7
 obtain rfl : c8 = v8 := by simpa using e8
 obtain rfl : c9 = v9 := by simpa using e9
 refine ⟨⟨l0, l1, z2, z3, l4, l5, l6, z7, l8, l9⟩, ⟨c0, c1, c4, c5, c6, c8, c9, rfl, h0, h1, h4, h5, h6, h8, h9, h7⟩, ?_⟩
 have k8 := b8' 59
 have k9 := b9' 38
 simp only [UBk, luriN, bulk_agg, List.map_cons, List.map_nil, Rows.uptoBulkAll]
 omega
theorem list12 {α : Type} {l : List α} (h : l.length = 12) : ∃ a b c d e f g i j k m n, l = [a, b, c, d, e, f, g, i, j, k, m, n] := by
 match l, h with
 | [a, b, c, d, e, f, g, i, j, k, m, n], _ => exact ⟨a, b, c, d, e, f, g, i, j, k, m, n, rfl⟩
theorem list21' {l : List Value} (h : l.length = 21) : ∃ x0 x1 x2 x3 x4 x5 x6 x7 x8 x9 x10 x11 x12 x13 x14 x15 x16 x17 x18 x19 x20, l = [x0, x1, x2, x3, x4, x5, x6, x7, x8, x9, x10, x11, x12, x13, x14, x15, x16, x17, x18, x19, x20] := by
 match l, h with
 | [x0, x1, x2, x3, x4, x5, x6, x7, x8, x9, x10, x11, x12, x13, x14, x15, x16, x17, x18, x19, x20], _ => exact ⟨x0, x1, x2, x3, x4, x5, x6, x7, x8, x9, x10, x11, x12, x13, x14, x15, x16, x17, x18, x19, x20, rfl⟩
def HBk (h : LHead) (n : Nat) : Prop := UBk h.uri n ∧ h.params.length ≤ n ∧ (lparT 59 h.params).length ≤ n
theorem open_lh (h : DataW.trod enc Tryz.prog W 0 (fun _ => true) true fuel 35 cs = some x) : ∃ u, LH W u cs ∧ HBk u (Rows.uptoBulk x.1) := by
 obtain ⟨xs, n, rfl, rfl, hlen, hxl, hx⟩ := DataW.trod_struct Tryz.underlying35 h
 rw [cells_head] at hlen
 obtain ⟨c0, c1, c2, c3, c4, c5, c6, c7, c8, c9, c10, c11, c12, c13, c14, c15, c16, c17, c18, c19, c20, rfl⟩ := list21' hlen
 obtain ⟨y0, y1, y2, y3, y4, y5, y6, y7, y8, y9, y10, y11, rfl⟩ := list12 (show xs.length = 12 from hxl)
 obtain ⟨z0, e0, h0⟩ := open_i64 Tryz.underlying3 (fld (y := y0) cells_int (hx 0 _ rfl) rfl)
 obtain ⟨v1, l1, e1, h1, -⟩ := open_sb (fld (y := y1) cells_bs (hx 1 _ rfl) rfl)
 obtain ⟨v2, l2, e2, h2, -⟩ := open_sb (fld (y := y2) cells_bs (hx 2 _ rfl) rfl)
 obtain ⟨v3, l3, e3, h3, -⟩ := open_sb (fld (y := y3) cells_bs (hx 3 _ rfl) rfl)
 obtain ⟨u, h4, b4⟩ := open_lu (fld (y := y4) cells_uri (hx 4 _ rfl) rfl)
 obtain ⟨v5, l5, e5, h5, b5, b5'⟩ := open_sk (fld (y := y5) cells_kvs (hx 5 _ rfl) rfl)
 obtain ⟨z6, e6, -, w6⟩ := DataW.trod_int Tryz.underlying33 (fld (y := y6) cells_u32 (hx 6 _ rfl) rfl)
 obtain ⟨v7, l7, e7, h7, -⟩ := open_sb (fld (y := y7) cells_bs (hx 7 _ rfl) rfl)
 obtain ⟨v8, l8, e8, h8, -⟩ := open_sb (fld (y := y8) cells_bs (hx 8 _ rfl) rfl)
 obtain ⟨v9, l9, e9, h9, -⟩ := open_sb (fld (y := y9) cells_bs (hx 9 _ rfl) rfl)
 obtain ⟨v10, l10, e10, h10, -⟩ := open_sb (fld (y := y10) cells_bs (hx 10 _ rfl) rfl)
 obtain ⟨z11, e11, h11⟩ := open_i64 Tryz.underlying3 (fld (y := y11) cells_int (hx 11 _ rfl) rfl)
 obtain rfl : c0 = .int .i64 z0 := by simpa using e0
 obtain rfl : c1 = v1 := by simpa using e1
 obtain rfl : c2 = v2 := by simpa using e2
 obtain rfl : c3 = v3 := by simpa using e3
 obtain rfl : c14 = v5 := by simpa using e5
 obtain rfl : c15 = .int .u32 z6 := by simpa using e6
 obtain rfl : c16 = v7 := by simpa using e7
 obtain rfl : c17 = v8 := by simpa using e8
 obtain rfl : c18 = v9 := by simpa using e9
 obtain rfl : c19 = v10 := by simpa using e10
 obtain rfl : c20 = .int .i64 z11 := by simpa using e11
 have w6' := wf_u32 w6
 refine ⟨⟨z0, l1, l2, l3, u, l5, z6, l7, l8, l9, l10, z11⟩, ⟨c1, c2, c3, [c4, c5, c6, c7, c8, c9, c10, c11, c12, c13], c14, c16, c17, c18, c19, rfl, h1, h2, h3, h4, h5, h7, h8, h9, h10, h0, w6', h11⟩, ?_⟩
 have k5 := b5' 59
 obtain ⟨q1, q2, q3, q4, q5⟩ := b4
 simp only [HBk, UBk, bulk_agg, List.map_cons, List.map_nil, Rows.uptoBulkAll]
 omega
instance : Inhabited LHead := ⟨⟨0, [], [], [], ⟨[], [], false, false, [], [], [], 0, [], []⟩, [], 0, [], [], [], [], 0⟩⟩
theorem open_shs (h : DataW.trod enc Tryz.prog W 0 (fun _ => true) true fuel 26 cs = some x) : ∃ v l, cs = [v] ∧ SHs W v l ∧ l.length ≤ Rows.uptoBulk x.1 ∧ ∀ h ∈ l, HBk h (Rows.uptoBulk x.1) := by
 rcases open_slice Tryz.underlying26 h with ⟨rfl, rfl⟩ | ⟨a, len, cap, m, n, D, Pl, rfl, hb, hl, hm, hmm, rfl, hx⟩
 ·exact ⟨_, [], rfl, ⟨none, 0, rfl, Nat.le_refl _, by omega, fun _ => ⟨rfl, rfl⟩, fun i hi => absurd hi (by simp)⟩, by simp, fun h hh => by cases hh⟩
 ·have hlm : len ≤ m := by rw [hmm]; split <;> omega
  have key : ∀ i, i < len → ∃ p : LHead, (∃ cs, LH W p cs ∧ ∀ j u, cs[j]? = some u → W.cell? ((a.add (i * 21)).add j) = some u) ∧ HBk p (Rows.uptoBulk (D i)) := fun i hi => by
   obtain ⟨cs', h1, h2⟩ := hx i (by omega)
   rw [cells_head] at h1
   obtain ⟨p, h3, h4⟩ := open_lh h2
   exact ⟨p, ⟨cs', h3, (cell_of_row h1).2⟩, h4⟩
  obtain ⟨f, hf⟩ := choose_lt key
  have hbk := bulk_slice ((List.range len).map D) ((List.range (m - len)).map fun j => D (len + j))
  refine ⟨_, (List.range len).map f, rfl, ⟨some a, cap, by simp, by simpa using hl, by simpa [maxLen] using hm, fun e => by simp at e, fun i hi => ?_⟩, ?_, fun h hh => ?_⟩
  ·have hi' : i < len := by simpa using hi
   obtain ⟨⟨cs, h1, h2⟩, -⟩ := hf i hi'
   have e : ((List.range len).map f)[i] = f i := by simp
   rw [e]
   exact ⟨a, cs, rfl, h1, h2⟩
  ·have := hbk.1
   simp only [List.length_map, List.length_range] at this ⊢
   omega
  ·obtain ⟨i, hi, rfl⟩ := List.mem_map.1 hh
   obtain ⟨⟨q1, q2, q3, q4, q5⟩, q6, q7⟩ := (hf i (List.mem_range.1 hi)).2
   have h1 := bulk_part (List.mem_map_of_mem (f := D) hi)
   have h2 := hbk.2
   simp only [HBk, UBk]
   omega
theorem list19' {l : List Value} (h : l.length = 19) : ∃ x0 x1 x2 x3 x4 x5 x6 x7 x8 x9 x10 x11 x12 x13 x14 x15 x16 x17 x18, l = [x0, x1, x2, x3, x4, x5, x6, x7, x8, x9, x10, x11, x12, x13, x14, x15, x16, x17, x18] := by
 match l, h with
 | [x0, x1, x2, x3, x4, x5, x6, x7, x8, x9, x10, x11, x12, x13, x14, x15, x16, x17, x18], _ => exact ⟨x0, x1, x2, x3, x4, x5, x6, x7, x8, x9, x10, x11, x12, x13, x14, x15, x16, x17, x18, rfl⟩
def MBk (m : LMsg) (n : Nat) : Prop := UBk m.uri n ∧ m.heads.length ≤ n ∧ (∀ h ∈ m.heads, HBk h n) ∧ m.method.length ≤ n ∧ m.reason.length ≤ n ∧ m.version.length ≤ n ∧ m.body.length ≤ n
theorem open_lm (h : DataW.trod enc Tryz.prog W 0 (fun _ => true) true fuel 28 cs = some x) : ∃ m, LM W m cs ∧ MBk m (Rows.uptoBulk x.1) := by
 obtain ⟨xs, n, rfl, rfl, hlen, hxl, hx⟩ := DataW.trod_struct Tryz.underlying28 h
 rw [cells_msg] at hlen
 obtain ⟨c0, c1, c2, c3, c4, c5, c6, c7, c8, c9, c10, c11, c12, c13, c14, c15, c16, c17, c18, rfl⟩ := list19' hlen
 obtain ⟨y0, y1, y2, y3, y4, y5, y6, y7, y8, y9, rfl⟩ := list10' (show xs.length = 10 from hxl)
 obtain ⟨z0, e0, -⟩ := DataW.trod_bool Tryz.underlying4 (fld (y := y0) cells_bool (hx 0 _ rfl) rfl)
 obtain ⟨v1, l1, e1, h1, b1⟩ := open_sb (fld (y := y1) cells_bs (hx 1 _ rfl) rfl)
 obtain ⟨u, h2, b2⟩ := open_lu (fld (y := y2) cells_uri (hx 2 _ rfl) rfl)
 obtain ⟨z3, e3, h3⟩ := open_i64 Tryz.underlying3 (fld (y := y3) cells_int (hx 3 _ rfl) rfl)
 obtain ⟨v4, l4, e4, h4, b4⟩ := open_sb (fld (y := y4) cells_bs (hx 4 _ rfl) rfl)
 obtain ⟨v5, l5, e5, h5, b5⟩ := open_sb (fld (y := y5) cells_bs (hx 5 _ rfl) rfl)
 obtain ⟨v6, l6, e6, h6, b6, b6'⟩ := open_shs (fld (y := y6) cells_heads (hx 6 _ rfl) rfl)
 obtain ⟨v7, l7, e7, h7, b7⟩ := open_sb (fld (y := y7) cells_bs (hx 7 _ rfl) rfl)
 obtain ⟨z8, e8, -⟩ := DataW.trod_bool Tryz.underlying4 (fld (y := y8) cells_bool (hx 8 _ rfl) rfl)
 obtain ⟨z9, e9, -⟩ := DataW.trod_bool Tryz.underlying4 (fld (y := y9) cells_bool (hx 9 _ rfl) rfl)
 obtain rfl : c0 = .bool z0 := by simpa using e0
 obtain rfl : c1 = v1 := by simpa using e1
 obtain rfl : c12 = .int .i64 z3 := by simpa using e3
 obtain rfl : c13 = v4 := by simpa using e4
 obtain rfl : c14 = v5 := by simpa using e5
 obtain rfl : c15 = v6 := by simpa using e6
 obtain rfl : c16 = v7 := by simpa using e7
 obtain rfl : c17 = .bool z8 := by simpa using e8
 obtain rfl : c18 = .bool z9 := by simpa using e9
 refine ⟨⟨z0, l1, u, z3, l4, l5, l6, l7, z8, z9⟩, ⟨c1, [c2, c3, c4, c5, c6, c7, c8, c9, c10, c11], c13, c14, c15, c16, rfl, h1, h2, h4, h5, h6, h7, h3⟩, ?_⟩
 obtain ⟨q1, q2, q3, q4, q5⟩ := b2
 refine ⟨?_, ?_, fun h hh => ?_, ?_⟩
 ·simp only [UBk, bulk_agg, List.map_cons, List.map_nil, Rows.uptoBulkAll]
  omega
 ·simp only [bulk_agg, List.map_cons, List.map_nil, Rows.uptoBulkAll]
  omega
 ·obtain ⟨⟨r1, r2, r3, r4, r5⟩, r6, r7⟩ := b6' h hh
  simp only [HBk, UBk, bulk_agg, List.map_cons, List.map_nil, Rows.uptoBulkAll]
  omega
 ·simp only [bulk_agg, List.map_cons, List.map_nil, Rows.uptoBulkAll]
  omega
end
end
section
open Go.Lib (hid)
open Go.RowKit
@[simp] theorem bs_list (l : Bytes) : (bs l).data.toList = l := by simp [bs]
theorem kvT_str (p : Bytes × Bytes) : kvT (strKV p) = kvB p := by
 obtain ⟨a, b⟩ := p
 by_cases hb : b = [] <;> simp [kvT, kvB, strKV, hb]
theorem psepT_str (sep : UInt8) (l : BKVs) : psepT sep (strKVs l) = lpsepT sep l := by
 simp only [psepT, lpsepT, strKVs, List.flatMap_map, kvT_str]
theorem tailT_str (c sep : UInt8) (l : BKVs) : tailT c sep (strKVs l) = ltailT c sep l := by
 unfold tailT ltailT paramsT lparT
 rw [psepT_str]
 simp [strKVs]
theorem uriT_str (u : LUri) (h : u.raw = []) : uriT (toS u) = luriT u := by
 by_cases h1 : u.user = [] <;> by_cases h2 : u.pass = [] <;> by_cases h3 : 0 < u.port <;> simp [uriT, luriT, toS, userT, luserT, portT, lportT, tailT_str, h1, h2, h3]
theorem all_at {p : UInt8 → Bool} {l : Bytes} (h : l.all p = true) (i : Nat) (hi : i < (⟨l.toArray⟩ : ByteArray).size) : p ((⟨l.toArray⟩ : ByteArray)[i]) = true := by
 have hl : i < l.length := by rw [sz] at hi; exact hi
 have h1 : (⟨l.toArray⟩ : ByteArray)[i] = l[i] := rfl
 rw [h1]
 exact List.all_eq_true.1 h _ (List.getElem_mem hl)
theorem hostB_ok {c : UInt8} (h : hostB c = true) : c.toNat < 128 ∧ c.toNat ≠ 58 ∧ c.toNat ≠ 37 := by
 simp only [hostB, letterB, digitB, Bool.or_eq_true, Bool.and_eq_true, decide_eq_true_eq, beq_iff_eq] at h
 omega
theorem wordB_ok {c : UInt8} (h : wordB c = true) : c.toNat < 128 ∧ c.toNat ≠ 32 ∧ c.toNat ≠ 9 := by
 simp only [wordB, letterB, digitB, Bool.or_eq_true, Bool.and_eq_true, decide_eq_true_eq, beq_iff_eq] at h
 omega
theorem textS_host {l : Bytes} (h : textS hostB l = true) : HostB ⟨l.toArray⟩ ∧ l.length ≤ 8192 := by
 simp only [textS, Bool.and_eq_true, decide_eq_true_eq] at h
 exact ⟨fun i hi => hostB_ok (all_at h.1.1 i hi), h.2⟩
theorem wordS_ok {l : Bytes} (h : wordS l = true) : ValB ⟨l.toArray⟩ ∧ l.length ≤ 8192 := by
 simp only [wordS, Bool.and_eq_true, decide_eq_true_eq] at h
 exact ⟨fun i hi => wordB_ok (all_at h.1.1 i hi), h.2⟩
theorem lineS_len {l : Bytes} (h : lineS l = true) : l.length ≤ 8192 := by
 simp only [lineS, Bool.and_eq_true, decide_eq_true_eq] at h
 exact h.1.1.2
theorem shownS_len {l : Bytes} (h : shownS l = true) : l.length ≤ 8192 := by
 simp only [shownS, Bool.and_eq_true, Bool.or_eq_true, decide_eq_true_eq] at h
 rcases h.2 with h | h
 ·omega
 ·exact lineS_len h
theorem par_ok {f : Bool} {l : BKVs} (h : ParOK f l) : KVok (strKVs l) ∧ (lpsepT 59 l).length ≤ 64 * 16388 ∧ (lpsepT 38 l).length ≤ 64 * 16388 := by
 have hp : ∀ p ∈ l, p.1.length ≤ 8192 ∧ ValB ⟨p.2.toArray⟩ ∧ p.2.length ≤ 8192 := by
  intro p hp
  have h1 := h.2 p hp
  simp only [parB, Bool.and_eq_true, Bool.or_eq_true, decide_eq_true_eq] at h1
  refine ⟨(wordS_ok h1.1).2, ?_⟩
  rcases h1.2 with h2 | h2
  ·exact wordS_ok h2
  ·rw [h2.2]
   exact ⟨fun i hi => absurd hi (by rw [sz]; simp), by simp⟩
 have key : ∀ (sep : UInt8) (l : BKVs), (∀ p ∈ l, p.1.length ≤ 8192 ∧ ValB ⟨p.2.toArray⟩ ∧ p.2.length ≤ 8192) → (lpsepT sep l).length ≤ l.length * 16388 := by
  intro sep l
  induction l with
  | nil => intro _; simp [lpsepT]
  | cons a t ih =>
   intro hl
   have h1 := ih (fun p hp => hl p (List.mem_cons_of_mem _ hp))
   have h2 := hl a (List.mem_cons_self)
   have h3 : (kvB a).length ≤ 16385 := by
    unfold kvB
    split <;> simp <;> omega
   simp only [lpsepT, List.flatMap_cons, List.length_append, List.length_cons] at h1 ⊢
   omega
 refine ⟨fun p hp2 => ?_, Nat.le_trans (key 59 l hp) (Nat.mul_le_mul_right _ h.1), Nat.le_trans (key 38 l hp) (Nat.mul_le_mul_right _ h.1)⟩
 obtain ⟨q, hq, rfl⟩ := List.mem_map.1 hp2
 exact (hp q hq).2.1
theorem ruri_ok {u : LUri} (h : RUri u) : UOk (toS u) := by
 refine ⟨?_, h.slashes, fun _ => (textS_host h.host).1, ⟨?_, ?_⟩, fun _ => (par_ok h.params).1, fun _ => (par_ok h.hdrs).1⟩
 ·have hs := h.scheme
  rcases hs with hs | hs <;> simp [toS, hs, sipB, sipsB]
 ·have := h.port; show _ ≤ u.port; omega
 ·have := h.port; show u.port ≤ _; omega
theorem textS_len {p : UInt8 → Bool} {l : Bytes} (h : textS p l = true) : l.length ≤ 8192 := by
 simp only [textS, Bool.and_eq_true, decide_eq_true_eq] at h
 exact h.2
theorem port_len (n : Int) (h : 0 ≤ n ∧ n ≤ 65535) : (lportT n).length ≤ 22 := by
 unfold lportT
 split
 ·have := itoa_len n (by unfold I64; omega)
  simp; omega
 ·simp
theorem tail_len (c sep : UInt8) (l : BKVs) (N : Nat) (h : (lpsepT sep l).length ≤ N) : (ltailT c sep l).length ≤ N + 1 := by
 unfold ltailT lparT
 split <;> simp <;> omega
theorem ruri_len {u : LUri} (h : RUri u) : (luriT u).length ≤ 2200000 := by
 have h1 : u.scheme.length ≤ 4 := by rcases h.scheme with hs | hs <;> simp [hs, sipB, sipsB]
 have h2 : u.user.length ≤ 8192 := by rcases h.user with hs | hs; (· simp [hs]); (· exact textS_len hs)
 have h3 : u.pass.length ≤ 8192 := by rcases h.pass with hs | hs; (· simp [hs]); (· exact textS_len hs.2)
 have h4 := (textS_host h.host).2
 have h5 := port_len u.port h.port
 have h6 := tail_len 59 59 u.params _ (par_ok h.params).2.1
 have h7 := tail_len 63 38 u.hdrs _ (par_ok h.hdrs).2.2
 have h8 : (luserT u).length ≤ 16400 := by
  have := luser_len u
  omega
 simp only [luriT, List.length_append, List.length_cons, List.length_nil]
 omega
theorem sort_cases {t : Int} (h : 0 ≤ t ∧ t ≤ 14) : t = 0 ∨ t = 1 ∨ t = 2 ∨ t = 3 ∨ t = 4 ∨ t = 5 ∨ t = 6 ∨ t = 7 ∨ t = 8 ∨ t = 9 ∨ t = 10 ∨ t = 11 ∨ t = 12 ∨ t = 13 ∨ t = 14 := by omega
end
