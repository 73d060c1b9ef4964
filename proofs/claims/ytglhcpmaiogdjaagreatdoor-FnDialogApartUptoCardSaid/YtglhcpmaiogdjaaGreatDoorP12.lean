import Derived.Test.YtglhcpmaiogdjaaGreatDoorP11
import Derived.Shelf.Small.Strs
import Derived.Shelf.Small.Wraps
import Derived.Shelf.Strings.BuilderK
import Derived.Shelf.Strings.Builder2Cap
import Derived.Shelf.Strconv.Itoa3
import Derived.Shelf.Strconv.ErrVarAll
import Derived.Shelf.Pu.ParseUintPublic10
import Derived.Shelf.GgClosure.StringsRunes
import Derived.Shelf.Strings.TrimSpaceAny
import Derived.Shelf.Unicode.IsSpaceAnyD
import Derived.Shelf.Unicode.ExclAny
import Derived.Shelf.Strings.FuncGrows
set_option maxRecDepth 100000
set_option maxHeartbeats 16000000
set_option linter.all false
namespace Go.Proofs.YtglhcpmaiogdjaaGreatDoor
open Go.Lib (hid)
open Go.RowKit
def zeroKV : List Value := [.slice none 0 0, .slice none 0 0]
theorem lkv_info : (Tryz.prog.info? 69).map (fun i => (i.zero, i.size, i.bytes)) = some (some (.agg zeroKV.toArray), 2, 48) := by kernel_rfl
theorem flat_set1 (s : Nat) : ∀ (css : List (List Value)), (∀ c ∈ css, c.length = s) → ∀ (i j : Nat) (u : Value) (c : List Value), css[i]? = some c → j < s → css.flatten.set (i * s + j) u = (css.set i (c.set j u)).flatten
 | [], _, _, _, _, _, h, _ => by simp at h
 | c :: r, h, 0, j, u, c', hc, hj => by
  have h1 := h c (by simp)
  simp only [List.getElem?_cons_zero, Option.some.injEq] at hc
  subst hc
  rw [List.flatten_cons, Nat.zero_mul, Nat.zero_add, List.set_append_left _ _ (by omega), List.set_cons_zero, List.flatten_cons]
 | c :: r, h, i + 1, j, u, c', hc, hj => by
  have h1 := h c (by simp)
  rw [List.flatten_cons, List.set_append_right _ _ (by rw [Nat.succ_mul]; omega), h1, show (i + 1) * s + j - s = i * s + j by rw [Nat.succ_mul]; omega, flat_set1 s r (fun c hc => h c (by simp [hc])) i j u c' (by simpa using hc) hj, List.set_cons_succ, List.flatten_cons]
def OKs (w0 : World) (base : Nat) (w : World) (v : Value) (l : BKVs) : Prop := ∃ css : List (List Value), css.length = l.length ∧ w.ownsRow base 69 2 v l.length css.flatten ∧ ∀ i (h : i < l.length), ∃ vk vv, css[i]? = some [vk, vv] ∧ SB w0 vk l[i].1 ∧ SB w0 vv l[i].2
theorem OKs.form {w0 w : World} {base : Nat} {v : Value} {l : BKVs} (h : OKs w0 base w v l) : ∃ A c, v = .slice A l.length c := by
 obtain ⟨css, h1, h2, h3⟩ := h
 exact own_slice h2
theorem OKs.kept {w0 w w1 : World} {base : Nat} {v : Value} {l : BKVs} (h : OKs w0 base w v l) (hb : Below w.heap.size w w1) : OKs w0 base w1 v l := by
 obtain ⟨css, h1, h2, h3⟩ := h
 exact ⟨css, h1, World.ownsRow.kept (row := none) h2 ⟨hb.os, hb.tape, hb.output, hb.size, fun k hk _ => hb.block k hk⟩ (by cases v.ownBlock <;> simp), h3⟩
theorem OKs.all2 {l : BKVs} {w0 : World} {css : List (List Value)} (h1 : css.length = l.length) (h3 : ∀ i (h : i < l.length), ∃ vk vv, css[i]? = some [vk, vv] ∧ SB w0 vk l[i].1 ∧ SB w0 vv l[i].2) : ∀ c ∈ css, c.length = 2 := by
 intro c hc
 obtain ⟨i, hi, rfl⟩ := List.mem_iff_getElem.1 hc
 obtain ⟨vk, vv, e, _⟩ := h3 i (by omega)
 rw [List.getElem?_eq_getElem hi] at e
 injection e with e
 rw [e]
 rfl
theorem OKs.at_ {w0 w : World} {base : Nat} {v : Value} {l : BKVs} (H : OKs w0 base w v l) (i : Nat) (p : Bytes × Bytes) (hp : l[i]? = some p) : ∃ b c vk vv, ∃ lc : List Value, v = .slice (some ⟨b, 0, none⟩) l.length c ∧ base ≤ b ∧ w.heap[b]? = some (Obj.cells lc.toArray 69 (0, 0)) ∧ w.cell? ⟨b, i * 2, none⟩ = some vk ∧ w.cell? ⟨b, i * 2 + 1, none⟩ = some vv ∧ SB w0 vk p.1 ∧ SB w0 vv p.2 ∧
  ∀ (u : Value) (n : Bytes), SB w0 u n → OKs w0 base (w.setCell ⟨b, i * 2 + 1, none⟩ u) v (l.set i (p.1, n)) := by
 obtain ⟨hi, hpe⟩ := List.getElem?_eq_some_iff.1 hp
 subst hpe
 obtain ⟨css, h1, h2, h3⟩ := H
 have hall := OKs.all2 h1 h3
 obtain ⟨vk, vv, hcs, hk, hv⟩ := h3 i hi
 rcases h2 with ⟨k1, ⟨k2, k3⟩ | ⟨b, cap, cur, k3, k4, k5, k6, k7, k8, k9⟩⟩
 ·omega
 ·obtain ⟨lc, rfl⟩ : ∃ lc : List Value, cur = lc.toArray := ⟨cur.toList, by simp⟩
  simp only [List.size_toArray] at k8
  have k9' : lc.take (l.length * 2) = css.flatten := by simpa using k9
  have hll : l.length * 2 ≤ lc.length := by rw [k8]; exact Nat.mul_le_mul_right _ k6
  have hg : ∀ j, j < 2 → lc[i * 2 + j]? = ([vk, vv] : List Value)[j]? := by
   intro j hj
   have e1 : (css.flatten)[i * 2 + j]? = lc[i * 2 + j]? := by rw [← k9', List.getElem?_take_of_lt (by omega)]
   rw [← e1, flat_get 2 css hall i j hj, hcs]
   rfl
  have hc0 : w.cell? ⟨b, i * 2, none⟩ = some vk := by
   have := hg 0 (by omega)
   rw [blk_cell k5]
   simpa using this
  have hc1 : w.cell? ⟨b, i * 2 + 1, none⟩ = some vv := by
   have := hg 1 (by omega)
   rw [blk_cell k5]
   simpa using this
  refine ⟨b, cap, vk, vv, lc, k3, k4, k5, hc0, hc1, hk, hv, fun u n hu => ⟨css.set i [vk, u], by simp [h1], ⟨?_, .inr ⟨b, cap, (lc.set (i * 2 + 1) u).toArray, ?_, k4, ?_, ?_, k7, ?_, ?_⟩⟩, fun q hq => ?_⟩⟩
  ·have e := flat_set1 2 css hall i 1 u [vk, vv] hcs (by omega)
   have e2 : ([vk, vv] : List Value).set 1 u = [vk, u] := rfl
   rw [e2] at e
   rw [← e, List.length_set, k1, List.length_set]
  ·rw [k3, List.length_set]
  ·exact blk_set k5 (i * 2 + 1) u
  ·rw [List.length_set]; exact k6
  ·simp [k8]
  ·have e := flat_set1 2 css hall i 1 u [vk, vv] hcs (by omega)
   have e2 : ([vk, vv] : List Value).set 1 u = [vk, u] := rfl
   rw [e2] at e
   rw [← e, ← k9', List.length_set]
   simp only [List.take_set]
  ·rw [List.length_set] at hq
   by_cases hqi : q = i
   ·subst hqi
    exact ⟨vk, u, by simp [h1, hi], by simpa using hk, by simpa using hu⟩
   ·obtain ⟨vk2, vv2, e1, e2, e3⟩ := h3 q hq
    refine ⟨vk2, vv2, by rw [List.getElem?_set_ne (Ne.symm hqi)]; exact e1, ?_, ?_⟩
    ·rw [List.getElem_set_ne (Ne.symm hqi)]; exact e2
    ·rw [List.getElem_set_ne (Ne.symm hqi)]; exact e3
theorem SK.rows {w : World} {A : Option Addr} {n c : Nat} {l : BKVs} (h : SK w (.slice A n c) l) : n = l.length ∧ (A = none → n = 0 ∧ c = 0) ∧ ∃ css : List (List Value), css.length = l.length ∧ (∀ i (h : i < l.length), ∃ vk vv, css[i]? = some [vk, vv] ∧ SB w vk l[i].1 ∧ SB w vv l[i].2) ∧ ∀ ad, A = some ad → ∀ j u, css.flatten[j]? = some u → w.cell? (ad.add j) = some u := by
 obtain ⟨A1, c1, h1, h2, h3, h4, h5⟩ := h
 injection h1 with e1 e2 e3
 subst e1 e2 e3
 have hch : ∀ i, i < l.length → ∃ cs : List Value, ∃ hi : i < l.length, ∃ vk vv, cs = [vk, vv] ∧ SB w vk l[i].1 ∧ SB w vv l[i].2 ∧ ∀ ad, A = some ad → w.cell? (ad.add (i * 2)) = some vk ∧ w.cell? (ad.add (i * 2 + 1)) = some vv := by
  intro i hi
  obtain ⟨a, vk, vv, e, hc, hd, hk, hv⟩ := h5 i hi
  refine ⟨_, hi, vk, vv, rfl, hk, hv, fun ad h => ?_⟩
  rw [e] at h
  injection h with h
  subst h
  refine ⟨hc, ?_⟩
  have e9 : a.add (i * 2 + 1) = ⟨(a.add (i * 2)).block, (a.add (i * 2)).off + 1, none⟩ := by
   unfold Addr.add
   rw [if_neg (by omega)]
   by_cases hz : i * 2 = 0
   ·rw [if_pos hz, hz]
   ·rw [if_neg hz]
    simp [Nat.add_assoc]
  rw [e9]
  exact hd
 obtain ⟨css, k1, k2⟩ := choose_list l.length hch
 have hcs : ∀ i (h : i < l.length), ∃ vk vv, css[i]? = some [vk, vv] ∧ SB w vk l[i].1 ∧ SB w vv l[i].2 := by
  intro i hi
  obtain ⟨y, e1, hi2, vk, vv, rfl, e2, e3, _⟩ := k2 i hi
  exact ⟨vk, vv, e1, e2, e3⟩
 have hall := OKs.all2 (w0 := w) k1 hcs
 refine ⟨rfl, fun hA => ?_, css, k1, hcs, fun ad hA j u hj => ?_⟩
 ·obtain ⟨rfl, rfl⟩ := h4 hA
  exact ⟨rfl, rfl⟩
 ·have hjl := (List.getElem?_eq_some_iff.1 hj).1
  rw [flat_len 2 css hall, k1] at hjl
  obtain ⟨y, e1, hi2, vk, vv, rfl, e2, e3, e5⟩ := k2 (j / 2) (by omega)
  have e4 : j = j / 2 * 2 + j % 2 := by omega
  rw [e4, flat_get 2 css hall (j / 2) (j % 2) (by omega), e1] at hj
  rcases (show j % 2 = 0 ∨ j % 2 = 1 by omega) with hz | hz
  ·rw [hz] at hj e4
   have : u = vk := by simpa using hj.symm
   rw [this, e4]
   exact (e5 ad hA).1
  ·rw [hz] at hj e4
   have : u = vv := by simpa using hj.symm
   rw [this, e4]
   exact (e5 ad hA).2
def setK (k v : Bytes) (p : Bytes × Bytes) : Bytes × Bytes := if p.1 = k then (p.1, v) else p
theorem setK_step {l : BKVs} {k v : Bytes} {j : Nat} {p : Bytes × Bytes} (hp : l[j]? = some p) : ((l.take (j + 1)).map (setK k v) ++ l.drop (j + 1)) = ((l.take j).map (setK k v) ++ l.drop j).set j (setK k v p) := by
 obtain ⟨hj, rfl⟩ := List.getElem?_eq_some_iff.1 hp
 apply List.ext_getElem?
 intro q
 have h1 : ((l.take j).map (setK k v)).length = j := by simp; omega
 have h2 : ((l.take (j + 1)).map (setK k v)).length = j + 1 := by simp; omega
 by_cases hq : q = j
 ·subst hq
  rw [List.getElem?_append_left (by omega), List.getElem?_set_self (by simp; omega), List.getElem?_map, List.getElem?_take_of_lt (by omega), List.getElem?_eq_getElem hj]
  rfl
 ·rw [List.getElem?_set_ne (Ne.symm hq)]
  by_cases hl : q < j
  ·rw [List.getElem?_append_left (by omega), List.getElem?_append_left (by omega), List.getElem?_map, List.getElem?_map, List.getElem?_take_of_lt hl, List.getElem?_take_of_lt (by omega)]
  ·rw [List.getElem?_append_right (by omega), List.getElem?_append_right (by omega), h1, h2, List.getElem?_drop, List.getElem?_drop]
   congr 1
   omega
theorem setK_at {l : BKVs} {k v : Bytes} {j : Nat} {p : Bytes × Bytes} (hp : l[j]? = some p) : ((l.take j).map (setK k v) ++ l.drop j)[j]? = some p := by
 have h1 : ((l.take j).map (setK k v)).length = j := by have := (List.getElem?_eq_some_iff.1 hp).1; simp; omega
 rw [List.getElem?_append_right (by omega), h1, List.getElem?_drop, Nat.sub_self, Nat.add_zero]
 exact hp
theorem set_same {l : BKVs} {j : Nat} {p : Bytes × Bytes} (hp : l[j]? = some p) : l.set j p = l := by
 obtain ⟨hj, rfl⟩ := List.getElem?_eq_some_iff.1 hp
 exact List.set_getElem_self hj
def alnumB (c : UInt8) : Bool := letterB c || digitB c
theorem isalnum_any (v : Value) (l : Bytes) (w : World) (hS : SB w v l) : Calls Tryz.prog 24 #[v] w fun e w' => e = .returned (.bool (textS alnumB l)) ∧ w' = w := by
 have HS := hid hS
 obtain ⟨A, c, rfl, hlen⟩ := hS.form
 clear hS
 go_enter Tryz.func24, Tryz.ntmps24
 go_wp2_with fail
 go_loopw [3] (fun i wr => ∃ k : Nat, k ≤ l.length ∧ i = .int .i64 k ∧ (l.take k).all alnumB = true ∧ wr = w) (fun i _ => l.length - (intOf i).toNat)
 case atStart => exact ⟨0, Nat.zero_le _, rfl, by simp, rfl⟩
 case round =>
  obtain ⟨k, hk, rfl, hall, rfl⟩ := hrel
  have HA := hid hall
  clear hall
  by_cases hlt : k < l.length
  ·obtain ⟨a, c', d, e1, hc, hd⟩ := HS.out.get k hlt
   cases e1
   have HLT := hid (And.intro (Nat.succ_le_of_lt hlt) hd)
   clear hd
   cases hl : letterB d
   ·cases hg : digitB d
    ·have HH := hid (show alnumB d = false by simp [alnumB, hl, hg])
     go_wp2_with (first
      | (go_at_call 43; refine (isletter_any d _).mono ?_; rintro e w1 ⟨rfl, rfl⟩; rw [hl])
      | (go_at_call 44; refine (isdigit_any d _).mono ?_; rintro e w1 ⟨rfl, rfl⟩; rw [hg]))
     go_ret
     exact ⟨ret_bool (by rw [textS, all_false HLT.out.2 HH.out]; rfl), rfl⟩
    ·have HH := hid (show alnumB d = true by simp [alnumB, hg])
     go_wp2_with (first
      | (go_at_call 43; refine (isletter_any d _).mono ?_; rintro e w1 ⟨rfl, rfl⟩; rw [hl])
      | (go_at_call 44; refine (isdigit_any d _).mono ?_; rintro e w1 ⟨rfl, rfl⟩; rw [hg]))
     go_roundw
     case rel => exact ⟨k + 1, HLT.out.1, by simp, all_more HLT.out.2 HA.out HH.out, trivial⟩
     case measure => exact meas_step HLT.out.1 (by simp)
   ·have HH := hid (show alnumB d = true by simp [alnumB, hl])
    go_wp2_with (go_at_call 43; refine (isletter_any d _).mono ?_; rintro e w1 ⟨rfl, rfl⟩; rw [hl])
    go_roundw
    case rel => exact ⟨k + 1, HLT.out.1, by simp, all_more HLT.out.2 HA.out HH.out, trivial⟩
    case measure => exact meas_step HLT.out.1 (by simp)
  ·have hd := all_done hlt HA.out
   have HD := hid hd
   have hke : k = l.length := by omega
   subst hke
   clear hd
   go_wp2
   all_goals
    (go_ret
     refine ⟨ret_bool ?_, rfl⟩
     rw [textS, HD.out, Bool.eq_iff_iff]
     simp
     try omega)
def parH (h : LHead) (k v : Bytes) : LHead := { h with params := h.params.map (setK k v) }
theorem LH.params_at {w : World} {h : LHead} {l : List Value} (H : LH w h l) : ∃ v, l[14]? = some v ∧ SK w v h.params := by
 obtain ⟨a, b, c, ul, p, d, e, f, g, rfl, h1, h2, h3, hu, h5, -⟩ := H
 obtain ⟨u0, u1, u4, u5, u6, u8, u9, rfl, -⟩ := hu
 exact ⟨p, rfl, h5⟩
theorem LH.set_params {w : World} {h : LHead} {l : List Value} (H : LH w h l) {v : Value} {ps : BKVs} (hs : SK w v ps) : LH w { h with params := ps } (l.set 14 v) := by
 obtain ⟨a, b, c, ul, p, d, e, f, g, rfl, h1, h2, h3, hu, h5, h6⟩ := H
 have hul := hu.len
 refine ⟨a, b, c, ul, v, d, e, f, g, ?_, h1, h2, h3, hu, hs, h6⟩
 obtain ⟨u0, u1, u4, u5, u6, u8, u9, rfl, -⟩ := hu
 rfl
theorem OKs.stored {w0 w w' : World} {g base : Nat} {ty : TypeId} {l l0 : List Value} {v : Value} {ps : BKVs} (h : OKs w0 base w v ps) (k : Stored g ty l w w') (hg : w.heap[g]? = some (Obj.cells l0.toArray ty (0, 0))) (hne : 69 ≠ ty) : OKs w0 base w' v ps := by
 obtain ⟨css, h1, h2, h3⟩ := h
 exact ⟨css, h1, own_stored h2 k hg hne, h3⟩
theorem LHx.params_at {w0 w : World} {h : LHead} {l : List Value} (H : LHx w0 w h l) : ∃ v, l[14]? = some v ∧ SK w0 v h.params := by
 obtain ⟨a, b, c, ul, p, d, e, f, g, rfl, h1, h2, h3, hu, h5, -⟩ := H
 obtain ⟨u0, u1, u4, u5, u6, u8, u9, rfl, -⟩ := hu
 exact ⟨p, rfl, h5⟩
def keepT (t : TypeId) : Bool := t == 35 || t == 5 || t == 69
def keepB (n i : Nat) (o : Obj) : Bool := decide (i < n) || (match o with | .cells _ t _ => keepT t | _ => false)
def filterW (w : World) (n : Nat) : World := { w with heap := w.heap.mapIdx fun i o => if keepB n i o then o else .cells #[] 0 }
theorem filt_size (w : World) (n : Nat) : (filterW w n).heap.size = w.heap.size := by simp [filterW]
theorem filt_at (w : World) (n k : Nat) : (filterW w n).heap[k]? = (w.heap[k]?).map fun o => if keepB n k o then o else .cells #[] 0 := by
 simp only [filterW, Array.getElem?_mapIdx]
theorem filt_keep {w : World} {n k : Nat} {cs : Array Value} {t : TypeId} {fz : Nat × Nat} (h : w.heap[k]? = some (.cells cs t fz)) (hk : k < n ∨ keepT t = true) : (filterW w n).heap[k]? = some (.cells cs t fz) := by
 rw [filt_at, h]
 have : keepB n k (.cells cs t fz) = true := by
  unfold keepB
  rcases hk with hk | hk
  ·simp [hk]
  ·simp [hk]
 simp [this]
theorem filt_cell {w : World} {n : Nat} {a : Addr} {v : Value} (h : (filterW w n).cell? a = some v) : ∃ cs t fz, w.heap[a.block]? = some (.cells cs t fz) ∧ (a.block < n ∨ keepT t = true) ∧ a.spot.isSome = false ∧ cs[a.off]? = some v := by
 unfold World.cell? at h
 rw [filt_at] at h
 cases ho : w.heap[a.block]? with
 | none => rw [ho] at h; simp at h
 | some o =>
  rw [ho] at h
  simp only [Option.map_some] at h
  by_cases hk : keepB n a.block o = true
  ·rw [if_pos hk] at h
   cases o with
   | cells cs t fz =>
    dsimp only at h
    split at h
    ·simp at h
    ·rename_i hs
     refine ⟨cs, t, fz, rfl, ?_, by simpa using hs, h⟩
     unfold keepB at hk
     simp only [Bool.or_eq_true, decide_eq_true_eq] at hk
     exact hk
   | _ => simp at h
  ·rw [if_neg hk] at h
   dsimp only at h
   split at h <;> simp at h
theorem filt_sub (w : World) (n : Nat) : Sub (filterW w n) w := by
 refine ⟨by rw [filt_size]; exact Nat.le_refl _, fun a v h => ?_⟩
 obtain ⟨cs, t, fz, h1, _, h3, h4⟩ := filt_cell h
 unfold World.cell?
 rw [h1]
 simp [h3, h4]
theorem filt_step {w w' : World} {n : Nat} (hs : w.heap.size ≤ w'.heap.size) (h : ∀ (k : Nat) (cs : Array Value) (t : TypeId) (fz : Nat × Nat), w.heap[k]? = some (.cells cs t fz) → (k < n ∨ keepT t = true) → ∃ fz' : Nat × Nat, w'.heap[k]? = some (.cells cs t fz')) : Sub (filterW w n) (filterW w' n) := by
 refine ⟨by rw [filt_size, filt_size]; exact hs, fun a v hc => ?_⟩
 obtain ⟨cs, t, fz, h1, h2, h3, h4⟩ := filt_cell hc
 obtain ⟨fz', h5⟩ := h _ _ _ _ h1 h2
 unfold World.cell?
 rw [filt_keep h5 h2]
 simp [h3, h4]
theorem filt_ck {N n : Nat} {w w' : World} (h : CK N w w') : Sub (filterW w n) (filterW w' n) :=
 filt_step h.size fun _ _ _ fz hk _ => h.blk ⟨fz, hk⟩
theorem filt_below {n : Nat} {w w' : World} (h : Below w.heap.size w w') : Sub (filterW w n) (filterW w' n) := filt_ck (CK.of_below h (Nat.le_refl _))
theorem filt_stored {n g : Nat} {l l0 : List Value} {w w' : World} (k : Stored g 28 l w w') (hg : w.heap[g]? = some (Obj.cells l0.toArray 28 (0, 0))) (hn : n ≤ g) : Sub (filterW w n) (filterW w' n) :=
 filt_step (by rw [k.size]; exact Nat.le_refl _) fun j cs t fz hj hk => by
  refine ⟨fz, ?_⟩
  rw [k.other j (fun e => ?_)]
  ·exact hj
  ·subst e
   rw [hg] at hj
   injection hj with hj
   injection hj with _ hj _
   subst hj
   rcases hk with hk | hk
   ·omega
   ·exact absurd hk (by decide)
theorem LH.sub {w w' : World} {h : LHead} {l : List Value} (H : LH w h l) (hs : Sub w w') : LH w' h l := (H.x w').lh hs
theorem SHs.sub {w w' : World} {v : Value} {l : List LHead} (h : SHs w v l) (hb : Sub w w') : SHs w' v l := by
 obtain ⟨A, c, h1, h2, h3, h4, h5⟩ := h
 refine ⟨A, c, h1, h2, h3, h4, fun i hi => ?_⟩
 obtain ⟨a, cs, e, hc, hd⟩ := h5 i hi
 exact ⟨a, cs, e, hc.sub hb, fun j u hj => hb.cell _ _ (hd j u hj)⟩
theorem LM.sub {w w' : World} {m : LMsg} {l : List Value} (h : LM w m l) (hb : Sub w w') : LM w' m l := by
 obtain ⟨a, ul, b, c, hs, d, h0, h1, h2, h3, h4, h5, h6, h7⟩ := h
 exact ⟨a, ul, b, c, hs, d, h0, h1.sub hb, h2.sub hb, h3.sub hb, h4.sub hb, h5.sub hb, h6.sub hb, h7⟩
theorem sub_filt {w w' : World} {n : Nat} (h : Below w.heap.size w w') (hn : w.heap.size ≤ n) : Sub w (filterW w' n) := by
 refine ⟨by rw [filt_size]; exact h.size, fun a v hc => ?_⟩
 have hlt := World.block_lt_of_cell? w a hc
 have h2 := h.cell hlt
 rw [hc] at h2
 unfold World.cell? at h2 ⊢
 cases ho : w'.heap[a.block]? with
 | none => rw [ho] at h2; cases h2
 | some o =>
  rw [ho] at h2
  cases o with
  | cells cs t fz =>
   rw [filt_keep ho (.inl (by omega))]
   exact h2
  | _ => cases h2
theorem SBf.filt {b n : Nat} {w : World} {v : Value} {l : Bytes} (h : SBf b w v l) : SBf b (filterW w n) v l := by
 obtain ⟨k, cap, cs, fz, h1, h2, h3, h4, h5, h6⟩ := h
 exact ⟨k, cap, cs, fz, h1, h2, h3, h4, filt_keep h5 (.inr (by decide)), h6⟩
theorem SBx.filt {n : Nat} {w0 w : World} {v : Value} {l : Bytes} (h : SBx w0 w v l) : SBx w0 (filterW w n) v l := h.imp id SBf.filt
theorem LHx.filt {n : Nat} {w0 w : World} {h : LHead} {l : List Value} (H : LHx w0 w h l) : LHx w0 (filterW w n) h l := by
 obtain ⟨a, b, c, ul, p, d, e, f, g, h0, h1, h2, h3⟩ := H
 exact ⟨a, b, c, ul, p, d, e, f, g, h0, h1.filt, h2.filt, h3⟩
theorem OHs.filt {n base : Nat} {w0 w : World} {v : Value} {hs : List LHead} (H : OHs w0 base w v hs) : OHs w0 base (filterW w n) v hs := by
 obtain ⟨css, h1, h2, h3⟩ := H
 refine ⟨css, h1, ?_, fun i hi => ?_⟩
 ·rcases h2 with ⟨k1, k2 | ⟨b, cap, cur, k3, k4, k5, k6⟩⟩
  ·exact ⟨k1, .inl k2⟩
  ·exact ⟨k1, .inr ⟨b, cap, cur, k3, k4, filt_keep k5 (.inr (by decide)), k6⟩⟩
 ·obtain ⟨c, e1, e2⟩ := h3 i hi
  exact ⟨c, e1, e2.filt⟩
def LMh (n : Nat) (w : World) (m : LMsg) (l : List Value) : Prop := LM (filterW w n) m l
def LHh (n : Nat) (w : World) (h : LHead) (l : List Value) : Prop := LH (filterW w n) h l
theorem LMh.lm {n : Nat} {w : World} {m : LMsg} {l : List Value} (h : LMh n w m l) : LM w m l := LM.sub h (filt_sub w n)
theorem LHh.lh {n : Nat} {w : World} {m : LHead} {l : List Value} (h : LHh n w m l) : LH w m l := LH.sub h (filt_sub w n)
theorem LMh.ck {n N : Nat} {w w' : World} {m : LMsg} {l : List Value} (h : LMh n w m l) (k : CK N w w') : LMh n w' m l := LM.sub h (filt_ck k)
theorem LHh.ck {n N : Nat} {w w' : World} {m : LHead} {l : List Value} (h : LHh n w m l) (k : CK N w w') : LHh n w' m l := LH.sub h (filt_ck k)
theorem LMh.below {n : Nat} {w w' : World} {m : LMsg} {l : List Value} (h : LMh n w m l) (k : Below w.heap.size w w') : LMh n w' m l := LM.sub h (filt_below k)
theorem LHh.below {n : Nat} {w w' : World} {m : LHead} {l : List Value} (h : LHh n w m l) (k : Below w.heap.size w w') : LHh n w' m l := LH.sub h (filt_below k)
theorem LMh.stored {n g : Nat} {l1 l0 : List Value} {w w' : World} {m : LMsg} {l : List Value} (h : LMh n w m l) (k : Stored g 28 l1 w w') (hg : w.heap[g]? = some (Obj.cells l0.toArray 28 (0, 0))) (hn : n ≤ g) : LMh n w' m l := LM.sub h (filt_stored k hg hn)
theorem LHh.stored {n g : Nat} {l1 l0 : List Value} {w w' : World} {m : LHead} {l : List Value} (h : LHh n w m l) (k : Stored g 28 l1 w w') (hg : w.heap[g]? = some (Obj.cells l0.toArray 28 (0, 0))) (hn : n ≤ g) : LHh n w' m l := LH.sub h (filt_stored k hg hn)
theorem LM.h {n : Nat} {w w' : World} {m : LMsg} {l : List Value} (h : LM w m l) (hb : Below w.heap.size w w') (hn : w.heap.size ≤ n) : LMh n w' m l := LM.sub h (sub_filt hb hn)
theorem LHx.h {n : Nat} {w w' : World} {h : LHead} {l : List Value} (H : LHx w w' h l) (hb : Below w.heap.size w w') (hn : w.heap.size ≤ n) : LHh n w' h l := H.filt.lh (sub_filt hb hn)
def ChgH (n : Nat) (m : LMsg) (w : World) (e : Ending) (w' : World) : Prop := ∃ rs, e = .returned (.agg rs.toArray) ∧ LMh n w' m rs ∧ Below w.heap.size w w'
theorem changed_h (n : Nat) (m : LMsg) (h : LHead) (cs hcs : List Value) (w : World) (hM : LMh n w m cs) (hH : LHh n w h hcs) (hl : m.heads.length ≤ 1000) : Calls Tryz.prog 14 #[.agg cs.toArray, .agg hcs.toArray] w (ChgH n (chgM m h) w) :=
 (changed_x (filterW w n) m h cs hcs w hM hH (filt_sub w n) hl).mono fun _ w' ⟨rs, h1, h2, h3⟩ => by
  refine ⟨rs, h1, ?_, h3⟩
  have hs := filt_below (n := n) h3
  obtain ⟨a, ul, b, c, hs', d, k0, k1, k2, k3, k4, k5, k6, k7⟩ := h2
  exact ⟨a, ul, b, c, hs', d, k0, k1.sub hs, k2.sub hs, k3.sub hs, k4.sub hs, k5.filt.shs hs, k6.sub hs, k7⟩
def TagPost (w0 : World) (hcs : List Value) (ps : BKVs) (w : World) (e : Ending) (w' : World) : Prop := ∃ v, e = .returned (.agg (hcs.set 14 v).toArray) ∧ (∃ base, OKs w0 base w' v ps) ∧ Below w.heap.size w w'
theorem tagged_x (w0 : World) (h : LHead) (hcs : List Value) (x : Value) (tx : Bytes) (w : World) (hH : LH w0 h hcs) (hx : SB w0 x tx) (hw : Sub w0 w) (hl : h.params.length ≤ 1073741824) : Calls Tryz.prog 25 #[.agg hcs.toArray, x] w (TagPost w0 hcs (h.params.map (setK tagK tx)) w) := by
 have HW := hid hw
 clear hw
 have HLH := hid hH
 have HL := hid hl
 have HSV := hid hx
 have hone := (hH.x w).one
 have hlen := (hH.x w).len
 obtain ⟨vp, hvp, hsk⟩ := hH.params_at
 obtain ⟨Ap, cp, rfl, hpl⟩ := hsk.form
 obtain ⟨Ax, cx, rfl, hxl⟩ := hx.form
 obtain ⟨-, hA0, css, hc1, hc2, hc4⟩ := hsk.rows
 have HC1 := hid hc1
 have HC2 := hid hc2
 have HC4 := hid (And.intro hA0 hc4)
 have HONE := hid hone
 have HLEN := hid hlen
 have HVP := hid hvp
 obtain ⟨arg0, harg⟩ : ∃ arg0, arg0 = Value.agg hcs.toArray := ⟨_, rfl⟩
 clear hA0 hc1 hc2 hc4 hsk hH hx hl hone
 obtain ⟨y0, y1, y2, y3, y4, y5, y6, y7, y8, y9, y10, y11, y12, y13, y14, y15, y16, y17, y18, y19, y20, hhe⟩ := list21 hlen
 obtain rfl : y14 = .slice Ap h.params.length cp := by rw [hhe] at hvp; simpa using hvp
 subst hhe
 clear hvp hlen harg
 obtain ⟨wb, hwb⟩ : ∃ wb, wb = (w.alloc (.cells #[y0, y1, y2, y3, y4, y5, y6, y7, y8, y9, y10, y11, y12, y13, .slice Ap h.params.length cp, y15, y16, y17, y18, y19, y20] 35)).alloc (.cells #[.int .i64 0, .slice none 0 0, .slice none 0 0, .slice none 0 0, .slice none 0 0, .slice none 0 0, .bool false, .bool false, .slice none 0 0, .slice none 0 0, .slice none 0 0, .int .i64 0, .slice none 0 0, .slice none 0 0, .slice none 0 0, .int .u32 0, .slice none 0 0, .slice none 0 0, .slice none 0 0, .slice none 0 0, .int .i64 0] 35) := ⟨_, rfl⟩
 have HWB1 := hid (show wb.heap[w.heap.size]? = some (.cells ([y0, y1, y2, y3, y4, y5, y6, y7, y8, y9, y10, y11, y12, y13, .slice Ap h.params.length cp, y15, y16, y17, y18, y19, y20] : List Value).toArray 35 (0, 0)) by rw [hwb]; exact ((Below.refl _ _).alloc (Nat.le_refl _) _).block w.heap.size (by simp) |>.trans (heap_alloc_new w _))
 have HWB2 := hid (show wb.heap[w.heap.size + 1]? = some (.cells zeroH.toArray 35 (0, 0)) by rw [hwb]; have := heap_alloc_new (w.alloc (.cells #[y0, y1, y2, y3, y4, y5, y6, y7, y8, y9, y10, y11, y12, y13, .slice Ap h.params.length cp, y15, y16, y17, y18, y19, y20] 35)) (.cells #[.int .i64 0, .slice none 0 0, .slice none 0 0, .slice none 0 0, .slice none 0 0, .slice none 0 0, .bool false, .bool false, .slice none 0 0, .slice none 0 0, .slice none 0 0, .int .i64 0, .slice none 0 0, .slice none 0 0, .slice none 0 0, .int .u32 0, .slice none 0 0, .slice none 0 0, .slice none 0 0, .slice none 0 0, .int .i64 0] 35); rwa [World.size_alloc] at this)
 have HB0 := hid (show Below w.heap.size w wb by rw [hwb]; exact ((Below.refl _ w).alloc (Nat.le_refl _) _).alloc (by simp) _)
 have HSZ := hid (show wb.heap.size = w.heap.size + 2 by rw [hwb]; simp)
 have HAE := hid (show (wb.alloc (.cells #[] 69)).ownsRow wb.heap.size 69 2 (.slice (some ⟨wb.heap.size, 0, none⟩) 0 0) 0 [] from own_empty _ _ _ _ _ (heap_alloc_new wb _) (Nat.le_refl _))
 have HCA := hid (show ∀ ad, Ap = some ad → ∀ j u, css.flatten[j]? = some u → (wb.alloc (.cells #[] 69)).cell? (ad.add j) = some u from fun ad hA j u hj => cell_at_below (HW.out.cell _ _ (HC4.out.2 ad hA j u hj)) (HB0.out.trans (((Below.refl _ wb).alloc (Nat.le_refl _) _).mono HB0.out.size)))
 have HFL := hid (show css.flatten.length = h.params.length * 2 by rw [flat_len 2 css (OKs.all2 HC1.out HC2.out), HC1.out])
 have HF1 := hid (show ∀ u ∈ css.flatten, u.oneCell' = true from fun u hu => by
  obtain ⟨x, hx, hux⟩ := List.mem_flatten.1 hu
  obtain ⟨i, hi, rfl⟩ := List.mem_iff_getElem.1 hx
  obtain ⟨vk, vv, e1, e2, e3⟩ := HC2.out i (by have := HC1.out; omega)
  rw [List.getElem?_eq_getElem hi] at e1
  injection e1 with e1
  rw [e1] at hux
  simp only [List.mem_cons, List.not_mem_nil, or_false] at hux
  rcases hux with rfl | rfl
  ·exact e2.one
  ·exact e3.one)
 go_enter Tryz.func25, Tryz.ntmps25
 go_upto_region 1 with fail
 rw [← hwb]
 generalize Value.agg #[y0, y1, y2, y3, y4, y5, y6, y7, y8, y9, y10, y11, y12, y13, .slice Ap h.params.length cp, y15, y16, y17, y18, y19, y20] = arg0
 clear hwb
 have c14 := row_at HWB1.out 14 _ rfl
 have hltb : w.heap.size < wb.heap.size := heap_lt HWB1.out
 go_upto_region 2 with (at_builtin; refine app_all wb.heap.size rfl (.tmp 7) (.tmp 9) 23 69 (.agg zeroKV.toArray) 2 48 rfl Tryz.underlying23 lkv_info rfl (by decide) (by decide) (.slice (some ⟨wb.heap.size, 0, none⟩) 0 0) 0 [] css.flatten Ap h.params.length cp rfl rfl HFL.out HC4.out.1 HCA.out HF1.out HAE.out (by simp) (by have := HL.out; omega) ?_; intro v1 w1 ho1 hg1)
 have hb1 : Below wb.heap.size wb w1 := ((Below.refl _ wb).alloc (Nat.le_refl _) _).grown hg1 (by simp) (fun k hk => by simp [Value.ownBlock] at hk; omega)
 have HO := hid (show OKs w0 wb.heap.size w1 v1 h.params from ⟨css, HC1.out, by simpa using ho1, HC2.out⟩)
 obtain ⟨A1, c1, rfl⟩ := HO.out.form
 have HB1 := hid hb1
 clear ho1 hg1 hb1 c14 hltb
 go_wp2_with fail
 go_loopw [6] (fun i wr => ∃ j : Nat, j ≤ h.params.length ∧ i = .int .i64 j ∧ OKs w0 wb.heap.size wr (.slice A1 h.params.length c1) ((h.params.take j).map (setK tagK tx) ++ h.params.drop j) ∧ Below wb.heap.size wb wr) (fun i _ => h.params.length - (intOf i).toNat)
 case atStart => exact ⟨0, Nat.zero_le _, rfl, by simpa using HO.out, HB1.out⟩
 case round =>
  obtain ⟨j, hj, rfl, hoh, hb⟩ := hrel
  obtain ⟨wo, rfl⟩ : ∃ wo : World, wo = wr := ⟨_, rfl⟩
  have OKJ := hid hoh
  have HBJ := hid hb
  have HBW := hid (HB0.out.trans (hb.mono HB0.out.size))
  have hln : (h.params.length : Int) ≤ 1073741824 := by have := HL.out; omega
  clear hoh hb
  by_cases hlt : j < h.params.length
  ·have hi1 : (j : Int) < h.params.length := by omega
   have hi0 : (0 : Int) ≤ j := by omega
   obtain ⟨p, hp⟩ : ∃ p, h.params[j]? = some p := ⟨_, List.getElem?_eq_getElem hlt⟩
   have hjl : ((h.params.take j).map (setK tagK tx) ++ h.params.drop j).length = h.params.length := by simp; omega
   obtain ⟨rb, rc, vk, vv, lc, hv, hbl, hbh, d0, d1, hk1, hv1, -⟩ := OKJ.out.at_ j p (setK_at hp)
   rw [hjl] at hv
   obtain ⟨rfl, rfl⟩ : A1 = some ⟨rb, 0, none⟩ ∧ c1 = rc := by simpa using hv
   have HIS := hid (is_any vk p.1 ⟨#[116, 97, 103]⟩ wo ((hk1.sub HW.out).below HBW.out) (by show (3 : Nat) ≤ _; omega))
   have HLT := hid (And.intro (Nat.succ_le_of_lt hlt) hp)
   have HBL := hid hbl
   obtain ⟨Ak, ck, rfl, nk⟩ := hk1.form
   clear hk1 hv1 hp hbh hv hbl hlt hj
   by_cases hm : p.1 = tagK
   ·have HD := hid (show ∀ e : Ending, e = .returned (.bool (decide (p.1 = (⟨#[116, 97, 103]⟩ : ByteArray).data.toList))) → e = .returned (.bool true) from fun e h => by rw [h]; exact ret_bool (by simpa [tagK] using hm))
    have HM := hid (show setK tagK tx p = (p.1, tx) by unfold setK; rw [if_pos hm])
    clear hm
    go_upto_region 6 with (go_at_call 9; refine HIS.out.mono ?_; rintro e w1 ⟨he, hb1⟩; have he' := HD.out e he; subst he'; have HB2 := hid hb1; clear he hb1)
    obtain ⟨rb2, rc2, vk2, vv2, lc2, hv2, hbl2, hbh2, f0, f1, -, -, hput⟩ := (OKJ.out.kept HB2.out).at_ j p (setK_at HLT.out.2)
    obtain rfl : rb = rb2 := by
     injection hv2 with h1 _ _
     injection h1 with h1
     injection h1
    have fz := blk_frozen hbh2 (j * 2 + 1)
    have HPUT := hid (hput _ tx HSV.out)
    have HBZ := hid (show Below wb.heap.size wb (w1.setCell ⟨rb, j * 2 + 1, none⟩ (.slice Ax tx.length cx)) from (HBJ.out.trans (HB2.out.mono HBJ.out.size)).setCell (p := ⟨rb, j * 2 + 1, none⟩) HBL.out _)
    clear hput hbh2 hbl2 hv2 d0 d1 hjl
    go_wp2
    go_roundw
    case rel =>
     refine ⟨j + 1, HLT.out.1, by simp, ?_, HBZ.out⟩
     rw [setK_step HLT.out.2, HM.out]
     exact HPUT.out
    case measure => exact meas_step HLT.out.1 (by simp)
   ·have HD := hid (show ∀ e : Ending, e = .returned (.bool (decide (p.1 = (⟨#[116, 97, 103]⟩ : ByteArray).data.toList))) → e = .returned (.bool false) from fun e h => by rw [h]; exact ret_bool (by simpa [tagK] using hm))
    have HM := hid (show setK tagK tx p = p by unfold setK; rw [if_neg hm])
    clear hm hjl
    go_wp2_with (go_at_call 9; refine HIS.out.mono ?_; rintro e w1 ⟨he, hb1⟩; have he' := HD.out e he; subst he'; have HB2 := hid hb1; clear he hb1)
    go_roundw
    case rel =>
     refine ⟨j + 1, HLT.out.1, by simp, ?_, HBJ.out.trans (HB2.out.mono HBJ.out.size)⟩
     rw [setK_step HLT.out.2, HM.out, set_same (setK_at HLT.out.2)]
     exact OKJ.out.kept HB2.out
    case measure => exact meas_step HLT.out.1 (by simp)
  ·have hke : j = h.params.length := by omega
   subst hke
   have HOF := hid (show OKs w0 wb.heap.size wo (.slice A1 h.params.length c1) (h.params.map (setK tagK tx)) by simpa using OKJ.out)
   have hnl : ¬ ((h.params.length : Nat) : Int) < h.params.length := by omega
   clear hlt hj
   have HG1 := hid ((HBJ.out.block w.heap.size (by have := HSZ.out; omega)).trans HWB1.out)
   have HG2 := hid ((HBJ.out.block (w.heap.size + 1) (by have := HSZ.out; omega)).trans HWB2.out)
   have k14 := row_at HG1.out 14 _ rfl
   have z14 := blk_frozen HG1.out 14
   have hlt0 := heap_lt HG1.out
   obtain ⟨wq, hwq⟩ : ∃ wq, wq = wo.setCell ⟨w.heap.size, 14, none⟩ (.slice A1 h.params.length c1) := ⟨_, rfl⟩
   have HS1 := hid (show Stored w.heap.size 35 [y0, y1, y2, y3, y4, y5, y6, y7, y8, y9, y10, y11, y12, y13, .slice A1 h.params.length c1, y15, y16, y17, y18, y19, y20] wo wq by rw [hwq]; exact stored_set HG1.out 14 _)
   have HG3 := hid ((HS1.out.other (w.heap.size + 1) (by omega)).trans HG2.out)
   go_upto_region 8 with fail
   rw [← hwq]
   clear hwq
   go_wp2_with (first
    | (refine wpList_load_blk (by rfl) 35 (.tmp 2) (by rfl) w.heap.size 35 (0, 0) [y0, y1, y2, y3, y4, y5, y6, y7, y8, y9, y10, y11, y12, y13, .slice A1 h.params.length c1, y15, y16, y17, y18, y19, y20] (by rfl) HS1.out.blk _ Tryz.underlying35 rfl 21 head_size rfl ?_)
    | (refine wpList_store_blk (by rfl) 35 (.tmp 4) (.tmp 30) (by rfl) (w.heap.size + 1) 35 zeroH [y0, y1, y2, y3, y4, y5, y6, y7, y8, y9, y10, y11, y12, y13, .slice A1 h.params.length c1, y15, y16, y17, y18, y19, y20] (by rfl) (by rfl) rfl HG3.out 21 head_size rfl (by have := HONE.out; simpa [List.all_cons, Value.oneCell'] using this) ?_; intro W4 hst4; have HST4 := hid hst4; clear hst4)
    | fail)
   have HBF := hid (show Below w.heap.size w W4 from HB0.out.trans ((HBJ.out.mono HB0.out.size).trans ((HS1.out.below).trans (HST4.out.below.mono (by omega)))))
   have HOZ := hid (show OKs w0 wb.heap.size W4 (.slice A1 h.params.length c1) (h.params.map (setK tagK tx)) from (HOF.out.stored HS1.out HG1.out (by decide)).stored HST4.out HG3.out (by decide))
   refine ret_cell 4 35 ⟨w.heap.size + 1, 0, none⟩ [y0, y1, y2, y3, y4, y5, y6, y7, y8, y9, y10, y11, y12, y13, .slice A1 h.params.length c1, y15, y16, y17, y18, y19, y20] _ rfl rfl (row_cells HST4.out.blk) Tryz.underlying35 rfl 21 head_size rfl rfl ⟨_, rfl, ⟨_, HOZ.out⟩, HBF.out⟩
theorem OKs.filt {n base : Nat} {w0 w : World} {v : Value} {l : BKVs} (H : OKs w0 base w v l) : OKs w0 base (filterW w n) v l := by
 obtain ⟨css, h1, h2, h3⟩ := H
 refine ⟨css, h1, ?_, h3⟩
 rcases h2 with ⟨k1, k2 | ⟨b, cap, cur, k3, k4, k5, k6⟩⟩
 ·exact ⟨k1, .inl k2⟩
 ·exact ⟨k1, .inr ⟨b, cap, cur, k3, k4, filt_keep k5 (.inr (by decide)), k6⟩⟩
theorem OKs.sks {w0 w : World} {base : Nat} {v : Value} {l : BKVs} (H : OKs w0 base w v l) (hw : Sub w0 w) : SK w v l := by
 have H0 := H
 obtain ⟨css, h1, h2, h3⟩ := H
 rcases h2 with ⟨k1, ⟨rfl, k3⟩ | ⟨b, cap, cur, rfl, k4, k5, k6, k7, k8, k9⟩⟩
 ·have hl0 : l = [] := List.eq_nil_of_length_eq_zero k3
  subst hl0
  exact SK.nil _
 ·refine ⟨some ⟨b, 0, none⟩, cap, rfl, k6, by simpa [maxLen] using k7, fun h => (by cases h), fun i hi => ?_⟩
  obtain ⟨b2, c2, vk, vv, lc, e1, _, _, e4, e5, e6, e7, _⟩ := H0.at_ i _ (List.getElem?_eq_getElem hi)
  injection e1 with e1 _ _
  injection e1 with e1
  injection e1 with e1 _ _
  subst e1
  refine ⟨⟨b, 0, none⟩, vk, vv, rfl, ?_, ?_, e6.sub hw, e7.sub hw⟩
  ·rw [Addr.add_lit, Nat.zero_add]; exact e4
  ·rw [Addr.add_lit, Nat.zero_add]; exact e5
theorem tagged_h (n : Nat) (h : LHead) (hcs : List Value) (x : Value) (tx : Bytes) (w : World) (hH : LHh n w h hcs) (hx : SB (filterW w n) x tx) (hl : h.params.length ≤ 1073741824) : Calls Tryz.prog 25 #[.agg hcs.toArray, x] w fun e w' => ∃ rs, e = .returned (.agg rs.toArray) ∧ LHh n w' (parH h tagK tx) rs ∧ Below w.heap.size w w' :=
 (tagged_x (filterW w n) h hcs x tx w hH hx (filt_sub w n) hl).mono fun _ _ ⟨_, h1, ⟨_, h2⟩, h3⟩ => ⟨_, h1, (LH.sub hH (filt_below h3)).set_params (h2.filt.sks (filt_below h3)), h3⟩
end Go.Proofs.YtglhcpmaiogdjaaGreatDoor
namespace Go.Proofs
open Go.Shelf
def Tryz.lays169_ren : Go.Shelf.Ren := ⟨fun | 169 => 84 | n => n, fun | 70 => 146 | 9 => 9 | 0 => 0 | 72 => 148 | 37 => 22 | 127 => 193 | 3 => 3 | 5 => 5 | n => n, fun | n => n⟩
theorem Tryz.lays169 : Go.Proofs.Lays.n169 Tryz.prog Tryz.lays169_ren := {
 mixed := by kernel_rfl
 f169 := Tryz.func84.trans (congrArg some (by kernel_rfl))
 t0 := Tryz.underlying0
 a0 := Tryz.isAgg0
 z0 := Tryz.sizeOf0
 v0 := Tryz.zeroValue0
 t3 := Tryz.underlying3
 a3 := Tryz.isAgg3
 z3 := Tryz.sizeOf3
 v3 := Tryz.zeroValue3
 t9 := Tryz.underlying9
 a9 := Tryz.isAgg9
 z9 := Tryz.sizeOf9
 v9 := Tryz.zeroValue9
 t37 := Tryz.underlying22
 a37 := Tryz.isAgg22
 z37 := Tryz.sizeOf22
 v37 := Tryz.zeroValue22
 t70 := Tryz.underlying146
 a70 := Tryz.isAgg146
 z70 := Tryz.sizeOf146
 v70 := Tryz.zeroValue146
 t72 := Tryz.underlying148
 a72 := Tryz.isAgg148
 z72 := Tryz.sizeOf148
 v72 := Tryz.zeroValue148
 t127 := Tryz.underlying193
 a127 := Tryz.isAgg193
 z127 := Tryz.sizeOf193
 v127 := Tryz.zeroValue193 }
theorem Tryz.Builder_Extra_169 : Builder.Extra Tryz.prog Tryz.lays169_ren := {
 sizeBuilder := by kernel_rfl
 liesBuilder := by kernel_rfl
 t5 := Tryz.underlying5
 a5 := Tryz.isAgg5
 z5 := Tryz.sizeOf5
 v5 := Tryz.zeroValue5
 infoByte := by kernel_rfl
 cellsByte := by kernel_rfl
 sizeByte := by kernel_rfl
 neB5 := by decide }
def Tryz.lays165_ren : Go.Shelf.Ren := ⟨fun | 165 => 88 | 240 => 103 | 241 => 104 | 276 => 113 | 277 => 114 | n => n, fun | 70 => 146 | 3 => 3 | 0 => 0 | 4 => 4 | 9 => 9 | 20 => 20 | 72 => 148 | 37 => 22 | 164 => 199 | 5 => 5 | n => n, fun | n => n⟩
theorem Tryz.lays165 : Go.Proofs.Lays.n165 Tryz.prog Tryz.lays165_ren := {
 mixed := by kernel_rfl
 f165 := Tryz.func88.trans (congrArg some (by kernel_rfl))
 f240 := Tryz.func103.trans (congrArg some (by kernel_rfl))
 f241 := Tryz.func104.trans (congrArg some (by kernel_rfl))
 f276 := Tryz.func113.trans (congrArg some (by kernel_rfl))
 f277 := Tryz.func114.trans (congrArg some (by kernel_rfl))
 t0 := Tryz.underlying0
 a0 := Tryz.isAgg0
 z0 := Tryz.sizeOf0
 v0 := Tryz.zeroValue0
 t3 := Tryz.underlying3
 a3 := Tryz.isAgg3
 z3 := Tryz.sizeOf3
 v3 := Tryz.zeroValue3
 t4 := Tryz.underlying4
 a4 := Tryz.isAgg4
 z4 := Tryz.sizeOf4
 v4 := Tryz.zeroValue4
 t9 := Tryz.underlying9
 a9 := Tryz.isAgg9
 z9 := Tryz.sizeOf9
 v9 := Tryz.zeroValue9
 t20 := Tryz.underlying20
 a20 := Tryz.isAgg20
 z20 := Tryz.sizeOf20
 v20 := Tryz.zeroValue20
 t37 := Tryz.underlying22
 a37 := Tryz.isAgg22
 z37 := Tryz.sizeOf22
 v37 := Tryz.zeroValue22
 t70 := Tryz.underlying146
 a70 := Tryz.isAgg146
 z70 := Tryz.sizeOf146
 v70 := Tryz.zeroValue146
 t72 := Tryz.underlying148
 a72 := Tryz.isAgg148
 z72 := Tryz.sizeOf148
 v72 := Tryz.zeroValue148
 t164 := Tryz.underlying199
 a164 := Tryz.isAgg199
 z164 := Tryz.sizeOf199
 v164 := Tryz.zeroValue199 }
theorem Tryz.Builder_Extra_165 : Builder.Extra Tryz.prog Tryz.lays165_ren := {
 sizeBuilder := by kernel_rfl
 liesBuilder := by kernel_rfl
 t5 := Tryz.underlying5
 a5 := Tryz.isAgg5
 z5 := Tryz.sizeOf5
 v5 := Tryz.zeroValue5
 infoByte := by kernel_rfl
 cellsByte := by kernel_rfl
 sizeByte := by kernel_rfl
 neB5 := by decide }
open Go.RowKit in
theorem Tryz.Builder_Grow_fresh (B b n : Nat) (w : World) (hB : B ≤ b) (hbk : w.heap[b]? = some (.cells #[.pointer none, .slice none 0 0] 148 (0, 0))) (hBw : B ≤ w.heap.size) (hn : n ≤ 281474976710656) :
  Calls Tryz.prog 88 #[.pointer (some ⟨b, 0, none⟩), .int .i64 n] w fun e w' => e = .returned (.tuple #[]) ∧ (Lib.BuilderAt 148 5 B b (.pointer (some ⟨b, 0, none⟩)) [] w' ∧ Below B w w') := Any.Builder_Grow_fresh Tryz.lays165 Tryz.Builder_Extra_165 B b n w hB hbk hBw hn
def Tryz.lays103_ren : Go.Shelf.Ren := ⟨fun | 103 => 108 | 210 => 115 | 206 => 101 | n => n, fun | 9 => 9 | 4 => 4 | 24 => 152 | 3 => 3 | n => n, fun | n => n⟩
theorem Tryz.lays103 : Go.Proofs.Lays.n103 Tryz.prog Tryz.lays103_ren := {
 mixed := by kernel_rfl
 f103 := Tryz.func108.trans (congrArg some (by kernel_rfl))
 f206 := Tryz.func101.trans (congrArg some (by kernel_rfl))
 f210 := Tryz.func115.trans (congrArg some (by kernel_rfl))
 t3 := Tryz.underlying3
 a3 := Tryz.isAgg3
 z3 := Tryz.sizeOf3
 v3 := Tryz.zeroValue3
 t4 := Tryz.underlying4
 a4 := Tryz.isAgg4
 z4 := Tryz.sizeOf4
 v4 := Tryz.zeroValue4
 t9 := Tryz.underlying9
 a9 := Tryz.isAgg9
 z9 := Tryz.sizeOf9
 v9 := Tryz.zeroValue9
 t24 := Tryz.underlying152
 a24 := Tryz.isAgg152
 z24 := Tryz.sizeOf152
 v24 := Tryz.zeroValue152 }
open Go.RowKit in
theorem Tryz.strings_CutPrefix (s p : ByteArray) (w : World) :
  Calls Tryz.prog 108 #[.string s, .string p] w fun e w' => e = .returned (.tuple #[.string ⟨(Lib.trimPrefix s.data.toList p.data.toList).toArray⟩, .bool (Lib.hasPrefix s.data.toList p.data.toList)]) ∧ w' = w := Any.strings_CutPrefix Tryz.lays103 s p w
open Go.RowKit in
theorem Tryz.Builder_String_any_k (B b : Nat) (l : List UInt8) (w : World) (h : Lib.IsBuilderF 148 5 B b (Lib.byteCells l) w) (hBw : B ≤ w.heap.size) :
  Calls Tryz.prog 84 #[.pointer (some ⟨b, 0, none⟩)] w fun e w' => e = .returned (.string ⟨l.toArray⟩) ∧ (Lib.IsBuilderF 148 5 B b (Lib.byteCells l) w' ∧ Below B w w' ∧ Lib.OthersKept 5 (some b) w w') := Any.Builder_String_any_k Tryz.lays169 Tryz.Builder_Extra_169 B b l w h hBw
def Tryz.laysM171_ren : Go.Shelf.Ren := ⟨fun | 171 => 98 | 243 => 111 | 246 => 119 | 283 => 127 | 284 => 128 | 285 => 129 | 286 => 130 | 129 => 139 | 317 => 138 | 318 => 140 | 319 => 141 | 320 => 142 | 337 => 152 | 338 => 153 | n => n, fun | 3 => 3 | 9 => 9 | 2 => 2 | 4 => 4 | 171 => 210 | 0 => 0 | 53 => 211 | 37 => 22 | 5 => 5 | 173 => 214 | 212 => 230 | 51 => 33 | 20 => 20 | 213 => 231 | 46 => 232 | 232 => 260 | 233 => 261 | n => n, fun | 17 => 1 | 18 => 4 | 19 => 5 | n => n⟩
theorem Tryz.laysM171 : Go.Proofs.LaysM.n171 Tryz.prog Tryz.laysM171_ren := {
 mixed := by kernel_rfl
 f129 := Tryz.func139.trans (congrArg some (by kernel_rfl))
 f171 := Tryz.func98.trans (congrArg some (by kernel_rfl))
 f243 := Tryz.func111.trans (congrArg some (by kernel_rfl))
 f246 := Tryz.func119.trans (congrArg some (by kernel_rfl))
 f283 := Tryz.func127.trans (congrArg some (by kernel_rfl))
 f284 := Tryz.func128.trans (congrArg some (by kernel_rfl))
 f285 := Tryz.func129.trans (congrArg some (by kernel_rfl))
 f286 := Tryz.func130.trans (congrArg some (by kernel_rfl))
 f317 := Tryz.func138.trans (congrArg some (by kernel_rfl))
 f318 := Tryz.func140.trans (congrArg some (by kernel_rfl))
 f319 := Tryz.func141.trans (congrArg some (by kernel_rfl))
 f320 := Tryz.func142.trans (congrArg some (by kernel_rfl))
 f337 := Tryz.func152.trans (congrArg some (by kernel_rfl))
 f338 := Tryz.func153.trans (congrArg some (by kernel_rfl))
 t0 := Tryz.underlying0
 a0 := Tryz.isAgg0
 z0 := Tryz.sizeOf0
 v0 := Tryz.zeroValue0
 t2 := Tryz.underlying2
 a2 := Tryz.isAgg2
 z2 := Tryz.sizeOf2
 v2 := Tryz.zeroValue2
 t3 := Tryz.underlying3
 a3 := Tryz.isAgg3
 z3 := Tryz.sizeOf3
 v3 := Tryz.zeroValue3
 t4 := Tryz.underlying4
 a4 := Tryz.isAgg4
 z4 := Tryz.sizeOf4
 v4 := Tryz.zeroValue4
 t5 := Tryz.underlying5
 a5 := Tryz.isAgg5
 z5 := Tryz.sizeOf5
 v5 := Tryz.zeroValue5
 t9 := Tryz.underlying9
 a9 := Tryz.isAgg9
 z9 := Tryz.sizeOf9
 v9 := Tryz.zeroValue9
 t20 := Tryz.underlying20
 a20 := Tryz.isAgg20
 z20 := Tryz.sizeOf20
 v20 := Tryz.zeroValue20
 t37 := Tryz.underlying22
 a37 := Tryz.isAgg22
 z37 := Tryz.sizeOf22
 v37 := Tryz.zeroValue22
 t46 := Tryz.underlying232
 a46 := Tryz.isAgg232
 z46 := Tryz.sizeOf232
 v46 := Tryz.zeroValue232
 t51 := Tryz.underlying33
 a51 := Tryz.isAgg33
 z51 := Tryz.sizeOf33
 v51 := Tryz.zeroValue33
 t53 := Tryz.underlying211
 a53 := Tryz.isAgg211
 z53 := Tryz.sizeOf211
 v53 := Tryz.zeroValue211
 t171 := Tryz.underlying210
 a171 := Tryz.isAgg210
 z171 := Tryz.sizeOf210
 v171 := Tryz.zeroValue210
 t173 := Tryz.underlying214
 a173 := Tryz.isAgg214
 z173 := Tryz.sizeOf214
 v173 := Tryz.zeroValue214
 t212 := Tryz.underlying230
 a212 := Tryz.isAgg230
 z212 := Tryz.sizeOf230
 v212 := Tryz.zeroValue230
 t213 := Tryz.underlying231
 a213 := Tryz.isAgg231
 z213 := Tryz.sizeOf231
 t232 := Tryz.underlying260
 a232 := Tryz.isAgg260
 z232 := Tryz.sizeOf260
 v232 := Tryz.zeroValue260
 t233 := Tryz.underlying261
 a233 := Tryz.isAgg261
 z233 := Tryz.sizeOf261
 v233 := Tryz.zeroValue261
 g17 := by kernel_rfl
 g18 := by kernel_rfl
 g19 := by kernel_rfl
 i0 := by kernel_rfl
 i2 := by kernel_rfl
 i3 := by kernel_rfl
 i4 := by kernel_rfl
 i5 := by kernel_rfl
 i9 := by kernel_rfl
 i20 := by kernel_rfl
 i37 := by kernel_rfl
 i46 := by kernel_rfl
 i51 := by kernel_rfl
 i53 := by kernel_rfl
 i171 := by kernel_rfl
 i173 := by kernel_rfl
 i212 := by kernel_rfl
 i232 := by kernel_rfl
 i233 := by kernel_rfl
 m17 := by kernel_rfl
 m18 := by kernel_rfl
 m19 := by kernel_rfl }
open Go.RowKit Go.Sort Go.Lib in
theorem Tryz.strconv_Itoa (n : Int) (h0 : -9223372036854775808 ≤ n) (h1 : n ≤ 9223372036854775807) (w : World) (htab : Lib.TabIs Tryz.prog w "internal/strconv.uint64pow10" .u64 Lib.pow10Tab) :
  Calls Tryz.prog 98 #[.int .i64 n] w fun e w' => e = .returned (.string ⟨(Lib.itoa n).toArray⟩) ∧ ∃ k os, w' = grow (w.drewN k) os := Any.strconv_Itoa Tryz.laysM171 n h0 h1 w htab
def Tryz.laysC172_ren : Go.Shelf.Ren := ⟨fun | 172 => 132 | 244 => 143 | 245 => 144 | 247 => 154 | 279 => 155 | 280 => 156 | 281 => 157 | 282 => 158 | 287 => 168 | 316 => 169 | 171 => 98 | 205 => 76 | 321 => 175 | 322 => 176 | 243 => 111 | 246 => 119 | 283 => 127 | 284 => 128 | 285 => 129 | 286 => 130 | 129 => 139 | 317 => 138 | 318 => 140 | 319 => 141 | 320 => 142 | 337 => 152 | 338 => 153 | n => n, fun | 9 => 9 | 3 => 3 | 75 => 71 | 76 => 159 | 4 => 4 | 5 => 5 | 167 => 243 | 37 => 22 | 0 => 0 | 85 => 244 | 2 => 2 | 168 => 246 | 53 => 211 | 175 => 262 | 46 => 232 | 210 => 265 | 127 => 193 | 145 => 173 | 143 => 171 | 21 => 21 | 171 => 210 | 173 => 214 | 212 => 230 | 51 => 33 | 20 => 20 | 213 => 231 | 232 => 260 | 233 => 261 | 80 => 94 | n => n, fun | 15 => 6 | 16 => 7 | 17 => 1 | 18 => 4 | 19 => 5 | n => n⟩
theorem Tryz.laysC172 : Go.Proofs.LaysC.n172 Tryz.prog Tryz.laysC172_ren := {
 mixed := by kernel_rfl
 f129 := Tryz.func139.trans (congrArg some (by kernel_rfl))
 f171 := Tryz.func98.trans (congrArg some (by kernel_rfl))
 f172 := Tryz.func132.trans (congrArg some (by kernel_rfl))
 f205 := Tryz.func76.trans (congrArg some (by kernel_rfl))
 f243 := Tryz.func111.trans (congrArg some (by kernel_rfl))
 f244 := Tryz.func143.trans (congrArg some (by kernel_rfl))
 f245 := Tryz.func144.trans (congrArg some (by kernel_rfl))
 f246 := Tryz.func119.trans (congrArg some (by kernel_rfl))
 f247 := Tryz.func154.trans (congrArg some (by kernel_rfl))
 f279 := Tryz.func155.trans (congrArg some (by kernel_rfl))
 f280 := Tryz.func156.trans (congrArg some (by kernel_rfl))
 f281 := Tryz.func157.trans (congrArg some (by kernel_rfl))
 f282 := Tryz.func158.trans (congrArg some (by kernel_rfl))
 f283 := Tryz.func127.trans (congrArg some (by kernel_rfl))
 f284 := Tryz.func128.trans (congrArg some (by kernel_rfl))
 f285 := Tryz.func129.trans (congrArg some (by kernel_rfl))
 f286 := Tryz.func130.trans (congrArg some (by kernel_rfl))
 f287 := Tryz.func168.trans (congrArg some (by kernel_rfl))
 f316 := Tryz.func169.trans (congrArg some (by kernel_rfl))
 f317 := Tryz.func138.trans (congrArg some (by kernel_rfl))
 f318 := Tryz.func140.trans (congrArg some (by kernel_rfl))
 f319 := Tryz.func141.trans (congrArg some (by kernel_rfl))
 f320 := Tryz.func142.trans (congrArg some (by kernel_rfl))
 f321 := Tryz.func175.trans (congrArg some (by kernel_rfl))
 f322 := Tryz.func176.trans (congrArg some (by kernel_rfl))
 f337 := Tryz.func152.trans (congrArg some (by kernel_rfl))
 f338 := Tryz.func153.trans (congrArg some (by kernel_rfl))
 t0 := Tryz.underlying0
 a0 := Tryz.isAgg0
 z0 := Tryz.sizeOf0
 v0 := Tryz.zeroValue0
 t2 := Tryz.underlying2
 a2 := Tryz.isAgg2
 z2 := Tryz.sizeOf2
 v2 := Tryz.zeroValue2
 t3 := Tryz.underlying3
 a3 := Tryz.isAgg3
 z3 := Tryz.sizeOf3
 v3 := Tryz.zeroValue3
 t4 := Tryz.underlying4
 a4 := Tryz.isAgg4
 z4 := Tryz.sizeOf4
 v4 := Tryz.zeroValue4
 t5 := Tryz.underlying5
 a5 := Tryz.isAgg5
 z5 := Tryz.sizeOf5
 v5 := Tryz.zeroValue5
 t9 := Tryz.underlying9
 a9 := Tryz.isAgg9
 z9 := Tryz.sizeOf9
 v9 := Tryz.zeroValue9
 t20 := Tryz.underlying20
 a20 := Tryz.isAgg20
 z20 := Tryz.sizeOf20
 v20 := Tryz.zeroValue20
 t21 := Tryz.underlying21
 a21 := Tryz.isAgg21
 z21 := Tryz.sizeOf21
 v21 := Tryz.zeroValue21
 t37 := Tryz.underlying22
 a37 := Tryz.isAgg22
 z37 := Tryz.sizeOf22
 v37 := Tryz.zeroValue22
 t46 := Tryz.underlying232
 a46 := Tryz.isAgg232
 z46 := Tryz.sizeOf232
 v46 := Tryz.zeroValue232
 t51 := Tryz.underlying33
 a51 := Tryz.isAgg33
 z51 := Tryz.sizeOf33
 v51 := Tryz.zeroValue33
 t53 := Tryz.underlying211
 a53 := Tryz.isAgg211
 z53 := Tryz.sizeOf211
 v53 := Tryz.zeroValue211
 t75 := Tryz.underlying71
 a75 := Tryz.isAgg71
 z75 := Tryz.sizeOf71
 v75 := Tryz.zeroValue71
 t76 := Tryz.underlying159
 a76 := Tryz.isAgg159
 z76 := Tryz.sizeOf159
 v76 := Tryz.zeroValue159
 t85 := Tryz.underlying244
 a85 := Tryz.isAgg244
 z85 := Tryz.sizeOf244
 v85 := Tryz.zeroValue244
 t127 := Tryz.underlying193
 a127 := Tryz.isAgg193
 z127 := Tryz.sizeOf193
 v127 := Tryz.zeroValue193
 t143 := Tryz.underlying171
 a143 := Tryz.isAgg171
 z143 := Tryz.sizeOf171
 v143 := Tryz.zeroValue171
 t145 := Tryz.underlying173
 a145 := Tryz.isAgg173
 z145 := Tryz.sizeOf173
 v145 := Tryz.zeroValue173
 t167 := Tryz.underlying243
 a167 := Tryz.isAgg243
 z167 := Tryz.sizeOf243
 v167 := Tryz.zeroValue243
 t168 := Tryz.underlying246
 a168 := Tryz.isAgg246
 z168 := Tryz.sizeOf246
 v168 := Tryz.zeroValue246
 t171 := Tryz.underlying210
 a171 := Tryz.isAgg210
 z171 := Tryz.sizeOf210
 v171 := Tryz.zeroValue210
 t173 := Tryz.underlying214
 a173 := Tryz.isAgg214
 z173 := Tryz.sizeOf214
 v173 := Tryz.zeroValue214
 t175 := Tryz.underlying262
 a175 := Tryz.isAgg262
 z175 := Tryz.sizeOf262
 v175 := Tryz.zeroValue262
 t210 := Tryz.underlying265
 a210 := Tryz.isAgg265
 z210 := Tryz.sizeOf265
 v210 := Tryz.zeroValue265
 t212 := Tryz.underlying230
 a212 := Tryz.isAgg230
 z212 := Tryz.sizeOf230
 v212 := Tryz.zeroValue230
 t213 := Tryz.underlying231
 a213 := Tryz.isAgg231
 z213 := Tryz.sizeOf231
 t232 := Tryz.underlying260
 a232 := Tryz.isAgg260
 z232 := Tryz.sizeOf260
 v232 := Tryz.zeroValue260
 t233 := Tryz.underlying261
 a233 := Tryz.isAgg261
 z233 := Tryz.sizeOf261
 v233 := Tryz.zeroValue261
 g15 := by kernel_rfl
 g16 := by kernel_rfl
 g17 := by kernel_rfl
 g18 := by kernel_rfl
 g19 := by kernel_rfl
 t80 := Tryz.underlying94
 a80 := Tryz.isAgg94
 z80 := Tryz.sizeOf94
 v80 := Tryz.zeroValue94
 i0 := by kernel_rfl
 i2 := by kernel_rfl
 i3 := by kernel_rfl
 i4 := by kernel_rfl
 i5 := by kernel_rfl
 i9 := by kernel_rfl
 i20 := by kernel_rfl
 i21 := by kernel_rfl
 i37 := by kernel_rfl
 i46 := by kernel_rfl
 i51 := by kernel_rfl
 i53 := by kernel_rfl
 i75 := by kernel_rfl
 i76 := by kernel_rfl
 i80 := by kernel_rfl
 i85 := by kernel_rfl
 i127 := by kernel_rfl
 i143 := by kernel_rfl
 i145 := by kernel_rfl
 i167 := by kernel_rfl
 i168 := by kernel_rfl
 i171 := by kernel_rfl
 i173 := by kernel_rfl
 i175 := by kernel_rfl
 i210 := by kernel_rfl
 i212 := by kernel_rfl
 i232 := by kernel_rfl
 i233 := by kernel_rfl
 m15 := by kernel_rfl
 m16 := by kernel_rfl
 m17 := by kernel_rfl
 m18 := by kernel_rfl
 m19 := by kernel_rfl
 c0 := by kernel_rfl
 c2 := by kernel_rfl
 c3 := by kernel_rfl
 c4 := by kernel_rfl
 c5 := by kernel_rfl
 c9 := by kernel_rfl
 c20 := by kernel_rfl
 c21 := by kernel_rfl
 c37 := by kernel_rfl
 c46 := by kernel_rfl
 c51 := by kernel_rfl
 c53 := by kernel_rfl
 c75 := by kernel_rfl
 c76 := by kernel_rfl
 c80 := by kernel_rfl
 c85 := by kernel_rfl
 c127 := by kernel_rfl
 c143 := by kernel_rfl
 c145 := by kernel_rfl
 c167 := by kernel_rfl
 c168 := by kernel_rfl
 c171 := by kernel_rfl
 c173 := by kernel_rfl
 c175 := by kernel_rfl
 c210 := by kernel_rfl
 c212 := by kernel_rfl
 c213 := by kernel_rfl
 c232 := by kernel_rfl
 c233 := by kernel_rfl }
open Go.RowKit in
theorem Tryz.strconv_Atoi_ok (s : ByteArray) (hmax : s.size ≤ 9223372036854775806) (v : Int) (h : Lib.atoiAll s.data.toList = .ok v) (w : World) :
  Calls Tryz.prog 132 #[.string s] w fun e w' => e = .returned (.tuple #[.int .i64 v, .nilIface]) ∧ (w' = w ∨ ∃ t, w' = Lib.bytesWorld w 5 t) := Any.strconv_Atoi_ok Tryz.laysC172 s hmax v h w
open Go.RowKit in
theorem Tryz.strconv_Atoi_syntax (s : ByteArray) (hlim : s.size ≤ 281474976710656) (h1 : ∀ v, Lib.atoiAll s.data.toList ≠ .ok v) (h2 : Lib.atoiAll s.data.toList ≠ .range) (ev : Value) (w : World) (hv : w.cell? ⟨6, 0, none⟩ = some ev) (hev : ev = .nilIface ∨ ∃ te pe, ev = .iface te pe) :
  Calls Tryz.prog 132 #[.string s] w fun e w' => ∃ N, e = .returned (.tuple #[.int .i64 (0), .iface 246 (.pointer (some ⟨N, 0, none⟩))]) ∧ w.heap.size ≤ N ∧ w'.heap[N]? = some (.cells #[.string ⟨#[65, 116, 111, 105]⟩, .string s, ev] 265 (0, 0)) ∧ Below w.heap.size w w' := Any.strconv_Atoi_syntax Tryz.laysC172 s hlim (by cases e : Lib.atoiAll s.data.toList with | ok v => exact absurd e (h1 v) | range => exact absurd e h2 | _ => rfl) ev w hv hev
open Go.RowKit in
theorem Tryz.strconv_Atoi_range (s : ByteArray) (hlim : s.size ≤ 281474976710656) (h : Lib.atoiAll s.data.toList = .range) (ev : Value) (w : World) (hv : w.cell? ⟨7, 0, none⟩ = some ev) (hev : ev = .nilIface ∨ ∃ te pe, ev = .iface te pe) :
  Calls Tryz.prog 132 #[.string s] w fun e w' => ∃ N, e = .returned (.tuple #[.int .i64 (Lib.atoiSat s.data.toList), .iface 246 (.pointer (some ⟨N, 0, none⟩))]) ∧ w.heap.size ≤ N ∧ w'.heap[N]? = some (.cells #[.string ⟨#[65, 116, 111, 105]⟩, .string s, ev] 265 (0, 0)) ∧ Below w.heap.size w w' := Any.strconv_Atoi_range Tryz.laysC172 s hlim h ev w hv hev
def Tryz.lays272_ren : Go.Shelf.Ren := ⟨fun | 272 => 145 | 315 => 159 | n => n, fun | 9 => 9 | 40 => 175 | 4 => 4 | 3 => 3 | 0 => 0 | 21 => 21 | n => n, fun | n => n⟩
theorem Tryz.lays272 : Go.Proofs.Lays.n272 Tryz.prog Tryz.lays272_ren := {
 mixed := by kernel_rfl
 f272 := Tryz.func145.trans (congrArg some (by kernel_rfl))
 f315 := Tryz.func159.trans (congrArg some (by kernel_rfl))
 t0 := Tryz.underlying0
 a0 := Tryz.isAgg0
 z0 := Tryz.sizeOf0
 v0 := Tryz.zeroValue0
 t3 := Tryz.underlying3
 a3 := Tryz.isAgg3
 z3 := Tryz.sizeOf3
 v3 := Tryz.zeroValue3
 t4 := Tryz.underlying4
 a4 := Tryz.isAgg4
 z4 := Tryz.sizeOf4
 v4 := Tryz.zeroValue4
 t9 := Tryz.underlying9
 a9 := Tryz.isAgg9
 z9 := Tryz.sizeOf9
 v9 := Tryz.zeroValue9
 t21 := Tryz.underlying21
 a21 := Tryz.isAgg21
 z21 := Tryz.sizeOf21
 v21 := Tryz.zeroValue21
 t40 := Tryz.underlying175
 a40 := Tryz.isAgg175
 z40 := Tryz.sizeOf175
 v40 := Tryz.zeroValue175 }
def Tryz.lays199_ren : Go.Shelf.Ren := ⟨fun | 199 => 146 | 261 => 160 | 311 => 170 | 312 => 171 | n => n, fun | 21 => 21 | 4 => 4 | 51 => 33 | 141 => 251 | 0 => 0 | 196 => 269 | 193 => 266 | 3 => 3 | 198 => 272 | 49 => 270 | 194 => 267 | 201 => 275 | 226 => 279 | 46 => 232 | 227 => 280 | n => n, fun | 6 => 3 | n => n⟩
theorem Tryz.lays199 : Go.Proofs.Lays.n199 Tryz.prog Tryz.lays199_ren := {
 mixed := by kernel_rfl
 f199 := Tryz.func146.trans (congrArg some (by kernel_rfl))
 f261 := Tryz.func160.trans (congrArg some (by kernel_rfl))
 f311 := Tryz.func170.trans (congrArg some (by kernel_rfl))
 f312 := Tryz.func171.trans (congrArg some (by kernel_rfl))
 t0 := Tryz.underlying0
 a0 := Tryz.isAgg0
 z0 := Tryz.sizeOf0
 v0 := Tryz.zeroValue0
 t3 := Tryz.underlying3
 a3 := Tryz.isAgg3
 z3 := Tryz.sizeOf3
 v3 := Tryz.zeroValue3
 t4 := Tryz.underlying4
 a4 := Tryz.isAgg4
 z4 := Tryz.sizeOf4
 v4 := Tryz.zeroValue4
 t21 := Tryz.underlying21
 a21 := Tryz.isAgg21
 z21 := Tryz.sizeOf21
 v21 := Tryz.zeroValue21
 t46 := Tryz.underlying232
 a46 := Tryz.isAgg232
 z46 := Tryz.sizeOf232
 v46 := Tryz.zeroValue232
 t49 := Tryz.underlying270
 a49 := Tryz.isAgg270
 z49 := Tryz.sizeOf270
 v49 := Tryz.zeroValue270
 t51 := Tryz.underlying33
 a51 := Tryz.isAgg33
 z51 := Tryz.sizeOf33
 v51 := Tryz.zeroValue33
 t141 := Tryz.underlying251
 a141 := Tryz.isAgg251
 z141 := Tryz.sizeOf251
 v141 := Tryz.zeroValue251
 t193 := Tryz.underlying266
 a193 := Tryz.isAgg266
 z193 := Tryz.sizeOf266
 v193 := Tryz.zeroValue266
 t194 := Tryz.underlying267
 a194 := Tryz.isAgg267
 z194 := Tryz.sizeOf267
 v194 := Tryz.zeroValue267
 t196 := Tryz.underlying269
 a196 := Tryz.isAgg269
 z196 := Tryz.sizeOf269
 v196 := Tryz.zeroValue269
 t198 := Tryz.underlying272
 a198 := Tryz.isAgg272
 z198 := Tryz.sizeOf272
 v198 := Tryz.zeroValue272
 t201 := Tryz.underlying275
 a201 := Tryz.isAgg275
 z201 := Tryz.sizeOf275
 v201 := Tryz.zeroValue275
 t226 := Tryz.underlying279
 a226 := Tryz.isAgg279
 z226 := Tryz.sizeOf279
 v226 := Tryz.zeroValue279
 t227 := Tryz.underlying280
 a227 := Tryz.isAgg280
 z227 := Tryz.sizeOf280
 v227 := Tryz.zeroValue280
 g6 := by kernel_rfl }
open Go.RowKit Go.Lib in
theorem Tryz.unicode_IsSpace_any (r : Int) (w : World) (hlo : -2147483648 ≤ r) (hhi : r ≤ 2147483647) (hW : Lib.WhiteTab 3 w) :
  Calls Tryz.prog 146 #[.int .i32 r] w fun e w' => e = .returned (.bool (Lib.isSpaceZ r)) ∧ Below w.heap.size w w' := Any.unicode_IsSpace_any Tryz.lays199 r w hlo hhi hW
open Go.RowKit Go.Lib in
theorem Tryz.strings_TrimLeftFunc_grows (g : Nat) (lb : Array Value) (eg : ∀ args w, (callFunc g args).run Tryz.prog w = .ok (.enter g args) w) (p : Nat → Bool) (s : ByteArray) (w : World) (hp : PredGrows Tryz.prog g lb p w) :
  Calls Tryz.prog 145 #[.string s, .func (.func g) #[] lb] w fun e w' => e = .returned (.string (Lib.trimLeftF p s)) ∧ Below w.heap.size w w' := Any.strings_TrimLeftFunc_grows Tryz.lays272 g lb eg p s w hp
end Go.Proofs
