import Derived.Test.YtocajelknojkbaaGreatDoorK10
set_option maxRecDepth 100000
set_option maxHeartbeats 16000000
set_option linter.all false
namespace Go.Proofs.YtocajelknojkbaaGreatDoor
section
open Go.Lib (hid)
open Go.RowKit
def URepO (n0 : Nat) (w : World) (g : Nat) (u : SUri) : Prop := ∃ vp vh, n0 ≤ g ∧ w.heap[g]? = some (.cells (uriV u vp vh).toArray 107 (0, 0)) ∧ w.ownsRow n0 207 2 vp u.params.length (kvCells u.params) ∧
 w.ownsRow n0 207 2 vh u.hdrs.length (kvCells u.hdrs) ∧ ∀ k, vp.ownBlock = some k → vh.ownBlock ≠ some k
theorem URepO.below {n0 g : Nat} {w w' : World} {u : SUri} (h : URepO n0 w g u) (hb : Below w.heap.size w w') : URepO n0 w' g u := by
 obtain ⟨vp, vh, h1, h2, h3, h4, h5⟩ := h
 have hg : w.grownBy w' none := ⟨hb.os, hb.tape, hb.output, hb.size, fun k hk _ => hb.block k hk⟩
 exact ⟨vp, vh, h1, (hb.block g (heap_lt h2)).trans h2, h3.kept hg (by cases vp.ownBlock <;> simp), h4.kept hg (by cases vh.ownBlock <;> simp), h5⟩
theorem own_set {w : World} {b g : Nat} {e t : TypeId} {size n : Nat} {v : Value} {xs : List Value} {cs : Array Value} {fz : Nat × Nat} (h : w.ownsRow b e size v n xs) (hg : w.heap[g]? = some (.cells cs t fz)) (hne : e ≠ t) (i : Nat) (x : Value) : (w.setCell ⟨g, i, none⟩ x).ownsRow b e size v n xs :=
 h.kept (row := some g) ⟨rfl, rfl, rfl, by simp [World.setCell], fun k _ hkg => Below.heap_setCell _ _ _ _ (fun e1 => hkg (by rw [e1]))⟩ (.inr (Ne.symm (own_ne_block h hg hne)))
theorem URepO.set {n0 g : Nat} {w : World} {u : SUri} (h : URepO n0 w g u) (i : Nat) (x : Value) (u' : SUri) (hu : ∀ vp vh, (uriV u vp vh).set i x = uriV u' vp vh) (hp : u'.params = u.params) (hh : u'.hdrs = u.hdrs) :
  URepO n0 (w.setCell ⟨g, i, none⟩ x) g u' ∧ Below n0 w (w.setCell ⟨g, i, none⟩ x) := by
 obtain ⟨vp, vh, h1, h2, h3, h4, h5⟩ := h
 refine ⟨⟨vp, vh, h1, ?_, ?_, ?_, h5⟩, (Below.refl _ _).setCell (p := ⟨g, i, none⟩) h1 _⟩
 ·rw [blk_set h2, hu]
 ·rw [hp]; exact own_set h3 h2 (by decide) i x
 ·rw [hh]; exact own_set h4 h2 (by decide) i x
theorem URepO.cells {n0 g : Nat} {w : World} {u : SUri} (h : URepO n0 w g u) : w.cell? ⟨g, 0, none⟩ = some (.string u.scheme) ∧ w.cell? ⟨g, 1, none⟩ = some (.string u.raw) ∧ w.cell? ⟨g, 2, none⟩ = some (.bool u.star) ∧ w.cell? ⟨g, 3, none⟩ = some (.bool u.slashes) ∧
  w.cell? ⟨g, 4, none⟩ = some (.string u.user) ∧ w.cell? ⟨g, 5, none⟩ = some (.string u.pass) ∧ w.cell? ⟨g, 6, none⟩ = some (.string u.host) ∧ w.cell? ⟨g, 7, none⟩ = some (.int .i64 u.port) ∧ ∀ i, w.frozen? ⟨g, i, none⟩ = false := by
 obtain ⟨vp, vh, h1, h2, h3, h4, h5⟩ := h
 refine ⟨?_, ?_, ?_, ?_, ?_, ?_, ?_, ?_, fun i => blk_frozen h2 i⟩ <;> rw [blk_cell h2] <;> rfl
def cutSl (l : Bytes) : Bytes × Bool := (Lib.trimPrefix l [47, 47], Lib.hasPrefix l [47, 47])
def stFn : Nat → Value := fun n => .func (.func n) #[] #[]
theorem slashes_any (n0 g : Nat) (u : SUri) (s : ByteArray) (w : World) (hU : URepO n0 w g u) :
  Calls Tryz.prog 115 #[.pointer (some ⟨g, 0, none⟩), .string s] w fun e w' => e = .returned (.tuple #[stFn 133, .string ⟨(cutSl s.data.toList).1.toArray⟩, .nilIface]) ∧ URepO n0 w' g { u with slashes := (cutSl s.data.toList).2 } ∧ Below n0 w w' := by
 obtain ⟨c0, c1, c2, c3, c4, c5, c6, c7, hf⟩ := hU.cells
 have f3 := hf 3
 have HU := hid (hU.set 3 (.bool (Lib.hasPrefix s.data.toList [47, 47])) { u with slashes := (cutSl s.data.toList).2 } (fun _ _ => rfl) rfl rfl)
 clear hU hf
 go_enter Tryz.func115, Tryz.ntmps115
 go_wp2_with fail
 refine (Tryz.strings_CutPrefix _ _ _).mono ?_
 rintro e w1 ⟨rfl, rfl⟩
 go_wp2
 go_ret3
 exact ⟨rfl, HU.out⟩
end
section
open Go.Lib (hid)
theorem get_at (s : ByteArray) (i : Nat) (h : i < s.size) : s.get! i = s[i]'h := by
 unfold ByteArray.get!
 exact getElem!_pos s.data i h
theorem decode_skip (s : ByteArray) (pos j : Nat) (h1 : 1 ≤ j) (h2 : j < (Utf8.decode s pos).2) : ∃ h : pos + j < s.size, 128 ≤ (s[pos + j]'h).toNat := by
 have key : pos + j < s.size ∧ (s.get! (pos + j)).toNat / 64 = 2 := by
  unfold Utf8.decode at h2
  simp only at h2
  split at h2
  ·simp at h2; omega
  ·split at h2
   ·rename_i hc
    simp only [Bool.and_eq_true, decide_eq_true_eq, beq_iff_eq] at hc
    split at h2
    ·obtain rfl : j = 1 := by simp at h2; omega
     exact hc.2
    ·simp at h2; omega
   ·split at h2
    ·rename_i hc
     simp only [Bool.and_eq_true, decide_eq_true_eq, beq_iff_eq] at hc
     split at h2
     ·rcases (show j = 1 ∨ j = 2 by simp at h2; omega) with rfl | rfl
      ·exact hc.1.2
      ·exact hc.2
     ·simp at h2; omega
    ·split at h2
     ·rename_i hc
      simp only [Bool.and_eq_true, decide_eq_true_eq, beq_iff_eq] at hc
      split at h2
      ·rcases (show j = 1 ∨ j = 2 ∨ j = 3 by simp at h2; omega) with rfl | rfl | rfl
       ·exact hc.1.1.2
       ·exact hc.1.2
       ·exact hc.2
      ·simp at h2; omega
     ·simp at h2; omega
 refine ⟨key.1, ?_⟩
 rw [← get_at]
 omega
theorem next_rune (s : ByteArray) (pos : Nat) (h : pos < s.size) : ∃ r n : Nat, Utf8.decode s pos = (r, n) ∧ 1 ≤ n ∧ pos + n ≤ s.size ∧ (∀ j, 1 ≤ j → j < n → ∃ h : pos + j < s.size, 128 ≤ (s[pos + j]'h).toNat) ∧
  ((s[pos]'h).toNat < 128 → r = (s[pos]'h).toNat ∧ n = 1) ∧ (128 ≤ (s[pos]'h).toNat → 128 ≤ r) ∧ r ≤ 2147483647 := by
 refine ⟨(Utf8.decode s pos).1, (Utf8.decode s pos).2, rfl, ?_, ?_, fun j h1 h2 => decode_skip s pos j h1 h2, ?_, ?_, decode_le s pos⟩
 ·by_cases ha : (s[pos]'h).toNat < 128
  ·rw [decode_ascii s pos h ha]; exact Nat.le_refl _
  ·exact (decode_high s pos h (by omega)).2
 ·by_cases h1 : (Utf8.decode s pos).2 ≤ 1
  ·omega
  ·obtain ⟨h2, _⟩ := decode_skip s pos ((Utf8.decode s pos).2 - 1) (by omega) (by omega)
   omega
 ·intro ha
  rw [decode_ascii s pos h ha]
  exact ⟨rfl, rfl⟩
 ·exact fun ha => (decode_high s pos h ha).1
end
section
open Go.Lib (hid)
open Go.RowKit
theorem ext_mid (s : ByteArray) (i j : Nat) (h : j ≤ s.size) : s.extract i j = ⟨((s.data.toList.take j).drop i).toArray⟩ := by
 apply Go.WideShapes.bytes_inj
 simp [ByteArray.data_extract, Array.toList_extract, List.extract_eq_take_drop, List.drop_take]
theorem ext_from (s : ByteArray) (i : Nat) : s.extract i s.size = ⟨(s.data.toList.drop i).toArray⟩ := by
 rw [ext_mid s i s.size (Nat.le_refl _), List.take_of_length_le (by rw [dl]; exact Nat.le_refl _)]
theorem URepO.le {n0 g : Nat} {w : World} {u : SUri} (h : URepO n0 w g u) : n0 ≤ w.heap.size := by
 obtain ⟨vp, vh, h1, h2, _⟩ := h
 exact Nat.le_trans h1 (Nat.le_of_lt (heap_lt h2))
def userScan : Bytes → Nat → Nat → Option (Bool × Nat × Nat)
 | [], _, _ => none
 | c :: r, i, e => if c = 91 then some (false, i, e) else if c = 64 then some (true, i, e) else userScan r (i + 1) (if c = 58 then i else e)
theorem userScan_skip (n : Nat) : ∀ (l : Bytes) (i e : Nat), n ≤ l.length → (∀ j (hj : j < l.length), j < n → l[j] ≠ 91 ∧ l[j] ≠ 64 ∧ l[j] ≠ 58) → userScan l i e = userScan (l.drop n) (i + n) e := by
 induction n with
 | zero => intro l i e _ _; rfl
 | succ n ih =>
  intro l i e hn h
  cases l with
  | nil => exact absurd hn (by simp)
  | cons c r =>
   have h0 := h 0 (by simp) (by omega)
   simp only [List.getElem_cons_zero] at h0
   rw [userScan, if_neg h0.1, if_neg h0.2.1, if_neg h0.2.2, List.drop_succ_cons, ih r (i + 1) e (by simpa using hn) (fun j hj hjn => h (j + 1) (by simpa using hj) (by omega))]
   congr 1
   omega
def userS (l : Bytes) (u : SUri) : Bytes × SUri :=
 match userScan l 0 0 with
 | none => (l, u)
 | some (false, i, _) => (l.drop i, u)
 | some (true, i, e) => (l.drop (i + 1), if 0 < e then { u with user := ⟨(l.take e).toArray⟩, pass := ⟨((l.take i).drop (e + 1)).toArray⟩ } else { u with user := ⟨(l.take i).toArray⟩ })
theorem user_any (n0 g : Nat) (u : SUri) (s : ByteArray) (w : World) (hU : URepO n0 w g u) (hs : s.size ≤ 70368744177664) :
  Calls Tryz.prog 133 #[.pointer (some ⟨g, 0, none⟩), .string s] w fun e w' => e = .returned (.tuple #[stFn 141, .string ⟨(userS s.data.toList u).1.toArray⟩, .nilIface]) ∧ URepO n0 w' g (userS s.data.toList u).2 ∧ Below n0 w w' := by
 have HU := hid hU
 have HS := hid (And.intro hs (dl s))
 clear hU hs
 go_enter Tryz.func133, Tryz.ntmps133
 go_wp2_with fail
 go_loopw [7, 8, 9] (fun ev _ _ wr => ∃ pos e : Nat, pos ≤ s.size ∧ (e < pos ∨ e = 0) ∧ ev = .int .i64 e ∧ userScan s.data.toList 0 0 = userScan (s.data.toList.drop pos) pos e ∧ wr.heap[w.heap.size]? = some (.stringIter s pos) ∧ Below w.heap.size w wr) (fun _ _ _ wr => s.size - wr.iterPos w.heap.size)
 case atStart => exact ⟨0, 0, Nat.zero_le _, .inr rfl, rfl, rfl, by simpa using World.iter_heap w s 0, (Below.refl _ w).alloc (Nat.le_refl _) _⟩
 case round =>
  obtain ⟨k, e, hk, he, rfl, hsc, hit, hb⟩ := hrel
  have HB := hid hb
  have HSC := hid hsc
  have HE := hid (And.intro hk he)
  clear hsc hk he
  by_cases hlt : k < s.size
  ·obtain ⟨r, n, hdec, hn1, hn2, hskip, hlow, hhigh, hmax⟩ := next_rune s k hlt
   have hnx : ∀ ty, (Instr.next (.pointer (some ⟨w.heap.size, 0, none⟩)) true ty).run Tryz.prog wr = .ok (.tuple #[.bool true, .int .i64 k, .int .i32 r]) (wr.iterAt w.heap.size s (k + n)) := fun ty => by
    rw [Lib.run_next_any_at wr w.heap.size s k ty hit hlt, hdec]
   have hit2 := Lib.iterAt_heap wr w.heap.size s k (k + n) hit
   have hb2 := Lib.below_iterAt hb (k := w.heap.size) (Nat.le_refl _) s (k + n)
   have HIP := hid (show wr.iterPos w.heap.size = k by simp only [World.iterPos, hit])
   obtain ⟨w1, hw1⟩ : ∃ w1, w1 = wr.iterAt w.heap.size s (k + n) := ⟨_, rfl⟩
   rw [← hw1] at hnx hit2 hb2
   have HI2 := hid hit2
   have HB2 := hid hb2
   have HN := hid (And.intro hn1 hn2)
   have HU1 := hid (HU.out.below hb2)
   obtain ⟨c, hc⟩ : ∃ c, s[k]'hlt = c := ⟨_, rfl⟩
   rw [hc] at hlow hhigh
   have hdrop : s.data.toList.drop k = c :: s.data.toList.drop (k + 1) := by
    rw [List.drop_eq_getElem_cons (by rw [← HS.out.2]; exact hlt), ← hc]
    rfl
   have HD := hid hdrop
   have HSK := hid hskip
   have HLT := hid hlt
   clear hw1 hit hit2 hb hb2 hdec hn1 hn2 hc hdrop hskip
   by_cases h91 : c.toNat = 91
   ·obtain ⟨rfl, rfl⟩ := hlow (by omega)
    have hr : (c.toNat : Int) = 91 := by omega
    rw [hr] at hnx
    clear hlow hhigh hmax
    have hkb : (k : Int) ≤ s.size := by omega
    have hks : k ≤ s.size := by omega
    go_wp2_with fail
    go_still (by kernel_rfl)
    go_wp2
    go_ret3
    have hsn : userScan s.data.toList 0 0 = some (false, k, e) := by
     rw [HSC.out, HD.out, userScan, if_pos (UInt8.toNat_inj.1 h91)]
    rw [userS, hsn]
    exact ⟨congrArg (fun x => Ending.returned (.tuple #[stFn 141, .string x, .nilIface])) (ext_from s k), HU1.out, (HB2.out.mono HU.out.le).drew⟩
   ·by_cases h64 : c.toNat = 64
    ·obtain ⟨rfl, rfl⟩ := hlow (by omega)
     have hr : (c.toNat : Int) = 64 := by omega
     rw [hr] at hnx
     clear hlow hhigh hmax
     have hsn : userScan s.data.toList 0 0 = some (true, k, e) := by
      have n1 : c ≠ 91 := fun e => h91 (by rw [e]; rfl)
      rw [HSC.out, HD.out, userScan, if_neg n1, if_pos (UInt8.toNat_inj.1 h64)]
     obtain ⟨_, _, _, _, d4, d5, _, _, hf⟩ := HU1.out.cells
     have f4 := hf 4
     have f5 := hf 5
     have HSN := hid hsn
     clear hsn hf
     have hk1 : (k : Int) ≤ s.size := by omega
     have hwk : wrap64 ((k : Int) + 1) = ((k + 1 : Nat) : Int) := wrap64_add (by have := HS.out.1; omega)
     have hwk2 : IntKind.i64.wrap ((k : Int) + 1) = (k : Int) + 1 := by rw [IntKind.wrap_i64]; have := HS.out.1; omega
     have hk5 : (k : Int) + 1 ≤ s.size := by omega
     have hk6 : (0 : Int) ≤ (k : Int) + 1 := by omega
     have hk7 : ((k : Int) + 1).toNat = k + 1 := by omega
     have hk2 : ((k + 1 : Nat) : Int) ≤ s.size := by omega
     have hk3 : k + 1 ≤ s.size := by omega
     by_cases he0 : 0 < e
     ·have he1 : (0 : Int) < e := by omega
      have hek : e < k := by have := HE.out.2; omega
      have hwe : wrap64 ((e : Int) + 1) = ((e + 1 : Nat) : Int) := wrap64_add (by have := HS.out.1; omega)
      have he3 : ((e + 1 : Nat) : Int) ≤ k := by omega
      have he4 : (e : Int) ≤ s.size := by omega
      have he5 : e ≤ s.size := by omega
      have he6 : e + 1 ≤ k := by omega
      go_wp2_with fail
      go_still (by kernel_rfl)
      go_wp2
      go_ret3
      rw [userS, HSN.out]
      simp only [if_pos he0]
      obtain ⟨s1, b1⟩ := HU1.out.set 4 (.string (s.extract 0 e)) { u with user := s.extract 0 e } (fun _ _ => rfl) rfl rfl
      obtain ⟨s2, b2⟩ := s1.set 5 (.string (s.extract (e + 1) k)) { u with user := s.extract 0 e, pass := s.extract (e + 1) k } (fun _ _ => rfl) rfl rfl
      rw [ext_mid s 0 e (by omega), ext_mid s (e + 1) k (by omega), List.drop_zero] at s2
      refine ⟨?_, ?_, ?_⟩
      ·rw [← ext_from]; rfl
      ·rw [← ext_mid s (e + 1) k (by omega)] at s2 ⊢
       first | exact s2 | (have := s2; rw [← List.drop_zero (l := List.take e s.data.toList), ← ext_mid s 0 e (by omega)] at this ⊢; exact this)
      ·exact (((HB2.out.mono HU.out.le).trans b1).trans b2).drew
     ·have he1 : ¬ (0 : Int) < e := by omega
      go_wp2_with fail
      go_still (by kernel_rfl)
      go_wp2
      go_ret3
      rw [userS, HSN.out]
      simp only [if_neg he0]
      obtain ⟨s1, b1⟩ := HU1.out.set 4 (.string (s.extract 0 k)) { u with user := s.extract 0 k } (fun _ _ => rfl) rfl rfl
      refine ⟨?_, ?_, ?_⟩
      ·rw [← ext_from]; rfl
      ·rw [← List.drop_zero (l := List.take k s.data.toList), ← ext_mid s 0 k (by omega)]
       exact s1
      ·exact ((HB2.out.mono HU.out.le).trans b1).drew
    ·by_cases h58 : c.toNat = 58
     ·obtain ⟨rfl, rfl⟩ := hlow (by omega)
      have hr : (c.toNat : Int) = 58 := by omega
      rw [hr] at hnx
      clear hlow hhigh hmax
      go_wp2
      go_roundw
      case rel =>
       refine ⟨k + 1, k, HN.out.2, by omega, rfl, ?_, HI2.out, HB2.out⟩
       have n1 : c ≠ 91 := fun e => h91 (by rw [e]; rfl)
       have n2 : c ≠ 64 := fun e => h64 (by rw [e]; rfl)
       rw [HSC.out, HD.out, userScan, if_neg n1, if_neg n2, if_pos (UInt8.toNat_inj.1 h58)]
      case measure => simp only [World.iterPos, HI2.out]; have := HIP.out; simp only [World.iterPos] at this; rw [this]; have := HLT.out; omega
     ·have hr : r ≠ 91 ∧ r ≠ 64 ∧ r ≠ 58 := by
       by_cases hc : c.toNat < 128
       ·obtain ⟨rfl, _⟩ := hlow hc
        exact ⟨h91, h64, h58⟩
       ·have := hhigh (by omega)
        omega
      have b1 : ((r : Int) == 91) = false := by simp; omega
      have b2 : ((r : Int) == 64) = false := by simp; omega
      have b3 : ((r : Int) == 58) = false := by simp; omega
      clear hlow hhigh hmax hr
      go_wp2
      go_roundw
      case rel =>
       refine ⟨k + n, e, HN.out.2, by have := HE.out.2; omega, rfl, ?_, HI2.out, HB2.out⟩
       rw [HSC.out, userScan_skip n _ k e (by rw [List.length_drop, ← HS.out.2]; have := HN.out.2; omega) ?_, List.drop_drop]
       intro j hj hjn
       by_cases hj0 : j = 0
       ·subst hj0
        have hx : (s.data.toList.drop k)[0]'hj = c := by simp [HD.out]
        rw [hx]
        exact ⟨fun e => h91 (by rw [e]; rfl), fun e => h64 (by rw [e]; rfl), fun e => h58 (by rw [e]; rfl)⟩
       ·obtain ⟨h1, h2⟩ := HSK.out j (by omega) hjn
        have hx : (s.data.toList.drop k)[j]'hj = s[k + j]'h1 := by rw [List.getElem_drop]; rfl
        rw [hx]
        exact ⟨fun e => by rw [e] at h2; exact absurd h2 (by decide), fun e => by rw [e] at h2; exact absurd h2 (by decide), fun e => by rw [e] at h2; exact absurd h2 (by decide)⟩
      case measure => simp only [World.iterPos, HI2.out]; have := HIP.out; simp only [World.iterPos] at this; rw [this]; have := HLT.out; have := HN.out; omega
  ·have hnx : ∀ ty, (Instr.next (.pointer (some ⟨w.heap.size, 0, none⟩)) true ty).run Tryz.prog wr = _ := fun ty => Lib.run_next_end_at wr w.heap.size s k ty hit hlt
   have HK := hid hlt
   clear hit hb hlt
   go_wp2
   go_ret3
   have hsn : userScan s.data.toList 0 0 = none := by
    rw [HSC.out, List.drop_eq_nil_of_le (by have := HS.out.2; have := HK.out; omega)]
    rfl
   rw [userS, hsn]
   exact ⟨rfl, HU.out.below HB.out, HB.out.mono HU.out.le⟩
def hostScan : Bytes → Nat → Option (UInt8 × Nat)
 | [], _ => none
 | c :: r, i => if c = 91 ∨ c = 58 ∨ c = 59 ∨ c = 63 then some (c, i) else hostScan r (i + 1)
theorem hostScan_skip (n : Nat) : ∀ (l : Bytes) (i : Nat), n ≤ l.length → (∀ j (hj : j < l.length), j < n → ¬ (l[j] = 91 ∨ l[j] = 58 ∨ l[j] = 59 ∨ l[j] = 63)) → hostScan l i = hostScan (l.drop n) (i + n) := by
 induction n with
 | zero => intro l i _ _; rfl
 | succ n ih =>
  intro l i hn h
  cases l with
  | nil => exact absurd hn (by simp)
  | cons c r =>
   have h0 := h 0 (by simp) (by omega)
   simp only [List.getElem_cons_zero] at h0
   rw [hostScan, if_neg h0, List.drop_succ_cons, ih r (i + 1) (by simpa using hn) (fun j hj hjn => h (j + 1) (by simpa using hj) (by omega))]
   congr 1
   omega
def hostS (l : Bytes) (u : SUri) : Nat × Bytes × SUri :=
 match hostScan l 0 with
 | none => (152, [], { u with host := ⟨l.toArray⟩, star := l == [42] })
 | some (c, i) => if c = 91 then (150, l.drop i, u) else
  (if c = 58 then 151 else if c = 59 then 152 else 153, l.drop (i + 1), { u with host := ⟨(l.take i).toArray⟩ })
theorem host_any (n0 g : Nat) (u : SUri) (s : ByteArray) (w : World) (hU : URepO n0 w g u) (hs : s.size ≤ 70368744177664) :
  Calls Tryz.prog 141 #[.pointer (some ⟨g, 0, none⟩), .string s] w fun e w' => e = .returned (.tuple #[stFn (hostS s.data.toList u).1, .string ⟨(hostS s.data.toList u).2.1.toArray⟩, .nilIface]) ∧ URepO n0 w' g (hostS s.data.toList u).2.2 ∧ Below n0 w w' := by
 have HU := hid hU
 have HS := hid (And.intro hs (dl s))
 clear hU hs
 go_enter Tryz.func141, Tryz.ntmps141
 go_wp2_with fail
 go_loopw [7, 8] (fun _ _ wr => ∃ pos : Nat, pos ≤ s.size ∧ hostScan s.data.toList 0 = hostScan (s.data.toList.drop pos) pos ∧ wr.heap[w.heap.size]? = some (.stringIter s pos) ∧ Below w.heap.size w wr) (fun _ _ wr => s.size - wr.iterPos w.heap.size)
 case atStart => exact ⟨0, Nat.zero_le _, rfl, by simpa using World.iter_heap w s 0, (Below.refl _ w).alloc (Nat.le_refl _) _⟩
 case round =>
  obtain ⟨k, hk, hsc, hit, hb⟩ := hrel
  have HB := hid hb
  have HSC := hid hsc
  clear hsc hk
  by_cases hlt : k < s.size
  ·obtain ⟨r, n, hdec, hn1, hn2, hskip, hlow, hhigh, hmax⟩ := next_rune s k hlt
   have hnx : ∀ ty, (Instr.next (.pointer (some ⟨w.heap.size, 0, none⟩)) true ty).run Tryz.prog wr = .ok (.tuple #[.bool true, .int .i64 k, .int .i32 r]) (wr.iterAt w.heap.size s (k + n)) := fun ty => by
    rw [Lib.run_next_any_at wr w.heap.size s k ty hit hlt, hdec]
   have hit2 := Lib.iterAt_heap wr w.heap.size s k (k + n) hit
   have hb2 := Lib.below_iterAt hb (k := w.heap.size) (Nat.le_refl _) s (k + n)
   have HIP := hid (show wr.iterPos w.heap.size = k by simp only [World.iterPos, hit])
   obtain ⟨w1, hw1⟩ : ∃ w1, w1 = wr.iterAt w.heap.size s (k + n) := ⟨_, rfl⟩
   rw [← hw1] at hnx hit2 hb2
   have HI2 := hid hit2
   have HB2 := hid hb2
   have HN := hid (And.intro hn1 hn2)
   have HU1 := hid (HU.out.below hb2)
   obtain ⟨c, hc⟩ : ∃ c, s[k]'hlt = c := ⟨_, rfl⟩
   rw [hc] at hlow hhigh
   have hdrop : s.data.toList.drop k = c :: s.data.toList.drop (k + 1) := by
    rw [List.drop_eq_getElem_cons (by rw [← HS.out.2]; exact hlt), ← hc]
    rfl
   have HD := hid hdrop
   have HSK := hid hskip
   have HLT := hid hlt
   clear hw1 hit hit2 hb hb2 hdec hn1 hn2 hc hdrop hskip
   have hkb : (k : Int) ≤ s.size := by omega
   have hks : k ≤ s.size := by omega
   have hwk : wrap64 ((k : Int) + 1) = ((k + 1 : Nat) : Int) := wrap64_add (by have := HS.out.1; omega)
   have hwk2 : IntKind.i64.wrap ((k : Int) + 1) = (k : Int) + 1 := by rw [IntKind.wrap_i64]; have := HS.out.1; omega
   have hk5 : (k : Int) + 1 ≤ s.size := by omega
   have hk6 : (0 : Int) ≤ (k : Int) + 1 := by omega
   have hk7 : ((k : Int) + 1).toNat = k + 1 := by omega
   obtain ⟨_, _, _, _, _, _, d6, _, hf⟩ := HU1.out.cells
   have f6 := hf 6
   clear hf
   by_cases h91 : c.toNat = 91
   ·obtain ⟨rfl, rfl⟩ := hlow (by omega)
    have hr : (c.toNat : Int) = 91 := by omega
    rw [hr] at hnx
    clear hlow hhigh hmax
    go_wp2_with fail
    go_still (by kernel_rfl)
    go_wp2
    go_ret3
    have hsn : hostScan s.data.toList 0 = some (91, k) := by
     rw [HSC.out, HD.out, hostScan, if_pos (by rw [UInt8.toNat_inj.1 (show c.toNat = (91 : UInt8).toNat from h91)]; decide), UInt8.toNat_inj.1 (show c.toNat = (91 : UInt8).toNat from h91)]
    rw [hostS, hsn]
    exact ⟨congrArg (fun x => Ending.returned (.tuple #[stFn 150, .string x, .nilIface])) (ext_from s k), HU1.out, (HB2.out.mono HU.out.le).drew⟩
   ·by_cases h58 : c.toNat = 58
    ·obtain ⟨rfl, rfl⟩ := hlow (by omega)
     have hr : (c.toNat : Int) = 58 := by omega
     rw [hr] at hnx
     clear hlow hhigh hmax
     go_wp2_with fail
     go_still (by kernel_rfl)
     go_wp2
     go_ret3
     have hsn : hostScan s.data.toList 0 = some (58, k) := by
      rw [HSC.out, HD.out, hostScan, if_pos (by rw [UInt8.toNat_inj.1 (show c.toNat = (58 : UInt8).toNat from h58)]; decide), UInt8.toNat_inj.1 (show c.toNat = (58 : UInt8).toNat from h58)]
     rw [hostS, hsn]
     obtain ⟨s1, b1⟩ := HU1.out.set 6 (.string (s.extract 0 k)) { u with host := s.extract 0 k } (fun _ _ => rfl) rfl rfl
     have e1 : s.extract 0 k = ⟨(s.data.toList.take k).toArray⟩ := by rw [ext_mid s 0 k hks, List.drop_zero]
     refine ⟨congrArg (fun x => Ending.returned (.tuple #[stFn 151, .string x, .nilIface])) (ext_from s (k + 1)), ?_, ((HB2.out.mono HU.out.le).trans b1).drew⟩
     show URepO n0 _ g { u with host := ⟨(s.data.toList.take k).toArray⟩ }
     rw [← e1]
     exact s1
    ·by_cases h59 : c.toNat = 59
     ·obtain ⟨rfl, rfl⟩ := hlow (by omega)
      have hr : (c.toNat : Int) = 59 := by omega
      rw [hr] at hnx
      clear hlow hhigh hmax
      go_wp2_with fail
      go_still (by kernel_rfl)
      go_wp2
      go_ret3
      have hsn : hostScan s.data.toList 0 = some (59, k) := by
       rw [HSC.out, HD.out, hostScan, if_pos (by rw [UInt8.toNat_inj.1 (show c.toNat = (59 : UInt8).toNat from h59)]; decide), UInt8.toNat_inj.1 (show c.toNat = (59 : UInt8).toNat from h59)]
      rw [hostS, hsn]
      obtain ⟨s1, b1⟩ := HU1.out.set 6 (.string (s.extract 0 k)) { u with host := s.extract 0 k } (fun _ _ => rfl) rfl rfl
      have e1 : s.extract 0 k = ⟨(s.data.toList.take k).toArray⟩ := by rw [ext_mid s 0 k hks, List.drop_zero]
      refine ⟨congrArg (fun x => Ending.returned (.tuple #[stFn 152, .string x, .nilIface])) (ext_from s (k + 1)), ?_, ((HB2.out.mono HU.out.le).trans b1).drew⟩
      show URepO n0 _ g { u with host := ⟨(s.data.toList.take k).toArray⟩ }
      rw [← e1]
      exact s1
     ·by_cases h63 : c.toNat = 63
      ·obtain ⟨rfl, rfl⟩ := hlow (by omega)
       have hr : (c.toNat : Int) = 63 := by omega
       rw [hr] at hnx
       clear hlow hhigh hmax
       go_wp2_with fail
       go_still (by kernel_rfl)
       go_wp2
       go_ret3
       have hsn : hostScan s.data.toList 0 = some (63, k) := by
        rw [HSC.out, HD.out, hostScan, if_pos (by rw [UInt8.toNat_inj.1 (show c.toNat = (63 : UInt8).toNat from h63)]; decide), UInt8.toNat_inj.1 (show c.toNat = (63 : UInt8).toNat from h63)]
       rw [hostS, hsn]
       obtain ⟨s1, b1⟩ := HU1.out.set 6 (.string (s.extract 0 k)) { u with host := s.extract 0 k } (fun _ _ => rfl) rfl rfl
       have e1 : s.extract 0 k = ⟨(s.data.toList.take k).toArray⟩ := by rw [ext_mid s 0 k hks, List.drop_zero]
       refine ⟨congrArg (fun x => Ending.returned (.tuple #[stFn 153, .string x, .nilIface])) (ext_from s (k + 1)), ?_, ((HB2.out.mono HU.out.le).trans b1).drew⟩
       show URepO n0 _ g { u with host := ⟨(s.data.toList.take k).toArray⟩ }
       rw [← e1]
       exact s1
      ·have hr : r ≠ 91 ∧ r ≠ 58 ∧ r ≠ 59 ∧ r ≠ 63 := by
        by_cases hc : c.toNat < 128
        ·obtain ⟨rfl, _⟩ := hlow hc
         exact ⟨h91, h58, h59, h63⟩
        ·have := hhigh (by omega)
         omega
       have b1 : ((r : Int) == 91) = false := by simp; omega
       have b2 : ((r : Int) == 58) = false := by simp; omega
       have b3 : ((r : Int) == 59) = false := by simp; omega
       have b4 : ((r : Int) == 63) = false := by simp; omega
       clear hlow hhigh hmax hr hwk hwk2 hk5 hk6 hk7
       go_wp2
       go_roundw
       case rel =>
        refine ⟨k + n, HN.out.2, ?_, HI2.out, HB2.out⟩
        rw [HSC.out, hostScan_skip n _ k (by rw [List.length_drop, ← HS.out.2]; have := HN.out.2; omega) ?_, List.drop_drop]
        intro j hj hjn
        by_cases hj0 : j = 0
        ·subst hj0
         have hx : (s.data.toList.drop k)[0]'hj = c := by simp [HD.out]
         rw [hx]
         rintro (e | e | e | e)
         ·exact h91 (by rw [e]; rfl)
         ·exact h58 (by rw [e]; rfl)
         ·exact h59 (by rw [e]; rfl)
         ·exact h63 (by rw [e]; rfl)
        ·obtain ⟨h1, h2⟩ := HSK.out j (by omega) hjn
         have hx : (s.data.toList.drop k)[j]'hj = s[k + j]'h1 := by rw [List.getElem_drop]; rfl
         rw [hx]
         rintro (e | e | e | e) <;> (rw [e] at h2; exact absurd h2 (by decide))
       case measure => simp only [World.iterPos, HI2.out]; have := HIP.out; simp only [World.iterPos] at this; rw [this]; have := HLT.out; have := HN.out; omega
  ·have hnx : ∀ ty, (Instr.next (.pointer (some ⟨w.heap.size, 0, none⟩)) true ty).run Tryz.prog wr = _ := fun ty => Lib.run_next_end_at wr w.heap.size s k ty hit hlt
   have HK := hid hlt
   have HU1 := hid (HU.out.below HB.out)
   obtain ⟨_, _, d2, _, _, _, d6, _, hf⟩ := HU1.out.cells
   have f2 := hf 2
   have f6 := hf 6
   clear hit hb hlt hf
   have hsn : hostScan s.data.toList 0 = none := by
    rw [HSC.out, List.drop_eq_nil_of_le (by have := HS.out.2; have := HK.out; omega)]
    rfl
   have HSN := hid hsn
   clear hsn
   go_wp2_with fail
   go_ret3
   obtain ⟨s1, b1⟩ := HU1.out.set 6 (.string s) { u with host := s } (fun _ _ => rfl) rfl rfl
   obtain ⟨s2, b2⟩ := s1.set 2 (.bool (s.toList == [42])) { u with host := s, star := s.toList == [42] } (fun _ _ => rfl) rfl rfl
   rw [hostS, HSN.out]
   refine ⟨rfl, ?_, ((HB.out.mono HU.out.le).trans b1).trans b2⟩
   rw [ba_list] at s2
   rw [ba_list]
   exact s2
def idxB (c : UInt8) (l : Bytes) : Option Nat := l.findIdx? (· == c)
def idxV (o : Option Nat) : Int := match o with | some i => i | none => -1
theorem idxB_some {c : UInt8} {l : Bytes} {k : Nat} (h : k < l.length) (hc : l[k] = c) (hno : ∀ j (hj : j < l.length), j < k → l[j] ≠ c) : idxB c l = some k := by
 rw [idxB, List.findIdx?_eq_some_iff_getElem]
 exact ⟨h, by simp [hc], fun j hj => by simpa using hno j (by omega) hj⟩
theorem idxB_none {c : UInt8} {l : Bytes} (hno : ∀ j (hj : j < l.length), l[j] ≠ c) : idxB c l = none := by
 rw [idxB, List.findIdx?_eq_none_iff]
 intro x hx
 obtain ⟨j, hj, rfl⟩ := List.mem_iff_getElem.1 hx
 simpa using hno j hj
theorem idx1_any (s : ByteArray) (c : UInt8) (w : World) (hs : s.size ≤ 70368744177664) :
  Calls Tryz.prog 161 #[.string s, .string ⟨#[c]⟩] w fun e w' => e = .returned (.int .i64 (idxV (idxB c s.data.toList))) ∧ w' = w := by
 have HS := hid (And.intro hs (dl s))
 have hone : (⟨#[c]⟩ : ByteArray).size = 1 := rfl
 have htl : (⟨#[c]⟩ : ByteArray).toList = [c] := by rw [ba_list]
 clear hs
 go_enter Tryz.func161, Tryz.ntmps161
 go_wp2_with fail
 go_loopw [5] (fun i wr => ∃ k : Nat, k ≤ s.size ∧ i = .int .i64 k ∧ (∀ j (hj : j < s.data.toList.length), j < k → s.data.toList[j] ≠ c) ∧ wr = w) (fun i _ => s.size - (intOf i).toNat)
 case atStart => exact ⟨0, Nat.zero_le _, rfl, fun j _ h => absurd h (by omega), rfl⟩
 case round =>
  obtain ⟨k, hk, rfl, hno, rfl⟩ := hrel
  have HNO := hid hno
  have hwk : wrap64 ((k : Int) + 1) = (k : Int) + 1 := by rw [wrap64_add (by have := HS.out.1; omega)]; rfl
  have HW := hid (wrap64_add (j := k) (by have := HS.out.1; omega))
  clear hno
  by_cases hlt : k < s.size
  ·have hle : (k : Int) + 1 ≤ s.size := by omega
   have hle2 : k + 1 ≤ s.size := by omega
   have hk7 : ((k : Int) + 1).toNat = k + 1 := by omega
   obtain ⟨d, hd⟩ : ∃ d, s.data.toList[k]'(by rw [← HS.out.2]; exact hlt) = d := ⟨_, rfl⟩
   have hex : (s.extract k (k + 1)).toList = [d] := by
    rw [ba_list, ext_mid s k (k + 1) hle2, take_step _ k (by rw [← HS.out.2]; exact hlt), hd]
    rw [List.drop_left' (by rw [List.length_take, ← HS.out.2]; omega)]
   have HD := hid hd
   have HL := hid hlt
   by_cases hc : d = c
   ·have ht : ([d] == [c]) = true := by simp [hc]
    have HC := hid hc
    clear hd hc
    go_wp2
    go_ret
    refine ⟨?_, rfl⟩
    rw [idxB_some (k := k) (by rw [← HS.out.2]; exact HL.out) (HD.out.trans HC.out) HNO.out]
    rfl
   ·have ht : ([d] == [c]) = false := by simp [hc]
    have HC := hid hc
    clear hd hc
    go_wp2
    go_roundw
    case rel =>
     refine ⟨k + 1, HL.out, by rw [HW.out], fun j hj hjk => ?_, trivial⟩
     by_cases hjl : j < k
     ·exact HNO.out j hj hjl
     ·obtain rfl : j = k := by omega
      rw [HD.out]
      exact HC.out
    case measure => exact meas_step HL.out HW.out
  ·have hnl : ¬ (k : Int) + 1 ≤ s.size := by omega
   have HL := hid hlt
   clear hlt
   go_wp2
   go_ret
   refine ⟨?_, rfl⟩
   rw [idxB_none (fun j hj => HNO.out j hj (by have := HL.out; have := HS.out.2; omega))]
   rfl
theorem index_any (v : Value) (l : KVs) (key : ByteArray) (w : World) (hr : PRep w v l) :
  Calls Tryz.prog 186 #[v, .string key] w fun e w' => (∃ r : Int, e = .returned (.int .i64 r) ∧ (r = -1 ∨ 0 ≤ r ∧ r < l.length)) ∧ Below w.heap.size w w' := by
 rcases hr with ⟨rfl, rfl⟩ | ⟨g, cap, cs, rfl, h2, h2', h3, h4⟩
 ·go_enter Tryz.func186, Tryz.ntmps186
  go_wp2_with fail
  go_loopw [9] (fun i wr => i = .int .i64 0 ∧ wr = w) (fun _ _ => 0)
  case atStart => exact ⟨rfl, rfl⟩
  case round =>
   obtain ⟨rfl, rfl⟩ := hrel
   go_wp2
   go_ret
   exact ⟨⟨-1, rfl, .inl rfl⟩, Below.refl _ _⟩
 ·have hg := heap_lt h3
  have hm : l.length ≤ 9223372036854775807 := by omega
  have H4 := hid (show ∀ i, i < l.length → ∃ p : ByteArray × ByteArray, l[i]? = some p ∧ cs[i * 2]? = some (.string p.1) ∧ cs[i * 2 + 1]? = some (.string p.2) from fun i h => ⟨l[i], List.getElem?_eq_getElem h, h4 i h⟩)
  have H3 := hid h3
  clear h4 h3
  go_enter Tryz.func186, Tryz.ntmps186
  go_wp2_with fail
  go_loopw [9] (fun i wr => ∃ k : Nat, k ≤ l.length ∧ i = .int .i64 k ∧ Below w.heap.size w wr) (fun i _ => l.length - (intOf i).toNat)
  case atStart => exact ⟨0, Nat.zero_le _, rfl, Below.refl _ _⟩
  case round =>
   obtain ⟨k, hk, rfl, hbw⟩ := hrel
   obtain ⟨wo, rfl⟩ : ∃ wo : World, wo = wr := ⟨_, rfl⟩
   have HB := hid hbw
   have h3' : wo.heap[g]? = some (.cells cs 207 (0, 0)) := (hbw.block g hg).trans H3.out
   clear hbw
   by_cases hlt : k < l.length
   ·obtain ⟨p, hp, p1, p2⟩ := H4.out k hlt
    have c1 : wo.cell? ⟨g, k * 2, none⟩ = some (.string p.1) := by simp [World.cell?, h3', p1]
    have c2 : wo.cell? ⟨g, k * 2 + 1, none⟩ = some (.string p.2) := by simp [World.cell?, h3', p2]
    have HLT := hid (Nat.succ_le_of_lt hlt)
    have HB1 := hid (HB.out.alloc HB.out.size (.cells #[.string p.1, .string p.2] 207))
    clear h3' p1 p2 hp
    cases hq : (p.1.toList == key.toList)
    ·go_wp2
     go_roundw
     case rel => exact ⟨k + 1, HLT.out, by simp, HB1.out⟩
     case measure => exact meas_step HLT.out (by simp)
    ·go_wp2
     go_ret
     exact ⟨⟨k, rfl, .inr ⟨by omega, by have := HLT.out; omega⟩⟩, HB1.out⟩
   ·have hke : k = l.length := by omega
    subst hke
    go_wp2
    go_ret
    exact ⟨⟨-1, rfl, .inl rfl⟩, HB.out⟩
structure UR2 (n0 : Nat) (w : World) (g : Nat) (cs : List Value) (j : Nat) (v : Value) (l : KVs) (x : Value) (lx : KVs) : Prop where
 lo : n0 ≤ g
 blk : w.heap[g]? = some (.cells cs.toArray 107 (0, 0))
 at_ : cs[j]? = some v
 own : w.ownsRow n0 207 2 v l.length (kvCells l)
 other : w.ownsRow n0 207 2 x lx.length (kvCells lx)
 apart : ∀ k, v.ownBlock = some k → x.ownBlock ≠ some k
theorem UR2.below {n0 g j : Nat} {w w' : World} {cs : List Value} {v x : Value} {l lx : KVs} (h : UR2 n0 w g cs j v l x lx) (hb : Below w.heap.size w w') : UR2 n0 w' g cs j v l x lx := by
 have hg : w.grownBy w' none := ⟨hb.os, hb.tape, hb.output, hb.size, fun k hk _ => hb.block k hk⟩
 exact ⟨h.lo, (hb.block g (heap_lt h.blk)).trans h.blk, h.at_, h.own.kept hg (by cases v.ownBlock <;> simp), h.other.kept hg (by cases x.ownBlock <;> simp), h.apart⟩
theorem UR2.cell {n0 g j : Nat} {w : World} {cs : List Value} {v x : Value} {l lx : KVs} (h : UR2 n0 w g cs j v l x lx) : w.cell? ⟨g, j, none⟩ = some v ∧ w.frozen? ⟨g, j, none⟩ = false := by
 refine ⟨?_, blk_frozen h.blk j⟩
 rw [blk_cell h.blk]
 simpa using h.at_
theorem UR2.le {n0 g j : Nat} {w : World} {cs : List Value} {v x : Value} {l lx : KVs} (h : UR2 n0 w g cs j v l x lx) : n0 ≤ w.heap.size := Nat.le_trans h.lo (Nat.le_of_lt (heap_lt h.blk))
theorem UR2.grow {n0 g j : Nat} {w w1 : World} {cs : List Value} {v x v1 : Value} {l l1 lx : KVs} (h : UR2 n0 w g cs j v l x lx) (hg : w.grownBy w1 v.ownBlock) (ho : w1.ownsRow n0 207 2 v1 l1.length (kvCells l1)) (ha : v1.ownBlock = v.ownBlock ∨ ∃ k, v1.ownBlock = some k ∧ w.heap.size ≤ k) :
  UR2 n0 (w1.setCell ⟨g, j, none⟩ v1) g (cs.set j v1) j v1 l1 x lx ∧ Below n0 w (w1.setCell ⟨g, j, none⟩ v1) := by
 have hne := own_ne_block h.own h.blk (by decide)
 have hb1 := (hg.block g (heap_lt h.blk) hne).trans h.blk
 have hx1 : w1.ownsRow n0 207 2 x lx.length (kvCells lx) := h.other.kept hg (by
  cases hx : x.ownBlock with
  | none => exact .inl rfl
  | some k => exact .inr (fun e => h.apart k e.symm hx))
 have hjl : j < cs.length := (List.getElem?_eq_some_iff.1 h.at_).1
 refine ⟨⟨h.lo, blk_set hb1 j v1, by simp [hjl], own_set ho hb1 (by decide) j v1, own_set hx1 hb1 (by decide) j v1, ?_⟩, ?_⟩
 ·intro k hk
  rcases ha with e | ⟨m, e, hm⟩
  ·rw [e] at hk; exact h.apart k hk
  ·rw [e] at hk
   injection hk with hk
   subst hk
   intro e2
   have := (h.other.lt m e2).2
   omega
 ·exact ((Below.refl n0 w).grown hg h.le (fun k hk => (h.own.lt k hk).1)).setCell (p := ⟨g, j, none⟩) h.lo _
theorem kvCells_set (l : KVs) (i : Nat) (p : ByteArray × ByteArray) (h : l[i]? = some p) (s : ByteArray) : (kvCells l).set (i * 2 + 1) (.string s) = kvCells (l.set i (p.1, s)) := by
 induction l generalizing i with
 | nil => simp at h
 | cons a l ih =>
  cases i with
  | zero =>
   simp only [List.getElem?_cons_zero, Option.some.injEq] at h
   subst h
   rfl
  | succ i =>
   have := ih i (by simpa using h)
   have e : (i + 1) * 2 + 1 = (i * 2 + 1) + 1 + 1 := by omega
   rw [e]
   show a.1 |> fun _ => Value.string a.1 :: Value.string a.2 :: (kvCells l).set (i * 2 + 1) (.string s) = Value.string a.1 :: Value.string a.2 :: kvCells (l.set i (p.1, s))
   rw [this]
def ItK (w w' : World) : Prop := ∀ (k : Nat) (s : ByteArray) (p : Nat), w.heap[k]? = some (.stringIter s p) → w'.heap[k]? = some (.stringIter s p)
theorem ItK.refl (w : World) : ItK w w := fun _ _ _ h => h
theorem ItK.trans {a b c : World} (h : ItK a b) (k : ItK b c) : ItK a c := fun i s p hi => k i s p (h i s p hi)
theorem ItK.below {w w' : World} (hb : Below w.heap.size w w') : ItK w w' := fun k _ _ h => (hb.block k (heap_lt h)).trans h
theorem ItK.grown {w w' : World} {base size n : Nat} {e : TypeId} {v : Value} {xs : List Value} (hg : w.grownBy w' v.ownBlock) (ho : w.ownsRow base e size v n xs) : ItK w w' := fun k s p h => by
 refine (hg.block k (heap_lt h) (fun e1 => ?_)).trans h
 rcases ho.2 with ⟨rfl, _⟩ | ⟨b, cap, cur, rfl, _, hh, _⟩
 ·simp [Value.ownBlock] at e1
 ·simp only [Value.ownBlock, Option.some.injEq] at e1
  subst e1
  rw [hh] at h
  injection h with h
  injection h
theorem ItK.set {w : World} {g : Nat} {cs : Array Value} {t : TypeId} {fz : Nat × Nat} (hg : w.heap[g]? = some (.cells cs t fz)) (i : Nat) (x : Value) : ItK w (w.setCell ⟨g, i, none⟩ x) := fun k s p h => by
 rw [Below.heap_setCell]
 ·exact h
 ·rintro rfl
  rw [hg] at h
  injection h with h
  injection h
def AddPost (n0 g j : Nat) (cs : List Value) (l : KVs) (x : Value) (lx : KVs) (w : World) (e : Ending) (w' : World) : Prop := ∃ v1 l1, e = .returned v1 ∧ UR2 n0 w' g (cs.set j v1) j v1 l1 x lx ∧ l1.length ≤ l.length + 1 ∧ Below n0 w w' ∧ ItK w w'
section
variable {P : Program} {ops : Array Oper} {rest : List Oper} {o : Oper} {a : Act} {Q : Exit → Act → World → Prop}
theorem app_one_at {W : World} (base : Nat) (hgd : o.guard = none) (s x : Operand) (t e : TypeId) (z : Value) (size bytes : Nat)
  (ho : o.op = .call { callee := .builtin .append, args := #[s, x], argTypes := #[t, t] })
  (ht : P.underlying t = some (.slice e)) (hinfo : (P.info? e).map (fun i => (i.zero, i.size, i.bytes)) = some (some z, size, bytes)) (hz : z.cells.size = size) (hs0 : 0 < size) (hb0 : 0 < bytes)
  (v : Value) (n : Nat) (xs ys : List Value) (fz : Nat × Nat) (hs : a.eval s = v) (hx : a.eval x = .slice (some ⟨W.heap.size, 0, none⟩) 1 1) (hy : ys.length = size) (h1 : ∀ u ∈ ys, u.oneCell' = true)
  (HO : W.ownsRow base e size v n xs) (hbase : base ≤ W.heap.size) (hl : (n + 1) * bytes ≤ 140737488355328)
  (h : ∀ v1 w1, w1.ownsRow base e size v1 (n + 1) (xs ++ ys) → W.grownBy w1 v.ownBlock → (v1.ownBlock = v.ownBlock ∨ ∃ k, v1.ownBlock = some k ∧ W.heap.size ≤ k) → wpList P ops Q rest (a.put o.dst v1) w1) :
  wpList P ops Q (o :: rest) a (W.alloc (.cells ys.toArray e fz)) := by
 obtain ⟨i0, hi, hzz⟩ := Option.map_eq_some_iff.1 hinfo
 simp only [Prod.mk.injEq] at hzz
 obtain ⟨hz0, hz1, hz2⟩ := hzz
 have hlen : n + 1 ≤ 140737488355328 := Nat.le_trans (Nat.le_mul_of_pos_right _ hb0) hl
 refine wpList_append_own_at (w := W.alloc (.cells ys.toArray e fz)) hgd s x t ho base e i0 z size bytes ht hi hz0 hz1 hz2 hz hs0 v n xs hs (HO.alloc _) ⟨W.heap.size, 0, none⟩ 1 1 ys hx (by omega) ?_ h1 (by simp only [maxLen]; omega) hl (by simp; omega) ?_
 ·intro j u hj
  rw [Addr.add_lit, Nat.zero_add]
  rw [Lib.cell_of_heap (heap_alloc_new W _)]
  simpa using hj
 ·intro v1 w1 hown hg _ hw
  refine h v1 w1 hown (World.grownBy.trans (World.grownBy_alloc W _ _) hg) (hw.imp id fun e => ⟨_, e, by simp⟩)
end
theorem add_any (n0 g j : Nat) (cs : List Value) (v : Value) (l : KVs) (x : Value) (lx : KVs) (key val : ByteArray) (w : World) (hU : UR2 n0 w g cs j v l x lx) (hl : l.length ≤ 1073741824) :
  Calls Tryz.prog 174 #[.pointer (some ⟨g, j, none⟩), .string key, .string val] w (AddPost n0 g j cs l x lx w) := by
 have HU := hid hU
 have HL := hid hl
 obtain ⟨c0, f0⟩ := hU.cell
 obtain ⟨A0, k0, rfl⟩ := own_slice hU.own
 have HI := hid (index_any _ l key w (PRep.of_own hU.own))
 clear hU hl
 go_enter Tryz.func174, Tryz.ntmps174
 go_wp2_with fail
 refine HI.out.mono ?_
 rintro e w1 ⟨⟨r, rfl, hr⟩, hb⟩
 have hU1 := HU.out.below hb
 obtain ⟨c1, f1⟩ := hU1.cell
 have HU1 := hid hU1
 have HB1 := hid (And.intro (hb.mono HU.out.le) (ItK.below hb))
 clear hU1 hb c0 f0
 rcases hr with rfl | ⟨h0, h1⟩
 ·have hneg : ¬ (0 : Int) ≤ -1 := by omega
  go_wp2_with (at_builtin; refine app_one_at n0 (by rfl) _ _ 105 207 (.agg #[.string ⟨#[]⟩, .string ⟨#[]⟩]) 2 32 (by rfl) Tryz.underlying105 kv_info rfl (by decide) (by decide) _ l.length _ [.string key, .string val] (0, 0) (by rfl) (by rfl) rfl (by simp [Value.oneCell']) HU1.out.own HU1.out.le (by have := HL.out; omega) ?_)
  intro v2 w2 ho hgr hat
  have HR := hid (HU1.out.grow (l1 := l ++ [(key, val)]) hgr (by rw [kvCells_snoc, List.length_append]; exact ho) hat)
  have HK := hid (ItK.grown hgr HU1.out.own)
  have hbk := (hgr.block g (heap_lt HU1.out.blk) (own_ne_block HU1.out.own HU1.out.blk (by decide))).trans HU1.out.blk
  have HBK := hid hbk
  have d0 : w2.cell? ⟨g, j, none⟩ = some (.slice A0 l.length k0) := by rw [blk_cell hbk]; simpa using HU1.out.at_
  have g0 := blk_frozen hbk j
  obtain ⟨A2, k2, rfl⟩ := own_slice ho
  clear ho hgr hat hbk c1 f1
  go_wp2
  go_ret
  exact ⟨_, _, rfl, HR.out.1, by simp, HB1.out.1.trans HR.out.2, (HB1.out.2.trans HK.out).trans (ItK.set HBK.out _ _)⟩
 ·obtain ⟨i, rfl⟩ := Int.eq_ofNat_of_zero_le h0
  have hil : i < l.length := by omega
  rcases HU1.out.own.2 with ⟨_, hz⟩ | ⟨b, cap, cur, hvb, hbl, hbh, hn, hc, hs, ht⟩
  ·omega
  ·have hown := HU1.out.own
   rw [hvb] at hown
   have hne : b ≠ g := fun e => own_ne_block HU1.out.own HU1.out.blk (by decide) (by rw [hvb, e]; rfl)
   have hne2 : g ≠ b := Ne.symm hne
   have d1 : ∃ s, w1.cell? ⟨b, i * 2 + 1, none⟩ = some (.string s) := ⟨_, by
    have := (kvCells_get l i hil).2
    rw [World.ownsRow.cellAt hown _ (by omega), this]⟩
   obtain ⟨s1, d1⟩ := d1
   have f2 : w1.frozen? ⟨b, i * 2 + 1, none⟩ = false := blk_frozen hbh _
   have HVB := hid hvb
   have HST := hid (World.ownsRow.stored hown (i * 2 + 1) (.string val))
   have HIL := hid hil
   have HBH := hid (And.intro hbh hbl)
   have h2 : (i : Int) < l.length := h1
   have hlm : l.length ≤ 9223372036854775807 := by have := HL.out; omega
   clear hown hbh hbl hn hc hs ht hvb hil
   obtain ⟨rfl, rfl⟩ : A0 = some ⟨b, 0, none⟩ ∧ k0 = cap := by simpa using HVB.out
   have b0 : (0 : Int) ≤ (i : Int) := by omega
   go_wp2
   go_ret
   obtain ⟨p, hp⟩ : ∃ p, l[i]? = some p := ⟨_, List.getElem?_eq_getElem HIL.out⟩
   have hst := HST.out.1
   rw [kvCells_set l i p hp] at hst
   have hcs : cs.set j (.slice (some ⟨b, 0, none⟩) l.length k0) = cs := by
    apply List.ext_getElem?
    intro q
    by_cases hq : q = j
    ·subst hq
     rw [List.getElem?_set_self (List.getElem?_eq_some_iff.1 HU1.out.at_).1, HU1.out.at_]
    ·rw [List.getElem?_set_ne (Ne.symm hq)]
   have hgb : (w1.setCell ⟨b, i * 2 + 1, none⟩ (.string val)).heap[g]? = some (.cells cs.toArray 107 (0, 0)) := by
    rw [Below.heap_setCell _ _ _ _ (fun e => hne2 e)]
    exact HU1.out.blk
   have hox : (w1.setCell ⟨b, i * 2 + 1, none⟩ (.string val)).ownsRow n0 207 2 x lx.length (kvCells lx) :=
    HU1.out.other.kept HST.out.2 (by
     cases hx : x.ownBlock with
     | none => exact .inl rfl
     | some k => exact .inr (fun e => HU1.out.apart k e.symm hx))
   refine ⟨_, l.set i (p.1, val), rfl, ⟨HU1.out.lo, by show _ = some (Obj.cells (cs.set j (.slice (some ⟨b, 0, none⟩) l.length k0)).toArray _ _); rw [hcs]; exact hgb, by show (cs.set j (.slice (some ⟨b, 0, none⟩) l.length k0))[j]? = some (.slice (some ⟨b, 0, none⟩) l.length k0); rw [hcs]; exact HU1.out.at_, by rw [List.length_set]; exact hst, hox, HU1.out.apart⟩, by simp, HB1.out.1.trans ((Below.refl _ _).setCell (p := ⟨b, i * 2 + 1, none⟩) HBH.out.2 _), HB1.out.2.trans (ItK.set HBH.out.1 _ _)⟩
def stList : List Nat := [153, 152, 151, 150, 141, 133, 115, 93]
def StLt (k : Nat) (v : Value) : Prop := v = .nilFunc ∨ ∃ j n, j < k ∧ stList[j]? = some n ∧ v = stFn n
def ErrV (v : Value) : Prop := v = .nilIface ∨ ∃ T x, v = .iface T x
def StPost (n0 g k sz : Nat) (w : World) (e : Ending) (w' : World) : Prop := ∃ st s' ev u', e = .returned (.tuple #[st, .string s', ev]) ∧ URepO n0 w' g u' ∧ Below n0 w w' ∧ s'.size ≤ sz ∧ ErrV ev ∧ (ev = .nilIface → StLt k st)
theorem ext_size (s : ByteArray) (i j : Nat) : (s.extract i j).size ≤ s.size := by
 rw [ByteArray.size_extract]
 omega
theorem idxB_cases (c : UInt8) (l : Bytes) : idxV (idxB c l) = -1 ∨ ∃ i : Nat, i < l.length ∧ idxV (idxB c l) = i := by
 cases h : idxB c l with
 | none => exact .inl rfl
 | some i =>
  refine .inr ⟨i, ?_, rfl⟩
  rw [idxB, List.findIdx?_eq_some_iff_getElem] at h
  exact h.1
theorem hostv6_any (n0 g : Nat) (u : SUri) (s : ByteArray) (w : World) (hU : URepO n0 w g u) (hs : s.size ≤ 70368744177664) :
  Calls Tryz.prog 150 #[.pointer (some ⟨g, 0, none⟩), .string s] w (StPost n0 g 3 s.size w) := by
 have HU := hid hU
 have HS := hid hs
 obtain ⟨m, hm⟩ : ∃ m, m = min s.size 42 := ⟨_, rfl⟩
 have hm1 : m ≤ s.size := by omega
 have HI := hid (idx1_any (s.extract 0 m) 93 w (by rw [ByteArray.size_extract]; omega))
 have hml : (s.extract 0 m).data.toList.length ≤ m := by rw [← dl, ByteArray.size_extract]; omega
 obtain ⟨r, hr⟩ : ∃ r, r = idxV (idxB 93 (s.extract 0 m).data.toList) := ⟨_, rfl⟩
 rw [← hr] at HI
 have hrc : r = -1 ∨ ∃ i : Nat, i < m ∧ r = i := by
  rw [hr]
  rcases idxB_cases 93 (s.extract 0 m).data.toList with h | ⟨i, h1, h2⟩
  ·exact .inl h
  ·exact .inr ⟨i, by omega, h2⟩
 have hmi : (min (s.size : Int) 42) = (m : Int) := by
  rcases Nat.le_total s.size 42 with h | h
  ·rw [hm, Nat.min_eq_left h]
   exact Int.min_eq_left (by omega)
  ·rw [hm, Nat.min_eq_right h]
   exact Int.min_eq_right (by omega)
 obtain ⟨_, _, _, _, _, _, d6, _, hf⟩ := hU.cells
 have f6 := hf 6
 clear hU hs hr hml hm hf
 by_cases hneg : r ≤ 0
 ·have HE := hid (fun wx => errnew_any ⟨#[73, 80, 86, 54, 32, 110, 111, 32, 99, 108, 111, 115, 105, 110, 103, 32, 98, 114, 97, 99, 107, 101, 116]⟩ wx)
  clear hrc
  go_enter Tryz.func150, Tryz.ntmps150
  go_wp2_with (first
   | (go_at_call 161; refine HI.out.mono ?_; rintro e w1 ⟨rfl, rfl⟩)
   | (go_at_call 92; refine (HE.out _).mono ?_; rintro e w2 ⟨⟨a, rfl⟩, hb⟩))
  go_ret3
  exact ⟨_, s, _, u, rfl, HU.out.below hb, hb.mono HU.out.le, Nat.le_refl _, .inr ⟨_, _, rfl⟩, fun h => by cases h⟩
 ·obtain ⟨i, hi, rfl⟩ : ∃ i : Nat, i < m ∧ r = i := by
   rcases hrc with h | h
   ·omega
   ·exact h
  clear hrc
  have hs1 := HS.out
  have hip : i + 1 ≤ s.size := by omega
  have hwk : wrap64 ((i : Int) + 1) = ((i + 1 : Nat) : Int) := wrap64_add (by omega)
  have hb1 : ((i + 1 : Nat) : Int) ≤ s.size := by omega
  have hb2 : (0 : Int) ≤ (i : Int) + 1 := by omega
  have hb3 : (i : Int) + 1 ≤ s.size := by omega
  have hb4 : ((i : Int) + 1).toNat = i + 1 := by omega
  have hz : (0 : Int) ≤ m := by omega
  have HX := hid (show ∀ t, URepO n0 (w.setCell ⟨g, 6, none⟩ (.string t)) g { u with host := t } ∧ Below n0 w (w.setCell ⟨g, 6, none⟩ (.string t)) from fun t => HU.out.set 6 _ _ (fun _ _ => rfl) rfl rfl)
  clear hs1
  by_cases hend : i + 1 = s.size
  ·have he : ((i : Int) + 1) = s.size := by omega
   go_enter Tryz.func150, Tryz.ntmps150
   go_wp2_with (first
    | (go_at_call 161; refine HI.out.mono ?_; rintro e w1 ⟨rfl, rfl⟩))
   go_ret3
   exact ⟨_, _, _, _, rfl, (HX.out _).1, (HX.out _).2, Nat.zero_le _, .inl rfl, fun _ => .inr ⟨1, _, by decide, rfl, rfl⟩⟩
  ·have he : ¬ ((i : Int) + 1) = s.size := by omega
   have hlt : i + 1 < s.size := by omega
   have hlt2 : (i : Int) + 1 < s.size := by omega
   go_enter Tryz.func150, Tryz.ntmps150
   go_upto_region 9 with (first
    | (go_at_call 161; refine HI.out.mono ?_; rintro e w1 ⟨rfl, rfl⟩))
   go_upto_region 10 with fail
   have hsz : 0 < (s.extract (i + 1) s.size).size := by rw [ByteArray.size_extract]; omega
   generalize ((s.extract (i + 1) s.size)[0]'hsz).toNat = c
   have HZ := hid (ext_size s (i + 1) s.size)
   have hsz1 : (1 : Int) ≤ (s.extract (i + 1) s.size).size := by omega
   have hsz2 : 1 ≤ (s.extract (i + 1) s.size).size := hsz
   generalize s.extract (i + 1) s.size = t at hsz hsz1 hsz2 HZ ⊢
   have HQ := hid (show (t.extract 1 t.size).size ≤ s.size from Nat.le_trans (ext_size t 1 t.size) HZ.out)
   clear hwk hb1 hb2 hb3 hb4 he hlt2 hlt hend hmi
   by_cases h58 : c = 58
   ·subst h58
    go_wp2_with fail
    go_still (by kernel_rfl)
    go_wp2
    go_ret3
    exact ⟨_, _, _, _, rfl, (HX.out _).1, (HX.out _).2.drew, HQ.out, .inl rfl, fun _ => .inr ⟨2, _, by decide, rfl, rfl⟩⟩
   ·have g58 : ((c : Int) == 58) = false := by simp; omega
    by_cases h59 : c = 59
    ·subst h59
     go_wp2_with fail
     go_still (by kernel_rfl)
     go_wp2
     go_ret3
     exact ⟨_, _, _, _, rfl, (HX.out _).1, (HX.out _).2.drew, HQ.out, .inl rfl, fun _ => .inr ⟨1, _, by decide, rfl, rfl⟩⟩
    ·have g59 : ((c : Int) == 59) = false := by simp; omega
     by_cases h63 : c = 63
     ·subst h63
      go_wp2_with fail
      go_still (by kernel_rfl)
      go_wp2
      go_ret3
      exact ⟨_, _, _, _, rfl, (HX.out _).1, (HX.out _).2.drew, HQ.out, .inl rfl, fun _ => .inr ⟨0, _, by decide, rfl, rfl⟩⟩
     ·have g63 : ((c : Int) == 63) = false := by simp; omega
      go_wp2
      go_ret3
      exact ⟨_, _, _, _, rfl, (HX.out _).1, (HX.out _).2, Nat.zero_le _, .inl rfl, fun _ => .inr ⟨1, _, by decide, rfl, rfl⟩⟩
def AtoiPost (s : ByteArray) (w : World) (e : Ending) (w' : World) : Prop := ∃ n ev, e = .returned (.tuple #[.int .i64 n, ev]) ∧ ErrV ev ∧ Below w.heap.size w w' ∧ (∀ v, Lib.atoiAll s.data.toList = .ok v → n = v ∧ ev = .nilIface)
theorem below_bytes (w : World) (t : ByteArray) : Below w.heap.size w (Lib.bytesWorld w 5 t) := by
 have h1 := ((Below.refl w.heap.size w).drew).alloc (Nat.le_refl _) (.cells (Lib.bytesCells w 5 t) 5)
 exact ⟨h1.os, h1.tape, h1.output, by rw [Lib.bytesWorld_size]; omega, fun k hk => Lib.bytesWorld_at_old w _ t k hk⟩
theorem atoi_any (s : ByteArray) (w : World) (hG : G0 w) (hs : s.size ≤ 70368744177664) : Calls Tryz.prog 162 #[.string s] w (AtoiPost s w) := by
 cases h : Lib.atoiAll s.data.toList with
 | ok v =>
  refine (Tryz.strconv_Atoi_ok s (by omega) v h w).mono ?_
  rintro e w' ⟨rfl, hw⟩
  refine ⟨v, _, rfl, .inl rfl, ?_, fun v' hv => ⟨by rw [h] at hv; injection hv, rfl⟩⟩
  rcases hw with rfl | ⟨t, rfl⟩
  ·exact Below.refl _ _
  ·exact below_bytes w t
 | range =>
  obtain ⟨t, p, hv⟩ := hG.eran
  refine (Tryz.strconv_Atoi_range s (by omega) h _ w hv (.inr ⟨t, p, rfl⟩)).mono ?_
  rintro e w' ⟨N, rfl, _, _, hb⟩
  exact ⟨_, _, rfl, .inr ⟨_, _, rfl⟩, hb, fun v' hv => by rw [h] at hv; cases hv⟩
 | _ =>
  obtain ⟨t, p, hv⟩ := hG.esyn
  refine (Tryz.strconv_Atoi_syntax s (by omega) (fun v q => by rw [h] at q; cases q) (fun q => by rw [h] at q; cases q) _ w hv (.inr ⟨t, p, rfl⟩)).mono ?_
  rintro e w' ⟨N, rfl, _, _, hb⟩
  exact ⟨_, _, rfl, .inr ⟨_, _, rfl⟩, hb, fun v' hv => by rw [h] at hv; cases hv⟩
def PortPost (n0 g : Nat) (u : SUri) (s : ByteArray) (w : World) (e : Ending) (w' : World) : Prop := ∃ n st s' ev, e = .returned (.tuple #[st, .string s', ev]) ∧ URepO n0 w' g { u with port := n } ∧ Below n0 w w' ∧ s'.size ≤ s.size ∧ ErrV ev ∧ (ev = .nilIface → StLt 2 st) ∧
 ((∀ q (h : q < s.size), s[q].toNat ≠ 59 ∧ s[q].toNat ≠ 63) → ∀ v, Lib.atoiAll s.data.toList = .ok v → n = v ∧ ev = .nilIface ∧ st = stFn 152 ∧ s' = ⟨#[]⟩)
theorem port_any (N n0 g : Nat) (u : SUri) (s : ByteArray) (w : World) (hG : Gl N w) (hN : N ≤ n0) (hU : URepO n0 w g u) (hs : s.size ≤ 70368744177664) :
  Calls Tryz.prog 151 #[.pointer (some ⟨g, 0, none⟩), .string s] w (PortPost n0 g u s w) := by
 have HU := hid hU
 have HG := hid hG
 have HS := hid hs
 have HN0 := hid (And.intro hG.le (And.intro hN (Nat.le_trans hN hU.le)))
 clear hU hs hG hN
 go_enter Tryz.func151, Tryz.ntmps151
 go_wp2_with fail
 go_loopw [8, 9] (fun _ _ wr => ∃ pos : Nat, pos ≤ s.size ∧ wr.heap[w.heap.size]? = some (.stringIter s pos) ∧ Below w.heap.size w wr) (fun _ _ wr => s.size - wr.iterPos w.heap.size)
 case atStart => exact ⟨0, Nat.zero_le _, by simpa using World.iter_heap w s 0, (Below.refl _ w).alloc (Nat.le_refl _) _⟩
 case round =>
  obtain ⟨k, hk, hit, hb⟩ := hrel
  have HB := hid hb
  by_cases hlt : k < s.size
  ·obtain ⟨r, n, hdec, hn1, hn2, hskip, hlow, hhigh, hmax⟩ := next_rune s k hlt
   have hnx : ∀ ty, (Instr.next (.pointer (some ⟨w.heap.size, 0, none⟩)) true ty).run Tryz.prog wr = .ok (.tuple #[.bool true, .int .i64 k, .int .i32 r]) (wr.iterAt w.heap.size s (k + n)) := fun ty => by
    rw [Lib.run_next_any_at wr w.heap.size s k ty hit hlt, hdec]
   have hit2 := Lib.iterAt_heap wr w.heap.size s k (k + n) hit
   have hb2 := Lib.below_iterAt hb (k := w.heap.size) (Nat.le_refl _) s (k + n)
   have HIP := hid (show wr.iterPos w.heap.size = k by simp only [World.iterPos, hit])
   obtain ⟨w1, hw1⟩ : ∃ w1, w1 = wr.iterAt w.heap.size s (k + n) := ⟨_, rfl⟩
   rw [← hw1] at hnx hit2 hb2
   have HI2 := hid hit2
   have HB2 := hid hb2
   have HNN := hid (And.intro hn1 hn2)
   have HU1 := hid (HU.out.below hb2)
   obtain ⟨c, hc⟩ : ∃ c, s[k]'hlt = c := ⟨_, rfl⟩
   rw [hc] at hlow hhigh
   have HLT := hid hlt
   have HC := hid (show s[k]'HLT.out = c from hc)
   have HEX := hid (show (s.extract (k + 1) s.size).size ≤ s.size from ext_size s _ _)
   clear hw1 hit hit2 hb hb2 hdec hn1 hn2 hc hskip hlt
   by_cases h59 : c.toNat = 59
   ·obtain ⟨rfl, rfl⟩ := hlow (by omega)
    have hr : (c.toNat : Int) = 59 := by omega
    rw [hr] at hnx
    have HCH := hid (show (s[k]'HLT.out).toNat = 59 by rw [HC.out]; exact h59)
    clear hlow hhigh hmax
    have HSN := hid (show ¬ (∀ q (h : q < s.size), s[q].toNat ≠ 59 ∧ s[q].toNat ≠ 63) from fun h => absurd HCH.out (by have := h k HLT.out; exact this.1))
    have hkb : (k : Int) ≤ s.size := by have := HLT.out; omega
    have hk3 : k + 1 ≤ s.size := HLT.out
    have hwk : wrap64 ((k : Int) + 1) = ((k + 1 : Nat) : Int) := wrap64_add (by have := HS.out; omega)
    have hwk2 : IntKind.i64.wrap ((k : Int) + 1) = (k : Int) + 1 := by rw [IntKind.wrap_i64]; have := HS.out; omega
    have hk5 : (k : Int) + 1 ≤ s.size := by omega
    have hk6 : (0 : Int) ≤ (k : Int) + 1 := by omega
    have hk7 : ((k : Int) + 1).toNat = k + 1 := by omega
    have HAT := hid (atoi_any (s.extract 0 k) w1 (HG.out.below HB2.out HN0.out.1).get (by have := ext_size s 0 k; have := HS.out; omega))
    go_upto_region 7 with (first
     | (go_at_call 162; refine HAT.out.mono ?_; rintro e w2 ⟨n7, ev, rfl, hev, hb3, -⟩; have HB3 := hid hb3; have HEV := hid hev; have HU2 := hid (HU1.out.below hb3); obtain ⟨_, _, _, _, _, _, _, d7, hf⟩ := (HU1.out.below hb3).cells; have f7 := hf 7; have HUN := hid HU2.out; clear hb3 hev hf; obtain rfl | ⟨T7, x7, rfl⟩ := HEV.out)
     | fail)
    all_goals
     (go_still (by kernel_rfl)
      go_wp2
      go_ret3
      obtain ⟨q1, q2⟩ := HU2.out.set 7 (.int .i64 n7) { u with port := n7 } (fun _ _ => rfl) rfl rfl
      exact ⟨n7, _, _, _, rfl, q1, (((HB2.out.mono HU.out.le).trans (HB3.out.mono (Nat.le_trans HU.out.le HB2.out.size))).trans q2).drew, HEX.out, HEV.out, fun _ => .inr ⟨1, _, by decide, rfl, rfl⟩, fun h => absurd h HSN.out⟩)
   ·by_cases h63 : c.toNat = 63
    ·obtain ⟨rfl, rfl⟩ := hlow (by omega)
     have hr : (c.toNat : Int) = 63 := by omega
     rw [hr] at hnx
     have HCH := hid (show (s[k]'HLT.out).toNat = 63 by rw [HC.out]; exact h63)
     clear hlow hhigh hmax
     have HSN := hid (show ¬ (∀ q (h : q < s.size), s[q].toNat ≠ 59 ∧ s[q].toNat ≠ 63) from fun h => absurd HCH.out (by have := h k HLT.out; exact this.2))
     have hkb : (k : Int) ≤ s.size := by have := HLT.out; omega
     have hk3 : k + 1 ≤ s.size := HLT.out
     have hwk : wrap64 ((k : Int) + 1) = ((k + 1 : Nat) : Int) := wrap64_add (by have := HS.out; omega)
     have hwk2 : IntKind.i64.wrap ((k : Int) + 1) = (k : Int) + 1 := by rw [IntKind.wrap_i64]; have := HS.out; omega
     have hk5 : (k : Int) + 1 ≤ s.size := by omega
     have hk6 : (0 : Int) ≤ (k : Int) + 1 := by omega
     have hk7 : ((k : Int) + 1).toNat = k + 1 := by omega
     have HAT := hid (atoi_any (s.extract 0 k) w1 (HG.out.below HB2.out HN0.out.1).get (by have := ext_size s 0 k; have := HS.out; omega))
     go_upto_region 10 with (first
      | (go_at_call 162; refine HAT.out.mono ?_; rintro e w2 ⟨n7, ev, rfl, hev, hb3, -⟩; have HB3 := hid hb3; have HEV := hid hev; have HU2 := hid (HU1.out.below hb3); obtain ⟨_, _, _, _, _, _, _, d7, hf⟩ := (HU1.out.below hb3).cells; have f7 := hf 7; have HUN := hid HU2.out; clear hb3 hev hf; obtain rfl | ⟨T7, x7, rfl⟩ := HEV.out)
      | fail)
     all_goals
      (go_still (by kernel_rfl)
       go_wp2
       go_ret3
       obtain ⟨q1, q2⟩ := HU2.out.set 7 (.int .i64 n7) { u with port := n7 } (fun _ _ => rfl) rfl rfl
       exact ⟨n7, _, _, _, rfl, q1, (((HB2.out.mono HU.out.le).trans (HB3.out.mono (Nat.le_trans HU.out.le HB2.out.size))).trans q2).drew, HEX.out, HEV.out, fun _ => .inr ⟨0, _, by decide, rfl, rfl⟩, fun h => absurd h HSN.out⟩)
    ·have hr : r ≠ 59 ∧ r ≠ 63 := by
      by_cases hc : c.toNat < 128
      ·obtain ⟨rfl, _⟩ := hlow hc
       exact ⟨h59, h63⟩
      ·have := hhigh (by omega)
       omega
     have b1 : ((r : Int) == 59) = false := by simp; omega
     have b2 : ((r : Int) == 63) = false := by simp; omega
     clear hlow hhigh hmax hr
     go_wp2
     go_roundw
     case rel => exact ⟨k + n, HNN.out.2, HI2.out, HB2.out⟩
     case measure => simp only [World.iterPos, HI2.out]; have := HIP.out; simp only [World.iterPos] at this; rw [this]; have := HLT.out; have := HNN.out; omega
  ·have hnx : ∀ ty, (Instr.next (.pointer (some ⟨w.heap.size, 0, none⟩)) true ty).run Tryz.prog wr = _ := fun ty => Lib.run_next_end_at wr w.heap.size s k ty hit hlt
   have HAT := hid (atoi_any s wr (HG.out.below HB.out HN0.out.1).get HS.out)
   have HU1 := hid (HU.out.below HB.out)
   clear hit hb hlt
   go_upto_region 12 with (first
    | (go_at_call 162; refine HAT.out.mono ?_; rintro e w2 ⟨n7, ev, rfl, hev, hb3, hex⟩; have HB3 := hid hb3; have HEX := hid hex; have HEV := hid hev; have HU2 := hid (HU1.out.below hb3); obtain ⟨_, _, _, _, _, _, _, d7, hf⟩ := (HU1.out.below hb3).cells; have f7 := hf 7; clear hb3 hev hf hex; obtain rfl | ⟨T7, x7, rfl⟩ := HEV.out)
    | fail)
   all_goals
    (go_wp2
     go_ret3
     obtain ⟨q1, q2⟩ := HU2.out.set 7 (.int .i64 n7) { u with port := n7 } (fun _ _ => rfl) rfl rfl
     exact ⟨n7, _, _, _, rfl, q1, ((HB.out.mono HU.out.le).trans (HB3.out.mono (Nat.le_trans HU.out.le HB.out.size))).trans q2, Nat.zero_le _, HEV.out, fun _ => .inr ⟨1, _, by decide, rfl, rfl⟩, fun _ v hv => ⟨(HEX.out v hv).1, by first | rfl | exact (HEX.out v hv).2 | exact (HEX.out v hv).2.elim | exact absurd (HEX.out v hv).2 (by simp), rfl, rfl⟩⟩)
end
