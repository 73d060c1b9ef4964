import Derived.Test.YtpjhmfoegmaodaaGreatDoorA32
set_option maxRecDepth 100000
set_option maxHeartbeats 16000000
set_option linter.all false
namespace Go.Proofs.YtpjhmfoegmaodaaGreatDoor
open Go.Lib (hid)
open Go.RowKit
def kindOf (t : Int) : Nat := if t = 0 then 0 else if addrB t then 1 else if routB t then 2 else if numbB t then 3 else if t = 4 ∨ t = 10 then 4 else if t = 5 then 5 else if t = 9 then 6 else 7
theorem kind_1 {t : Int} (h : kindOf t = 1) : t = 1 ∨ t = 2 ∨ t = 3 ∨ t = 14 := by
 unfold kindOf at h
 repeat' split at h
 all_goals first | (exact absurd h (by decide)) | skip
 rename_i k
 simpa [addrB, or_assoc] using k
theorem kind_2 {t : Int} (h : kindOf t = 2) : t = 11 ∨ t = 12 ∨ t = 13 := by
 unfold kindOf at h
 repeat' split at h
 all_goals first | (exact absurd h (by decide)) | skip
 rename_i k
 simpa [routB, or_assoc] using k
theorem kind_3 {t : Int} (h : kindOf t = 3) : t = 6 ∨ t = 7 ∨ t = 8 := by
 unfold kindOf at h
 repeat' split at h
 all_goals first | (exact absurd h (by decide)) | skip
 rename_i k
 simpa [numbB, or_assoc] using k
theorem kind_4 {t : Int} (h : kindOf t = 4) : t = 4 ∨ t = 10 := by
 unfold kindOf at h
 repeat' split at h
 all_goals first | (exact absurd h (by decide)) | assumption
def tOf (n : Bytes) : Int := if n = nameS 1 then 1 else if n = nameS 2 then 2 else if n = nameS 3 then 3 else if n = nameS 4 then 4 else if n = nameS 5 then 5 else if n = nameS 6 then 6 else if n = nameS 8 then 8 else if n = nameS 9 then 9 else if n = nameS 10 then 10 else if n = nameS 11 then 11 else if n = nameS 12 then 12 else if n = nameS 13 then 13 else if n = nameS 14 then 14 else 0
theorem tOf_x {n : Bytes} (h : n[0]? = some 88) : tOf n = 0 := by
 have key : ∀ t : Int, (nameS t)[0]? ≠ some 88 → n ≠ nameS t := fun t k e => k (e ▸ h)
 unfold tOf
 rw [if_neg (key 1 (by decide)), if_neg (key 2 (by decide)), if_neg (key 3 (by decide)), if_neg (key 4 (by decide)), if_neg (key 5 (by decide)), if_neg (key 6 (by decide)), if_neg (key 8 (by decide)), if_neg (key 9 (by decide)), if_neg (key 10 (by decide)), if_neg (key 11 (by decide)), if_neg (key 12 (by decide)), if_neg (key 13 (by decide)), if_neg (key 14 (by decide))]
inductive RH : LHead → Prop
 | gen (n x : Bytes) : n.all wordB = true → tOf n = 0 → x.all lineB = true → RH ⟨0, n, x, [], emptyU, [], 0, [], [], [], [], 0⟩
 | addr (t : Int) (d : Bytes) (u : LUri) (p : BKVs) : kindOf t = 1 → d.all shownB = true → d.all lineB = true → RUri u → ParOK false p → RH ⟨t, nameS t, [], d, u, p, 0, [], [], [], [], 0⟩
 | rout (t : Int) (u : LUri) : kindOf t = 2 → RUri u → RH ⟨t, nameS t, [], [], u, [], 0, [], [], [], [], 0⟩
 | numb (t n : Int) : kindOf t = 3 → t ≠ 7 → 0 ≤ n → RH ⟨t, nameS t, [], [], emptyU, [], n, [], [], [], [], 0⟩
 | text (t : Int) (x : Bytes) : kindOf t = 4 → x.all lineB = true → RH ⟨t, nameS t, x, [], emptyU, [], 0, [], [], [], [], 0⟩
 | cseq (t n : Int) (x : Bytes) : t = 5 → 0 ≤ n → x.all wordB = true → RH ⟨t, nameS t, x, [], emptyU, [], n, [], [], [], [], 0⟩
 | via (t : Int) (tr h : Bytes) (po : Int) (p : BKVs) : t = 9 → tr.all wordB = true → h.all hostB = true → 0 ≤ po → ParOK false p → RH ⟨t, nameS t, [], [], emptyU, p, 0, [83, 73, 80], [50, 46, 48], tr, h, po⟩
theorem word_line (c : UInt8) (h : wordB c = true) : lineB c = true := by
 simp only [wordB, letterB, digitB, lineB, Bool.or_eq_true, Bool.and_eq_true, decide_eq_true_eq, beq_iff_eq] at h ⊢
 omega
theorem lineS_all {l : Bytes} (h : lineS l = true) : l.all lineB = true := by
 simp only [lineS, Bool.and_eq_true] at h
 exact h.1.1.1.1
theorem dig_line (c : UInt8) (h : digitB c = true) : lineB c = true := by
 simp only [digitB, lineB, Bool.and_eq_true, decide_eq_true_eq, Bool.or_eq_true] at h ⊢
 omega
theorem shown_all {l : Bytes} (h : shownS l = true) : l.all shownB = true ∧ l.all lineB = true := by
 simp only [shownS, Bool.and_eq_true, Bool.or_eq_true, decide_eq_true_eq] at h
 refine ⟨h.1, ?_⟩
 rcases h.2 with k | k
 ·rw [List.length_eq_zero_iff] at k
  rw [k]
  rfl
 ·exact lineS_all k
theorem rh_of {h : LHead} (R : RHead h) (hn : 0 ≤ h.num) : RH (heardH (plainH h)) := by
 obtain ⟨t, name, text, display, u, params, num, proto, version, transport, host, port⟩ := h
 obtain ⟨hs, h0, ha, hr, h6, h7, h4, h10, h5, h9⟩ := R
 dsimp only at hs h0 ha hr h6 h7 h4 h10 h5 h9 hn
 rcases sort_cases hs with rfl | rfl | rfl | rfl | rfl | rfl | rfl | rfl | rfl | rfl | rfl | rfl | rfl | rfl | rfl
 ·have k := h0 rfl
  exact RH.gen name text (wordS_all k.1.2.2.2) (tOf_x k.1.2.1) (lineS_all k.2)
 ·exact RH.addr 1 display u params rfl (shown_all (ha rfl).1).1 (shown_all (ha rfl).1).2 (ha rfl).2.1 (ha rfl).2.2
 ·exact RH.addr 2 display u params rfl (shown_all (ha rfl).1).1 (shown_all (ha rfl).1).2 (ha rfl).2.1 (ha rfl).2.2
 ·exact RH.addr 3 display u params rfl (shown_all (ha rfl).1).1 (shown_all (ha rfl).1).2 (ha rfl).2.1 (ha rfl).2.2
 ·exact RH.text 4 text rfl (all_mono (wordS_all (h4 rfl)) word_line)
 ·exact RH.cseq 5 num text rfl hn (wordS_all (h5 rfl).1)
 ·exact RH.numb 6 num rfl (by decide) hn
 ·exact RH.gen (nameS 7) (Lib.itoa num) (by decide) (by decide) (all_mono (itoa_dig hn) dig_line)
 ·exact RH.numb 8 num rfl (by decide) hn
 ·obtain ⟨k1, k2, k3, k4, k5, k6⟩ := h9 rfl
  subst k1 k2
  exact RH.via 9 transport host port params rfl (wordS_all k3) (textS_all k4) k5.1 k6
 ·exact RH.text 10 text rfl (lineS_all (h10 rfl))
 ·exact RH.rout 11 u rfl (hr rfl)
 ·exact RH.rout 12 u rfl (hr rfl)
 ·exact RH.rout 13 u rfl (hr rfl)
 ·exact RH.addr 14 display u params rfl (shown_all (ha rfl).1).1 (shown_all (ha rfl).1).2 (ha rfl).2.1 (ha rfl).2.2
theorem rh_len (n : Nat) : RH (heardH (lenH n)) := RH.numb 8 n rfl (by decide) (by omega)
def showL (d : Bytes) : Bytes := if d = [] then [] else 34 :: (d ++ [34, 32])
def valB (h : LHead) : Bytes :=
 if kindOf h.t = 1 then showL h.display ++ (60 :: (luriT h.uri ++ (62 :: ltailT 59 59 h.params)))
 else if kindOf h.t = 2 then 60 :: (luriT h.uri ++ [62])
 else if kindOf h.t = 3 then Lib.itoa h.num
 else if kindOf h.t = 5 then Lib.itoa h.num ++ (32 :: h.text)
 else if kindOf h.t = 6 then [83, 73, 80, 47, 50, 46, 48, 47] ++ (h.transport ++ (32 :: (h.host ++ (lportT h.port ++ ltailT 59 59 h.params))))
 else h.text
theorem addr_val (d : Bytes) (u : LUri) (p : BKVs) (hu : RUri u) : addrT (bs d) (toS u) (strKVs p) = showL d ++ (60 :: (luriT u ++ (62 :: ltailT 59 59 p))) := by
 have hb : (bs d).data.toList = d := rfl
 simp only [addrT, showT, showL, hb, uriT_str u hu.raw, tailT_str, List.append_assoc, List.cons_append, List.nil_append]
theorem line_val {h : LHead} (R : RH h) : (hdrS h).line = h.name ++ (58 :: 32 :: valB h) := by
 cases R with
 | gen n x h1 h2 h3 => simp [hdrS, SH.line, SH.nm, SH.val, valB, kindOf]
 | addr t d u p h1 h2 h3 h4 h5 =>
  have hv := addr_val d u p h4
  rcases kind_1 h1 with rfl | rfl | rfl | rfl <;> simp [hdrS, SH.line, SH.nm, SH.val, valB, kindOf, addrB, nameS, hv]
 | rout t u h1 h2 =>
  have hv := uriT_str u h2.raw
  rcases kind_2 h1 with rfl | rfl | rfl <;> simp [hdrS, SH.line, SH.nm, SH.val, valB, kindOf, addrB, routB, nameS, hv]
 | numb t n h1 h2 h3 =>
  rcases kind_3 h1 with rfl | rfl | rfl <;> simp [hdrS, SH.line, SH.nm, SH.val, valB, kindOf, addrB, routB, numbB, nameS]
 | text t x h1 h2 =>
  rcases kind_4 h1 with rfl | rfl <;> simp [hdrS, SH.line, SH.nm, SH.val, valB, kindOf, addrB, routB, numbB, nameS]
 | cseq t n x h1 h2 h3 =>
  subst h1
  simp [hdrS, SH.line, SH.nm, SH.val, valB, kindOf, addrB, routB, numbB, nameS]
 | via t tr h po p h1 h2 h3 h4 h5 =>
  subst h1
  have hv := tailT_str 59 59 p
  simp [hdrS, SH.line, SH.nm, SH.val, valB, kindOf, addrB, routB, numbB, nameS, viaT, portT, lportT, hv]
theorem rh_name {h : LHead} (R : RH h) : h.name.all wordB = true ∧ h.t = tOf h.name := by
 cases R with
 | gen n x h1 h2 h3 => exact ⟨h1, h2.symm⟩
 | addr t d u p h1 h2 h3 h4 h5 => rcases kind_1 h1 with rfl | rfl | rfl | rfl <;> (dsimp only; decide)
 | rout t u h1 h2 => rcases kind_2 h1 with rfl | rfl | rfl <;> (dsimp only; decide)
 | numb t n h1 h2 h3 =>
  rcases kind_3 h1 with rfl | rfl | rfl
  ·(dsimp only; decide)
  ·exact absurd rfl h2
  ·(dsimp only; decide)
 | text t x h1 h2 => rcases kind_4 h1 with rfl | rfl <;> (dsimp only; decide)
 | cseq t n x h1 h2 h3 => subst h1; (dsimp only; decide)
 | via t tr h po p h1 h2 h3 h4 h5 => subst h1; (dsimp only; decide)
theorem show_cut {a b x y : Bytes} (ha : a.all shownB = true) (hb : b.all shownB = true) (h : showL a ++ (60 :: x) = showL b ++ (60 :: y)) : a = b ∧ x = y := by
 unfold showL at h
 by_cases e1 : a = []
 ·by_cases e2 : b = []
  ·rw [if_pos e1, if_pos e2] at h
   exact ⟨by rw [e1, e2], by simpa using h⟩
  ·rw [if_pos e1, if_neg e2] at h
   simp at h
 ·by_cases e2 : b = []
  ·rw [if_neg e1, if_pos e2] at h
   simp at h
  ·rw [if_neg e1, if_neg e2] at h
   simp only [List.cons_append, List.append_assoc, List.cons.injEq, true_and] at h
   obtain ⟨e3, h2⟩ := cutS [34] (by decide) ha hb (Hd.cons (by decide)) (Hd.cons (by decide)) h
   exact ⟨e3, by simpa using h2⟩
theorem val_inj {a b : LHead} (Ra : RH a) (Rb : RH b) (hn : a.name = b.name) (ht : a.t = b.t) (h : valB a = valB b) : a = b := by
 have hk : kindOf a.t = kindOf b.t := by rw [ht]
 cases Ra with
 | gen n x a1 a2 a3 =>
  cases Rb with
  | gen n' x' b1 b2 b3 =>
   dsimp only at hn
   subst hn
   have h' : x = x' := h
   rw [h']
  | addr t d u p b1 => exact absurd (show (0 : Nat) = 1 from (hk.trans b1)) (by decide)
  | rout t u b1 => exact absurd (show (0 : Nat) = 2 from (hk.trans b1)) (by decide)
  | numb t n b1 => exact absurd (show (0 : Nat) = 3 from (hk.trans b1)) (by decide)
  | text t x b1 => exact absurd (show (0 : Nat) = 4 from (hk.trans b1)) (by decide)
  | cseq t n x b1 => subst b1; exact absurd (show (0 : Nat) = 5 from hk) (by decide)
  | via t tr h po p b1 => subst b1; exact absurd (show (0 : Nat) = 6 from hk) (by decide)
 | addr t d u p a1 a2 a3 a4 a5 =>
  dsimp only at hk
  cases Rb with
  | addr t' d' u' p' b1 b2 b3 b4 b5 =>
   dsimp only at ht
   subst ht
   simp only [valB, a1, if_true] at h
   obtain ⟨rfl, h2⟩ := show_cut a2 b2 h
   obtain ⟨rfl, h3⟩ := luri_cut a4 b4 (Hd.cons (by decide)) (Hd.cons (by decide)) h2
   simp only [List.cons.injEq, true_and] at h3
   obtain ⟨rfl, -⟩ := ltail_cut 59 59 [] (by decide) (by decide) (by decide) (by decide) a5.2 b5.2 (Hd.nil _) (Hd.nil _) (x := []) (y := []) (by rw [h3])
   rfl
  | gen n x b1 => exact absurd (show (1 : Nat) = 0 from (a1.symm.trans hk)) (by decide)
  | rout t u b1 => exact absurd (show (1 : Nat) = 2 from ((a1.symm.trans hk).trans b1)) (by decide)
  | numb t n b1 => exact absurd (show (1 : Nat) = 3 from ((a1.symm.trans hk).trans b1)) (by decide)
  | text t x b1 => exact absurd (show (1 : Nat) = 4 from ((a1.symm.trans hk).trans b1)) (by decide)
  | cseq t n x b1 => subst b1; exact absurd (show (1 : Nat) = 5 from (a1.symm.trans hk)) (by decide)
  | via t tr h po p b1 => subst b1; exact absurd (show (1 : Nat) = 6 from (a1.symm.trans hk)) (by decide)
 | rout t u a1 a2 =>
  dsimp only at hk
  cases Rb with
  | rout t' u' b1 b2 =>
   dsimp only at ht
   subst ht
   simp [valB, a1] at h
   obtain ⟨rfl, -⟩ := luri_cut a2 b2 (x := [62]) (y := [62]) (Hd.cons (by decide)) (Hd.cons (by decide)) (by rw [h])
   rfl
  | gen n x b1 => exact absurd (show (2 : Nat) = 0 from (a1.symm.trans hk)) (by decide)
  | addr t d u p b1 => exact absurd (show (2 : Nat) = 1 from ((a1.symm.trans hk).trans b1)) (by decide)
  | numb t n b1 => exact absurd (show (2 : Nat) = 3 from ((a1.symm.trans hk).trans b1)) (by decide)
  | text t x b1 => exact absurd (show (2 : Nat) = 4 from ((a1.symm.trans hk).trans b1)) (by decide)
  | cseq t n x b1 => subst b1; exact absurd (show (2 : Nat) = 5 from (a1.symm.trans hk)) (by decide)
  | via t tr h po p b1 => subst b1; exact absurd (show (2 : Nat) = 6 from (a1.symm.trans hk)) (by decide)
 | numb t n a1 a2 a3 =>
  dsimp only at hk
  cases Rb with
  | numb t' n' b1 b2 b3 =>
   dsimp only at ht
   subst ht
   simp [valB, a1] at h
   rw [itoa_inj a3 b3 h]
  | gen n x b1 => exact absurd (show (3 : Nat) = 0 from (a1.symm.trans hk)) (by decide)
  | addr t d u p b1 => exact absurd (show (3 : Nat) = 1 from ((a1.symm.trans hk).trans b1)) (by decide)
  | rout t u b1 => exact absurd (show (3 : Nat) = 2 from ((a1.symm.trans hk).trans b1)) (by decide)
  | text t x b1 => exact absurd (show (3 : Nat) = 4 from ((a1.symm.trans hk).trans b1)) (by decide)
  | cseq t n x b1 => subst b1; exact absurd (show (3 : Nat) = 5 from (a1.symm.trans hk)) (by decide)
  | via t tr h po p b1 => subst b1; exact absurd (show (3 : Nat) = 6 from (a1.symm.trans hk)) (by decide)
 | text t x a1 a2 =>
  dsimp only at hk
  cases Rb with
  | text t' x' b1 b2 =>
   dsimp only at ht
   subst ht
   simp [valB, a1] at h
   rw [h]
  | gen n x b1 => exact absurd (show (4 : Nat) = 0 from (a1.symm.trans hk)) (by decide)
  | addr t d u p b1 => exact absurd (show (4 : Nat) = 1 from ((a1.symm.trans hk).trans b1)) (by decide)
  | rout t u b1 => exact absurd (show (4 : Nat) = 2 from ((a1.symm.trans hk).trans b1)) (by decide)
  | numb t n b1 => exact absurd (show (4 : Nat) = 3 from ((a1.symm.trans hk).trans b1)) (by decide)
  | cseq t n x b1 => subst b1; exact absurd (show (4 : Nat) = 5 from (a1.symm.trans hk)) (by decide)
  | via t tr h po p b1 => subst b1; exact absurd (show (4 : Nat) = 6 from (a1.symm.trans hk)) (by decide)
 | cseq t n x a1 a2 a3 =>
  subst a1
  have a1 : kindOf 5 = 5 := rfl
  dsimp only at hk
  cases Rb with
  | cseq t' n' x' b1 b2 b3 =>
   subst b1
   simp [valB, a1] at h
   obtain ⟨e1, h2⟩ := cutS [32] (by decide) (itoa_dig a2) (itoa_dig b2) (Hd.cons (by decide)) (Hd.cons (by decide)) h
   rw [itoa_inj a2 b2 e1, (List.cons.inj h2).2]
  | gen n x b1 => exact absurd (show (5 : Nat) = 0 from hk) (by decide)
  | addr t d u p b1 => exact absurd (show (5 : Nat) = 1 from (hk.trans b1)) (by decide)
  | rout t u b1 => exact absurd (show (5 : Nat) = 2 from (hk.trans b1)) (by decide)
  | numb t n b1 => exact absurd (show (5 : Nat) = 3 from (hk.trans b1)) (by decide)
  | text t x b1 => exact absurd (show (5 : Nat) = 4 from (hk.trans b1)) (by decide)
  | via t tr h po p b1 => subst b1; exact absurd (show (5 : Nat) = 6 from hk) (by decide)
 | via t tr ho po p a1 a2 a3 a4 a5 =>
  subst a1
  have a1 : kindOf 9 = 6 := rfl
  dsimp only at hk
  cases Rb with
  | via t' tr' ho' po' p' b1 b2 b3 b4 b5 =>
   subst b1
   simp [valB, a1] at h
   have X2 : ∀ (n : Int) (m : BKVs), Hd (lportT n ++ ltailT 59 59 m) [58, 59] := fun n m => Hd.app (port_hd n _ (by decide)) (ltail_hd 59 59 m _ (by decide))
   obtain ⟨rfl, h2⟩ := cutS [32] (by decide) a2 b2 (Hd.cons (by decide)) (Hd.cons (by decide)) h
   obtain ⟨rfl, h3⟩ := cutS [58, 59] (by decide) a3 b3 (X2 _ _) (X2 _ _) (List.cons.inj h2).2
   obtain ⟨rfl, h4⟩ := port_cut [59] (by decide) (by decide) a4 b4 (ltail_hd 59 59 _ _ (by decide)) (ltail_hd 59 59 _ _ (by decide)) h3
   obtain ⟨rfl, -⟩ := ltail_cut 59 59 [] (by decide) (by decide) (by decide) (by decide) a5.2 b5.2 (Hd.nil _) (Hd.nil _) (x := []) (y := []) (by rw [h4])
   rfl
  | gen n x b1 => exact absurd (show (6 : Nat) = 0 from hk) (by decide)
  | addr t d u p b1 => exact absurd (show (6 : Nat) = 1 from (hk.trans b1)) (by decide)
  | rout t u b1 => exact absurd (show (6 : Nat) = 2 from (hk.trans b1)) (by decide)
  | numb t n b1 => exact absurd (show (6 : Nat) = 3 from (hk.trans b1)) (by decide)
  | text t x b1 => exact absurd (show (6 : Nat) = 4 from (hk.trans b1)) (by decide)
  | cseq t n x b1 => subst b1; exact absurd (show (6 : Nat) = 5 from hk) (by decide)
theorem line_inj {a b : LHead} (Ra : RH a) (Rb : RH b) (h : (hdrS a).line = (hdrS b).line) : a = b := by
 rw [line_val Ra, line_val Rb] at h
 obtain ⟨e1, h2⟩ := cutS [58] (by decide) (rh_name Ra).1 (rh_name Rb).1 (Hd.cons (by decide)) (Hd.cons (by decide)) h
 refine val_inj Ra Rb e1 (by rw [(rh_name Ra).2, (rh_name Rb).2, e1]) ?_
 simpa using h2
theorem apc (l : Bytes) {x y : Bytes} (h : l ++ x = l ++ y) : x = y := List.append_cancel_left h
theorem letter_line (c : UInt8) (h : letterB c = true) : lineB c = true := by
 simp only [letterB, lineB, Bool.or_eq_true, Bool.and_eq_true, decide_eq_true_eq] at h ⊢
 omega
theorem host_line (c : UInt8) (h : hostB c = true) : lineB c = true := by
 simp only [hostB, letterB, digitB, lineB, Bool.or_eq_true, Bool.and_eq_true, decide_eq_true_eq, beq_iff_eq] at h ⊢
 omega
theorem user_line (c : UInt8) (h : userB c = true) : lineB c = true := by
 simp only [userB, letterB, digitB, lineB, Bool.or_eq_true, Bool.and_eq_true, decide_eq_true_eq, beq_iff_eq] at h ⊢
 omega
theorem luri_line {u : LUri} (R : RUri u) : (luriT u).all lineB = true := by
 have h1 : (restU u).all lineB = true := by
  unfold restU
  rw [List.all_append, List.all_append, List.all_append, all_mono (textS_all R.host) host_line, port_mid dig_line (by decide) R.port.1, ltail_mid word_line (by decide) 59 59 (by decide) (by decide) R.params.2, ltail_mid word_line (by decide) 63 38 (by decide) (by decide) R.hdrs.2]
  rfl
 have h2 : u.user.all lineB = true := by
  rcases R.user with e | e
  ·rw [e]; rfl
  ·exact all_mono (textS_all e) user_line
 have h3 : u.pass.all lineB = true := by
  rcases R.pass with e | e
  ·rw [e]; rfl
  ·exact all_mono (textS_all e.2) user_line
 have h4 : (luserT u).all lineB = true := by
  unfold luserT
  split
  ·rfl
  ·rw [List.all_append, List.all_append, h2]
   split
   ·rfl
   ·rw [List.all_cons, h3]; rfl
 rw [luri_rest, List.all_append, List.all_append, List.all_append, h1, h4, all_mono (scheme_all R) letter_line]
 rfl
theorem val_line {h : LHead} (R : RH h) : (valB h).all lineB = true := by
 cases R with
 | gen n x h1 h2 h3 => exact h3
 | addr t d u p h1 h2 h3 h4 h5 =>
  simp only [valB, h1, if_true]
  have e : (showL d).all lineB = true := by
   unfold showL
   split
   ·rfl
   ·rw [List.all_cons, List.all_append, h3]; rfl
  rw [List.all_append, List.all_cons, List.all_append, List.all_cons, e, luri_line h4, ltail_mid word_line (by decide) 59 59 (by decide) (by decide) h5.2]
  rfl
 | rout t u h1 h2 =>
  simp only [valB, h1, if_true]
  show (60 :: (luriT u ++ [62])).all lineB = true
  rw [List.all_cons, List.all_append, luri_line h2]
  rfl
 | numb t n h1 h2 h3 =>
  simp only [valB, h1, if_true]
  exact all_mono (itoa_dig h3) dig_line
 | text t x h1 h2 =>
  simp only [valB, h1, if_true]
  exact h2
 | cseq t n x h1 h2 h3 =>
  subst h1
  show (Lib.itoa n ++ (32 :: x)).all lineB = true
  rw [List.all_append, List.all_cons, all_mono (itoa_dig h2) dig_line, all_mono h3 word_line]
  rfl
 | via t tr h po p h1 h2 h3 h4 h5 =>
  subst h1
  show ([83, 73, 80, 47, 50, 46, 48, 47] ++ (tr ++ (32 :: (h ++ (lportT po ++ ltailT 59 59 p))))).all lineB = true
  have e : (32 :: (h ++ (lportT po ++ ltailT 59 59 p))).all lineB = true := by
   rw [List.all_cons, List.all_append, List.all_append, all_mono h3 host_line, port_mid dig_line (by decide) h4, ltail_mid word_line (by decide) 59 59 (by decide) (by decide) h5.2]
   rfl
  rw [List.all_append, List.all_append, e, all_mono h2 word_line]
  rfl
theorem line_line {h : LHead} (R : RH h) : (hdrS h).line.all lineB = true ∧ (hdrS h).line ≠ [] := by
 rw [line_val R]
 refine ⟨?_, by simp⟩
 rw [List.all_append, List.all_cons, List.all_cons, all_mono (rh_name R).1 word_line, val_line R]
 rfl
theorem lines_cut {a b : List LHead} {x y : Bytes} (ha : ∀ h ∈ a, RH h) (hb : ∀ h ∈ b, RH h) (h : a.flatMap (fun h => (hdrS h).line ++ [13, 10]) ++ ([13, 10] ++ x) = b.flatMap (fun h => (hdrS h).line ++ [13, 10]) ++ ([13, 10] ++ y)) : a = b ∧ x = y := by
 have no : ∀ (q : LHead) {s t : Bytes}, RH q → [13, 10] ++ s = ((hdrS q).line ++ [13, 10]) ++ t → False := by
  intro q s t R e
  obtain ⟨h1, h2⟩ := line_line R
  cases hl : (hdrS q).line with
  | nil => exact h2 hl
  | cons c r =>
   rw [hl] at e h1
   simp only [List.cons_append, List.cons.injEq] at e
   simp only [List.all_cons, Bool.and_eq_true] at h1
   have := h1.1
   rw [← e.1] at this
   revert this
   decide
 induction a generalizing b with
 | nil =>
  cases b with
  | nil => exact ⟨rfl, by simpa using h⟩
  | cons q t =>
   simp only [List.flatMap_nil, List.nil_append, List.flatMap_cons] at h
   exact absurd (h.trans (List.append_assoc _ _ _)) (no q (hb q (List.mem_cons_self)))
 | cons p s ih =>
  cases b with
  | nil =>
   simp only [List.flatMap_nil, List.nil_append, List.flatMap_cons] at h
   exact absurd (h.symm.trans (List.append_assoc _ _ _)) (no p (ha p (List.mem_cons_self)))
  | cons q t =>
   have Rp := ha p (List.mem_cons_self)
   have Rq := hb q (List.mem_cons_self)
   simp only [List.flatMap_cons, List.append_assoc] at h
   obtain ⟨e1, h2⟩ := cutS [13] (by decide) (line_line Rp).1 (line_line Rq).1 (Hd.cons (by decide)) (Hd.cons (by decide)) h
   have e2 := line_inj Rp Rq e1
   obtain ⟨e3, e4⟩ := ih (fun h hh => ha h (List.mem_cons_of_mem _ hh)) (fun h hh => hb h (List.mem_cons_of_mem _ hh)) (apc [13, 10] h2)
   exact ⟨by rw [e2, e3], e4⟩
def startB (m : LMsg) : Bytes := if m.resp then (sip20B ++ [32]) ++ Lib.itoa m.code ++ [32] ++ m.reason else m.method ++ [32] ++ luriT m.uri ++ ([32] ++ sip20B)
theorem loud_all {l : Bytes} (h : loudS l = true) : l.all wordB = true := by
 simp only [loudS, Bool.and_eq_true] at h
 exact wordS_all h.2
theorem start_line {m : LMsg} (R : RMsg m) : (startB m).all lineB = true := by
 unfold startB
 split
 ·rename_i e
  obtain ⟨h1, h2, h3⟩ := R.res e
  rw [List.all_append, List.all_append, List.all_append, all_mono (itoa_dig (by omega)) dig_line, lineS_all h3]
  rfl
 ·rename_i e
  obtain ⟨h1, h2⟩ := R.req (by simpa using e)
  rw [List.all_append, List.all_append, List.all_append, all_mono (loud_all h1) word_line, luri_line h2]
  rfl
theorem start_inj {a b : LMsg} (Ra : RMsg a) (Rb : RMsg b) (h : startB a = startB b) : a.resp = b.resp ∧ (a.resp = true → a.code = b.code ∧ a.reason = b.reason) ∧ (a.resp = false → a.method = b.method ∧ a.uri = b.uri) := by
 have no : ∀ {c d : LMsg}, RMsg c → RMsg d → c.resp = true → d.resp = false → startB c = startB d → False := by
  intro c d Rc Rd ec ed h
  unfold startB at h
  rw [if_pos ec, if_neg (by simp [ed])] at h
  have h' : ([83, 73, 80] : Bytes) ++ (47 :: ([50, 46, 48, 32] ++ Lib.itoa c.code ++ [32] ++ c.reason)) = d.method ++ (32 :: (luriT d.uri ++ ([32] ++ sip20B))) := by
   simpa [sip20B] using h
  obtain ⟨-, h2⟩ := cutS [47, 32] (by decide) (show ([83, 73, 80] : Bytes).all wordB = true by decide) (loud_all (Rd.req ed).1) (Hd.cons (by decide)) (Hd.cons (by decide)) h'
  exact absurd (List.cons.inj h2).1 (by decide)
 cases ea : a.resp
 ·cases eb : b.resp
  ·refine ⟨rfl, fun e => (by cases e), fun _ => ?_⟩
   unfold startB at h
   rw [if_neg (by simp [ea]), if_neg (by simp [eb])] at h
   simp only [List.append_assoc] at h
   obtain ⟨e1, h2⟩ := cutS [32] (by decide) (loud_all (Ra.req ea).1) (loud_all (Rb.req eb).1) (Hd.cons (by decide)) (Hd.cons (by decide)) h
   obtain ⟨e2, -⟩ := luri_cut (x := 32 :: sip20B) (y := 32 :: sip20B) (Ra.req ea).2 (Rb.req eb).2 (Hd.cons (by decide)) (Hd.cons (by decide)) (apc [32] h2)
   exact ⟨e1, e2⟩
  ·exact (no Rb Ra eb ea h.symm).elim
 ·cases eb : b.resp
  ·exact (no Ra Rb ea eb h).elim
  ·refine ⟨rfl, fun _ => ?_, fun e => (by cases e)⟩
   unfold startB at h
   rw [if_pos ea, if_pos eb] at h
   simp only [List.append_assoc] at h
   have h1 := List.append_cancel_left (List.append_cancel_left h)
   have ca := (Ra.res ea).1
   have cb := (Rb.res eb).1
   obtain ⟨e1, h2⟩ := cutS [32] (by decide) (itoa_dig (n := a.code) (by omega)) (itoa_dig (n := b.code) (by omega)) (Hd.cons (by decide)) (Hd.cons (by decide)) h1
   exact ⟨itoa_inj (by omega) (by omega) e1, apc [32] h2⟩
theorem rh_all {m : LMsg} (R : RMsg m) (hn : ∀ h ∈ m.heads, 0 ≤ h.num) : ∀ h ∈ readHs m, RH h := by
 intro h hh
 unfold readHs at hh
 rw [List.map_append, List.map_map] at hh
 rcases List.mem_append.1 hh with k | k
 ·obtain ⟨x, hx, rfl⟩ := List.mem_map.1 k
  exact rh_of (R.heads x hx).1 (hn x hx)
 ·simp only [List.map_cons, List.map_nil, List.mem_singleton] at k
  subst k
  exact rh_len _
theorem msgT_read (m : LMsg) (hs : List (Nat × SH)) (he : hs.map (·.2) = m.heads.map hdrS ++ [.clen m.body.length]) (R : RMsg m) :
  msgT (msgS m hs) = startB m ++ ([13, 10] ++ ((readHs m).flatMap (fun h => (hdrS h).line ++ [13, 10]) ++ ([13, 10] ++ m.body))) := by
 rw [msgT_eq m hs he (fun h hh => (R.heads h hh).1.sort), starts_eq m hs R]
 simp only [startB, List.append_assoc]
theorem sameM_eq (x y : LMsg) (h1 : x.hasBody = y.hasBody) (h2 : x.compact = y.compact) : sameM x y = true ↔ x = y := by
 obtain ⟨⟩ := x
 obtain ⟨⟩ := y
 dsimp only at h1 h2
 subst h1 h2
 simp [sameM, sameU_iff, and_assoc]
theorem sameM_iff (a b : LMsg) : sameM (readM a) (readM b) = true ↔ readM a = readM b := sameM_eq _ _ rfl rfl
theorem msg_law {a b : LMsg} (na : ∀ h ∈ a.heads, 0 ≤ h.num) (nb : ∀ h ∈ b.heads, 0 ≤ h.num) (Ra : RMsg a) (Rb : RMsg b) (ha hb : List (Nat × SH)) (ea : ha.map (·.2) = a.heads.map hdrS ++ [.clen a.body.length]) (eb : hb.map (·.2) = b.heads.map hdrS ++ [.clen b.body.length]) :
  decide (msgT (msgS a ha) = msgT (msgS b hb)) = sameM (readM a) (readM b) := by
 rw [Bool.eq_iff_iff, decide_eq_true_eq, sameM_iff, msgT_read a ha ea Ra, msgT_read b hb eb Rb]
 constructor
 ·intro h
  obtain ⟨e1, h2⟩ := cutS [13] (by decide) (start_line Ra) (start_line Rb) (Hd.cons (by decide)) (Hd.cons (by decide)) h
  obtain ⟨e2, e3⟩ := lines_cut (rh_all Ra na) (rh_all Rb nb) (apc [13, 10] h2)
  obtain ⟨k1, k2, k3⟩ := start_inj Ra Rb e1
  unfold readM
  rw [e2, e3, k1, Ra.version, Rb.version]
  cases er : b.resp
  ·obtain ⟨q1, q2⟩ := k3 (k1.trans er)
   simp [q1, q2]
  ·obtain ⟨q1, q2⟩ := k2 (k1.trans er)
   simp [q1, q2]
 ·intro h
  simp only [readM, LMsg.mk.injEq, and_true] at h
  obtain ⟨k1, k2, k3, k4, k5, -, k6, k7⟩ := h
  have e1 : startB a = startB b := by
   unfold startB
   rw [k1] at k2 k3 k4 k5 ⊢
   cases er : b.resp
   ·simp only [er] at k2 k3
    simp only [Bool.false_eq_true, if_false] at k2 k3 ⊢
    rw [k2, k3]
   ·simp only [er] at k4 k5
    simp only [if_true] at k4 k5 ⊢
    rw [k4, k5]
  rw [e1, k6, k7]
