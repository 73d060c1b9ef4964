import Derived.Test.YtglhcpmaiogdjaaGreatDoorP29
set_option maxRecDepth 100000
set_option maxHeartbeats 16000000
set_option linter.all false
namespace Go.Proofs.YtglhcpmaiogdjaaGreatDoor
open Go.Lib (hid)
open Go.RowKit
theorem plain_1 {h : LHead} (ht : h.t = 1) : (plainH h).t = 1 ∧ (plainH h).params = h.params := by
 obtain ⟨t, name, text, display, u, params, num, proto, version, transport, host, port⟩ := h
 dsimp only at ht
 subst ht
 exact ⟨rfl, rfl⟩
theorem plain_2 {h : LHead} (ht : h.t = 2) : (plainH h).t = 2 ∧ (plainH h).params = h.params := by
 obtain ⟨t, name, text, display, u, params, num, proto, version, transport, host, port⟩ := h
 dsimp only at ht
 subst ht
 exact ⟨rfl, rfl⟩
theorem plain_4 {h : LHead} (ht : h.t = 4) : (plainH h).t = 4 ∧ (plainH h).text = h.text := by
 obtain ⟨t, name, text, display, u, params, num, proto, version, transport, host, port⟩ := h
 dsimp only at ht
 subst ht
 exact ⟨rfl, rfl⟩
structure CallD (m : LMsg) (fr tq id pf pt pi : LHead) : Prop where
 p : PMsg m
 h2 : m.heads.filter (isT 2) = [pf]
 h1 : m.heads.filter (isT 1) = [pt]
 h4 : m.heads.filter (isT 4) = [pi]
 f2 : firstH 2 m.heads = fr
 f1 : firstH 1 m.heads = tq
 f4 : firstH 4 m.heads = id
 t2 : fr.t = 2
 t1 : tq.t = 1
 t4 : id.t = 4
 ms2 : HMs fr
 ms1 : HMs tq
 ms4 : HMs id
 par2 : pf.params = fr.params
 par1 : pt.params = tq.params
 txt : pi.text = id.text
 txl : id.text.length ≤ 8192
 val2 : ∀ q ∈ fr.params, q.2.length ≤ 8192
 val1 : ∀ q ∈ tq.params, q.2.length ≤ 8192
 sorts : ∀ h ∈ m.heads, 0 ≤ h.t ∧ h.t ≤ 14
theorem vals_ok {l : BKVs} (h : ParOK false l) : ∀ q ∈ l, q.2.length ≤ 8192 := by
 intro p hp
 have h1 := h.2 p hp
 simp only [parB, Bool.and_eq_true, Bool.or_eq_true, decide_eq_true_eq] at h1
 rcases h1.2 with h2 | h2
 ·exact (wordS_ok h2).2
 ·rw [h2.2]; simp
theorem CallD.of {N : Nat} {m : LMsg} (H : MIn N m) (R : RCall m) : ∃ fr tq id pf pt pi, CallD m fr tq id pf pt pi := by
 obtain ⟨pf, h2, m2, t2, f2⟩ := first_of (R.one 2 (by simp))
 obtain ⟨pt, h1, m1, t1, f1⟩ := first_of (R.one 1 (by simp))
 obtain ⟨pi, h4, m4, t4, f4⟩ := first_of (R.one 4 (by simp))
 have P := PMsg.of H R.msg
 have q2 := plain_2 t2
 have q1 := plain_1 t1
 have q4 := plain_4 t4
 have r2 := (R.msg.heads pf m2).1.addr (by rw [t2]; rfl)
 have r1 := (R.msg.heads pt m1).1.addr (by rw [t1]; rfl)
 have r4 := (R.msg.heads pi m4).1.callid t4
 exact ⟨plainH pf, plainH pt, plainH pi, pf, pt, pi, P, h2, h1, h4, f2, f1, f4, q2.1, q1.1, q4.1, (P.heads pf m2).plain, (P.heads pt m1).plain, (P.heads pi m4).plain, q2.2.symm, q1.2.symm, q4.2.symm,
  by rw [q4.2]; exact (wordS_ok r4).2, by rw [q2.2]; exact vals_ok r2.2.2, by rw [q1.2]; exact vals_ok r1.2.2, fun h hh => (P.heads h hh).t⟩
structure DlgNo (m : Nat) (w : World) : Prop where
 ex : ∃ g2 g3 g4 df dt uf ut pf pt cid, w.cell? ⟨m, 2, none⟩ = some (refV (some g2)) ∧ w.cell? ⟨m, 3, none⟩ = some (refV (some g3)) ∧ w.cell? ⟨m, 4, none⟩ = some (refV (some g4)) ∧
  AddrAt 167 w g2 df uf pf ∧ AddrAt 165 w g3 dt ut pt ∧ HB w g4 136 #[.string cid] ∧ (kvGet pt tagB = none ∨ ∃ tt, kvGet pt tagB = some tt ∧ kvGet pf tagB = none)
theorem DlgNo.below {m : Nat} {w w' : World} (h : DlgNo m w) (hb : Below w.heap.size w w') : DlgNo m w' := by
 obtain ⟨g2, g3, g4, df, dt, uf, ut, pf, pt, cid, h2, h3, h4, hf, ht, hc, e⟩ := h.ex
 exact ⟨g2, g3, g4, df, dt, uf, ut, pf, pt, cid, cell_at_below h2 hb, cell_at_below h3 hb, cell_at_below h4 hb, hf.below hb, ht.below hb, hc.below hb, e⟩
def ErrPost (w : World) (e : Ending) (w' : World) : Prop := (∃ a, e = .returned (.iface 171 (.pointer (some a)))) ∧ Below w.heap.size w w'
theorem getdlg_no (T : TypeId) (hT : IsMsgT T) (m : Nat) (a1 a2 a3 : Addr) (w : World) (hd : DlgNo m w) :
  Calls Tryz.prog 64 #[.iface T (.pointer (some ⟨m, 0, none⟩)), .pointer (some a1), .pointer (some a2), .pointer (some a3)] w (ErrPost w) := by
 obtain ⟨g2, g3, g4, df, dt, uf, ut, pf, pt, cid, h2, h3, h4, hf, ht, hc, e⟩ := hd.ex
 have na2 := na_from hT
 have me2 := me_from hT
 have en2 := enters_of Tryz.func202 (by kernel_rfl) rfl
 have na3 := na_to hT
 have me3 := me_to hT
 have en3 := enters_of Tryz.func221 (by kernel_rfl) rfl
 have na4 := na_callid hT
 have me4 := me_callid hT
 have en4 := enters_of Tryz.func197 (by kernel_rfl) rfl
 have HC4 := hid (getcallid_any m g4 w h4)
 have HC3 := hid (getto_any m g3 w h3)
 have HC2 := hid (show ∀ wx, Below w.heap.size w wx → Calls Tryz.prog 202 #[.pointer (some ⟨m, 0, none⟩)] wx fun e w' => e = .returned (.pointer (some ⟨g2, 0, none⟩)) ∧ wx = w' from fun wx h => getfrom_any m g2 wx (cell_at_below h2 h))
 obtain ⟨-, -, vt, ct, hpt⟩ := ht.cells
 obtain ⟨-, -, vf, cf, hpf⟩ := hf.cells
 have HCF := hid cf
 rcases e with e | ⟨tt, e1, e2⟩
 ·have HG3 := hid (show Calls Tryz.prog 85 #[vt, .string ⟨#[116, 97, 103]⟩] w fun e w' => e = .returned (.tuple #[.string ⟨#[]⟩, .bool false]) ∧ Below w.heap.size w w' by
   have h := get_any vt pt ⟨#[116, 97, 103]⟩ w hpt
   rw [show kvGet pt (⟨#[116, 97, 103]⟩ : ByteArray).data.toList = none from e] at h
   exact h)
  obtain ⟨At, ct', rfl⟩ := hpt.form
  clear hd h2 h3 h4 hf ht hc e hpt hpf cf
  go_enter Tryz.func64, Tryz.ntmps64
  go_wp2_with fail
  refine HC4.out.mono ?_
  rintro e w1 ⟨rfl, rfl⟩
  go_wp2_with fail
  refine HC3.out.mono ?_
  rintro e w1 ⟨rfl, rfl⟩
  go_wp2_with fail
  refine HG3.out.mono ?_
  rintro e w2 ⟨rfl, hb2⟩
  have HB2 := hid hb2
  clear hb2 ct
  go_wp2_with (go_at_call 76; refine (errnew_any _ _).mono ?_; rintro e w3 ⟨⟨a, rfl⟩, hb3⟩)
  go_ret
  exact ⟨⟨_, rfl⟩, HB2.out.trans (hb3.mono HB2.out.size)⟩
 ·have HG3 := hid (show Calls Tryz.prog 85 #[vt, .string ⟨#[116, 97, 103]⟩] w fun e w' => e = .returned (.tuple #[.string tt, .bool true]) ∧ Below w.heap.size w w' by
   have h := get_any vt pt ⟨#[116, 97, 103]⟩ w hpt
   rw [show kvGet pt (⟨#[116, 97, 103]⟩ : ByteArray).data.toList = some tt from e1] at h
   exact h)
  have HG2 := hid (show ∀ wx, Below w.heap.size w wx → Calls Tryz.prog 85 #[vf, .string ⟨#[116, 97, 103]⟩] wx fun e w' => e = .returned (.tuple #[.string ⟨#[]⟩, .bool false]) ∧ Below wx.heap.size wx w' by
   intro wx hx
   have h := get_any vf pf ⟨#[116, 97, 103]⟩ wx (hpf.below hx)
   rw [show kvGet pf (⟨#[116, 97, 103]⟩ : ByteArray).data.toList = none from e2] at h
   exact h)
  obtain ⟨At, ct', rfl⟩ := hpt.form
  obtain ⟨Af, cf', rfl⟩ := hpf.form
  clear hd h2 h3 h4 hf ht hc e1 e2 hpt hpf cf
  go_enter Tryz.func64, Tryz.ntmps64
  go_wp2_with fail
  refine HC4.out.mono ?_
  rintro e w1 ⟨rfl, rfl⟩
  go_wp2_with fail
  refine HC3.out.mono ?_
  rintro e w1 ⟨rfl, rfl⟩
  go_wp2_with fail
  refine HG3.out.mono ?_
  rintro e w2 ⟨rfl, hb2⟩
  have HB2 := hid hb2
  clear hb2 ct
  go_wp2_with fail
  refine (HC2.out _ HB2.out).mono ?_
  rintro e w3 ⟨rfl, rfl⟩
  have cf := cell_at_below HCF.out HB2.out
  go_wp2_with fail
  refine (HG2.out _ HB2.out).mono ?_
  rintro e w3 ⟨rfl, hb3⟩
  have HB3 := hid (HB2.out.trans (hb3.mono HB2.out.size))
  clear hb3 cf
  go_wp2_with (go_at_call 76; refine (errnew_any _ _).mono ?_; rintro e w4 ⟨⟨a, rfl⟩, hb4⟩)
  go_ret
  exact ⟨⟨_, rfl⟩, HB3.out.trans (hb4.mono HB3.out.size)⟩
theorem dlguas_no (m : Nat) (w : World) (hd : DlgNo m w) :
  Calls Tryz.prog 40 #[.pointer (some ⟨m, 0, none⟩)] w fun e w' => (∃ a, e = .returned (.tuple #[.string ⟨#[]⟩, .iface 171 (.pointer (some a))])) ∧ Below w.heap.size w w' := by
 obtain ⟨wb, hwb⟩ : ∃ wb, wb = ((w.alloc (.cells #[.string ⟨#[]⟩] 9)).alloc (.cells #[.string ⟨#[]⟩] 9)).alloc (.cells #[.string ⟨#[]⟩] 9) := ⟨_, rfl⟩
 have hb0 : Below w.heap.size w wb := by rw [hwb]; exact (((Below.refl _ w).alloc (Nat.le_refl _) _).alloc (by simp) _).alloc (by simp; omega) _
 have HGD := hid (getdlg_no 80 (.inl rfl) m ⟨w.heap.size, 0, none⟩ ⟨w.heap.size + 1, 0, none⟩ ⟨w.heap.size + 2, 0, none⟩ wb (hd.below hb0))
 have HB0 := hid hb0
 have HWB := hid hwb
 clear hd hb0 hwb
 go_enter Tryz.func40, Tryz.ntmps40
 go_upto_region 2 with fail
 rw [← HWB.out, show w.heap.size + 1 + 1 = w.heap.size + 2 from rfl]
 go_upto_if 12 with (go_at_call 64; refine HGD.out.mono ?_; rintro e w1 ⟨⟨a, rfl⟩, hb1⟩)
 have HB1 := hid (HB0.out.trans (hb1.mono HB0.out.size))
 clear hb1
 go_wp2_with fail
 go_ret2
 exact ⟨⟨_, rfl⟩, HB1.out⟩
theorem alnum_word {c : UInt8} (h : alnumB c = true) : wordB c = true := by
 unfold alnumB at h
 unfold wordB
 rw [h]
 rfl
theorem alnum_ok {l : Bytes} (h : textS alnumB l = true) : ValB ⟨l.toArray⟩ ∧ l.length ≤ 8192 ∧ 0 < l.length ∧ l.all alnumB = true := by
 simp only [textS, Bool.and_eq_true, decide_eq_true_eq] at h
 refine ⟨fun i hi => wordB_ok (alnum_word (all_at h.1.1 i hi)), h.2, h.1.2, h.1.1⟩
theorem kvok_set {l : BKVs} {k v : Bytes} (h : KVok (strKVs l)) (hv : ValB ⟨v.toArray⟩) : KVok (strKVs (l.map (setK k v))) := by
 intro q hq
 obtain ⟨p, hp, rfl⟩ := List.mem_map.1 hq
 obtain ⟨r, hr, rfl⟩ := List.mem_map.1 hp
 have h8 := h (strKV r) (List.mem_map.2 ⟨r, hr, rfl⟩)
 unfold setK
 split
 ·exact hv
 ·exact h8
theorem HMs.tag2 {h : LHead} (H : HMs h) (ht : h.t = 2) (k v : Bytes) (hv : ValB ⟨v.toArray⟩) : HMs (parH h k v) := by
 obtain ⟨t, name, text, display, u, params, num, proto, version, transport, host, port⟩ := h
 dsimp only at ht
 subst ht
 obtain ⟨⟨b1, b2⟩, hu, h3, h4, h5, h6, h7⟩ := H
 have h4' : UOk (toS u) ∧ KVok (strKVs params) := h4
 exact ⟨⟨b1, by show (params.map _).length ≤ _; rw [List.length_map]; exact b2⟩, hu, h3, (show UOk (toS u) ∧ KVok (strKVs (params.map (setK k v))) from ⟨h4'.1, kvok_set h4'.2 hv⟩), h5, h6, h7⟩
theorem HMs.tag1 {h : LHead} (H : HMs h) (ht : h.t = 1) (k v : Bytes) (hv : ValB ⟨v.toArray⟩) : HMs (parH h k v) := by
 obtain ⟨t, name, text, display, u, params, num, proto, version, transport, host, port⟩ := h
 dsimp only at ht
 subst ht
 obtain ⟨⟨b1, b2⟩, hu, h3, h4, h5, h6, h7⟩ := H
 have h4' : UOk (toS u) ∧ KVok (strKVs params) := h4
 exact ⟨⟨b1, by show (params.map _).length ≤ _; rw [List.length_map]; exact b2⟩, hu, h3, (show UOk (toS u) ∧ KVok (strKVs (params.map (setK k v))) from ⟨h4'.1, kvok_set h4'.2 hv⟩), h5, h6, h7⟩
def txtH (h : LHead) (x : Bytes) : LHead := { h with text := x }
theorem HMs.txt4 {h : LHead} (H : HMs h) (ht : h.t = 4) (x : Bytes) : HMs (txtH h x) := by
 obtain ⟨t, name, text, display, u, params, num, proto, version, transport, host, port⟩ := h
 dsimp only at ht
 subst ht
 obtain ⟨⟨b1, b2⟩, hu, h3, h4, h5, h6, h7⟩ := H
 exact ⟨⟨b1, b2⟩, hu, h3, trivial, h5, h6, h7⟩
def aptM (m : LMsg) (fr tq id : LHead) (f t x : Bytes) : LMsg := chgM (chgM (chgM m (parH fr tagK f)) (parH tq tagK t)) (txtH id x)
theorem CallD.aptP {m : LMsg} {fr tq id pf pt pi : LHead} (C : CallD m fr tq id pf pt pi) {f t x : Bytes} (hf : textS alnumB f = true) (ht : textS alnumB t = true) : PMsg (aptM m fr tq id f t x) :=
 ((C.p.chg (C.ms2.tag2 C.t2 tagK f (alnum_ok hf).1)).chg (C.ms1.tag1 C.t1 tagK t (alnum_ok ht).1)).chg (C.ms4.txt4 C.t4 x)
theorem CallD.aptD {m : LMsg} {fr tq id pf pt pi : LHead} (C : CallD m fr tq id pf pt pi) (h1 : 0 < (paramV fr.params tagB).length) (h2 : 0 < (paramV tq.params tagB).length) {f t x : Bytes} (hf : textS alnumB f = true) (ht : textS alnumB t = true) (hx : textS alnumB x = true) :
  DlgF (aptM m fr tq id f t x) x t f :=
 ⟨⟨parH fr tagK f, parH tq tagK t, txtH id x, filt_out (filt_out (filt_in C.h2 C.t2) (by show (2 : Int) ≠ tq.t; rw [C.t1]; decide)) (by show (2 : Int) ≠ id.t; rw [C.t4]; decide),
   filt_out (filt_in (filt_out C.h1 (by show (1 : Int) ≠ fr.t; rw [C.t2]; decide)) C.t1) (by show (1 : Int) ≠ id.t; rw [C.t4]; decide),
   filt_in (filt_out (filt_out C.h4 (by show (4 : Int) ≠ fr.t; rw [C.t2]; decide)) (by show (4 : Int) ≠ tq.t; rw [C.t1]; decide)) C.t4, rfl,
   find_setK fr.params tagB f (find_of_len h1).1, find_setK tq.params tagB t (find_of_len h2).1⟩,
  by have := (alnum_ok hx).2.1; omega, by have := (alnum_ok ht).2.1; omega, by have := (alnum_ok hf).2.1; omega⟩
theorem CallD.both {m : LMsg} {fr tq id pf pt pi : LHead} (C : CallD m fr tq id pf pt pi) {tf tt : Bytes} (hf : (fr.params.find? fun p => p.1 == tagB).map (·.2) = some tf) (ht : (tq.params.find? fun p => p.1 == tagB).map (·.2) = some tt) : DlgF m id.text tt tf := by
 have e2 : tf.length ≤ 8192 := by
  obtain ⟨p, hp, rfl⟩ := Option.map_eq_some_iff.1 hf
  exact C.val2 p (List.mem_of_find?_eq_some hp)
 have e1 : tt.length ≤ 8192 := by
  obtain ⟨p, hp, rfl⟩ := Option.map_eq_some_iff.1 ht
  exact C.val1 p (List.mem_of_find?_eq_some hp)
 exact ⟨⟨pf, pt, pi, C.h2, C.h1, C.h4, C.txt, by rw [C.par2]; exact hf, by rw [C.par1]; exact ht⟩, by have := C.txl; omega, by omega, by omega⟩
structure DlgM (m : LMsg) : Prop where
 ex : ∃ pf pt pi, m.heads.filter (isT 2) = [pf] ∧ m.heads.filter (isT 1) = [pt] ∧ m.heads.filter (isT 4) = [pi] ∧ ((pt.params.find? fun p => p.1 == tagB).map (·.2) = none ∨ ∃ tt, (pt.params.find? fun p => p.1 == tagB).map (·.2) = some tt ∧ (pf.params.find? fun p => p.1 == tagB).map (·.2) = none)
theorem CallD.no {m : LMsg} {fr tq id pf pt pi : LHead} (C : CallD m fr tq id pf pt pi) (h : (tq.params.find? fun p => p.1 == tagB).map (·.2) = none ∨ ∃ tt, (tq.params.find? fun p => p.1 == tagB).map (·.2) = some tt ∧ (fr.params.find? fun p => p.1 == tagB).map (·.2) = none) : DlgM m :=
 ⟨pf, pt, pi, C.h2, C.h1, C.h4, by rw [C.par2, C.par1]; exact h⟩
theorem msg_no {N : Nat} {m : LMsg} {cs : List Value} {w : World} (hK : KMsg N m cs w) (hG : Gl N w) (hD : DlgM m) : Calls Tryz.prog 38 #[.agg cs.toArray] w fun e w' => ∃ mm, e = .returned (.iface (mtyI m) (.pointer (some ⟨mm, 0, none⟩))) ∧ DlgNo mm w' ∧ Below w.heap.size w w' :=
 (hK.message hG).mono fun e w' ⟨mm, hs, h1, _, hmap, hb, n0, X, hM⟩ => by
  obtain ⟨pf, pt, pi, h2, h3, h4, hx⟩ := hD.ex
  obtain ⟨g2, c2, r2⟩ := ref_of hM hmap 2 2 (by omega) (by omega) (by omega) isT_from pf h2
  obtain ⟨g3, c3, r3⟩ := ref_of hM hmap 3 1 (by omega) (by omega) (by omega) isT_to pt h3
  obtain ⟨g4, c4, r4⟩ := ref_of hM hmap 4 4 (by omega) (by omega) (by omega) isT_callid pi h4
  rw [hdr_from (filt_t h2)] at r2
  rw [hdr_to (filt_t h3)] at r3
  rw [hdr_callid (filt_t h4)] at r4
  refine ⟨mm, h1, ⟨g2, g3, g4, _, _, _, _, _, _, _, c2, c3, c4, r2, r3, r4, ?_⟩, hb⟩
  rw [get_param, get_param]
  rcases hx with hx | ⟨tt, h5, h6⟩
  ·exact .inl (by rw [hx]; rfl)
  ·exact .inr ⟨_, by rw [h5]; rfl, by rw [h6]; rfl⟩
theorem run_cut {a b x y : Bytes} (ha : a.all alnumB = true) (hb : b.all alnumB = true) (h : a ++ 95 :: x = b ++ 95 :: y) : a = b ∧ x = y := by
 induction a generalizing b with
 | nil =>
  cases b with
  | nil => simpa using h
  | cons d t =>
   simp only [List.nil_append, List.cons_append, List.cons.injEq] at h
   obtain ⟨rfl, -⟩ := h
   simp [alnumB, letterB, digitB] at hb
 | cons e s ih =>
  cases b with
  | nil =>
   simp only [List.nil_append, List.cons_append, List.cons.injEq] at h
   obtain ⟨rfl, -⟩ := h
   simp [alnumB, letterB, digitB] at ha
  | cons d t =>
   simp only [List.cons_append, List.cons.injEq] at h
   obtain ⟨rfl, h⟩ := h
   simp only [List.all_cons, Bool.and_eq_true] at ha hb
   obtain ⟨rfl, h2⟩ := ih ha.2 hb.2 h
   exact ⟨rfl, h2⟩
theorem join_apart {a b c a' b' c' : Bytes} (ha : textS alnumB a = true) (hb : textS alnumB b = true) (ha' : textS alnumB a' = true) (hb' : textS alnumB b' = true) :
  decide (joinS (bs a) (bs b) (bs c) = joinS (bs a') (bs b') (bs c')) = (decide (a = a') && decide (c = c') && decide (b = b')) := by
 rw [Bool.eq_iff_iff]
 simp only [Bool.and_eq_true, decide_eq_true_eq]
 constructor
 ·intro h
  have e : ∀ x y z : Bytes, joinS (bs x) (bs y) (bs z) = x ++ 95 :: 95 :: (y ++ 95 :: 95 :: z) := by
   intro x y z
   simp [joinS, bs]
  rw [e, e] at h
  obtain ⟨rfl, h1⟩ := run_cut (alnum_ok ha).2.2.2 (alnum_ok ha').2.2.2 h
  simp only [List.cons.injEq, true_and] at h1
  obtain ⟨rfl, h2⟩ := run_cut (alnum_ok hb).2.2.2 (alnum_ok hb').2.2.2 h1
  simp only [List.cons.injEq, true_and] at h2
  exact ⟨⟨rfl, h2⟩, rfl⟩
 ·rintro ⟨⟨rfl, rfl⟩, rfl⟩
  rfl
theorem alike_step {l m : Bytes} {k : Nat} {d d2 : UInt8} (h1 : l[k]? = some d) (h2 : m[k]? = some d2) (h : (l.take k).map smallN = (m.take k).map smallN) (he : smallN d = smallN d2) : (l.take (k + 1)).map smallN = (m.take (k + 1)).map smallN := by
 rw [List.take_add_one, List.take_add_one, h1, h2, List.map_append, List.map_append, h]
 simp [he]
theorem alike_ne {l m : Bytes} {k : Nat} {d d2 : UInt8} (h1 : l[k]? = some d) (h2 : m[k]? = some d2) (he : smallN d ≠ smallN d2) : l.map smallN ≠ m.map smallN := fun h => by
 have h3 := congrArg (fun x : List Int => x[k]?) h
 simp only [List.getElem?_map, h1, h2, Option.map_some, Option.some.injEq] at h3
 exact he h3
theorem alike_x (v u : Value) (l m : Bytes) (w : World) (hS : SB w v l) (hT : SB w u m) : Calls Tryz.prog 42 #[v, u] w fun e w' => e = .returned (.bool (decide (l.map smallN = m.map smallN))) ∧ Below w.heap.size w w' := by
 have HS := hid hS
 have HT := hid hT
 obtain ⟨A, c, rfl, hlen⟩ := hS.form
 obtain ⟨A2, c2, rfl, hlen2⟩ := hT.form
 obtain ⟨r, hr⟩ : ∃ r, r = decide (l.map smallN = m.map smallN) := ⟨_, rfl⟩
 have HR := hid hr
 rw [← hr]
 clear hS hT hr
 by_cases hlm : l.length = m.length
 ·have HLM := hid hlm
  rw [← hlm] at hlen2 ⊢
  clear hlm hlen2
  go_enter Tryz.func42, Tryz.ntmps42
  go_wp2_with fail
  go_loopw [5] (fun i wr => ∃ k : Nat, k ≤ l.length ∧ i = .int .i64 k ∧ (l.take k).map smallN = (m.take k).map smallN ∧ Below w.heap.size w wr) (fun i _ => l.length - (intOf i).toNat)
  case atStart => exact ⟨0, Nat.zero_le _, rfl, rfl, Below.refl _ _⟩
  case round =>
   obtain ⟨k, hk, rfl, hal, hb⟩ := hrel
   have HB := hid hb
   have HAL := hid hal
   obtain ⟨wo, rfl⟩ : ∃ wo : World, wo = wr := ⟨_, rfl⟩
   clear hb hal
   by_cases hlt : k < l.length
   ·obtain ⟨a, c', d, e1, hc, hd⟩ := HS.out.get k hlt
    cases e1
    have hlt2 : k < m.length := by rw [← HLM.out]; exact hlt
    obtain ⟨a2, c2', d2, e2, hc2, hd2⟩ := HT.out.get k hlt2
    rw [← HLM.out] at e2
    cases e2
    have d1 := cell_at_below hc HB.out
    have d2' := cell_at_below hc2 HB.out
    have HLT := hid hlt
    have HDD := hid (And.intro hd hd2)
    have hk1 : (k : Int) < l.length := by omega
    have hk2 : (0 : Int) ≤ k := by omega
    have hk3 : k < l.length := hlt
    clear hc hc2 hd hd2
    obtain ⟨x, hx0⟩ : ∃ x : Int, x = smallN d := ⟨_, rfl⟩
    obtain ⟨y, hy0⟩ : ∃ y : Int, y = smallN d2 := ⟨_, rfl⟩
    have hx : ∀ wx, Calls Tryz.prog 66 #[.int .u8 d.toNat] wx fun e w' => e = .returned (.int .u8 x) ∧ w' = wx := fun wx => by rw [hx0]; exact small_any d wx
    have hy : ∀ wx, Calls Tryz.prog 66 #[.int .u8 d2.toNat] wx fun e w' => e = .returned (.int .u8 y) ∧ w' = wx := fun wx => by rw [hy0]; exact small_any d2 wx
    have HX := hid hx
    have HY := hid hy
    have HXY := hid (And.intro hx0 hy0)
    clear hx hy hx0 hy0
    go_wp2_with fail
    refine Go.wp_region_quiet_lit rfl (by kernel_rfl) ?_
    quiet_step (fail)
    quiet_step (fail)
    quiet_step (fail)
    quiet_step (fail)
    quiet_step (first | (go_at_call 66; refine Calls.quiet_of_same (HX.out _)) | fail)
    quiet_step (fail)
    quiet_step (fail)
    quiet_step (fail)
    quiet_step (fail)
    quiet_step (first | (go_at_call 66; refine Calls.quiet_of_same (HY.out _)) | fail)
    quiet_step (fail)
    refine Go.wpQuiet_nil ?_
    intro _ hw'
    obtain ⟨nq, hw''⟩ := hw'
    subst hw''
    have HBn := hid (show Below w.heap.size w (wo.drewN nq) from ⟨HB.out.os, HB.out.tape, HB.out.output, HB.out.size, HB.out.block⟩)
    cases hq : (x == y)
    ·have HQ := hid hq
     go_wp2
     go_ret
     refine ⟨ret_bool ?_, HBn.out⟩
     rw [HR.out]
     exact (decide_eq_false (alike_ne HDD.out.1 HDD.out.2 (by rw [← HXY.out.1, ← HXY.out.2]; simpa using HQ.out))).symm
    ·have HQ := hid hq
     go_wp2
     go_roundw
     case rel => exact ⟨k + 1, HLT.out, by simp, alike_step HDD.out.1 HDD.out.2 HAL.out (by rw [← HXY.out.1, ← HXY.out.2]; simpa using HQ.out), HBn.out⟩
     case measure => exact meas_step HLT.out (by simp)
   ·go_wp2
    go_ret
    refine ⟨ret_bool ?_, HB.out⟩
    rw [HR.out]
    have h1 := HAL.out
    rw [List.take_of_length_le (by omega), List.take_of_length_le (by have := HLM.out; omega)] at h1
    exact (decide_eq_true h1).symm
 ·have hne : ¬ (l.length : Int) = m.length := by omega
  have HNE := hid hlm
  clear hlm
  go_enter Tryz.func42, Tryz.ntmps42
  go_wp2
  go_ret
  refine ⟨ret_bool ?_, Below.refl _ _⟩
  rw [HR.out]
  exact (decide_eq_false (fun h => HNE.out (by simpa using congrArg List.length h))).symm
theorem lackstag_any (h : LHead) (cs : List Value) (w : World) (hH : LH w h cs) : Calls Tryz.prog 23 #[.agg cs.toArray] w (Says (∀ p ∈ h.params, p.1 ≠ tagK) w) := by
 have hlen := (hH.x w).len
 obtain ⟨t, name, text, display, u, params, num, proto, version, transport, host, port⟩ := h
 obtain ⟨a, b, c, ul0, p, d, e, f, g, rfl, ha, hb, hc, hu, hp, hd, he, hf, hg, ht64, hnum, hport⟩ := hH
 obtain ⟨u0, u1, u4, u5, u6, u8, u9, rfl, -⟩ := hu
 dsimp only at *
 simp only [List.cons_append, List.nil_append]
 have HS := hid hp
 obtain ⟨Ap, cp, rfl, hpl⟩ := hp.form
 clear hlen ha hb hc hp hd he hf hg ht64 hnum hport
 obtain ⟨wb, hwb⟩ : ∃ wb, wb = w.alloc (.cells #[.int .i64 t, a, b, c, u0, u1, .bool u.star, .bool u.slashes, u4, u5, u6, .int .i64 u.port, u8, u9, .slice Ap params.length cp, .int .u32 num, d, e, f, g, .int .i64 port] 35) := ⟨_, rfl⟩
 have HWB1 := hid (show wb.heap[w.heap.size]? = some (.cells ([.int .i64 t, a, b, c, u0, u1, .bool u.star, .bool u.slashes, u4, u5, u6, .int .i64 u.port, u8, u9, .slice Ap params.length cp, .int .u32 num, d, e, f, g, .int .i64 port] : List Value).toArray 35 (0, 0)) by rw [hwb]; exact heap_alloc_new w _)
 have HB0 := hid (show Below w.heap.size w wb by rw [hwb]; exact (Below.refl _ w).alloc (Nat.le_refl _) _)
 have HSZ := hid (show wb.heap.size = w.heap.size + 1 by rw [hwb]; simp)
 go_enter Tryz.func23, Tryz.ntmps23
 go_upto_region 1 with fail
 rw [← hwb]
 generalize Value.agg #[.int .i64 t, a, b, c, u0, u1, .bool u.star, .bool u.slashes, u4, u5, u6, .int .i64 u.port, u8, u9, .slice Ap params.length cp, .int .u32 num, d, e, f, g, .int .i64 port] = arg0
 clear hwb
 go_wp2_with fail
 go_loopw [3] (fun i wr => ∃ k : Nat, k ≤ params.length ∧ i = .int .i64 k ∧ (∀ j (hj : j < params.length), j < k → params[j].1 ≠ tagK) ∧ Below wb.heap.size wb wr) (fun i _ => params.length - (intOf i).toNat)
 case atStart => exact ⟨0, Nat.zero_le _, rfl, fun j _ h => absurd h (by omega), Below.refl _ _⟩
 case round =>
  obtain ⟨k, hk, rfl, hno, hb⟩ := hrel
  obtain ⟨wo, rfl⟩ : ∃ wo : World, wo = wr := ⟨_, rfl⟩
  have HNO := hid hno
  have HB := hid hb
  have HG := hid ((HB.out.block w.heap.size (by have := HSZ.out; omega)).trans HWB1.out)
  have HBW := hid (HB0.out.trans (HB.out.mono (by have := HSZ.out; omega)))
  have c14 := row_at HG.out 14 _ rfl
  clear hno hb
  by_cases hlt : k < params.length
  ·obtain ⟨a', c', vk, vv, p, e1, hc0, hc1, hk1, hv1, hp⟩ := HS.out.at_ k hlt
   cases e1
   have d0 := cell_at_below hc0 HBW.out
   have d1 := cell_at_below hc1 HBW.out
   have HAL := hid (show ∀ fz, Calls Tryz.prog 42 #[vk, .slice (some ⟨wo.heap.size, 0, none⟩) 3 3] (wo.alloc (.cells #[.int .u8 116, .int .u8 97, .int .u8 103] 5 fz)) (fun e w' => e = .returned (.bool (decide (p.1.map smallN = ([116, 97, 103] : Bytes).map smallN))) ∧ Below (wo.alloc (.cells #[.int .u8 116, .int .u8 97, .int .u8 103] 5 fz)).heap.size (wo.alloc (.cells #[.int .u8 116, .int .u8 97, .int .u8 103] 5 fz)) w') from fun fz =>
    alike_x _ _ p.1 [116, 97, 103] _ ((hk1.below HBW.out).below ((Below.refl _ _).alloc (Nat.le_refl _) _)) (SB.lit (l := [116, 97, 103]) (heap_alloc_new wo _) (fun i hi => by match i, hi with | 0, _ => rfl | 1, _ => rfl | 2, _ => rfl) 3 (Nat.le_refl _) (by omega)))
   have HB1 := hid (show ∀ fz, Below wo.heap.size wo (wo.alloc (.cells #[.int .u8 116, .int .u8 97, .int .u8 103] 5 fz)) from fun fz => (Below.refl _ _).alloc (Nat.le_refl _) _)
   have hcv := conv_const
   have HLT := hid (And.intro (Nat.succ_le_of_lt hlt) hp)
   have hge : params[k] = p := by rw [List.getElem?_eq_getElem hlt] at hp; exact Option.some.inj hp
   have HGE := hid hge
   obtain ⟨Ak, ck, rfl, nk⟩ := hk1.form
   have hk2 : (0 : Int) ≤ k := by omega
   have hk3 : (k : Int) < params.length := by omega
   obtain ⟨q, hq⟩ : ∃ q, q = decide (p.1.map smallN = ([116, 97, 103] : Bytes).map smallN) := ⟨_, rfl⟩
   rw [← hq] at HAL
   have HQ := hid hq
   clear hk1 hv1 hp hge hc0 hc1 hq
   go_wp2_with (go_at_call 42; refine (HAL.out _).mono ?_; rintro e w1 ⟨rfl, hb1⟩; have HB2 := hid ((HB1.out _).trans (hb1.mono (HB1.out _).size)); clear hb1; cases q)
   ·go_roundw
    case rel =>
     refine ⟨k + 1, HLT.out.1, by simp, fun j hj hjk => ?_, HB.out.trans (HB2.out.mono HB.out.size)⟩
     by_cases hjl : j < k
     ·exact HNO.out j hj hjl
     ·obtain rfl : j = k := by omega
      rw [HGE.out]
      intro h
      have h2 := HQ.out
      rw [h] at h2
      revert h2
      decide
    case measure => exact meas_step HLT.out.1 (by simp)
   ·go_ret
    exact ⟨⟨_, rfl, fun h => by cases h⟩, HBW.out.trans (HB2.out.mono HBW.out.size)⟩
  ·have HNL := hid hlt
   have hk3 : ¬ (k : Int) < params.length := by omega
   clear hlt
   go_wp2
   go_ret
   have key : ∀ p ∈ params, p.1 ≠ tagK := fun p hp => by
    obtain ⟨j, hj, rfl⟩ := List.getElem_of_mem hp
    exact HNO.out j hj (by have := HNL.out; omega)
   refine ⟨⟨_, rfl, fun _ => ?_⟩, HBW.out⟩
   first | exact key | exact fun a b h => key (a, b) h
theorem run_storeVar_cell {P : Program} (w : World) (g j : Nat) (ty : TypeId) (v : Value) (h1 : v.oneCell' = true) (ht : w.there g j 1) (hi : (P.info? ty).map (·.size) = some 1) : (storeVar ty ⟨g, j, none⟩ v).run P w = .ok () (w.setCell ⟨g, j, none⟩ v) := by
 have := run_storeCells_cells (P := P) g j [v] 0 w (fun k hk => by simpa using (ht k (by simpa using hk)).1) (fun k hk => by simpa using (ht k (by simpa using hk)).2)
  (fun x hx => by simp at hx; subst hx; exact h1)
 have hc : v.cells = #[v] := by cases v <;> first | rfl | cases h1
 cases hq : P.info? ty with
 | none => simp [hq] at hi
 | some i =>
  have hs : i.size = 1 := by simpa [hq] using hi
  simp only [Nat.add_zero] at this
  simp [storeVar, sizeOf, typeInfo, hq, hc, hs, this, World.setCells]
theorem wpList_store_cell {P : Program} {ops : Array Oper} {rest : List Oper} {op : Oper} {a : Act} {W : World} {Q : Exit → Act → World → Prop} (hgd : op.guard = none) (ty : TypeId) (x y : Operand) (ho : op.op = .store ty x y)
  (g j : Nat) (ty' : TypeId) (l : List Value) (v : Value) (hx : a.eval x = .pointer (some ⟨g, j, none⟩)) (hy : a.eval y = v) (hg : W.heap[g]? = some (Obj.cells l.toArray ty' (0, 0)))
  (hj : j < l.length) (h1 : v.oneCell' = true) (hi : (P.info? ty).map (·.size) = some 1)
  (h : ∀ W', Stored g ty' (l.set j v) W W' → wpList P ops Q rest (a.put op.dst undef) W') : wpList P ops Q (op :: rest) a W :=
 wpList_plain hgd fun _ hK => by
  unfold Oper.wp execOp
  simp only [ho, hx, hy, Instr.storeAt, Instr.sureAddr, Sem.run_bind, Sem.run_pure, Result.andThen_ok, run_storeVar_cell W g j ty v h1 (there_row hg j 1 (by omega)) hi]
  exact hK _ _ (h _ (stored_set hg j v))
theorem bs_size : (Tryz.prog.info? 22).map (·.size) = some 1 := by kernel_rfl
theorem LH.txt {w : World} {h : LHead} {l : List Value} (H : LH w h l) {v : Value} {x : Bytes} (hv : SB w v x) : LH w { h with text := x } (l.set 2 v) := by
 obtain ⟨a, b, c, ul, p, d, e, f, g, rfl, h1, h2, h3, h4, h5, h6, h7, h8, h9, h10, h11, h12⟩ := H
 exact ⟨a, v, c, ul, p, d, e, f, g, rfl, h1, hv, h3, h4, h5, h6, h7, h8, h9, h10, h11, h12⟩
theorem Stored.keep {g : Nat} {ty : TypeId} {l : List Value} {w w' : World} (h : Stored g ty l w w') {k : Nat} {o : Obj} (hk : w.heap[k]? = some o) (hne : k ≠ g) : w'.heap[k]? = some o := (h.other k hne).trans hk
theorem LH.two {w : World} {h : LHead} {l : List Value} (H : LH w h l) : ∃ x0 x1 r, l = x0 :: x1 :: r ∧ r.length = 19 := by
 obtain ⟨a, b, c, ul, p, d, e, f, g, rfl, h1, h2, h3, hu, -⟩ := H
 exact ⟨_, _, _, rfl, by simp [hu.len]⟩
def TL (N : Nat) (l : List Value) (w w' : World) : Prop := Below N w w' ∧ ∀ (k : Nat) (zs : List Value), w.heap[k]? = some (Obj.cells zs.toArray 35 (0, 0)) → zs.length = 21 → ∃ zs' : List Value, w'.heap[k]? = some (Obj.cells zs'.toArray 35 (0, 0)) ∧ zs'.length = 21 ∧ (zs = l → zs' = l)
theorem TL.refl (N : Nat) (l : List Value) (w : World) : TL N l w w := ⟨Below.refl _ _, fun _ zs h h2 => ⟨zs, h, h2, fun e => e⟩⟩
theorem TL.new {N : Nat} {w : World} (l : List Value) (h : N ≤ w.heap.size) (o : Obj) : TL N l w (w.alloc o) :=
 ⟨(Below.refl _ _).alloc h _, fun k zs hk h2 => ⟨zs, (((Below.refl w.heap.size w).alloc (Nat.le_refl _) o).block k (heap_lt hk)).trans hk, h2, fun e => e⟩⟩
theorem TL.stored {N g : Nat} {l : List Value} {w w' : World} (h : Stored g 35 l w w') (hn : N ≤ g) (hl : l.length = 21) : TL N l w w' := by
 refine ⟨h.below.mono hn, fun k zs hk h2 => ?_⟩
 by_cases e : k = g
 ·subst e
  exact ⟨l, h.blk, hl, fun _ => rfl⟩
 ·exact ⟨zs, (h.other k e).trans hk, h2, fun e => e⟩
def GoodK (k : Nat) (key : Bytes) (w : World) (l : List Value) : Prop := ∃ x, l[k]? = some x ∧ SBu w x key
structure LG (gk k : Nat) (key : Bytes) (w w' : World) : Prop where
 below : Below gk w w'
 other : ∀ (j : Nat) (cs : Array Value) (t : TypeId) (fz : Nat × Nat), (j ≠ gk ∨ t ≠ 50) → w.heap[j]? = some (Obj.cells cs t fz) → ∃ fz' : Nat × Nat, w'.heap[j]? = some (Obj.cells cs t fz') ∧ (t ≠ 5 → fz' = fz)
 cell : ∀ l : List Value, w.heap[gk]? = some (Obj.cells l.toArray 50 (0, 0)) → ∃ l' : List Value, w'.heap[gk]? = some (Obj.cells l'.toArray 50 (0, 0)) ∧ l'.length = l.length ∧ (∀ j, j ≠ k → l'[j]? = l[j]?) ∧ (GoodK k key w l → GoodK k key w' l')
theorem LG.refl (gk k : Nat) (key : Bytes) (w : World) : LG gk k key w w := ⟨Below.refl _ _, fun _ _ _ fz _ h => ⟨fz, h, fun _ => rfl⟩, fun l h => ⟨l, h, rfl, fun _ _ => rfl, fun h => h⟩⟩
theorem LG.trans {gk k : Nat} {key : Bytes} {a b c : World} (h : LG gk k key a b) (q : LG gk k key b c) : LG gk k key a c := by
 refine ⟨h.below.trans q.below, fun j cs t fz hn hj => ?_, fun l hl => ?_⟩
 ·obtain ⟨f1, h1, e1⟩ := h.other j cs t fz hn hj
  obtain ⟨f2, h2, e2⟩ := q.other j cs t f1 hn h1
  exact ⟨f2, h2, fun ht => (e2 ht).trans (e1 ht)⟩
 ·obtain ⟨l1, h1, h2, h3, h4⟩ := h.cell l hl
  obtain ⟨l2, q1, q2, q3, q4⟩ := q.cell l1 h1
  exact ⟨l2, q1, q2.trans h2, fun j hj => (q3 j hj).trans (h3 j hj), fun g => q4 (h4 g)⟩
theorem LG.ku {gk k : Nat} {key : Bytes} {w w' : World} (h : LG gk k key w w') : KU gk w w' :=
 ⟨h.below, fun j cs fz hj => by
  obtain ⟨fz', h1, -⟩ := h.other j cs _ fz (.inr (by decide)) hj
  exact ⟨fz', h1⟩⟩
theorem LG.of_below {gk k : Nat} {key : Bytes} {w w' : World} (h : Below w.heap.size w w') (hg : gk < w.heap.size) : LG gk k key w w' :=
 ⟨h.mono (Nat.le_of_lt hg), fun j _ _ fz _ hj => ⟨fz, (h.block j (heap_lt hj)).trans hj, fun _ => rfl⟩, fun l hl => ⟨l, (h.block gk hg).trans hl, rfl, fun _ _ => rfl, fun ⟨x, h1, h2⟩ => ⟨x, h1, h2.ku (CK.of_below h (Nat.le_refl _)).ku⟩⟩⟩
theorem LG.stored {gk k : Nat} {key : Bytes} {w w' : World} {l : List Value} {x : Value} (hl : w.heap[gk]? = some (Obj.cells l.toArray 50 (0, 0))) (hk : k < l.length) (h : Stored gk 50 (l.set k x) w w') (hx : SBu w x key) : LG gk k key w w' ∧ GoodK k key w' (l.set k x) := by
 have hku : KU gk w w' := h.ku (Nat.le_refl _) hl (by decide)
 have hgood : GoodK k key w' (l.set k x) := ⟨x, by simp [hk], hx.ku hku⟩
 refine ⟨⟨h.below, fun j cs t fz hn hj => ⟨fz, ?_, fun _ => rfl⟩, fun l2 h2 => ?_⟩, hgood⟩
 ·rw [h.other j ?_]
  ·exact hj
  ·rintro rfl
   rw [hl] at hj
   injection hj with hj
   injection hj with _ hj _
   rcases hn with hn | hn
   ·exact hn rfl
   ·exact hn hj.symm
 ·rw [hl] at h2
  injection h2 with h2
  injection h2 with h2 _ _
  obtain rfl : l = l2 := by simpa using congrArg Array.toList h2
  exact ⟨_, h.blk, by simp, fun j hj => List.getElem?_set_ne (Ne.symm hj), fun _ => hgood⟩
theorem filt_lg {gk k n : Nat} {key : Bytes} {w w' : World} (h : LG gk k key w w') (hn : n ≤ gk) : Sub (filterW w n) (filterW w' n) :=
 filt_step h.below.size fun j cs t fz hj hk => by
  have hc : j ≠ gk ∨ t ≠ 50 := by
   rcases hk with hk | hk
   ·exact .inl (by omega)
   ·exact .inr (by rintro rfl; exact absurd hk (by decide))
  obtain ⟨fz', h1, -⟩ := h.other j cs t fz hc hj
  exact ⟨fz', h1⟩
theorem LMh.lg {gk k n : Nat} {key : Bytes} {w w' : World} {m : LMsg} {l : List Value} (h : LMh n w m l) (q : LG gk k key w w') (hn : n ≤ gk) : LMh n w' m l := LM.sub h (filt_lg q hn)
theorem LHh.lg {gk k n : Nat} {key : Bytes} {w w' : World} {m : LHead} {l : List Value} (h : LHh n w m l) (q : LG gk k key w w') (hn : n ≤ gk) : LHh n w' m l := LH.sub h (filt_lg q hn)
theorem LG.blk {gk k : Nat} {key : Bytes} {w w' : World} (h : LG gk k key w w') {j : Nat} {cs : Array Value} {t : TypeId} {fz : Nat × Nat} (hj : j ≠ gk) (ht : t ≠ 5) (e : w.heap[j]? = some (Obj.cells cs t fz)) : w'.heap[j]? = some (Obj.cells cs t fz) := by
 obtain ⟨fz', h1, h2⟩ := h.other j cs t fz (.inl hj) e
 rw [h1, h2 ht]
def AllT (xi xf xt : Nat → Bytes) (j : Nat) : Prop := textS alnumB (xi j) = true ∧ textS alnumB (xf j) = true ∧ textS alnumB (xt j) = true
def keyN (xi xf xt : Nat → Bytes) (j : Nat) : Bytes := joinS (bs (xi j)) (bs (xt j)) (bs (xf j))
structure LoopK (gk g10 : Nat) (ics : List Value) (xi xf xt : Nat → Bytes) (n : Nat) (w : World) : Prop where
 id : ∃ v, w.heap[g10]? = some (Obj.cells (ics.set 2 v).toArray 35 (0, 0))
 keys : ∃ l : List Value, w.heap[gk]? = some (Obj.cells l.toArray 50 (0, 0)) ∧ l.length = 2 ∧ ∀ j, j < n → AllT xi xf xt j ∧ GoodK j (keyN xi xf xt j) w l
theorem LoopK.next {gk g10 : Nat} {ics : List Value} {xi xf xt : Nat → Bytes} {k : Nat} {w w' : World} {v : Value} (hne : g10 ≠ gk) (hid : w.heap[g10]? = some (Obj.cells (ics.set 2 v).toArray 35 (0, 0)))
  (hk : ∃ l : List Value, w.heap[gk]? = some (Obj.cells l.toArray 50 (0, 0)) ∧ l.length = 2 ∧ ∀ j, j < k → AllT xi xf xt j ∧ GoodK j (keyN xi xf xt j) w l)
  (hq : LG gk k (keyN xi xf xt k) w w') (ha : AllT xi xf xt k) (hg : ∃ l : List Value, w'.heap[gk]? = some (Obj.cells l.toArray 50 (0, 0)) ∧ GoodK k (keyN xi xf xt k) w' l) : LoopK gk g10 ics xi xf xt (k + 1) w' := by
 obtain ⟨l, h1, h2, h3⟩ := hk
 obtain ⟨l', q1, q2, q3, -⟩ := hq.cell l h1
 obtain ⟨l2, e1, e2⟩ := hg
 have : l' = l2 := by
  rw [q1] at e1
  injection e1 with e1
  injection e1 with e1 _ _
  simpa using congrArg Array.toList e1
 subst this
 refine ⟨⟨v, hq.blk hne (by decide) hid⟩, l', q1, q2.trans h2, fun j hj => ?_⟩
 by_cases hjk : j = k
 ·subst hjk
  exact ⟨ha, e2⟩
 ·obtain ⟨a, x, b1, b2⟩ := h3 j (by omega)
  exact ⟨a, x, (q3 j hjk).trans b1, b2.ku hq.ku⟩
theorem keys_stored {gk g10 : Nat} {xi xf xt : Nat → Bytes} {k : Nat} {w w' : World} {l0 l1 : List Value} (hne : gk ≠ g10) (hs : Stored g10 35 l1 w w') (hg : w.heap[g10]? = some (Obj.cells l0.toArray 35 (0, 0)))
  (hk : ∃ l : List Value, w.heap[gk]? = some (Obj.cells l.toArray 50 (0, 0)) ∧ l.length = 2 ∧ ∀ j, j < k → AllT xi xf xt j ∧ GoodK j (keyN xi xf xt j) w l) :
  ∃ l : List Value, w'.heap[gk]? = some (Obj.cells l.toArray 50 (0, 0)) ∧ l.length = 2 ∧ ∀ j, j < k → AllT xi xf xt j ∧ GoodK j (keyN xi xf xt j) w' l := by
 obtain ⟨l, h1, h2, h3⟩ := hk
 refine ⟨l, (hs.other gk hne).trans h1, h2, fun j hj => ?_⟩
 obtain ⟨a, x, b1, b2⟩ := h3 j hj
 exact ⟨a, x, b1, b2.ku (hs.ku (Nat.zero_le _) hg (by decide))⟩
theorem keys_below {gk : Nat} {xi xf xt : Nat → Bytes} {k : Nat} {w w' : World} (hb : Below w.heap.size w w')
  (hk : ∃ l : List Value, w.heap[gk]? = some (Obj.cells l.toArray 50 (0, 0)) ∧ l.length = 2 ∧ ∀ j, j < k → AllT xi xf xt j ∧ GoodK j (keyN xi xf xt j) w l) :
  ∃ l : List Value, w'.heap[gk]? = some (Obj.cells l.toArray 50 (0, 0)) ∧ l.length = 2 ∧ ∀ j, j < k → AllT xi xf xt j ∧ GoodK j (keyN xi xf xt j) w' l := by
 obtain ⟨l, h1, h2, h3⟩ := hk
 refine ⟨l, (hb.block gk (heap_lt h1)).trans h1, h2, fun j hj => ?_⟩
 obtain ⟨a, x, b1, b2⟩ := h3 j hj
 exact ⟨a, x, b1, b2.ku (CK.of_below hb (Nat.le_refl _)).ku⟩
def TupK (key : Bytes) (v : Value) (w : World) : Prop := ∃ x, v = .tuple #[x, .bool true] ∧ SBu w x key
theorem TupK.ku {N : Nat} {key : Bytes} {v : Value} {w w' : World} (h : TupK key v w) (k : KU N w w') : TupK key v w' := by
 obtain ⟨x, h1, h2⟩ := h
 exact ⟨x, h1, h2.ku k⟩
def AggH (n : Nat) (h : LHead) (v : Value) (w : World) : Prop := ∃ rs : List Value, v = .agg rs.toArray ∧ LHh n w h rs
def AggM (n : Nat) (m : LMsg) (v : Value) (w : World) : Prop := ∃ rs : List Value, v = .agg rs.toArray ∧ LMh n w m rs
theorem AggH.lg {gk k n : Nat} {key : Bytes} {h : LHead} {v : Value} {w w' : World} (H : AggH n h v w) (q : LG gk k key w w') (hn : n ≤ gk) : AggH n h v w' := by
 obtain ⟨rs, h1, h2⟩ := H
 exact ⟨rs, h1, h2.lg q hn⟩
theorem AggM.lg {gk k n : Nat} {key : Bytes} {m : LMsg} {v : Value} {w w' : World} (H : AggM n m v w) (q : LG gk k key w w') (hn : n ≤ gk) : AggM n m v w' := by
 obtain ⟨rs, h1, h2⟩ := H
 exact ⟨rs, h1, h2.lg q hn⟩
def DoneK (gk k : Nat) (key : Bytes) (w : World) : Prop := ∃ l : List Value, w.heap[gk]? = some (Obj.cells l.toArray 50 (0, 0)) ∧ GoodK k key w l
theorem DoneK.lg {gk k : Nat} {key : Bytes} {w w' : World} (h : DoneK gk k key w) (q : LG gk k key w w') : DoneK gk k key w' := by
 obtain ⟨l, h1, h2⟩ := h
 obtain ⟨l', e1, -, -, e4⟩ := q.cell l h1
 exact ⟨l', e1, e4 h2⟩
def NoKey (w : World) (e : Ending) (w' : World) : Prop := (∃ A l c, e = .returned (.tuple #[.slice A l c, .bool false])) ∧ Below w.heap.size w w'
theorem dlg_uas_no (N : Nat) (m : LMsg) (cs : List Value) (w : World) (hG : Gl N w) (hK : KMsg N m cs w) (hD : DlgM m) (hr : m.resp = false) :
  Calls Tryz.prog 21 #[.agg cs.toArray, .int .i64 1] w (NoKey w) := by
 have hlen := hK.at_.len19
 have hty : mtyI m = 80 := by unfold mtyI; rw [hr]; rfl
 have HK := hid hK
 have HG := hid hG
 have HDF := hid hD
 clear hK hG hD hr
 obtain ⟨x0, x1, x2, x3, x4, x5, x6, x7, x8, x9, x10, x11, x12, x13, x14, x15, x16, x17, x18, rfl⟩ := list19 hlen
 clear hlen
 obtain ⟨wb, hwb⟩ : ∃ wb, wb = w.alloc (.cells #[x0, x1, x2, x3, x4, x5, x6, x7, x8, x9, x10, x11, x12, x13, x14, x15, x16, x17, x18] 28) := ⟨_, rfl⟩
 have HWB1 := hid (show wb.heap[w.heap.size]? = some (.cells ([x0, x1, x2, x3, x4, x5, x6, x7, x8, x9, x10, x11, x12, x13, x14, x15, x16, x17, x18] : List Value).toArray 28 (0, 0)) by rw [hwb]; exact heap_alloc_new w _)
 have HB0 := hid (show Below w.heap.size w wb by rw [hwb]; exact (Below.refl _ w).alloc (Nat.le_refl _) _)
 have HC := hid (msg_no (HK.out.below HB0.out) (HG.out.below HB0.out HG.out.le) HDF.out)
 rw [hty] at HC
 clear hty
 go_enter Tryz.func21, Tryz.ntmps21
 go_upto_region 1 with fail
 rw [← hwb]
 generalize Value.agg #[x0, x1, x2, x3, x4, x5, x6, x7, x8, x9, x10, x11, x12, x13, x14, x15, x16, x17, x18] = arg0
 clear hwb
 go_upto_region 4 with (first
  | (refine wpList_load_blk (by rfl) 28 (.tmp 2) (by rfl) w.heap.size 28 (0, 0) [x0, x1, x2, x3, x4, x5, x6, x7, x8, x9, x10, x11, x12, x13, x14, x15, x16, x17, x18] (by rfl) HWB1.out _ Tryz.underlying28 rfl 19 msg_size rfl ?_)
  | (go_at_call 38; refine HC.out.mono ?_; rintro e w1 ⟨mm, rfl, hd, hb1⟩)
  | fail)
 have HB1 := hid (HB0.out.trans (hb1.mono HB0.out.size))
 have HD := hid (dlguas_no mm w1 hd)
 clear hd hb1
 have ta1 := ta_hit 80 (.inl rfl)
 have ta2 := ta_miss
 go_upto_region 17 with (go_at_call 40; refine HD.out.mono ?_; rintro e w2 ⟨⟨a, rfl⟩, hb2⟩)
 have HB2 := hid (HB1.out.trans (hb2.mono HB1.out.size))
 clear hb2
 refine wp_region_grow 5 (CK w2.heap.size) (IW w2)
  (fun i v w' => match i with
   | 0 => v = .string ⟨#[]⟩
   | 1 => SBu w' v []
   | 2 => v = .iface 171 (.pointer (some a))
   | 3 => v = .bool false
   | 4 => SBu w' v []
   | _ => True)
  [[], [0], [], [2], [1]] rfl (by kernel_rfl) (by kernel_rfl) (fun _ _ => IW.step) ?_ ?_ ?_ ?_
 ·intro j hj v w'
  match j, hj with
  | j + 5, _ => trivial
 ·exact CK.of_below (Below.refl _ _).drew (Nat.le_refl _)
 ·simp only [List.take_succ_cons, List.take_zero, fillAll]
  refine ⟨⟨?_, ?_⟩, ⟨?_, ?_⟩, ⟨?_, ?_⟩, ⟨?_, ?_⟩, ⟨?_, ?_⟩, trivial⟩
  ·exact fun v w1 w2 h k => h
  ·intro vals w1 hI hd
   unfold GStep
   go_wp2
   exact CK.refl _ _
  ·exact fun v w1 w2 h k => h.ku k.ku
  ·intro vals w1 hI hd
   have h1 : vals 0 = _ := hd.1
   have hr := Lib.run_convert_string_bytes (P := Tryz.prog) w1 9 22 5 ⟨#[]⟩ Tryz.underlying9 Tryz.underlying22 Tryz.underlying5
   have Y := hid (conv_sbu w1 ⟨#[]⟩ (by decide))
   unfold GStep
   go_wp2
   exact ⟨CK.of_below Y.out.2 hI.size, Y.out.1⟩
  ·exact fun v w1 w2 h k => h
  ·intro vals w1 hI hd
   unfold GStep
   go_wp2
   exact CK.refl _ _
  ·exact fun v w1 w2 h k => h
  ·intro vals w1 hI hd
   have h2 : vals 2 = _ := hd.1
   unfold GStep
   go_wp2
   exact CK.refl _ _
  ·exact fun v w1 w2 h k => h.ku k.ku
  ·intro vals w1 hI hd
   have h1 : SBu w1 (vals 1) [] := hd.1
   have H1 := hid h1
   clear hd
   unfold GStep
   dsimp only
   generalize vals 1 = x1 at h1 H1 ⊢
   obtain ⟨k1, cap1, cs1, fz1, rfl, -⟩ := h1
   go_wp2
   exact ⟨CK.refl _ _, H1.out⟩
 ·intro vals w3 hI3 hR
  simp only [List.drop_succ_cons, List.drop_zero, List.take_succ_cons, List.take_zero, fillAll]
  obtain ⟨-, -, -, r3, r4, -⟩ := hR
  have e3 : vals 3 = _ := r3
  rw [e3]
  generalize vals 4 = x4 at r4 ⊢
  have H4 := hid r4
  obtain ⟨k1, cap1, cs1, fz1, rfl, -⟩ := r4
  have HI3 := hid hI3
  clear hI3 e3 r3
  go_wp2
  go_ret2
  exact ⟨⟨_, _, _, rfl⟩, HB2.out.trans (HI3.out.below.mono HB2.out.size)⟩
theorem arr_size : (Tryz.prog.info? 50).map (·.size) = some 2 := by kernel_rfl
theorem fits14_any (A0 A1 : Option Addr) (l0 c0 l1 c1 : Nat) (w : World) : Calls Tryz.prog 22 #[.agg #[.slice A0 l0 c0, .slice A1 l1 c1]] w (SomeB w) := by
 obtain ⟨wb, hwb⟩ : ∃ wb, wb = w.alloc (.cells #[.slice A0 l0 c0, .slice A1 l1 c1] 50) := ⟨_, rfl⟩
 have HW1 := hid (show wb.heap[w.heap.size]? = some (.cells ([.slice A0 l0 c0, .slice A1 l1 c1] : List Value).toArray 50 (0, 0)) by rw [hwb]; exact heap_alloc_new w _)
 have HB0 := hid (show Below w.heap.size w wb by rw [hwb]; exact (Below.refl _ w).alloc (Nat.le_refl _) _)
 have hts : Tryz.prog.types[22].size = 1 := by kernel_rfl
 go_enter Tryz.func22, Tryz.ntmps22
 go_upto_region 1 with fail
 rw [← hwb]
 generalize Value.agg #[.slice A0 l0 c0, .slice A1 l1 c1] = arg0
 clear hwb
 go_wp2_with (first
  | (refine wpList_load_blk (by rfl) 50 (.tmp 1) (by rfl) w.heap.size 50 (0, 0) [.slice A0 l0 c0, .slice A1 l1 c1] (by rfl) HW1.out _ Tryz.underlying50 rfl 2 arr_size rfl ?_)
  | fail)
 go_loopw [4, 6] (fun _ i wr => ∃ k : Nat, k ≤ 2 ∧ i = .int .i64 k ∧ wr = wb) (fun _ i _ => 2 - (intOf i).toNat)
 case atStart => exact ⟨0, by omega, rfl, rfl⟩
 case round =>
  obtain ⟨k, hk, rfl, rfl⟩ := hrel
  have hk3 : k = 0 ∨ k = 1 ∨ k = 2 := by omega
  rcases hk3 with rfl | rfl | rfl
  ·go_wp2_with fail
   rename_i K hK
   refine hK _ _ ?_
   simp only [hts]
   go_wp2_with fail
   all_goals first
    | (go_ret
       exact ⟨⟨_, rfl⟩, HB0.out⟩)
    | (go_roundw
       (case rel => exact ⟨1, by omega, rfl, by first | rfl | trivial⟩)
       (case measure => first | decide | (simp [intOf])))
  ·go_wp2_with fail
   rename_i K hK
   refine hK _ _ ?_
   simp only [hts]
   go_wp2_with fail
   all_goals first
    | (go_ret
       exact ⟨⟨_, rfl⟩, HB0.out⟩)
    | (go_roundw
       (case rel => exact ⟨2, by omega, rfl, by first | rfl | trivial⟩)
       (case measure => first | decide | (simp [intOf])))
  ·go_wp2_with fail
   go_ret
   exact ⟨⟨_, rfl⟩, HB0.out⟩
