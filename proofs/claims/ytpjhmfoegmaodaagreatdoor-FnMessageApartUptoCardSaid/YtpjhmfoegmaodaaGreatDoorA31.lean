import Derived.Test.YtpjhmfoegmaodaaGreatDoorA26
import Derived.Test.YtpjhmfoegmaodaaGreatDoorA30
import Derived.Test.YtpjhmfoegmaodaaGreatDoorRows
import Derived.Deep.Slices
set_option maxRecDepth 100000
set_option maxHeartbeats 16000000
set_option linter.all false
namespace Go.Proofs.YtpjhmfoegmaodaaGreatDoor
section
open Go.Lib (hid)
open Go.RowKit
@[simp] theorem bs_list (l : Bytes) : (bs l).data.toList = l := by simp [bs]
theorem kvT_str (p : Bytes × Bytes) : kvT (strKV p) = kvB p := by
 obtain ⟨a, b⟩ := p
 by_cases hb : b = [] <;> simp [kvT, kvB, strKV, hb]
theorem psepT_str (sep : UInt8) (l : BKVs) : psepT sep (strKVs l) = lpsepT sep l := by
 simp only [psepT, lpsepT, strKVs, List.flatMap_map, kvT_str]
theorem tailT_str (c sep : UInt8) (l : BKVs) : tailT c sep (strKVs l) = ltailT c sep l := by
 unfold tailT ltailT paramsT lparT
 rw [psepT_str]
 simp [strKVs]
theorem uriT_str (u : LUri) (h : u.raw = []) : uriT (toS u) = luriT u := by
 by_cases h1 : u.user = [] <;> by_cases h2 : u.pass = [] <;> by_cases h3 : 0 < u.port <;> simp [uriT, luriT, toS, userT, luserT, portT, lportT, tailT_str, h1, h2, h3]
theorem all_at {p : UInt8 → Bool} {l : Bytes} (h : l.all p = true) (i : Nat) (hi : i < (⟨l.toArray⟩ : ByteArray).size) : p ((⟨l.toArray⟩ : ByteArray)[i]) = true := by
 have hl : i < l.length := by rw [sz] at hi; exact hi
 have h1 : (⟨l.toArray⟩ : ByteArray)[i] = l[i] := rfl
 rw [h1]
 exact List.all_eq_true.1 h _ (List.getElem_mem hl)
theorem hostB_ok {c : UInt8} (h : hostB c = true) : c.toNat < 128 ∧ c.toNat ≠ 58 ∧ c.toNat ≠ 37 := by
 simp only [hostB, letterB, digitB, Bool.or_eq_true, Bool.and_eq_true, decide_eq_true_eq, beq_iff_eq] at h
 omega
theorem wordB_ok {c : UInt8} (h : wordB c = true) : c.toNat < 128 ∧ c.toNat ≠ 32 ∧ c.toNat ≠ 9 := by
 simp only [wordB, letterB, digitB, Bool.or_eq_true, Bool.and_eq_true, decide_eq_true_eq, beq_iff_eq] at h
 omega
theorem textS_host {l : Bytes} (h : textS hostB l = true) : HostB ⟨l.toArray⟩ ∧ l.length ≤ 8192 := by
 simp only [textS, Bool.and_eq_true, decide_eq_true_eq] at h
 exact ⟨fun i hi => hostB_ok (all_at h.1.1 i hi), h.2⟩
theorem wordS_ok {l : Bytes} (h : wordS l = true) : ValB ⟨l.toArray⟩ ∧ l.length ≤ 8192 := by
 simp only [wordS, Bool.and_eq_true, decide_eq_true_eq] at h
 exact ⟨fun i hi => wordB_ok (all_at h.1.1 i hi), h.2⟩
theorem lineS_len {l : Bytes} (h : lineS l = true) : l.length ≤ 8192 := by
 simp only [lineS, Bool.and_eq_true, decide_eq_true_eq] at h
 exact h.1.1.2
theorem shownS_len {l : Bytes} (h : shownS l = true) : l.length ≤ 8192 := by
 simp only [shownS, Bool.and_eq_true, Bool.or_eq_true, decide_eq_true_eq] at h
 rcases h.2 with h | h
 ·omega
 ·exact lineS_len h
theorem par_ok {f : Bool} {l : BKVs} (h : ParOK f l) : KVok (strKVs l) ∧ (lpsepT 59 l).length ≤ 64 * 16388 ∧ (lpsepT 38 l).length ≤ 64 * 16388 := by
 have hp : ∀ p ∈ l, p.1.length ≤ 8192 ∧ ValB ⟨p.2.toArray⟩ ∧ p.2.length ≤ 8192 := by
  intro p hp
  have h1 := h.2 p hp
  simp only [parB, Bool.and_eq_true, Bool.or_eq_true, decide_eq_true_eq] at h1
  refine ⟨(wordS_ok h1.1).2, ?_⟩
  rcases h1.2 with h2 | h2
  ·exact wordS_ok h2
  ·rw [h2.2]
   exact ⟨fun i hi => absurd hi (by rw [sz]; simp), by simp⟩
 have key : ∀ (sep : UInt8) (l : BKVs), (∀ p ∈ l, p.1.length ≤ 8192 ∧ ValB ⟨p.2.toArray⟩ ∧ p.2.length ≤ 8192) → (lpsepT sep l).length ≤ l.length * 16388 := by
  intro sep l
  induction l with
  | nil => intro _; simp [lpsepT]
  | cons a t ih =>
   intro hl
   have h1 := ih (fun p hp => hl p (List.mem_cons_of_mem _ hp))
   have h2 := hl a (List.mem_cons_self)
   have h3 : (kvB a).length ≤ 16385 := by
    unfold kvB
    split <;> simp <;> omega
   simp only [lpsepT, List.flatMap_cons, List.length_append, List.length_cons] at h1 ⊢
   omega
 refine ⟨fun p hp2 => ?_, Nat.le_trans (key 59 l hp) (Nat.mul_le_mul_right _ h.1), Nat.le_trans (key 38 l hp) (Nat.mul_le_mul_right _ h.1)⟩
 obtain ⟨q, hq, rfl⟩ := List.mem_map.1 hp2
 exact (hp q hq).2.1
theorem ruri_ok {u : LUri} (h : RUri u) : UOk (toS u) := by
 refine ⟨?_, h.slashes, fun _ => (textS_host h.host).1, ⟨?_, ?_⟩, fun _ => (par_ok h.params).1, fun _ => (par_ok h.hdrs).1⟩
 ·have hs := h.scheme
  rcases hs with hs | hs <;> simp [toS, hs, sipB, sipsB]
 ·have := h.port; show _ ≤ u.port; omega
 ·have := h.port; show u.port ≤ _; omega
theorem textS_len {p : UInt8 → Bool} {l : Bytes} (h : textS p l = true) : l.length ≤ 8192 := by
 simp only [textS, Bool.and_eq_true, decide_eq_true_eq] at h
 exact h.2
theorem port_len (n : Int) (h : 0 ≤ n ∧ n ≤ 65535) : (lportT n).length ≤ 22 := by
 unfold lportT
 split
 ·have := itoa_len n (by unfold I64; omega)
  simp; omega
 ·simp
theorem tail_len (c sep : UInt8) (l : BKVs) (N : Nat) (h : (lpsepT sep l).length ≤ N) : (ltailT c sep l).length ≤ N + 1 := by
 unfold ltailT lparT
 split <;> simp <;> omega
theorem ruri_len {u : LUri} (h : RUri u) : (luriT u).length ≤ 2200000 := by
 have h1 : u.scheme.length ≤ 4 := by rcases h.scheme with hs | hs <;> simp [hs, sipB, sipsB]
 have h2 : u.user.length ≤ 8192 := by rcases h.user with hs | hs; (· simp [hs]); (· exact textS_len hs)
 have h3 : u.pass.length ≤ 8192 := by rcases h.pass with hs | hs; (· simp [hs]); (· exact textS_len hs.2)
 have h4 := (textS_host h.host).2
 have h5 := port_len u.port h.port
 have h6 := tail_len 59 59 u.params _ (par_ok h.params).2.1
 have h7 := tail_len 63 38 u.hdrs _ (par_ok h.hdrs).2.2
 have h8 : (luserT u).length ≤ 16400 := by
  have := luser_len u
  omega
 simp only [luriT, List.length_append, List.length_cons, List.length_nil]
 omega
theorem sort_cases {t : Int} (h : 0 ≤ t ∧ t ≤ 14) : t = 0 ∨ t = 1 ∨ t = 2 ∨ t = 3 ∨ t = 4 ∨ t = 5 ∨ t = 6 ∨ t = 7 ∨ t = 8 ∨ t = 9 ∨ t = 10 ∨ t = 11 ∨ t = 12 ∨ t = 13 ∨ t = 14 := by omega
theorem line_read (h : LHead) (ht : 0 ≤ h.t ∧ h.t ≤ 14) : (hdrS (heardH (plainH h))).line = (hdrS h).line := by
 obtain ⟨t, name, text, display, u, params, num, proto, version, transport, host, port⟩ := h
 dsimp only at ht
 rcases sort_cases ht with rfl | rfl | rfl | rfl | rfl | rfl | rfl | rfl | rfl | rfl | rfl | rfl | rfl | rfl | rfl <;> simp [heardH, plainH, hdrS, baseH, addrB, routB, numbB, SH.line, SH.nm, SH.val, nameS]
theorem line_len8 (n : Int) : (hdrS (heardH (lenH n))).line = (SH.clen n).line := by
 simp [heardH, plainH, hdrS, baseH, lenH, addrB, routB, numbB, SH.line, SH.nm, SH.val, nameS]
theorem generic_nm {l : Bytes} (h : l[0]? = some 88) : lowT l ≠ nmCL ∧ lowT l ≠ [108] := by
 cases l with
 | nil => simp at h
 | cons a t =>
  obtain rfl : a = 88 := by simpa using h
  refine ⟨fun e => ?_, fun e => ?_⟩
  ·have h1 : lowB 88 = 99 := by simpa [lowT, nmCL] using congrArg List.head? e
   exact absurd h1 (by decide)
  ·have h1 : lowB 88 = 108 := by simpa [lowT] using congrArg List.head? e
   exact absurd h1 (by decide)
structure HTx (h : LHead) : Prop where
 bd : HBd2 h
 u : HOkU h
 t : 0 ≤ h.t ∧ h.t ≤ 14
 ok : (hdrS h).ok
 ll : (hdrS h).line.length ≤ 5000000
theorem HTx.of {h : LHead} (sh : SH) (e : hdrS h = sh) (bd : HBd2 h) (u : HOkU h) (t : 0 ≤ h.t ∧ h.t ≤ 14) (ok : sh.ok) (ll : sh.nm.length + 2 + sh.val.length ≤ 5000000) : HTx h := by
 subst e
 refine ⟨bd, u, t, ok, ?_⟩
 unfold SH.line
 simp only [List.length_append, List.length_cons, List.length_nil]
 omega
theorem bs_len (l : Bytes) : (bs l).data.toList.length = l.length := by simp
theorem addr_len (d : Bytes) (u : LUri) (p : BKVs) (hd : d.length ≤ 8192) (hu : RUri u) (hp : ParOK false p) : (addrT (bs d) (toS u) (strKVs p)).length ≤ 4000000 := by
 have h1 := ruri_len hu
 have h2 := tail_len 59 59 p _ (par_ok hp).2.1
 rw [← uriT_str u hu.raw] at h1
 rw [← tailT_str] at h2
 have h3 : (showT (bs d)).length ≤ 8195 := by
  unfold showT
  split <;> simp <;> omega
 simp only [addrT, List.length_append, List.length_cons, List.length_nil]
 omega
theorem rout_len (u : LUri) (hu : RUri u) : ([60] ++ uriT (toS u) ++ [62]).length ≤ 4000000 := by
 have h1 := ruri_len hu
 rw [← uriT_str u hu.raw] at h1
 simp only [List.length_append, List.length_cons, List.length_nil]
 omega
theorem itoa_len2 (n : Int) (h : 0 ≤ n ∧ n < 4294967296) : (Lib.itoa n).length ≤ 21 := itoa_len n (by unfold I64; omega)
theorem via_len (p v t h : Bytes) (port : Int) (l : BKVs) (hp : p.length ≤ 8192) (hv : v.length ≤ 8192) (ht : t.length ≤ 8192) (hh : h.length ≤ 8192) (hpo : 0 ≤ port ∧ port ≤ 65535) (hl : ParOK false l) : (viaT ⟨bs p, bs v, bs t, bs h, port, strKVs l⟩).length ≤ 4000000 := by
 have h2 := tail_len 59 59 l _ (par_ok hl).2.1
 rw [← tailT_str] at h2
 have h3 : (portT port).length ≤ 22 := port_len port hpo
 simp only [viaT, List.length_append, List.length_cons, List.length_nil, bs_len]
 omega
theorem hou_of {h : LHead} (R : RHead h) : HOkU h := fun k => by
 rcases k with k | k
 ·exact (R.addr k).2.1.raw
 ·exact (R.rout k).raw
theorem hostS_b {l : Bytes} (h : textS hostB l = true) : HostB (bs l) := (textS_host h).1
theorem htx_of {h : LHead} (R : RHead h) (hn : 0 ≤ h.num ∧ h.num < 4294967296) (B2 : HBd2 h) : HTx h := by
 have hu := hou_of R
 obtain ⟨t, name, text, display, u, params, num, proto, version, transport, host, port⟩ := h
 obtain ⟨hs, h0, ha, hr, h6, h7, h4, h10, h5, h9⟩ := R
 dsimp only at hs h0 ha hr h6 h7 h4 h10 h5 h9 hn
 have hi := itoa_len2 num hn
 rcases sort_cases hs with rfl | rfl | rfl | rfl | rfl | rfl | rfl | rfl | rfl | rfl | rfl | rfl | rfl | rfl | rfl
 ·refine HTx.of (.generic (bs name) (bs text)) rfl B2 hu hs trivial ?_
  have h1 := (wordS_ok (h0 rfl).1.2.2.2).2
  have h2 := lineS_len (h0 rfl).2
  simp only [SH.nm, SH.val, bs_len]
  omega
 ·have h1 := ha rfl
  refine HTx.of (.to_ (bs display) (toS u) (strKVs params)) rfl B2 hu hs ⟨ruri_ok h1.2.1, (par_ok h1.2.2).1⟩ ?_
  have h2 := addr_len display u params (shownS_len h1.1) h1.2.1 h1.2.2
  simp only [SH.nm, SH.val, List.length_cons, List.length_nil]
  omega
 ·have h1 := ha rfl
  refine HTx.of (.from_ (bs display) (toS u) (strKVs params)) rfl B2 hu hs ⟨ruri_ok h1.2.1, (par_ok h1.2.2).1⟩ ?_
  have h2 := addr_len display u params (shownS_len h1.1) h1.2.1 h1.2.2
  simp only [SH.nm, SH.val, List.length_cons, List.length_nil]
  omega
 ·have h1 := ha rfl
  refine HTx.of (.contact (bs display) (toS u) (strKVs params)) rfl B2 hu hs ⟨ruri_ok h1.2.1, h1.2.1.star, (par_ok h1.2.2).1⟩ ?_
  have h2 := addr_len display u params (shownS_len h1.1) h1.2.1 h1.2.2
  simp only [SH.nm, SH.val, List.length_cons, List.length_nil]
  omega
 ·refine HTx.of (.callid (bs text)) rfl B2 hu hs trivial ?_
  have h2 := (wordS_ok (h4 rfl)).2
  simp only [SH.nm, SH.val, List.length_cons, List.length_nil, bs_len]
  omega
 ·refine HTx.of (.cseq num (bs text)) rfl B2 hu hs hn ?_
  have h2 := (wordS_ok (h5 rfl).1).2
  simp only [SH.nm, SH.val, List.length_append, List.length_cons, List.length_nil, bs_len]
  omega
 ·refine HTx.of (.maxf num) rfl B2 hu hs hn ?_
  simp only [SH.nm, SH.val, List.length_cons, List.length_nil]
  omega
 ·refine HTx.of (.expires num) rfl B2 hu hs hn ?_
  simp only [SH.nm, SH.val, List.length_cons, List.length_nil]
  omega
 ·refine HTx.of (.clen num) rfl B2 hu hs hn ?_
  simp only [SH.nm, SH.val, List.length_cons, List.length_nil]
  omega
 ·obtain ⟨k1, k2, k3, k4, k5, k6⟩ := h9 rfl
  refine HTx.of (.via ⟨bs proto, bs version, bs transport, bs host, port, strKVs params⟩) rfl B2 hu hs ⟨hostS_b k4, ⟨by show _ ≤ port; omega, by show port ≤ _; omega⟩, (par_ok k6).1⟩ ?_
  have h2 := via_len proto version transport host port params (by rw [k1]; decide) (by rw [k2]; decide) (wordS_ok k3).2 (textS_len k4) k5 k6
  simp only [SH.nm, SH.val, List.length_cons, List.length_nil]
  omega
 ·refine HTx.of (.ctype (bs text)) rfl B2 hu hs trivial ?_
  have h2 := lineS_len (h10 rfl)
  simp only [SH.nm, SH.val, List.length_cons, List.length_nil, bs_len]
  omega
 ·have h1 := hr rfl
  refine HTx.of (.route (toS u)) rfl B2 hu hs (ruri_ok h1) ?_
  have h2 := rout_len u h1
  simp only [SH.nm, SH.val, List.length_cons, List.length_nil]
  omega
 ·have h1 := hr rfl
  refine HTx.of (.rroute (toS u)) rfl B2 hu hs (ruri_ok h1) ?_
  have h2 := rout_len u h1
  simp only [SH.nm, SH.val, List.length_cons, List.length_nil]
  omega
 ·have h1 := hr rfl
  refine HTx.of (.referto (toS u)) rfl B2 hu hs (ruri_ok h1) ?_
  have h2 := rout_len u h1
  simp only [SH.nm, SH.val, List.length_cons, List.length_nil]
  omega
 ·have h1 := ha rfl
  refine HTx.of (.refby (bs display) (toS u) (strKVs params)) rfl B2 hu hs ⟨ruri_ok h1.2.1, (par_ok h1.2.2).1⟩ ?_
  have h2 := addr_len display u params (shownS_len h1.1) h1.2.1 h1.2.2
  simp only [SH.nm, SH.val, List.length_cons, List.length_nil]
  omega
theorem hms_of {h : LHead} (R : RHead h) (hn : 0 ≤ h.num ∧ h.num < 4294967296) (B2 : HBd2 h) (h8 : h.t ≠ 8) : HMs h := by
 have H := htx_of R hn B2
 have key : (hdrS h).slot ≠ 7 ∧ (hdrS h).nm.length ≤ 70368744177664 ∧ lowT (hdrS h).nm ≠ nmCL ∧ lowT (hdrS h).nm ≠ [108] := by
  obtain ⟨t, name, text, display, u, params, num, proto, version, transport, host, port⟩ := h
  obtain ⟨hs, h0, ha, hr, h6, h7, h4, h10, h5, h9⟩ := R
  dsimp only at hs h0 h8
  clear H
  have fx : ∀ (sh : SH) (l : Bytes), sh.slot ≠ 7 → sh.nm = l → l.length ≤ 8192 → lowT l ≠ nmCL → lowT l ≠ [108] → sh.slot ≠ 7 ∧ sh.nm.length ≤ 70368744177664 ∧ lowT sh.nm ≠ nmCL ∧ lowT sh.nm ≠ [108] := by
   intro sh l h1 h2 h3 h4 h5
   rw [h2]
   exact ⟨h1, by omega, h4, h5⟩
  rcases sort_cases hs with rfl | rfl | rfl | rfl | rfl | rfl | rfl | rfl | rfl | rfl | rfl | rfl | rfl | rfl | rfl
  ·have h1 := (h0 rfl).1
   exact fx (.generic (bs name) (bs text)) name (show (0 : Nat) ≠ 7 by decide) (by simp [SH.nm]) (wordS_ok h1.2.2.2).2 (generic_nm h1.2.1).1 (generic_nm h1.2.1).2
  ·exact fx (.to_ (bs display) (toS u) (strKVs params)) (nameS 1) (show (3 : Nat) ≠ 7 by decide) rfl (by decide) (by decide) (by decide)
  ·exact fx (.from_ (bs display) (toS u) (strKVs params)) (nameS 2) (show (2 : Nat) ≠ 7 by decide) rfl (by decide) (by decide) (by decide)
  ·exact fx (.contact (bs display) (toS u) (strKVs params)) (nameS 3) (show (5 : Nat) ≠ 7 by decide) rfl (by decide) (by decide) (by decide)
  ·exact fx (.callid (bs text)) (nameS 4) (show (4 : Nat) ≠ 7 by decide) rfl (by decide) (by decide) (by decide)
  ·exact fx (.cseq num (bs text)) (nameS 5) (show (6 : Nat) ≠ 7 by decide) rfl (by decide) (by decide) (by decide)
  ·exact fx (.maxf num) (nameS 6) (show (11 : Nat) ≠ 7 by decide) rfl (by decide) (by decide) (by decide)
  ·exact fx (.expires num) (nameS 7) (show (0 : Nat) ≠ 7 by decide) rfl (by decide) (by decide) (by decide)
  ·exact absurd rfl h8
  ·exact fx (.via ⟨bs proto, bs version, bs transport, bs host, port, strKVs params⟩) (nameS 9) (show (1 : Nat) ≠ 7 by decide) rfl (by decide) (by decide) (by decide)
  ·exact fx (.ctype (bs text)) (nameS 10) (show (8 : Nat) ≠ 7 by decide) rfl (by decide) (by decide) (by decide)
  ·exact fx (.route (toS u)) (nameS 11) (show (9 : Nat) ≠ 7 by decide) rfl (by decide) (by decide) (by decide)
  ·exact fx (.rroute (toS u)) (nameS 12) (show (10 : Nat) ≠ 7 by decide) rfl (by decide) (by decide) (by decide)
  ·exact fx (.referto (toS u)) (nameS 13) (show (0 : Nat) ≠ 7 by decide) rfl (by decide) (by decide) (by decide)
  ·exact fx (.refby (bs display) (toS u) (strKVs params)) (nameS 14) (show (0 : Nat) ≠ 7 by decide) rfl (by decide) (by decide) (by decide)
 exact ⟨B2, H.u, H.t, H.ok, key.1, key.2.1, key.2.2⟩
theorem ubd_empty : UBd emptyU := ⟨by decide, by decide, by decide, by decide⟩
theorem htx_len (n : Int) (hn : 0 ≤ n ∧ n < 4294967296) : HTx (heardH (lenH n)) := by
 have hi := itoa_len2 n hn
 have z : ([] : BKVs).length ≤ 1073741824 := by decide
 refine HTx.of (.clen n) rfl ⟨ubd_empty, z⟩ (fun _ => rfl) (show (0 : Int) ≤ 8 ∧ (8 : Int) ≤ 14 by decide) hn ?_
 simp only [SH.nm, SH.val, List.length_cons, List.length_nil]
 omega
theorem linesT_eq (hs : List (Nat × SH)) : linesT hs = (hs.map (·.2)).flatMap fun s => [13, 10] ++ s.line := by
 simp only [linesT, List.flatMap_map]
theorem lines_shift (l : List SH) : [13, 10] ++ l.flatMap (fun s => s.line ++ [13, 10]) = l.flatMap (fun s => [13, 10] ++ s.line) ++ [13, 10] := by
 induction l with
 | nil => rfl
 | cons a t ih =>
  simp only [List.flatMap_cons, List.append_assoc]
  rw [ih]
theorem headsT_eq (hs : List (Nat × SH)) (h : hs ≠ []) : headsT hs = (hs.map (·.2)).flatMap fun s => s.line ++ [13, 10] := by
 have h2 : 2 ≤ (linesT hs).length := by
  cases hs with
  | nil => exact absurd rfl h
  | cons a t =>
   simp only [linesT, List.flatMap_cons, List.length_append, List.length_cons, List.length_nil]
   omega
 unfold headsT
 rw [← List.drop_append_of_le_length h2, linesT_eq, ← lines_shift]
 rfl
theorem flat_lines_len (l : List SH) (h : ∀ s ∈ l, s.line.length ≤ 5000000) : (l.flatMap fun s => s.line ++ [13, 10]).length ≤ l.length * 5000002 := by
 induction l with
 | nil => simp
 | cons a t ih =>
  have h1 := h a (List.mem_cons_self)
  have h2 := ih fun s hs => h s (List.mem_cons_of_mem _ hs)
  simp only [List.flatMap_cons, List.length_append, List.length_cons, List.length_nil]
  omega
theorem readHs_lines (m : LMsg) (ht : ∀ h ∈ m.heads, 0 ≤ h.t ∧ h.t ≤ 14) : (readHs m).map (fun h => (hdrS h).line) = (m.heads.map hdrS ++ [SH.clen m.body.length]).map SH.line := by
 simp only [readHs, List.map_append, List.map_map, List.map_cons, List.map_nil, line_len8]
 congr 1
 exact List.map_congr_left fun h hh => line_read h (ht h hh)
theorem readHs_text (m : LMsg) (ht : ∀ h ∈ m.heads, 0 ≤ h.t ∧ h.t ≤ 14) : (readHs m).flatMap (fun h => (hdrS h).line ++ [13, 10]) = (m.heads.map hdrS ++ [SH.clen m.body.length]).flatMap fun s => s.line ++ [13, 10] := by
 have h1 : ∀ l : List LHead, l.flatMap (fun h => (hdrS h).line ++ [13, 10]) = (l.map fun h => (hdrS h).line).flatMap (· ++ [13, 10]) := fun l => by simp only [List.flatMap_map]
 have h2 : ∀ l : List SH, l.flatMap (fun s => s.line ++ [13, 10]) = (l.map SH.line).flatMap (· ++ [13, 10]) := fun l => by simp only [List.flatMap_map]
 rw [h1, h2, readHs_lines m ht]
theorem msgT_eq (m : LMsg) (hs : List (Nat × SH)) (he : hs.map (·.2) = m.heads.map hdrS ++ [.clen m.body.length]) (ht : ∀ h ∈ m.heads, 0 ≤ h.t ∧ h.t ≤ 14) :
  msgT (msgS m hs) = (lineT (msgS m hs) ++ [13, 10]) ++ (readHs m).flatMap (fun h => (hdrS h).line ++ [13, 10]) ++ [13, 10] ++ m.body := by
 have hne : hs ≠ [] := by
  rintro rfl
  simp at he
 rw [readHs_text m ht, ← he]
 show lineT (msgS m hs) ++ [13, 10] ++ headsT hs ++ [13, 10] ++ m.body = _
 rw [headsT_eq hs hne]
theorem starts_eq (m : LMsg) (hs : List (Nat × SH)) (R : RMsg m) : lineT (msgS m hs) = if m.resp then (sip20B ++ [32]) ++ Lib.itoa m.code ++ [32] ++ m.reason else m.method ++ [32] ++ luriT m.uri ++ ([32] ++ sip20B) := by
 have hv := R.version
 have hq := R.req
 obtain ⟨resp, method, u, code, reason, version, heads, body, hasBody, compact⟩ := m
 dsimp only at hv hq
 subst hv
 cases resp with
 | true => simp [lineT, msgS]
 | false =>
  have h1 := uriT_str u (hq rfl).2.raw
  simp [lineT, msgS, h1]
theorem start_len (m : LMsg) (hs : List (Nat × SH)) (R : RMsg m) (hc : I64 m.code) : (lineT (msgS m hs)).length ≤ 3000000 := by
 rw [starts_eq m hs R]
 have h7 : sip20B.length = 7 := rfl
 split
 ·rename_i h
  have h1 := lineS_len (R.res h).2.2
  have h2 := itoa_len m.code hc
  simp only [List.length_append, List.length_cons, List.length_nil]
  omega
 ·rename_i h
  have h3 := R.req (by simpa using h)
  have h1 : m.method.length ≤ 8192 := by
   have := h3.1
   simp only [loudS, Bool.and_eq_true] at this
   exact (wordS_ok this.2).2
  have h2 := ruri_len h3.2
  simp only [List.length_append, List.length_cons, List.length_nil]
  omega
theorem heads_len (m : LMsg) (R : RMsg m) (hx : ∀ h ∈ m.heads, HTx h) : ((m.heads.map hdrS ++ [SH.clen m.body.length]).flatMap fun s => s.line ++ [13, 10]).length ≤ 400000000 := by
 have h1 := flat_lines_len (m.heads.map hdrS ++ [SH.clen m.body.length]) (fun s hs => by
  rcases List.mem_append.1 hs with h | h
  ·obtain ⟨x, h2, rfl⟩ := List.mem_map.1 h
   exact (hx x h2).ll
  ·rw [List.mem_singleton] at h
   subst h
   exact (htx_len m.body.length ⟨by omega, by have := R.body; omega⟩).ll)
 have h2 := R.many
 simp only [List.length_append, List.length_map, List.length_cons, List.length_nil] at h1 ⊢
 omega
theorem readHs_len (m : LMsg) (R : RMsg m) (hx : ∀ h ∈ m.heads, HTx h) : ((readHs m).flatMap fun h => (hdrS h).line ++ [13, 10]).length ≤ 400000000 := by
 rw [readHs_text m fun h hh => (hx h hh).t]
 exact heads_len m R hx
theorem msok_of (m : LMsg) (R : RMsg m) (hc : I64 m.code) (hx : ∀ h ∈ m.heads, HTx h) : MsOk m := by
 refine ⟨fun hs he => ?_, fun hs => ⟨fun h => ruri_ok (R.req h).2, hc⟩⟩
 rw [msgT_eq m hs he fun h hh => (hx h hh).t]
 have h1 := start_len m hs R hc
 have h2 := readHs_len m R hx
 have h3 := R.body
 simp only [List.length_append, List.length_cons, List.length_nil]
 omega
end
section
open Go.Lib (hid)
open Go.RowKit Go.ChangeShapes Go.WideShapes Go.Deep
theorem bulk_one {H : Type} (d : DataW H) : 1 ≤ Rows.uptoBulk d := by
 cases d with
 | lit l => cases l <;> simp [Rows.uptoBulk]
 | nil => simp [Rows.uptoBulk]
 | ptr d => simp [Rows.uptoBulk]
 | slice elems spare => simp [Rows.uptoBulk]
 | agg parts => simp [Rows.uptoBulk]
 | iface t d => simp [Rows.uptoBulk]
 | map entries => simp [Rows.uptoBulk]
 | held h => simp [Rows.uptoBulk]
theorem bulk_part {H : Type} {d : DataW H} {l : List (DataW H)} (h : d ∈ l) : Rows.uptoBulk d ≤ Rows.uptoBulkAll l := by
 induction l with
 | nil => cases h
 | cons x r ih =>
  simp only [Rows.uptoBulkAll]
  cases List.mem_cons.1 h with
  | inl e => subst e; omega
  | inr e => have := ih e; omega
theorem bulk_len {H : Type} (l : List (DataW H)) : l.length ≤ Rows.uptoBulkAll l := by
 induction l with
 | nil => simp [Rows.uptoBulkAll]
 | cons x r ih => have := bulk_one x; simp only [Rows.uptoBulkAll, List.length_cons]; omega
theorem bulk_slice {H : Type} (elems spare : List (DataW H)) : elems.length + 1 ≤ Rows.uptoBulk (.slice elems spare) ∧ Rows.uptoBulkAll elems + 1 ≤ Rows.uptoBulk (.slice elems spare) := by
 have := bulk_len elems
 simp only [Rows.uptoBulk]
 omega
theorem bulk_agg {H : Type} (l : List (DataW H)) : Rows.uptoBulk (.agg l) = Rows.uptoBulkAll l + 1 := by simp only [Rows.uptoBulk]
theorem bulk_sum {H : Type} {α : Type} (D : Nat → DataW H) (g : Nat → List α) (l : List Nat) (h : ∀ i ∈ l, (g i).length ≤ Rows.uptoBulk (D i)) : (l.flatMap g).length ≤ Rows.uptoBulkAll (l.map D) := by
 induction l with
 | nil => simp [Rows.uptoBulkAll]
 | cons a t ih =>
  have h1 := h a (List.mem_cons_self)
  have h2 := ih fun i hi => h i (List.mem_cons_of_mem _ hi)
  simp only [List.flatMap_cons, List.length_append, List.map_cons, Rows.uptoBulkAll]
  omega
theorem wf_u8 {k : Int} (h : (Lit.int .u8 k).wf = true) : 0 ≤ k ∧ k ≤ 255 := by
 have h2 : (decide ((0 : Int) ≤ k) && decide (k ≤ (255 : Int))) = true := h
 simpa using h2
theorem wf_u32 {k : Int} (h : (Lit.int .u32 k).wf = true) : 0 ≤ k ∧ k < 4294967296 := by
 have h2 : (decide ((0 : Int) ≤ k) && decide (k ≤ (4294967295 : Int))) = true := h
 have h3 : 0 ≤ k ∧ k ≤ 4294967295 := by simpa using h2
 omega
theorem wf_i64 {k : Int} (h : (Lit.int .i64 k).wf = true) : I64 k := by
 have h2 : (decide ((-9223372036854775808 : Int) ≤ k) && decide (k ≤ (9223372036854775807 : Int))) = true := h
 simpa [I64] using h2
theorem cells_u8 : Tryz.prog.cellsOf 5 = 1 := by kernel_rfl
theorem cells_bs : Tryz.prog.cellsOf 22 = 1 := by kernel_rfl
theorem cells_kv : Tryz.prog.cellsOf 68 = 2 := by kernel_rfl
theorem cells_kvs : Tryz.prog.cellsOf 23 = 1 := by kernel_rfl
theorem cells_uri : Tryz.prog.cellsOf 25 = 10 := by kernel_rfl
theorem cells_head : Tryz.prog.cellsOf 41 = 21 := by kernel_rfl
theorem cells_heads : Tryz.prog.cellsOf 26 = 1 := by kernel_rfl
theorem cells_msg : Tryz.prog.cellsOf 28 = 19 := by kernel_rfl
theorem cells_int : Tryz.prog.cellsOf 3 = 1 := by kernel_rfl
theorem cells_bool : Tryz.prog.cellsOf 4 = 1 := by kernel_rfl
theorem cells_u32 : Tryz.prog.cellsOf 39 = 1 := by kernel_rfl
section
variable {H : Type} {enc : TypeId × Value → H} {W : World} {fuel : Nat} {cs : List Value} {x : DataW H × List MemPlace}
theorem open_sb (h : DataW.trod enc Tryz.prog W 0 (fun _ => true) true fuel 22 cs = some x) : ∃ v l, cs = [v] ∧ SB W v l ∧ l.length + 1 ≤ Rows.uptoBulk x.1 := by
 rcases open_slice1 Tryz.underlying22 cells_u8 h with ⟨rfl, rfl⟩ | ⟨a, len, cap, m, n, V, D, Pl, rfl, hb, hl, hm, hmm, rfl, hx⟩
 ·exact ⟨_, [], rfl, ⟨none, 0, rfl, Nat.le_refl _, by omega, fun _ => ⟨rfl, rfl⟩, fun i hi => absurd hi (by simp)⟩, by simp [Rows.uptoBulk]⟩
 ·have hlm : len ≤ m := by rw [hmm]; split <;> omega
  have key : ∀ i, i < len → ∃ b : UInt8, W.cell? (a.add i) = some (.int .u8 b.toNat) := fun i hi => by
   obtain ⟨h1, h2⟩ := hx i (by omega)
   obtain ⟨k, hk, -, hw⟩ := DataW.trod_int Tryz.underlying5 h2
   simp only [List.cons.injEq, and_true] at hk
   have hw2 := wf_u8 hw
   refine ⟨UInt8.ofNat k.toNat, ?_⟩
   rw [h1, hk]
   have e : ((UInt8.ofNat k.toNat).toNat : Int) = k := by
    rw [UInt8.toNat_ofNat']
    omega
   rw [e]
  obtain ⟨f, hf⟩ := choose_lt key
  refine ⟨_, (List.range len).map f, rfl, ⟨some a, cap, by simp, by simpa using hl, by simpa [maxLen] using hm, fun e => by simp at e, fun i hi => ⟨a, rfl, ?_⟩⟩, ?_⟩
  ·have hi' : i < len := by simpa using hi
   rw [hf i hi']
   simp
  ·have := (bulk_slice ((List.range len).map D) ((List.range (m - len)).map fun j => D (len + j))).1
   simpa using this
theorem fld {t : TypeId} {o n i : Nat} {xs : List (DataW H × List MemPlace)} {y : DataW H × List MemPlace} (hc : Tryz.prog.cellsOf t = n) (h : DataW.trod enc Tryz.prog W 0 (fun _ => true) true fuel t ((cs.drop o).take (Tryz.prog.cellsOf t)) = xs[i]?) (hy : xs[i]? = some y) :
  DataW.trod enc Tryz.prog W 0 (fun _ => true) true fuel t ((cs.drop o).take n) = some y := by rw [← hc, h, hy]
theorem cell_of_row {w : World} {a : Addr} {n : Nat} {cs : List Value} (h : w.cells? 0 a n = some cs) : cs.length = n ∧ ∀ j u, cs[j]? = some u → w.cell? (a.add j) = some u := by
 obtain ⟨-, h1, h2⟩ := World.cells?_some h
 refine ⟨h1, fun j u hj => ?_⟩
 have hjl := (List.getElem?_eq_some_iff.1 hj).1
 rw [h2 j (by omega), hj]
theorem list2 {α : Type} {l : List α} (h : l.length = 2) : ∃ a b, l = [a, b] := by
 match l, h with
 | [a, b], _ => exact ⟨a, b, rfl⟩
theorem open_kv (h : DataW.trod enc Tryz.prog W 0 (fun _ => true) true fuel 68 cs = some x) : ∃ vk vv, ∃ p : Bytes × Bytes, cs = [vk, vv] ∧ SB W vk p.1 ∧ SB W vv p.2 ∧ p.1.length + p.2.length + 3 ≤ Rows.uptoBulk x.1 := by
 obtain ⟨xs, n, rfl, rfl, hlen, hxl, hx⟩ := DataW.trod_struct Tryz.underlying68 h
 rw [cells_kv] at hlen
 obtain ⟨c0, c1, rfl⟩ := list2 hlen
 obtain ⟨y0, y1, rfl⟩ := list2 (show xs.length = 2 from hxl)
 obtain ⟨vk, lk, e0, h0, b0⟩ := open_sb (fld (y := y0) cells_bs (hx 0 _ rfl) rfl)
 obtain ⟨vv, lv, e1, h1, b1⟩ := open_sb (fld (y := y1) cells_bs (hx 1 _ rfl) rfl)
 obtain rfl : c0 = vk := by simpa using e0
 obtain rfl : c1 = vv := by simpa using e1
 refine ⟨c0, c1, (lk, lv), rfl, h0, h1, ?_⟩
 simp only [bulk_agg, List.map_cons, List.map_nil, Rows.uptoBulkAll]
 omega
theorem kv_len (sep : UInt8) (p : Bytes × Bytes) (n : Nat) (h : p.1.length + p.2.length + 3 ≤ n) : (sep :: kvB p).length ≤ n := by
 unfold kvB
 split <;> simp <;> omega
theorem open_sk (h : DataW.trod enc Tryz.prog W 0 (fun _ => true) true fuel 23 cs = some x) : ∃ v l, cs = [v] ∧ SK W v l ∧ l.length ≤ Rows.uptoBulk x.1 ∧ ∀ sep, (lparT sep l).length ≤ Rows.uptoBulk x.1 := by
 rcases open_slice Tryz.underlying23 h with ⟨rfl, rfl⟩ | ⟨a, len, cap, m, n, D, Pl, rfl, hb, hl, hm, hmm, rfl, hx⟩
 ·exact ⟨_, [], rfl, ⟨none, 0, rfl, Nat.le_refl _, by omega, fun _ => ⟨rfl, rfl⟩, fun i hi => absurd hi (by simp)⟩, by simp, fun sep => by simp [lparT, lpsepT]⟩
 ·have hlm : len ≤ m := by rw [hmm]; split <;> omega
  have key : ∀ i, i < len → ∃ p : Bytes × Bytes, (∃ vk vv, W.cell? (a.add (i * 2)) = some vk ∧ W.cell? ⟨(a.add (i * 2)).block, (a.add (i * 2)).off + 1, none⟩ = some vv ∧ SB W vk p.1 ∧ SB W vv p.2) ∧ p.1.length + p.2.length + 3 ≤ Rows.uptoBulk (D i) := fun i hi => by
   obtain ⟨cs', h1, h2⟩ := hx i (by omega)
   rw [cells_kv] at h1
   obtain ⟨vk, vv, p, rfl, h3, h4, h5⟩ := open_kv h2
   obtain ⟨-, h6⟩ := cell_of_row h1
   have h7 := h6 0 vk rfl
   have h8 := h6 1 vv rfl
   rw [show (a.add (i * 2)).add 0 = a.add (i * 2) by simp [Addr.add]] at h7
   rw [show (a.add (i * 2)).add 1 = ⟨(a.add (i * 2)).block, (a.add (i * 2)).off + 1, none⟩ by simp [Addr.add]] at h8
   exact ⟨p, ⟨vk, vv, h7, h8, h3, h4⟩, h5⟩
  obtain ⟨f, hf⟩ := choose_lt key
  have hbk := bulk_slice ((List.range len).map D) ((List.range (m - len)).map fun j => D (len + j))
  refine ⟨_, (List.range len).map f, rfl, ⟨some a, cap, by simp, by simpa using hl, by simpa [maxLen] using hm, fun e => by simp at e, fun i hi => ?_⟩, ?_, fun sep => ?_⟩
  ·have hi' : i < len := by simpa using hi
   obtain ⟨⟨vk, vv, h1, h2, h3, h4⟩, -⟩ := hf i hi'
   have e : ((List.range len).map f)[i] = f i := by simp
   rw [e]
   exact ⟨a, vk, vv, rfl, h1, h2, h3, h4⟩
  ·have := hbk.1
   simp only [List.length_map, List.length_range] at this ⊢
   omega
  ·have h1 := bulk_sum D (fun i => sep :: kvB (f i)) (List.range len) (fun i hi => kv_len sep _ _ (hf i (List.mem_range.1 hi)).2)
   have h2 : (lpsepT sep ((List.range len).map f)).length ≤ Rows.uptoBulkAll ((List.range len).map D) := by
    rw [lpsepT, List.flatMap_map]
    exact h1
   have h3 : (lparT sep ((List.range len).map f)).length ≤ (lpsepT sep ((List.range len).map f)).length := by
    unfold lparT
    simp
   dsimp only
   omega
theorem list10' {α : Type} {l : List α} (h : l.length = 10) : ∃ a b c d e f g i j k, l = [a, b, c, d, e, f, g, i, j, k] := by
 match l, h with
 | [a, b, c, d, e, f, g, i, j, k], _ => exact ⟨a, b, c, d, e, f, g, i, j, k, rfl⟩
theorem open_i64 {t : TypeId} (ht : Tryz.prog.underlying t = some (.int .i64)) (h : DataW.trod enc Tryz.prog W 0 (fun _ => true) true fuel t cs = some x) : ∃ n, cs = [.int .i64 n] ∧ I64 n := by
 obtain ⟨n, h1, -, hw⟩ := DataW.trod_int ht h
 exact ⟨n, h1, wf_i64 hw⟩
def UBk (u : LUri) (n : Nat) : Prop := luriN u ≤ n + 99 ∧ u.scheme.length ≤ n ∧ u.raw.length ≤ n ∧ u.params.length ≤ n ∧ u.hdrs.length ≤ n
theorem open_lu (h : DataW.trod enc Tryz.prog W 0 (fun _ => true) true fuel 25 cs = some x) : ∃ u, LU W u cs ∧ UBk u (Rows.uptoBulk x.1) := by
 obtain ⟨xs, n, rfl, rfl, hlen, hxl, hx⟩ := DataW.trod_struct Tryz.underlying25 h
 rw [cells_uri] at hlen
 obtain ⟨c0, c1, c2, c3, c4, c5, c6, c7, c8, c9, rfl⟩ := list10' hlen
 obtain ⟨y0, y1, y2, y3, y4, y5, y6, y7, y8, y9, rfl⟩ := list10' (show xs.length = 10 from hxl)
 obtain ⟨v0, l0, e0, h0, b0⟩ := open_sb (fld (y := y0) cells_bs (hx 0 _ rfl) rfl)
 obtain ⟨v1, l1, e1, h1, b1⟩ := open_sb (fld (y := y1) cells_bs (hx 1 _ rfl) rfl)
 obtain ⟨z2, e2, -⟩ := DataW.trod_bool Tryz.underlying4 (fld (y := y2) cells_bool (hx 2 _ rfl) rfl)
 obtain ⟨z3, e3, -⟩ := DataW.trod_bool Tryz.underlying4 (fld (y := y3) cells_bool (hx 3 _ rfl) rfl)
 obtain ⟨v4, l4, e4, h4, b4⟩ := open_sb (fld (y := y4) cells_bs (hx 4 _ rfl) rfl)
 obtain ⟨v5, l5, e5, h5, b5⟩ := open_sb (fld (y := y5) cells_bs (hx 5 _ rfl) rfl)
 obtain ⟨v6, l6, e6, h6, b6⟩ := open_sb (fld (y := y6) cells_bs (hx 6 _ rfl) rfl)
 obtain ⟨z7, e7, h7⟩ := open_i64 Tryz.underlying3 (fld (y := y7) cells_int (hx 7 _ rfl) rfl)
 obtain ⟨v8, l8, e8, h8, b8, b8'⟩ := open_sk (fld (y := y8) cells_kvs (hx 8 _ rfl) rfl)
 obtain ⟨v9, l9, e9, h9, b9, b9'⟩ := open_sk (fld (y := y9) cells_kvs (hx 9 _ rfl) rfl)
 obtain rfl : c0 = v0 := by simpa using e0
 obtain rfl : c1 = v1 := by simpa using e1
 obtain rfl : c2 = .bool z2 := by simpa using e2
 obtain rfl : c3 = .bool z3 := by simpa using e3
 obtain rfl : c4 = v4 := by simpa using e4
 obtain rfl : c5 = v5 := by simpa using e5
 obtain rfl : c6 = v6 := by simpa using e6
 obtain rfl : c7 = .int .i64 z7 := by simpa using e7
 obtain rfl : c8 = v8 := by simpa using e8
 obtain rfl : c9 = v9 := by simpa using e9
 refine ⟨⟨l0, l1, z2, z3, l4, l5, l6, z7, l8, l9⟩, ⟨c0, c1, c4, c5, c6, c8, c9, rfl, h0, h1, h4, h5, h6, h8, h9, h7⟩, ?_⟩
 have k8 := b8' 59
 have k9 := b9' 38
 simp only [UBk, luriN, bulk_agg, List.map_cons, List.map_nil, Rows.uptoBulkAll]
 omega
theorem list12 {α : Type} {l : List α} (h : l.length = 12) : ∃ a b c d e f g i j k m n, l = [a, b, c, d, e, f, g, i, j, k, m, n] := by
 match l, h with
 | [a, b, c, d, e, f, g, i, j, k, m, n], _ => exact ⟨a, b, c, d, e, f, g, i, j, k, m, n, rfl⟩
theorem list21' {l : List Value} (h : l.length = 21) : ∃ x0 x1 x2 x3 x4 x5 x6 x7 x8 x9 x10 x11 x12 x13 x14 x15 x16 x17 x18 x19 x20, l = [x0, x1, x2, x3, x4, x5, x6, x7, x8, x9, x10, x11, x12, x13, x14, x15, x16, x17, x18, x19, x20] := by
 match l, h with
 | [x0, x1, x2, x3, x4, x5, x6, x7, x8, x9, x10, x11, x12, x13, x14, x15, x16, x17, x18, x19, x20], _ => exact ⟨x0, x1, x2, x3, x4, x5, x6, x7, x8, x9, x10, x11, x12, x13, x14, x15, x16, x17, x18, x19, x20, rfl⟩
def HBk (h : LHead) (n : Nat) : Prop := UBk h.uri n ∧ h.params.length ≤ n ∧ (lparT 59 h.params).length ≤ n
theorem open_lh (h : DataW.trod enc Tryz.prog W 0 (fun _ => true) true fuel 41 cs = some x) : ∃ u, LH W u cs ∧ HBk u (Rows.uptoBulk x.1) := by
 obtain ⟨xs, n, rfl, rfl, hlen, hxl, hx⟩ := DataW.trod_struct Tryz.underlying41 h
 rw [cells_head] at hlen
 obtain ⟨c0, c1, c2, c3, c4, c5, c6, c7, c8, c9, c10, c11, c12, c13, c14, c15, c16, c17, c18, c19, c20, rfl⟩ := list21' hlen
 obtain ⟨y0, y1, y2, y3, y4, y5, y6, y7, y8, y9, y10, y11, rfl⟩ := list12 (show xs.length = 12 from hxl)
 obtain ⟨z0, e0, h0⟩ := open_i64 Tryz.underlying3 (fld (y := y0) cells_int (hx 0 _ rfl) rfl)
 obtain ⟨v1, l1, e1, h1, -⟩ := open_sb (fld (y := y1) cells_bs (hx 1 _ rfl) rfl)
 obtain ⟨v2, l2, e2, h2, -⟩ := open_sb (fld (y := y2) cells_bs (hx 2 _ rfl) rfl)
 obtain ⟨v3, l3, e3, h3, -⟩ := open_sb (fld (y := y3) cells_bs (hx 3 _ rfl) rfl)
 obtain ⟨u, h4, b4⟩ := open_lu (fld (y := y4) cells_uri (hx 4 _ rfl) rfl)
 obtain ⟨v5, l5, e5, h5, b5, b5'⟩ := open_sk (fld (y := y5) cells_kvs (hx 5 _ rfl) rfl)
 obtain ⟨z6, e6, -, w6⟩ := DataW.trod_int Tryz.underlying39 (fld (y := y6) cells_u32 (hx 6 _ rfl) rfl)
 obtain ⟨v7, l7, e7, h7, -⟩ := open_sb (fld (y := y7) cells_bs (hx 7 _ rfl) rfl)
 obtain ⟨v8, l8, e8, h8, -⟩ := open_sb (fld (y := y8) cells_bs (hx 8 _ rfl) rfl)
 obtain ⟨v9, l9, e9, h9, -⟩ := open_sb (fld (y := y9) cells_bs (hx 9 _ rfl) rfl)
 obtain ⟨v10, l10, e10, h10, -⟩ := open_sb (fld (y := y10) cells_bs (hx 10 _ rfl) rfl)
 obtain ⟨z11, e11, h11⟩ := open_i64 Tryz.underlying3 (fld (y := y11) cells_int (hx 11 _ rfl) rfl)
 obtain rfl : c0 = .int .i64 z0 := by simpa using e0
 obtain rfl : c1 = v1 := by simpa using e1
 obtain rfl : c2 = v2 := by simpa using e2
 obtain rfl : c3 = v3 := by simpa using e3
 obtain rfl : c14 = v5 := by simpa using e5
 obtain rfl : c15 = .int .u32 z6 := by simpa using e6
 obtain rfl : c16 = v7 := by simpa using e7
 obtain rfl : c17 = v8 := by simpa using e8
 obtain rfl : c18 = v9 := by simpa using e9
 obtain rfl : c19 = v10 := by simpa using e10
 obtain rfl : c20 = .int .i64 z11 := by simpa using e11
 have w6' := wf_u32 w6
 refine ⟨⟨z0, l1, l2, l3, u, l5, z6, l7, l8, l9, l10, z11⟩, ⟨c1, c2, c3, [c4, c5, c6, c7, c8, c9, c10, c11, c12, c13], c14, c16, c17, c18, c19, rfl, h1, h2, h3, h4, h5, h7, h8, h9, h10, h0, w6', h11⟩, ?_⟩
 have k5 := b5' 59
 obtain ⟨q1, q2, q3, q4, q5⟩ := b4
 simp only [HBk, UBk, bulk_agg, List.map_cons, List.map_nil, Rows.uptoBulkAll]
 omega
instance : Inhabited LHead := ⟨⟨0, [], [], [], ⟨[], [], false, false, [], [], [], 0, [], []⟩, [], 0, [], [], [], [], 0⟩⟩
theorem open_shs (h : DataW.trod enc Tryz.prog W 0 (fun _ => true) true fuel 26 cs = some x) : ∃ v l, cs = [v] ∧ SHs W v l ∧ l.length ≤ Rows.uptoBulk x.1 ∧ ∀ h ∈ l, HBk h (Rows.uptoBulk x.1) := by
 rcases open_slice Tryz.underlying26 h with ⟨rfl, rfl⟩ | ⟨a, len, cap, m, n, D, Pl, rfl, hb, hl, hm, hmm, rfl, hx⟩
 ·exact ⟨_, [], rfl, ⟨none, 0, rfl, Nat.le_refl _, by omega, fun _ => ⟨rfl, rfl⟩, fun i hi => absurd hi (by simp)⟩, by simp, fun h hh => by cases hh⟩
 ·have hlm : len ≤ m := by rw [hmm]; split <;> omega
  have key : ∀ i, i < len → ∃ p : LHead, (∃ cs, LH W p cs ∧ ∀ j u, cs[j]? = some u → W.cell? ((a.add (i * 21)).add j) = some u) ∧ HBk p (Rows.uptoBulk (D i)) := fun i hi => by
   obtain ⟨cs', h1, h2⟩ := hx i (by omega)
   rw [cells_head] at h1
   obtain ⟨p, h3, h4⟩ := open_lh h2
   exact ⟨p, ⟨cs', h3, (cell_of_row h1).2⟩, h4⟩
  obtain ⟨f, hf⟩ := choose_lt key
  have hbk := bulk_slice ((List.range len).map D) ((List.range (m - len)).map fun j => D (len + j))
  refine ⟨_, (List.range len).map f, rfl, ⟨some a, cap, by simp, by simpa using hl, by simpa [maxLen] using hm, fun e => by simp at e, fun i hi => ?_⟩, ?_, fun h hh => ?_⟩
  ·have hi' : i < len := by simpa using hi
   obtain ⟨⟨cs, h1, h2⟩, -⟩ := hf i hi'
   have e : ((List.range len).map f)[i] = f i := by simp
   rw [e]
   exact ⟨a, cs, rfl, h1, h2⟩
  ·have := hbk.1
   simp only [List.length_map, List.length_range] at this ⊢
   omega
  ·obtain ⟨i, hi, rfl⟩ := List.mem_map.1 hh
   obtain ⟨⟨q1, q2, q3, q4, q5⟩, q6, q7⟩ := (hf i (List.mem_range.1 hi)).2
   have h1 := bulk_part (List.mem_map_of_mem (f := D) hi)
   have h2 := hbk.2
   simp only [HBk, UBk]
   omega
theorem list19' {l : List Value} (h : l.length = 19) : ∃ x0 x1 x2 x3 x4 x5 x6 x7 x8 x9 x10 x11 x12 x13 x14 x15 x16 x17 x18, l = [x0, x1, x2, x3, x4, x5, x6, x7, x8, x9, x10, x11, x12, x13, x14, x15, x16, x17, x18] := by
 match l, h with
 | [x0, x1, x2, x3, x4, x5, x6, x7, x8, x9, x10, x11, x12, x13, x14, x15, x16, x17, x18], _ => exact ⟨x0, x1, x2, x3, x4, x5, x6, x7, x8, x9, x10, x11, x12, x13, x14, x15, x16, x17, x18, rfl⟩
def MBk (m : LMsg) (n : Nat) : Prop := UBk m.uri n ∧ m.heads.length ≤ n ∧ (∀ h ∈ m.heads, HBk h n) ∧ m.method.length ≤ n ∧ m.reason.length ≤ n ∧ m.version.length ≤ n ∧ m.body.length ≤ n
theorem open_lm (h : DataW.trod enc Tryz.prog W 0 (fun _ => true) true fuel 28 cs = some x) : ∃ m, LM W m cs ∧ MBk m (Rows.uptoBulk x.1) := by
 obtain ⟨xs, n, rfl, rfl, hlen, hxl, hx⟩ := DataW.trod_struct Tryz.underlying28 h
 rw [cells_msg] at hlen
 obtain ⟨c0, c1, c2, c3, c4, c5, c6, c7, c8, c9, c10, c11, c12, c13, c14, c15, c16, c17, c18, rfl⟩ := list19' hlen
 obtain ⟨y0, y1, y2, y3, y4, y5, y6, y7, y8, y9, rfl⟩ := list10' (show xs.length = 10 from hxl)
 obtain ⟨z0, e0, -⟩ := DataW.trod_bool Tryz.underlying4 (fld (y := y0) cells_bool (hx 0 _ rfl) rfl)
 obtain ⟨v1, l1, e1, h1, b1⟩ := open_sb (fld (y := y1) cells_bs (hx 1 _ rfl) rfl)
 obtain ⟨u, h2, b2⟩ := open_lu (fld (y := y2) cells_uri (hx 2 _ rfl) rfl)
 obtain ⟨z3, e3, h3⟩ := open_i64 Tryz.underlying3 (fld (y := y3) cells_int (hx 3 _ rfl) rfl)
 obtain ⟨v4, l4, e4, h4, b4⟩ := open_sb (fld (y := y4) cells_bs (hx 4 _ rfl) rfl)
 obtain ⟨v5, l5, e5, h5, b5⟩ := open_sb (fld (y := y5) cells_bs (hx 5 _ rfl) rfl)
 obtain ⟨v6, l6, e6, h6, b6, b6'⟩ := open_shs (fld (y := y6) cells_heads (hx 6 _ rfl) rfl)
 obtain ⟨v7, l7, e7, h7, b7⟩ := open_sb (fld (y := y7) cells_bs (hx 7 _ rfl) rfl)
 obtain ⟨z8, e8, -⟩ := DataW.trod_bool Tryz.underlying4 (fld (y := y8) cells_bool (hx 8 _ rfl) rfl)
 obtain ⟨z9, e9, -⟩ := DataW.trod_bool Tryz.underlying4 (fld (y := y9) cells_bool (hx 9 _ rfl) rfl)
 obtain rfl : c0 = .bool z0 := by simpa using e0
 obtain rfl : c1 = v1 := by simpa using e1
 obtain rfl : c12 = .int .i64 z3 := by simpa using e3
 obtain rfl : c13 = v4 := by simpa using e4
 obtain rfl : c14 = v5 := by simpa using e5
 obtain rfl : c15 = v6 := by simpa using e6
 obtain rfl : c16 = v7 := by simpa using e7
 obtain rfl : c17 = .bool z8 := by simpa using e8
 obtain rfl : c18 = .bool z9 := by simpa using e9
 refine ⟨⟨z0, l1, u, z3, l4, l5, l6, l7, z8, z9⟩, ⟨c1, [c2, c3, c4, c5, c6, c7, c8, c9, c10, c11], c13, c14, c15, c16, rfl, h1, h2, h4, h5, h6, h7, h3⟩, ?_⟩
 obtain ⟨q1, q2, q3, q4, q5⟩ := b2
 refine ⟨?_, ?_, fun h hh => ?_, ?_⟩
 ·simp only [UBk, bulk_agg, List.map_cons, List.map_nil, Rows.uptoBulkAll]
  omega
 ·simp only [bulk_agg, List.map_cons, List.map_nil, Rows.uptoBulkAll]
  omega
 ·obtain ⟨⟨r1, r2, r3, r4, r5⟩, r6, r7⟩ := b6' h hh
  simp only [HBk, UBk, bulk_agg, List.map_cons, List.map_nil, Rows.uptoBulkAll]
  omega
 ·simp only [bulk_agg, List.map_cons, List.map_nil, Rows.uptoBulkAll]
  omega
end
end
section
open Go.Lib (hid)
open Go.RowKit
def Hd (x : Bytes) (S : List UInt8) : Prop := ∀ c, x.head? = some c → c ∈ S
theorem Hd.nil (S : List UInt8) : Hd [] S := fun c h => by cases h
theorem Hd.cons {c : UInt8} {r : Bytes} {S : List UInt8} (h : c ∈ S) : Hd (c :: r) S := fun d e => by
 simp only [List.head?_cons, Option.some.injEq] at e
 exact e ▸ h
theorem Hd.app {a x : Bytes} {S : List UInt8} (ha : Hd a S) (hx : Hd x S) : Hd (a ++ x) S := by
 cases a with
 | nil => exact hx
 | cons c r => exact fun d e => ha d e
theorem Hd.more {x : Bytes} {S T : List UInt8} (h : Hd x S) (hs : ∀ c ∈ S, c ∈ T) : Hd x T := fun c e => hs c (h c e)
theorem cutS {p : UInt8 → Bool} {a b x y : Bytes} (S : List UInt8) (hS : ∀ c ∈ S, p c = false) (ha : a.all p = true) (hb : b.all p = true) (hx : Hd x S) (hy : Hd y S) (h : a ++ x = b ++ y) : a = b ∧ x = y := by
 induction a generalizing b with
 | nil =>
  cases b with
  | nil => exact ⟨rfl, h⟩
  | cons d t =>
   exfalso
   have h1 := hS d (hx d (by rw [show x = d :: (t ++ y) from h]; rfl))
   simp only [List.all_cons, Bool.and_eq_true] at hb
   rw [hb.1] at h1
   cases h1
 | cons e s ih =>
  cases b with
  | nil =>
   exfalso
   have h1 := hS e (hy e (by rw [show y = e :: (s ++ x) from h.symm]; rfl))
   simp only [List.all_cons, Bool.and_eq_true] at ha
   rw [ha.1] at h1
   cases h1
  | cons d t =>
   simp only [List.cons_append, List.cons.injEq] at h
   simp only [List.all_cons, Bool.and_eq_true] at ha hb
   obtain ⟨h1, h2⟩ := ih ha.2 hb.2 h.2
   exact ⟨by rw [h.1, h1], h2⟩
theorem wordS_all {l : Bytes} (h : wordS l = true) : l.all wordB = true := by
 simp only [wordS, Bool.and_eq_true] at h
 exact h.1.1
theorem textS_all {p : UInt8 → Bool} {l : Bytes} (h : textS p l = true) : l.all p = true := by
 simp only [textS, Bool.and_eq_true] at h
 exact h.1.1
theorem dg8 (d : Nat) (h : d < 10) : (UInt8.ofNat (48 + d)).toNat = 48 + d := by
 rw [UInt8.toNat_ofNat']
 omega
theorem dec_all (n : Nat) : (Lib.decDigits n).all digitB = true := by
 induction n using Nat.strongRecOn with
 | ind n ih =>
  by_cases h : n < 10
  ·rw [decD_small h]
   have := dg8 n h
   simp [digitB, this]
   omega
  ·rw [decD_step h, List.all_append, ih (n / 10) (by omega)]
   have := dg8 (n % 10) (by omega)
   simp [digitB, this]
   omega
def decV (l : Bytes) : Nat := l.foldl (fun a c => a * 10 + (c.toNat - 48)) 0
theorem decV_dec (n : Nat) : decV (Lib.decDigits n) = n := by
 induction n using Nat.strongRecOn with
 | ind n ih =>
  by_cases h : n < 10
  ·rw [decD_small h]
   have := dg8 n h
   simp only [decV, List.foldl_cons, List.foldl_nil, this]
   omega
  ·rw [decD_step h]
   have h1 := ih (n / 10) (by omega)
   have := dg8 (n % 10) (by omega)
   simp only [decV, List.foldl_append, List.foldl_cons, List.foldl_nil, this] at h1 ⊢
   rw [h1]
   omega
theorem itoa_dig {n : Int} (h : 0 ≤ n) : (Lib.itoa n).all digitB = true := by
 unfold Lib.itoa
 rw [if_neg (by omega)]
 exact dec_all _
theorem itoa_inj {n m : Int} (hn : 0 ≤ n) (hm : 0 ≤ m) (h : Lib.itoa n = Lib.itoa m) : n = m := by
 unfold Lib.itoa at h
 rw [if_neg (by omega), if_neg (by omega)] at h
 have := congrArg decV h
 rw [decV_dec, decV_dec] at this
 omega
theorem kv_cut {f g : Bool} {p q : Bytes × Bytes} {x y : Bytes} (S : List UInt8) (hS : ∀ c ∈ S, wordB c = false) (h61 : (61 : UInt8) ∉ S) (hp : parB f p = true) (hq : parB g q = true) (hx : Hd x S) (hy : Hd y S) (h : kvB p ++ x = kvB q ++ y) : p = q ∧ x = y := by
 obtain ⟨k1, v1⟩ := p
 obtain ⟨k2, v2⟩ := q
 have val : ∀ {f : Bool} {k v : Bytes}, parB f (k, v) = true → k.all wordB = true ∧ v.all wordB = true := by
  intro f k v h
  simp only [parB, Bool.and_eq_true, Bool.or_eq_true, decide_eq_true_eq] at h
  refine ⟨wordS_all h.1, ?_⟩
  rcases h.2 with h2 | h2
  ·exact wordS_all h2
  ·rw [h2.2]; rfl
 obtain ⟨a1, a2⟩ := val hp
 obtain ⟨b1, b2⟩ := val hq
 have T : ∀ v : Bytes, Hd (if v = [] then [] else 61 :: v) (61 :: S) := fun v => by
  split
  ·exact Hd.nil _
  ·exact Hd.cons (List.mem_cons_self)
 have hS' : ∀ c ∈ (61 : UInt8) :: S, wordB c = false := fun c hc => by
  rcases List.mem_cons.1 hc with rfl | hc
  ·decide
  ·exact hS c hc
 simp only [kvB, List.append_assoc] at h
 obtain ⟨rfl, h'⟩ := cutS (61 :: S) hS' a1 b1 (Hd.app (T v1) (hx.more fun c hc => List.mem_cons_of_mem _ hc)) (Hd.app (T v2) (hy.more fun c hc => List.mem_cons_of_mem _ hc)) h
 by_cases e1 : v1 = []
 ·by_cases e2 : v2 = []
  ·subst e1 e2
   exact ⟨rfl, by simpa using h'⟩
  ·rw [if_pos e1, if_neg e2] at h'
   exact absurd (hx 61 (by rw [show x = 61 :: (v2 ++ y) by simpa using h']; rfl)) h61
 ·by_cases e2 : v2 = []
  ·rw [if_neg e1, if_pos e2] at h'
   exact absurd (hy 61 (by rw [show y = 61 :: (v1 ++ x) by simpa using h'.symm]; rfl)) h61
  ·rw [if_neg e1, if_neg e2] at h'
   simp only [List.cons_append, List.cons.injEq, true_and] at h'
   obtain ⟨rfl, hf⟩ := cutS S hS a2 b2 hx hy h'
   exact ⟨rfl, hf⟩
theorem lpsep_hd (sep : UInt8) (l : BKVs) (S : List UInt8) (h : sep ∈ S) : Hd (lpsepT sep l) S := by
 cases l with
 | nil => exact Hd.nil _
 | cons p t => exact Hd.cons h
theorem lpsep_cut {f g : Bool} (sep : UInt8) {l m : BKVs} {x y : Bytes} (S : List UInt8) (hS : ∀ c ∈ sep :: S, wordB c = false) (h61 : (61 : UInt8) ∉ sep :: S) (hsep : sep ∉ S) (hl : ∀ p ∈ l, parB f p = true) (hm : ∀ p ∈ m, parB g p = true) (hx : Hd x S) (hy : Hd y S) (h : lpsepT sep l ++ x = lpsepT sep m ++ y) : l = m ∧ x = y := by
 induction l generalizing m with
 | nil =>
  cases m with
  | nil => exact ⟨rfl, h⟩
  | cons q t => exact absurd (hx sep (by rw [show x = lpsepT sep (q :: t) ++ y from h]; rfl)) hsep
 | cons p s ih =>
  cases m with
  | nil => exact absurd (hy sep (by rw [show y = lpsepT sep (p :: s) ++ x from h.symm]; rfl)) hsep
  | cons q t =>
   simp only [lpsepT, List.flatMap_cons, List.cons_append, List.append_assoc, List.cons.injEq, true_and] at h
   have hx' : Hd (lpsepT sep s ++ x) (sep :: S) := Hd.app (lpsep_hd sep s _ (List.mem_cons_self)) (hx.more fun c hc => List.mem_cons_of_mem _ hc)
   have hy' : Hd (lpsepT sep t ++ y) (sep :: S) := Hd.app (lpsep_hd sep t _ (List.mem_cons_self)) (hy.more fun c hc => List.mem_cons_of_mem _ hc)
   obtain ⟨rfl, h2⟩ := kv_cut (sep :: S) hS h61 (hl p (List.mem_cons_self)) (hm q (List.mem_cons_self)) hx' hy' h
   obtain ⟨rfl, h3⟩ := ih (fun p hp => hl p (List.mem_cons_of_mem _ hp)) (fun p hp => hm p (List.mem_cons_of_mem _ hp)) h2
   exact ⟨rfl, h3⟩
theorem ltail_hd (c sep : UInt8) (l : BKVs) (S : List UInt8) (h : c ∈ S) : Hd (ltailT c sep l) S := by
 unfold ltailT
 split
 ·exact Hd.nil _
 ·exact Hd.cons h
theorem ltail_cut {f g : Bool} (c sep : UInt8) {l m : BKVs} {x y : Bytes} (S : List UInt8) (hS : ∀ d ∈ sep :: S, wordB d = false) (h61 : (61 : UInt8) ∉ sep :: S) (hsep : sep ∉ S) (hc : c ∉ S) (hl : ∀ p ∈ l, parB f p = true) (hm : ∀ p ∈ m, parB g p = true) (hx : Hd x S) (hy : Hd y S) (h : ltailT c sep l ++ x = ltailT c sep m ++ y) : l = m ∧ x = y := by
 have key : ∀ (q : Bytes × Bytes) (t : BKVs), sep :: lparT sep (q :: t) = lpsepT sep (q :: t) := fun q t => by simp [lparT, lpsepT]
 cases l with
 | nil =>
  cases m with
  | nil => exact ⟨rfl, h⟩
  | cons q t => exact absurd (hx c (by rw [show x = ltailT c sep (q :: t) ++ y from h]; rfl)) hc
 | cons p s =>
  cases m with
  | nil => exact absurd (hy c (by rw [show y = ltailT c sep (p :: s) ++ x from h.symm]; rfl)) hc
  | cons q t =>
   rw [ltailT, if_neg (by simp), ltailT, if_neg (by simp), List.cons_append, List.cons_append, List.cons.injEq] at h
   refine lpsep_cut sep S hS h61 hsep hl hm hx hy ?_
   rw [← key, ← key, List.cons_append, List.cons_append, h.2]
theorem port_cut {p q : Int} {x y : Bytes} (S : List UInt8) (hS : ∀ c ∈ S, digitB c = false) (h58 : (58 : UInt8) ∉ S) (hp : 0 ≤ p) (hq : 0 ≤ q) (hx : Hd x S) (hy : Hd y S) (h : lportT p ++ x = lportT q ++ y) : p = q ∧ x = y := by
 unfold lportT at h
 by_cases e1 : 0 < p
 ·by_cases e2 : 0 < q
  ·rw [if_pos e1, if_pos e2, List.cons_append, List.cons_append, List.cons.injEq] at h
   obtain ⟨h1, h2⟩ := cutS S hS (itoa_dig hp) (itoa_dig hq) hx hy h.2
   exact ⟨itoa_inj hp hq h1, h2⟩
  ·rw [if_pos e1, if_neg e2] at h
   exact absurd (hy 58 (by rw [show y = 58 :: (Lib.itoa p ++ x) by simpa using h.symm]; rfl)) h58
 ·by_cases e2 : 0 < q
  ·rw [if_neg e1, if_pos e2] at h
   exact absurd (hx 58 (by rw [show x = 58 :: (Lib.itoa q ++ y) by simpa using h]; rfl)) h58
  ·rw [if_neg e1, if_neg e2] at h
   exact ⟨by omega, by simpa using h⟩
theorem port_hd (n : Int) (S : List UInt8) (h : 58 ∈ S) : Hd (lportT n) S := by
 unfold lportT
 split
 ·exact Hd.cons h
 ·exact Hd.nil _
def midB (c : UInt8) : Bool := c != 64 && c != 62 && c != 32
theorem all_mono {p q : UInt8 → Bool} {l : Bytes} (h : l.all p = true) (hpq : ∀ c, p c = true → q c = true) : l.all q = true := by
 rw [List.all_eq_true] at h ⊢
 exact fun c hc => hpq c (h c hc)
theorem word_mid (c : UInt8) (h : wordB c = true) : midB c = true := by
 simp only [midB, Bool.and_eq_true, bne_iff_ne, ne_eq]
 refine ⟨⟨?_, ?_⟩, ?_⟩ <;> rintro rfl <;> revert h <;> decide
theorem host_mid (c : UInt8) (h : hostB c = true) : midB c = true := by
 simp only [midB, Bool.and_eq_true, bne_iff_ne, ne_eq]
 refine ⟨⟨?_, ?_⟩, ?_⟩ <;> rintro rfl <;> revert h <;> decide
theorem user_mid (c : UInt8) (h : userB c = true) : midB c = true := by
 simp only [midB, Bool.and_eq_true, bne_iff_ne, ne_eq]
 refine ⟨⟨?_, ?_⟩, ?_⟩ <;> rintro rfl <;> revert h <;> decide
theorem dig_mid (c : UInt8) (h : digitB c = true) : midB c = true := by
 simp only [midB, Bool.and_eq_true, bne_iff_ne, ne_eq]
 refine ⟨⟨?_, ?_⟩, ?_⟩ <;> rintro rfl <;> revert h <;> decide
theorem kv_mid {q : UInt8 → Bool} (hq : ∀ c, wordB c = true → q c = true) (h61 : q 61 = true) {f : Bool} {p : Bytes × Bytes} (h : parB f p = true) : (kvB p).all q = true := by
 simp only [parB, Bool.and_eq_true, Bool.or_eq_true, decide_eq_true_eq] at h
 unfold kvB
 rw [List.all_append, all_mono (wordS_all h.1) hq]
 split
 ·rfl
 ·rename_i e
  rcases h.2 with h2 | h2
  ·rw [List.all_cons, h61, all_mono (wordS_all h2) hq]; rfl
  ·exact absurd h2.2 e
theorem lpsep_mid {q : UInt8 → Bool} (hq : ∀ c, wordB c = true → q c = true) (h61 : q 61 = true) (sep : UInt8) (hs : q sep = true) {f : Bool} {l : BKVs} (h : ∀ p ∈ l, parB f p = true) : (lpsepT sep l).all q = true := by
 induction l with
 | nil => rfl
 | cons p t ih =>
  rw [lpsepT, List.flatMap_cons, List.all_append, List.all_cons, hs, kv_mid hq h61 (h p (List.mem_cons_self))]
  exact ih fun p hp => h p (List.mem_cons_of_mem _ hp)
theorem ltail_mid {q : UInt8 → Bool} (hq : ∀ c, wordB c = true → q c = true) (h61 : q 61 = true) (c sep : UInt8) (hc : q c = true) (hs : q sep = true) {f : Bool} {l : BKVs} (h : ∀ p ∈ l, parB f p = true) : (ltailT c sep l).all q = true := by
 unfold ltailT
 split
 ·rfl
 ·rw [List.all_cons, hc, lparT]
  have h1 := lpsep_mid hq h61 sep hs h
  rw [List.all_eq_true] at h1
  rw [Bool.true_and, List.all_eq_true]
  exact fun c hc => h1 c (List.mem_of_mem_drop hc)
theorem port_mid {q : UInt8 → Bool} (hq : ∀ c, digitB c = true → q c = true) (h58 : q 58 = true) {n : Int} (h : 0 ≤ n) : (lportT n).all q = true := by
 unfold lportT
 split
 ·rw [List.all_cons, h58, all_mono (itoa_dig h) hq]; rfl
 ·rfl
def restU (u : LUri) : Bytes := u.host ++ lportT u.port ++ ltailT 59 59 u.params ++ ltailT 63 38 u.hdrs
theorem luri_rest (u : LUri) : luriT u = u.scheme ++ [58] ++ luserT u ++ restU u := by simp [luriT, restU]
theorem rest_mid {u : LUri} (R : RUri u) : (restU u).all midB = true := by
 unfold restU
 rw [List.all_append, List.all_append, List.all_append, all_mono (textS_all R.host) host_mid, port_mid dig_mid (by decide) R.port.1, ltail_mid word_mid (by decide) 59 59 (by decide) (by decide) R.params.2, ltail_mid word_mid (by decide) 63 38 (by decide) (by decide) R.hdrs.2]
 rfl
theorem rest_cut {u v : LUri} {x y : Bytes} (Ru : RUri u) (Rv : RUri v) (hx : Hd x [62, 32]) (hy : Hd y [62, 32]) (h : restU u ++ x = restU v ++ y) : u.host = v.host ∧ u.port = v.port ∧ u.params = v.params ∧ u.hdrs = v.hdrs ∧ x = y := by
 simp only [restU, List.append_assoc] at h
 have X3 : ∀ (l : BKVs) {z : Bytes}, Hd z [62, 32] → Hd (ltailT 63 38 l ++ z) [63, 62, 32] := fun l z hz => Hd.app (ltail_hd 63 38 l _ (by decide)) (hz.more (by decide))
 have X2 : ∀ (m l : BKVs) {z : Bytes}, Hd z [62, 32] → Hd (ltailT 59 59 m ++ (ltailT 63 38 l ++ z)) [59, 63, 62, 32] := fun m l z hz => Hd.app (ltail_hd 59 59 m _ (by decide)) ((X3 l hz).more (by decide))
 have X1 : ∀ (n : Int) (m l : BKVs) {z : Bytes}, Hd z [62, 32] → Hd (lportT n ++ (ltailT 59 59 m ++ (ltailT 63 38 l ++ z))) [58, 59, 63, 62, 32] := fun n m l z hz => Hd.app (port_hd n _ (by decide)) ((X2 m l hz).more (by decide))
 obtain ⟨e1, h⟩ := cutS [58, 59, 63, 62, 32] (by decide) (textS_all Ru.host) (textS_all Rv.host) (X1 _ _ _ hx) (X1 _ _ _ hy) h
 obtain ⟨e2, h⟩ := port_cut [59, 63, 62, 32] (by decide) (by decide) Ru.port.1 Rv.port.1 (X2 _ _ hx) (X2 _ _ hy) h
 obtain ⟨e3, h⟩ := ltail_cut 59 59 [63, 62, 32] (by decide) (by decide) (by decide) (by decide) Ru.params.2 Rv.params.2 (X3 _ hx) (X3 _ hy) h
 obtain ⟨e4, h⟩ := ltail_cut 63 38 [62, 32] (by decide) (by decide) (by decide) (by decide) Ru.hdrs.2 Rv.hdrs.2 hx hy h
 exact ⟨e1, e2, e3, e4, h⟩
theorem scheme_all {u : LUri} (R : RUri u) : u.scheme.all letterB = true := by
 rcases R.scheme with h | h <;> rw [h] <;> decide
theorem luri_cut {u v : LUri} {x y : Bytes} (Ru : RUri u) (Rv : RUri v) (hx : Hd x [62, 32]) (hy : Hd y [62, 32]) (h : luriT u ++ x = luriT v ++ y) : u = v ∧ x = y := by
 rw [luri_rest, luri_rest] at h
 simp only [List.append_assoc, List.cons_append, List.nil_append] at h
 obtain ⟨e0, h⟩ := cutS [58] (by decide) (scheme_all Ru) (scheme_all Rv) (Hd.cons (by decide)) (Hd.cons (by decide)) h
 simp only [List.cons.injEq, true_and] at h
 have key : u.user = v.user ∧ u.pass = v.pass ∧ restU u ++ x = restU v ++ y := by
  have ua : ∀ {w : LUri}, RUri w → w.user.all userB = true := fun {w} R => by
   rcases R.user with e | e
   ·rw [e]; rfl
   ·exact textS_all e
  have pa : ∀ {w : LUri}, RUri w → w.pass.all userB = true := fun {w} R => by
   rcases R.pass with e | e
   ·rw [e]; rfl
   ·exact textS_all e.2
  have npass : ∀ {w : LUri}, RUri w → w.user = [] → w.pass = [] := fun {w} R e => by
   rcases R.pass with e2 | e2
   ·exact e2
   ·exact absurd e e2.1
  have no64 : ∀ {w z : LUri} {s t : Bytes}, RUri w → RUri z → w.user = [] → z.user ≠ [] → Hd s [62, 32] → luserT w ++ (restU w ++ s) = luserT z ++ (restU z ++ t) → False := by
   intro w z s t Rw Rz ew ez hs h
   unfold luserT at h
   rw [if_pos ew, if_neg ez] at h
   simp only [List.nil_append, List.append_assoc, List.cons_append] at h
   have hmid : (z.user ++ (if z.pass = [] then [] else 58 :: z.pass)).all midB = true := by
    rw [List.all_append, all_mono (ua Rz) user_mid]
    split
    ·rfl
    ·rw [List.all_cons, all_mono (pa Rz) user_mid]; rfl
   have h' : restU w ++ s = (z.user ++ (if z.pass = [] then [] else 58 :: z.pass)) ++ (64 :: (restU z ++ t)) := by
    rw [h]
    simp
   obtain ⟨-, h2⟩ := cutS [64, 62, 32] (by decide) (rest_mid Rw) hmid (hs.more (by decide)) (Hd.cons (by decide)) h'
   have := hs 64 (by rw [h2]; rfl)
   revert this
   decide
  by_cases eu : u.user = []
  ·by_cases ev : v.user = []
   ·unfold luserT at h
    rw [if_pos eu, if_pos ev] at h
    exact ⟨by rw [eu, ev], by rw [npass Ru eu, npass Rv ev], by simpa using h⟩
   ·exact absurd h (fun h => no64 Ru Rv eu ev hx h)
  ·by_cases ev : v.user = []
   ·exact absurd h.symm (fun h => no64 Rv Ru ev eu hy h)
   ·unfold luserT at h
    rw [if_neg eu, if_neg ev] at h
    simp only [List.append_assoc] at h
    have T : ∀ (p z : Bytes), Hd ((if p = [] then [] else 58 :: p) ++ ([64] ++ z)) [58, 64] := fun p z => by
     split
     ·exact Hd.cons (by decide)
     ·exact Hd.cons (by decide)
    obtain ⟨e1, h⟩ := cutS [58, 64] (by decide) (ua Ru) (ua Rv) (T _ _) (T _ _) h
    refine ⟨e1, ?_⟩
    by_cases p1 : u.pass = []
    ·by_cases p2 : v.pass = []
     ·rw [if_pos p1, if_pos p2] at h
      exact ⟨by rw [p1, p2], by simpa using h⟩
     ·rw [if_pos p1, if_neg p2] at h
      simp at h
    ·by_cases p2 : v.pass = []
     ·rw [if_neg p1, if_pos p2] at h
      simp at h
     ·rw [if_neg p1, if_neg p2] at h
      simp only [List.cons_append, List.nil_append, List.cons.injEq, true_and] at h
      obtain ⟨e2, h⟩ := cutS [64] (by decide) (pa Ru) (pa Rv) (Hd.cons (by decide)) (Hd.cons (by decide)) h
      exact ⟨e2, by simpa using h⟩
 obtain ⟨e1, e2, h⟩ := key
 obtain ⟨e3, e4, e5, e6, h⟩ := rest_cut Ru Rv hx hy h
 refine ⟨?_, h⟩
 have r1 := Ru.raw
 have r2 := Rv.raw
 have s1 := Ru.star
 have s2 := Rv.star
 have t1 := Ru.slashes
 have t2 := Rv.slashes
 obtain ⟨⟩ := u
 obtain ⟨⟩ := v
 dsimp only at *
 subst e0 e1 e2 e3 e4 e5 e6 r1 r2 s1 s2 t1 t2
 rfl
end
