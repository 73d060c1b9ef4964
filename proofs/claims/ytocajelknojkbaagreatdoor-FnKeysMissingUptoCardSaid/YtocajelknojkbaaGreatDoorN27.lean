import Derived.Test.YtocajelknojkbaaGreatDoorN25
import Derived.Test.YtocajelknojkbaaGreatDoorN24
import Derived.Test.YtocajelknojkbaaGreatDoorN26
set_option maxRecDepth 100000
set_option maxHeartbeats 16000000
set_option linter.all false
namespace Go.Proofs.YtocajelknojkbaaGreatDoor
open Go.Lib (hid)
open Go.RowKit
theorem slot_iff1 (t : Int) : slotT t = 1 ↔ t = 9 := by
 constructor
 ·intro h
  by_cases e1 : t = 1
  ·first | exact e1 | (subst e1; exact absurd h (by decide))
  by_cases e2 : t = 2
  ·first | exact e2 | (subst e2; exact absurd h (by decide))
  by_cases e3 : t = 3
  ·first | exact e3 | (subst e3; exact absurd h (by decide))
  by_cases e9 : t = 9
  ·first | exact e9 | (subst e9; exact absurd h (by decide))
  by_cases e11 : t = 11
  ·first | exact e11 | (subst e11; exact absurd h (by decide))
  by_cases e12 : t = 12
  ·first | exact e12 | (subst e12; exact absurd h (by decide))
  by_cases e4 : t = 4
  ·first | exact e4 | (subst e4; exact absurd h (by decide))
  by_cases e5 : t = 5
  ·first | exact e5 | (subst e5; exact absurd h (by decide))
  by_cases e6 : t = 6
  ·first | exact e6 | (subst e6; exact absurd h (by decide))
  by_cases e8 : t = 8
  ·first | exact e8 | (subst e8; exact absurd h (by decide))
  by_cases e10 : t = 10
  ·first | exact e10 | (subst e10; exact absurd h (by decide))
  simp only [slotT, e1, e2, e3, e9, e11, e12, e4, e5, e6, e8, e10, if_false] at h
  exact absurd h (by decide)
 ·rintro rfl
  rfl
theorem slot_iff4 (t : Int) : slotT t = 4 ↔ t = 4 := by
 constructor
 ·intro h
  by_cases e1 : t = 1
  ·first | exact e1 | (subst e1; exact absurd h (by decide))
  by_cases e2 : t = 2
  ·first | exact e2 | (subst e2; exact absurd h (by decide))
  by_cases e3 : t = 3
  ·first | exact e3 | (subst e3; exact absurd h (by decide))
  by_cases e9 : t = 9
  ·first | exact e9 | (subst e9; exact absurd h (by decide))
  by_cases e11 : t = 11
  ·first | exact e11 | (subst e11; exact absurd h (by decide))
  by_cases e12 : t = 12
  ·first | exact e12 | (subst e12; exact absurd h (by decide))
  by_cases e4 : t = 4
  ·first | exact e4 | (subst e4; exact absurd h (by decide))
  by_cases e5 : t = 5
  ·first | exact e5 | (subst e5; exact absurd h (by decide))
  by_cases e6 : t = 6
  ·first | exact e6 | (subst e6; exact absurd h (by decide))
  by_cases e8 : t = 8
  ·first | exact e8 | (subst e8; exact absurd h (by decide))
  by_cases e10 : t = 10
  ·first | exact e10 | (subst e10; exact absurd h (by decide))
  simp only [slotT, e1, e2, e3, e9, e11, e12, e4, e5, e6, e8, e10, if_false] at h
  exact absurd h (by decide)
 ·rintro rfl
  rfl
theorem slot_iff6 (t : Int) : slotT t = 6 ↔ t = 5 := by
 constructor
 ·intro h
  by_cases e1 : t = 1
  ·first | exact e1 | (subst e1; exact absurd h (by decide))
  by_cases e2 : t = 2
  ·first | exact e2 | (subst e2; exact absurd h (by decide))
  by_cases e3 : t = 3
  ·first | exact e3 | (subst e3; exact absurd h (by decide))
  by_cases e9 : t = 9
  ·first | exact e9 | (subst e9; exact absurd h (by decide))
  by_cases e11 : t = 11
  ·first | exact e11 | (subst e11; exact absurd h (by decide))
  by_cases e12 : t = 12
  ·first | exact e12 | (subst e12; exact absurd h (by decide))
  by_cases e4 : t = 4
  ·first | exact e4 | (subst e4; exact absurd h (by decide))
  by_cases e5 : t = 5
  ·first | exact e5 | (subst e5; exact absurd h (by decide))
  by_cases e6 : t = 6
  ·first | exact e6 | (subst e6; exact absurd h (by decide))
  by_cases e8 : t = 8
  ·first | exact e8 | (subst e8; exact absurd h (by decide))
  by_cases e10 : t = 10
  ·first | exact e10 | (subst e10; exact absurd h (by decide))
  simp only [slotT, e1, e2, e3, e9, e11, e12, e4, e5, e6, e8, e10, if_false] at h
  exact absurd h (by decide)
 ·rintro rfl
  rfl
theorem isT_of {k : Nat} {t : Int} (h : ∀ x, slotT x = k ↔ x = t) (x : LHead) : ((hdrS x).slot == k) = isT t x := by
 rw [hdrS_slot, Bool.eq_iff_iff, beq_iff_eq, h]
 unfold isT
 rw [beq_iff_eq]
theorem isT_via (x : LHead) : ((hdrS x).slot == 1) = isT 9 x := isT_of slot_iff1 x
theorem isT_callid (x : LHead) : ((hdrS x).slot == 4) = isT 4 x := isT_of slot_iff4 x
theorem isT_cseq (x : LHead) : ((hdrS x).slot == 6) = isT 5 x := isT_of slot_iff6 x
theorem filt_slot (k : Nat) (t : Int) (hk : k ≠ 7) (ht : ∀ h, ((hdrS h).slot == k) = isT t h) (l : List LHead) (n : Nat) : (l.map hdrS ++ [SH.clen n]).filter (fun h => h.slot == k) = (l.filter (isT t)).map hdrS := by
 rw [List.filter_append, List.filter_map]
 have h1 : ([SH.clen n].filter fun h => h.slot == k) = [] := by
  have : (7 == k) = false := by simpa using Ne.symm hk
  simp [SH.slot, this]
 rw [h1, List.append_nil]
 congr 1
 exact List.filter_congr fun h _ => ht h
theorem ref_of {n0 m : Nat} {T : TypeId} {hs : List (Nat × SH)} {X : List Value} {w : World} (hM : MRep n0 w m T hs (refsOf hs) X) {l : List LHead} {n : Nat} (hmap : hs.map (·.2) = l.map hdrS ++ [SH.clen n]) (k : Nat) (t : Int) (h1 : 1 ≤ k) (h11 : k ≤ 11) (h7 : k ≠ 7) (ht : ∀ h, ((hdrS h).slot == k) = isT t h) (x : LHead) (hx : l.filter (isT t) = [x]) :
  ∃ g, w.cell? ⟨m, k, none⟩ = some (refV (some g)) ∧ (hdrS x).rep w g := by
 obtain ⟨g, e1, e2⟩ := refsOf_one (k := k) (by omega) hmap (s := hdrS x) (by rw [filt_slot k t h7 ht, hx]; rfl)
 have h2 := mref_cell hM k h1 h11
 rw [e1] at h2
 exact ⟨g, h2, hM.reps _ e2⟩
theorem filt_t {l : List LHead} {t : Int} {x : LHead} (h : l.filter (isT t) = [x]) : x.t = t := by
 have h1 : x ∈ l.filter (isT t) := by rw [h]; simp
 simpa [isT] using (List.mem_filter.1 h1).2
theorem hdr_cseq {x : LHead} (h : x.t = 5) : hdrS x = .cseq x.num (bs x.text) := by unfold hdrS; simp [h]
def mtyI (m : LMsg) : TypeId := if m.resp then 83 else 85
theorem mtyI_ok (m : LMsg) : IsMsgT (mtyI m) := by
 unfold mtyI
 split
 ·exact .inr rfl
 ·exact .inl rfl
structure KMsg (N : Nat) (m : LMsg) (cs : List Value) (w : World) : Prop where
 at_ : LM w m cs
 hasBody : m.hasBody = true
 compact : m.compact = false
 version : m.version = sip20B
 len : m.reason.length ≤ 70368744177664 ∧ m.method.length ≤ 70368744177664
 body : m.body.length < 4294967296
 many : m.heads.length ≤ 1000
 heads : ∀ h ∈ m.heads, HMs h
 uri : m.resp = false → UBd m.uri ∧ m.uri.raw = []
theorem KMsg.below {N : Nat} {m : LMsg} {cs : List Value} {w w' : World} (h : KMsg N m cs w) (hb : Below w.heap.size w w') : KMsg N m cs w' := ⟨h.at_.below hb, h.hasBody, h.compact, h.version, h.len, h.body, h.many, h.heads, h.uri⟩
theorem KMsg.message {N : Nat} {m : LMsg} {cs : List Value} {w : World} (h : KMsg N m cs w) (hG : Gl N w) : Calls Tryz.prog 45 #[.agg cs.toArray] w (MPostR m w) := by
 obtain ⟨h1, h2, h3, h4, h5, h6, h7, h8, h9⟩ := h
 obtain ⟨resp, method, u, code, reason, version, heads, body, hasBody, compact⟩ := m
 dsimp only at h2 h3 h4 h5 h6 h7 h8 h9
 subst h2 h3 h4
 cases resp with
 | true => exact message_resR N method u code reason heads body cs w hG h1 h5 h6 h7 h8
 | false => exact message_reqR N method u code reason heads body cs w hG h1 h5 h6 h7 h8 (h9 rfl)
theorem HB.ck {N : Nat} {w w' : World} {g : Nat} {t : TypeId} {cs : Array Value} (h : HB w g t cs) (k : CK N w w') : HB w' g t cs := ⟨k.same h.1 h.2.1, h.2⟩
theorem ViaAt.ck {N : Nat} {w w' : World} {g : Nat} {v : SVia} (h : ViaAt w g v) (k : CK N w w') : ViaAt w' g v := by
 obtain ⟨cs, h1, c0, c1, c2, c3, c4, vp, c5, h5⟩ := h
 exact ⟨cs, h1.ck k, c0, c1, c2, c3, c4, vp, c5, h5.ck k⟩
def VCAt (m : LMsg) (sv : SVia) (num : Int) (meth : ByteArray) (v : Value) (w : World) : Prop := ∃ mm g9 g5, v = .iface (mtyI m) (.pointer (some ⟨mm, 0, none⟩)) ∧ w.cell? ⟨mm, 1, none⟩ = some (refV (some g9)) ∧ w.cell? ⟨mm, 6, none⟩ = some (refV (some g5)) ∧ ViaAt w g9 sv ∧ HB w g5 156 #[.int .u32 num, .string meth]
theorem VCAt.ck {N : Nat} {m : LMsg} {sv : SVia} {num : Int} {meth : ByteArray} {v : Value} {w w' : World} (h : VCAt m sv num meth v w) (k : CK N w w') : VCAt m sv num meth v w' := by
 obtain ⟨mm, g9, g5, h1, h2, h3, h4, h5⟩ := h
 exact ⟨mm, g9, g5, h1, k.cell h2, k.cell h3, h4.ck k, h5.ck k⟩

def tagB : Bytes := [116, 97, 103]
structure DlgAt (m : Nat) (cid tt tf : ByteArray) (w : World) : Prop where
 ex : ∃ g2 g3 g4 df dt uf ut pf pt, w.cell? ⟨m, 2, none⟩ = some (refV (some g2)) ∧ w.cell? ⟨m, 3, none⟩ = some (refV (some g3)) ∧ w.cell? ⟨m, 4, none⟩ = some (refV (some g4)) ∧
  AddrAt 181 w g2 df uf pf ∧ AddrAt 185 w g3 dt ut pt ∧ HB w g4 154 #[.string cid] ∧ kvGet pf tagB = some tf ∧ kvGet pt tagB = some tt
theorem DlgAt.below {m : Nat} {cid tt tf : ByteArray} {w w' : World} (h : DlgAt m cid tt tf w) (hb : Below w.heap.size w w') : DlgAt m cid tt tf w' := by
 obtain ⟨g2, g3, g4, df, dt, uf, ut, pf, pt, h2, h3, h4, hf, ht, hc, e1, e2⟩ := h.ex
 exact ⟨g2, g3, g4, df, dt, uf, ut, pf, pt, cell_at_below h2 hb, cell_at_below h3 hb, cell_at_below h4 hb, hf.below hb, ht.below hb, hc.below hb, e1, e2⟩

theorem ta_hit (T : TypeId) (hT : IsMsgT T) (a : Addr) (w : World) : Sem.run Tryz.prog (Instr.typeAssert (.iface T (.pointer (some a))) 80 T true) w = .ok (.tuple #[.pointer (some a), .bool true]) w := by
 rcases hT with rfl | rfl <;> kernel_rfl
theorem ta_miss (a : Addr) (w : World) : Sem.run Tryz.prog (Instr.typeAssert (.iface 85 (.pointer (some a))) 80 83 true) w = .ok (.tuple #[.pointer none, .bool false]) w := by
 kernel_rfl
theorem generic_nm {l : Bytes} (h : l[0]? = some 88) : lowT l ≠ nmCL ∧ lowT l ≠ [108] := by
 cases l with
 | nil => simp at h
 | cons a t =>
  obtain rfl : a = 88 := by simpa using h
  refine ⟨fun e => ?_, fun e => ?_⟩
  ·have h1 : lowB 88 = 99 := by simpa [lowT, nmCL] using congrArg List.head? e
   exact absurd h1 (by decide)
  ·have h1 : lowB 88 = 108 := by simpa [lowT] using congrArg List.head? e
   exact absurd h1 (by decide)
structure HTx (h : LHead) : Prop where
 bd : HBd2 h
 u : HOkU h
 t : 0 ≤ h.t ∧ h.t ≤ 14
 ok : (hdrS h).ok
 ll : (hdrS h).line.length ≤ 5000000
theorem HTx.of {h : LHead} (sh : SH) (e : hdrS h = sh) (bd : HBd2 h) (u : HOkU h) (t : 0 ≤ h.t ∧ h.t ≤ 14) (ok : sh.ok) (ll : sh.nm.length + 2 + sh.val.length ≤ 5000000) : HTx h := by
 subst e
 refine ⟨bd, u, t, ok, ?_⟩
 unfold SH.line
 simp only [List.length_append, List.length_cons, List.length_nil]
 omega
theorem bs_len (l : Bytes) : (bs l).data.toList.length = l.length := by simp
theorem addr_len (d : Bytes) (u : LUri) (p : BKVs) (hd : d.length ≤ 8192) (hu : RUri u) (hp : ParOK false p) : (addrT (bs d) (toS u) (strKVs p)).length ≤ 4000000 := by
 have h1 := ruri_len hu
 have h2 := tail_len 59 59 p _ (par_ok hp).2.1
 rw [← uriT_str u hu.raw] at h1
 rw [← tailT_str] at h2
 have h3 : (showT (bs d)).length ≤ 8195 := by
  unfold showT
  split <;> simp <;> omega
 simp only [addrT, List.length_append, List.length_cons, List.length_nil]
 omega
theorem rout_len (u : LUri) (hu : RUri u) : ([60] ++ uriT (toS u) ++ [62]).length ≤ 4000000 := by
 have h1 := ruri_len hu
 rw [← uriT_str u hu.raw] at h1
 simp only [List.length_append, List.length_cons, List.length_nil]
 omega
theorem itoa_len2 (n : Int) (h : 0 ≤ n ∧ n < 4294967296) : (Lib.itoa n).length ≤ 21 := itoa_len n (by unfold I64; omega)
theorem via_len (p v t h : Bytes) (port : Int) (l : BKVs) (hp : p.length ≤ 8192) (hv : v.length ≤ 8192) (ht : t.length ≤ 8192) (hh : h.length ≤ 8192) (hpo : 0 ≤ port ∧ port ≤ 65535) (hl : ParOK false l) : (viaT ⟨bs p, bs v, bs t, bs h, port, strKVs l⟩).length ≤ 4000000 := by
 have h2 := tail_len 59 59 l _ (par_ok hl).2.1
 rw [← tailT_str] at h2
 have h3 : (portT port).length ≤ 22 := port_len port hpo
 simp only [viaT, List.length_append, List.length_cons, List.length_nil, bs_len]
 omega
theorem hou_of {h : LHead} (R : RHead h) : HOkU h := fun k => by
 rcases k with k | k
 ·exact (R.addr k).2.1.raw
 ·exact (R.rout k).raw
theorem hostS_b {l : Bytes} (h : textS hostB l = true) : HostB (bs l) := (textS_host h).1
theorem htx_of {h : LHead} (R : RHead h) (hn : 0 ≤ h.num ∧ h.num < 4294967296) (B2 : HBd2 h) : HTx h := by
 have hu := hou_of R
 obtain ⟨t, name, text, display, u, params, num, proto, version, transport, host, port⟩ := h
 obtain ⟨hs, h0, ha, hr, h6, h7, h4, h10, h5, h9⟩ := R
 dsimp only at hs h0 ha hr h6 h7 h4 h10 h5 h9 hn
 have hi := itoa_len2 num hn
 rcases sort_cases hs with rfl | rfl | rfl | rfl | rfl | rfl | rfl | rfl | rfl | rfl | rfl | rfl | rfl | rfl | rfl
 ·refine HTx.of (.generic (bs name) (bs text)) rfl B2 hu hs trivial ?_
  have h1 := (wordS_ok (h0 rfl).1.2.2.2).2
  have h2 := lineS_len (h0 rfl).2
  simp only [SH.nm, SH.val, bs_len]
  omega
 ·have h1 := ha rfl
  refine HTx.of (.to_ (bs display) (toS u) (strKVs params)) rfl B2 hu hs ⟨ruri_ok h1.2.1, (par_ok h1.2.2).1⟩ ?_
  have h2 := addr_len display u params (shownS_len h1.1) h1.2.1 h1.2.2
  simp only [SH.nm, SH.val, List.length_cons, List.length_nil]
  omega
 ·have h1 := ha rfl
  refine HTx.of (.from_ (bs display) (toS u) (strKVs params)) rfl B2 hu hs ⟨ruri_ok h1.2.1, (par_ok h1.2.2).1⟩ ?_
  have h2 := addr_len display u params (shownS_len h1.1) h1.2.1 h1.2.2
  simp only [SH.nm, SH.val, List.length_cons, List.length_nil]
  omega
 ·have h1 := ha rfl
  refine HTx.of (.contact (bs display) (toS u) (strKVs params)) rfl B2 hu hs ⟨ruri_ok h1.2.1, h1.2.1.star, (par_ok h1.2.2).1⟩ ?_
  have h2 := addr_len display u params (shownS_len h1.1) h1.2.1 h1.2.2
  simp only [SH.nm, SH.val, List.length_cons, List.length_nil]
  omega
 ·refine HTx.of (.callid (bs text)) rfl B2 hu hs trivial ?_
  have h2 := (wordS_ok (h4 rfl)).2
  simp only [SH.nm, SH.val, List.length_cons, List.length_nil, bs_len]
  omega
 ·refine HTx.of (.cseq num (bs text)) rfl B2 hu hs hn ?_
  have h2 := (wordS_ok (h5 rfl).1).2
  simp only [SH.nm, SH.val, List.length_append, List.length_cons, List.length_nil, bs_len]
  omega
 ·refine HTx.of (.maxf num) rfl B2 hu hs hn ?_
  simp only [SH.nm, SH.val, List.length_cons, List.length_nil]
  omega
 ·refine HTx.of (.expires num) rfl B2 hu hs hn ?_
  simp only [SH.nm, SH.val, List.length_cons, List.length_nil]
  omega
 ·refine HTx.of (.clen num) rfl B2 hu hs hn ?_
  simp only [SH.nm, SH.val, List.length_cons, List.length_nil]
  omega
 ·obtain ⟨k1, k2, k3, k4, k5, k6⟩ := h9 rfl
  refine HTx.of (.via ⟨bs proto, bs version, bs transport, bs host, port, strKVs params⟩) rfl B2 hu hs ⟨hostS_b k4, ⟨by show _ ≤ port; omega, by show port ≤ _; omega⟩, (par_ok k6).1⟩ ?_
  have h2 := via_len proto version transport host port params (by rw [k1]; decide) (by rw [k2]; decide) (wordS_ok k3).2 (textS_len k4) k5 k6
  simp only [SH.nm, SH.val, List.length_cons, List.length_nil]
  omega
 ·refine HTx.of (.ctype (bs text)) rfl B2 hu hs trivial ?_
  have h2 := lineS_len (h10 rfl)
  simp only [SH.nm, SH.val, List.length_cons, List.length_nil, bs_len]
  omega
 ·have h1 := hr rfl
  refine HTx.of (.route (toS u)) rfl B2 hu hs (ruri_ok h1) ?_
  have h2 := rout_len u h1
  simp only [SH.nm, SH.val, List.length_cons, List.length_nil]
  omega
 ·have h1 := hr rfl
  refine HTx.of (.rroute (toS u)) rfl B2 hu hs (ruri_ok h1) ?_
  have h2 := rout_len u h1
  simp only [SH.nm, SH.val, List.length_cons, List.length_nil]
  omega
 ·have h1 := hr rfl
  refine HTx.of (.referto (toS u)) rfl B2 hu hs (ruri_ok h1) ?_
  have h2 := rout_len u h1
  simp only [SH.nm, SH.val, List.length_cons, List.length_nil]
  omega
 ·have h1 := ha rfl
  refine HTx.of (.refby (bs display) (toS u) (strKVs params)) rfl B2 hu hs ⟨ruri_ok h1.2.1, (par_ok h1.2.2).1⟩ ?_
  have h2 := addr_len display u params (shownS_len h1.1) h1.2.1 h1.2.2
  simp only [SH.nm, SH.val, List.length_cons, List.length_nil]
  omega
theorem hms_of {h : LHead} (R : RHead h) (hn : 0 ≤ h.num ∧ h.num < 4294967296) (B2 : HBd2 h) (h8 : h.t ≠ 8) : HMs h := by
 have H := htx_of R hn B2
 have key : (hdrS h).slot ≠ 7 ∧ (hdrS h).nm.length ≤ 70368744177664 ∧ lowT (hdrS h).nm ≠ nmCL ∧ lowT (hdrS h).nm ≠ [108] := by
  obtain ⟨t, name, text, display, u, params, num, proto, version, transport, host, port⟩ := h
  obtain ⟨hs, h0, ha, hr, h6, h7, h4, h10, h5, h9⟩ := R
  dsimp only at hs h0 h8
  clear H
  have fx : ∀ (sh : SH) (l : Bytes), sh.slot ≠ 7 → sh.nm = l → l.length ≤ 8192 → lowT l ≠ nmCL → lowT l ≠ [108] → sh.slot ≠ 7 ∧ sh.nm.length ≤ 70368744177664 ∧ lowT sh.nm ≠ nmCL ∧ lowT sh.nm ≠ [108] := by
   intro sh l h1 h2 h3 h4 h5
   rw [h2]
   exact ⟨h1, by omega, h4, h5⟩
  rcases sort_cases hs with rfl | rfl | rfl | rfl | rfl | rfl | rfl | rfl | rfl | rfl | rfl | rfl | rfl | rfl | rfl
  ·have h1 := (h0 rfl).1
   exact fx (.generic (bs name) (bs text)) name (show (0 : Nat) ≠ 7 by decide) (by simp [SH.nm]) (wordS_ok h1.2.2.2).2 (generic_nm h1.2.1).1 (generic_nm h1.2.1).2
  ·exact fx (.to_ (bs display) (toS u) (strKVs params)) (nameS 1) (show (3 : Nat) ≠ 7 by decide) rfl (by decide) (by decide) (by decide)
  ·exact fx (.from_ (bs display) (toS u) (strKVs params)) (nameS 2) (show (2 : Nat) ≠ 7 by decide) rfl (by decide) (by decide) (by decide)
  ·exact fx (.contact (bs display) (toS u) (strKVs params)) (nameS 3) (show (5 : Nat) ≠ 7 by decide) rfl (by decide) (by decide) (by decide)
  ·exact fx (.callid (bs text)) (nameS 4) (show (4 : Nat) ≠ 7 by decide) rfl (by decide) (by decide) (by decide)
  ·exact fx (.cseq num (bs text)) (nameS 5) (show (6 : Nat) ≠ 7 by decide) rfl (by decide) (by decide) (by decide)
  ·exact fx (.maxf num) (nameS 6) (show (11 : Nat) ≠ 7 by decide) rfl (by decide) (by decide) (by decide)
  ·exact fx (.expires num) (nameS 7) (show (0 : Nat) ≠ 7 by decide) rfl (by decide) (by decide) (by decide)
  ·exact absurd rfl h8
  ·exact fx (.via ⟨bs proto, bs version, bs transport, bs host, port, strKVs params⟩) (nameS 9) (show (1 : Nat) ≠ 7 by decide) rfl (by decide) (by decide) (by decide)
  ·exact fx (.ctype (bs text)) (nameS 10) (show (8 : Nat) ≠ 7 by decide) rfl (by decide) (by decide) (by decide)
  ·exact fx (.route (toS u)) (nameS 11) (show (9 : Nat) ≠ 7 by decide) rfl (by decide) (by decide) (by decide)
  ·exact fx (.rroute (toS u)) (nameS 12) (show (10 : Nat) ≠ 7 by decide) rfl (by decide) (by decide) (by decide)
  ·exact fx (.referto (toS u)) (nameS 13) (show (0 : Nat) ≠ 7 by decide) rfl (by decide) (by decide) (by decide)
  ·exact fx (.refby (bs display) (toS u) (strKVs params)) (nameS 14) (show (0 : Nat) ≠ 7 by decide) rfl (by decide) (by decide) (by decide)
 exact ⟨B2, H.u, H.t, H.ok, key.1, key.2.1, key.2.2⟩
theorem ref_none {n0 m : Nat} {T : TypeId} {hs : List (Nat × SH)} {X : List Value} {w : World} (hM : MRep n0 w m T hs (refsOf hs) X) {l : List LHead} {n : Nat} (hmap : hs.map (·.2) = l.map hdrS ++ [SH.clen n]) (k : Nat) (t : Int) (h1 : 1 ≤ k) (h11 : k ≤ 11) (h7 : k ≠ 7) (ht : ∀ h, ((hdrS h).slot == k) = isT t h) (hx : l.filter (isT t) = []) :
  w.cell? ⟨m, k, none⟩ = some (refV none) := by
 have e := refsOf_none (k := k) (by omega) hmap (fun s hs => by
  rcases List.mem_append.1 hs with h | h
  ·obtain ⟨x, hx2, rfl⟩ := List.mem_map.1 h
   have h3 := List.filter_eq_nil_iff.1 hx x hx2
   rw [← ht x] at h3
   simpa using h3
  ·obtain rfl : s = SH.clen n := by simpa using h
   exact fun h => h7 h.symm)
 have h := mref_cell hM k h1 h11
 rw [e] at h
 exact h
theorem hs_names {hs : List (Nat × SH)} {l : List LHead} {n : Nat} (hmap : hs.map (·.2) = l.map hdrS ++ [SH.clen n]) {nm : Bytes} (h : ∀ x ∈ l, lowT (hdrS x).nm ≠ nm) (hc : lowT (SH.clen n).nm ≠ nm) : ∀ p ∈ hs, lowT p.2.nm ≠ nm := by
 intro p hp
 have h1 : p.2 ∈ l.map hdrS ++ [SH.clen n] := by rw [← hmap]; exact List.mem_map.2 ⟨p, hp, rfl⟩
 rcases List.mem_append.1 h1 with h2 | h2
 ·obtain ⟨x, hx, e⟩ := List.mem_map.1 h2
  rw [← e]
  exact h x hx
 ·rw [show p.2 = SH.clen n by simpa using h2]
  exact hc
theorem hseq_of {n0 m : Nat} {T : TypeId} {hs : List (Nat × SH)} {X : List Value} {w : World} (hM : MRep n0 w m T hs (refsOf hs) X) {l : List LHead} {n : Nat} (hmap : hs.map (·.2) = l.map hdrS ++ [SH.clen n]) (hl : l.length ≤ 1000) (hn : ∀ x ∈ l, (hdrS x).nm.length ≤ 70368744177664) : HSeq w m hs := by
 refine hM.hseq (fun p hp => ?_) ?_
 ·have h1 : p.2 ∈ l.map hdrS ++ [SH.clen n] := by rw [← hmap]; exact List.mem_map.2 ⟨p, hp, rfl⟩
  rcases List.mem_append.1 h1 with h2 | h2
  ·obtain ⟨x, hx, e⟩ := List.mem_map.1 h2
   rw [← e]
   exact hn x hx
  ·rw [show p.2 = SH.clen n by simpa using h2]
   show (14 : Nat) ≤ _
   omega
 ·have := congrArg List.length hmap
  simp at this
  omega
theorem gen_nm {l nm : Bytes} (h : l[0]? = some 88) (hn : nm.head? ≠ some 120) : lowT l ≠ nm := by
 intro e
 cases l with
 | nil => simp at h
 | cons c r =>
  obtain rfl : c = 88 := by simpa using h
  rw [← e] at hn
  exact hn rfl
theorem nm_via {h : LHead} (R : RHead h) (ht : h.t ≠ 9) : lowT (hdrS h).nm ≠ [118, 105, 97] ∧ lowT (hdrS h).nm ≠ [118] := by
 obtain ⟨t, name, text, display, u, params, num, proto, version, transport, host, port⟩ := h
 obtain ⟨hs, h0, -⟩ := R
 dsimp only at hs h0 ht
 have fx : ∀ (sh : SH) (l : Bytes), sh.nm = l → lowT l ≠ [118, 105, 97] → lowT l ≠ [118] → lowT sh.nm ≠ [118, 105, 97] ∧ lowT sh.nm ≠ [118] := by
  intro sh l h1 q0 q1
  rw [h1]
  exact ⟨q0, q1⟩
 rcases sort_cases hs with rfl | rfl | rfl | rfl | rfl | rfl | rfl | rfl | rfl | rfl | rfl | rfl | rfl | rfl | rfl
 ·exact fx (.generic (bs name) (bs text)) name (by simp [SH.nm, bs]) (gen_nm (h0 rfl).1.2.1 (by decide)) (gen_nm (h0 rfl).1.2.1 (by decide))
 ·exact fx (hdrS ⟨1, name, text, display, u, params, num, proto, version, transport, host, port⟩) (nameS 1) rfl (by decide) (by decide)
 ·exact fx (hdrS ⟨2, name, text, display, u, params, num, proto, version, transport, host, port⟩) (nameS 2) rfl (by decide) (by decide)
 ·exact fx (hdrS ⟨3, name, text, display, u, params, num, proto, version, transport, host, port⟩) (nameS 3) rfl (by decide) (by decide)
 ·exact fx (hdrS ⟨4, name, text, display, u, params, num, proto, version, transport, host, port⟩) (nameS 4) rfl (by decide) (by decide)
 ·exact fx (hdrS ⟨5, name, text, display, u, params, num, proto, version, transport, host, port⟩) (nameS 5) rfl (by decide) (by decide)
 ·exact fx (hdrS ⟨6, name, text, display, u, params, num, proto, version, transport, host, port⟩) (nameS 6) rfl (by decide) (by decide)
 ·exact fx (hdrS ⟨7, name, text, display, u, params, num, proto, version, transport, host, port⟩) (nameS 7) rfl (by decide) (by decide)
 ·exact fx (hdrS ⟨8, name, text, display, u, params, num, proto, version, transport, host, port⟩) (nameS 8) rfl (by decide) (by decide)
 ·exact absurd rfl ht
 ·exact fx (hdrS ⟨10, name, text, display, u, params, num, proto, version, transport, host, port⟩) (nameS 10) rfl (by decide) (by decide)
 ·exact fx (hdrS ⟨11, name, text, display, u, params, num, proto, version, transport, host, port⟩) (nameS 11) rfl (by decide) (by decide)
 ·exact fx (hdrS ⟨12, name, text, display, u, params, num, proto, version, transport, host, port⟩) (nameS 12) rfl (by decide) (by decide)
 ·exact fx (hdrS ⟨13, name, text, display, u, params, num, proto, version, transport, host, port⟩) (nameS 13) rfl (by decide) (by decide)
 ·exact fx (hdrS ⟨14, name, text, display, u, params, num, proto, version, transport, host, port⟩) (nameS 14) rfl (by decide) (by decide)
structure No_via (m : Nat) (w : World) : Prop where
 ex : ∃ hs, w.cell? ⟨m, 1, none⟩ = some (refV none) ∧ HSeq w m hs ∧ hfind hs [118, 105, 97] = .nilIface ∧ hfind hs [118] = .nilIface
theorem No_via.below {m : Nat} {w w' : World} (h : No_via m w) (hb : Below w.heap.size w w') : No_via m w' := by
 obtain ⟨hs, h1, h2, h3⟩ := h.ex
 exact ⟨hs, cell_at_below h1 hb, h2.below hb, h3⟩
theorem No_via.get {m : Nat} {w : World} (h : No_via m w) : Calls Tryz.prog 246 #[.pointer (some ⟨m, 0, none⟩)] w fun e w' => e = .returned (.pointer none) ∧ Below w.heap.size w w' := by
 obtain ⟨hs, h1, h2, q0, q1⟩ := h.ex
 exact getvia_none m hs w h1 h2 q0 q1
theorem no_via_of {n0 m : Nat} {T : TypeId} {hs : List (Nat × SH)} {X : List Value} {w : World} (hM : MRep n0 w m T hs (refsOf hs) X) {l : List LHead} {n : Nat} (hmap : hs.map (·.2) = l.map hdrS ++ [SH.clen n]) (hl : l.length ≤ 1000) (hn : ∀ x ∈ l, (hdrS x).nm.length ≤ 70368744177664) (hx : l.filter (isT 9) = []) (hR : ∀ x ∈ l, RHead x) : No_via m w := by
 have ht : ∀ x ∈ l, x.t ≠ 9 := fun x hm e => by
  have h3 := List.filter_eq_nil_iff.1 hx x hm
  exact h3 (by simp [isT, e])
 exact ⟨hs, ref_none hM hmap 1 9 (by omega) (by omega) (by omega) isT_via hx, hseq_of hM hmap hl hn, hfind_nil (hs_names hmap (fun x hm => (nm_via (hR x hm) (ht x hm)).1) (by show lowT [67, 111, 110, 116, 101, 110, 116, 45, 76, 101, 110, 103, 116, 104] ≠ _; decide)), hfind_nil (hs_names hmap (fun x hm => (nm_via (hR x hm) (ht x hm)).2) (by show lowT [67, 111, 110, 116, 101, 110, 116, 45, 76, 101, 110, 103, 116, 104] ≠ _; decide))⟩
theorem nm_cseq {h : LHead} (R : RHead h) (ht : h.t ≠ 5) : lowT (hdrS h).nm ≠ [99, 115, 101, 113] := by
 obtain ⟨t, name, text, display, u, params, num, proto, version, transport, host, port⟩ := h
 obtain ⟨hs, h0, -⟩ := R
 dsimp only at hs h0 ht
 have fx : ∀ (sh : SH) (l : Bytes), sh.nm = l → lowT l ≠ [99, 115, 101, 113] → lowT sh.nm ≠ [99, 115, 101, 113] := by
  intro sh l h1 q0
  rw [h1]
  exact q0
 rcases sort_cases hs with rfl | rfl | rfl | rfl | rfl | rfl | rfl | rfl | rfl | rfl | rfl | rfl | rfl | rfl | rfl
 ·exact fx (.generic (bs name) (bs text)) name (by simp [SH.nm, bs]) (gen_nm (h0 rfl).1.2.1 (by decide))
 ·exact fx (hdrS ⟨1, name, text, display, u, params, num, proto, version, transport, host, port⟩) (nameS 1) rfl (by decide)
 ·exact fx (hdrS ⟨2, name, text, display, u, params, num, proto, version, transport, host, port⟩) (nameS 2) rfl (by decide)
 ·exact fx (hdrS ⟨3, name, text, display, u, params, num, proto, version, transport, host, port⟩) (nameS 3) rfl (by decide)
 ·exact fx (hdrS ⟨4, name, text, display, u, params, num, proto, version, transport, host, port⟩) (nameS 4) rfl (by decide)
 ·exact absurd rfl ht
 ·exact fx (hdrS ⟨6, name, text, display, u, params, num, proto, version, transport, host, port⟩) (nameS 6) rfl (by decide)
 ·exact fx (hdrS ⟨7, name, text, display, u, params, num, proto, version, transport, host, port⟩) (nameS 7) rfl (by decide)
 ·exact fx (hdrS ⟨8, name, text, display, u, params, num, proto, version, transport, host, port⟩) (nameS 8) rfl (by decide)
 ·exact fx (hdrS ⟨9, name, text, display, u, params, num, proto, version, transport, host, port⟩) (nameS 9) rfl (by decide)
 ·exact fx (hdrS ⟨10, name, text, display, u, params, num, proto, version, transport, host, port⟩) (nameS 10) rfl (by decide)
 ·exact fx (hdrS ⟨11, name, text, display, u, params, num, proto, version, transport, host, port⟩) (nameS 11) rfl (by decide)
 ·exact fx (hdrS ⟨12, name, text, display, u, params, num, proto, version, transport, host, port⟩) (nameS 12) rfl (by decide)
 ·exact fx (hdrS ⟨13, name, text, display, u, params, num, proto, version, transport, host, port⟩) (nameS 13) rfl (by decide)
 ·exact fx (hdrS ⟨14, name, text, display, u, params, num, proto, version, transport, host, port⟩) (nameS 14) rfl (by decide)
structure No_cseq (m : Nat) (w : World) : Prop where
 ex : ∃ hs, w.cell? ⟨m, 6, none⟩ = some (refV none) ∧ HSeq w m hs ∧ hfind hs [99, 115, 101, 113] = .nilIface
theorem No_cseq.below {m : Nat} {w w' : World} (h : No_cseq m w) (hb : Below w.heap.size w w') : No_cseq m w' := by
 obtain ⟨hs, h1, h2, h3⟩ := h.ex
 exact ⟨hs, cell_at_below h1 hb, h2.below hb, h3⟩
theorem No_cseq.get {m : Nat} {w : World} (h : No_cseq m w) : Calls Tryz.prog 220 #[.pointer (some ⟨m, 0, none⟩)] w fun e w' => e = .returned (.pointer none) ∧ Below w.heap.size w w' := by
 obtain ⟨hs, h1, h2, q0⟩ := h.ex
 exact getcseq_none m hs w h1 h2 q0
theorem no_cseq_of {n0 m : Nat} {T : TypeId} {hs : List (Nat × SH)} {X : List Value} {w : World} (hM : MRep n0 w m T hs (refsOf hs) X) {l : List LHead} {n : Nat} (hmap : hs.map (·.2) = l.map hdrS ++ [SH.clen n]) (hl : l.length ≤ 1000) (hn : ∀ x ∈ l, (hdrS x).nm.length ≤ 70368744177664) (hx : l.filter (isT 5) = []) (hR : ∀ x ∈ l, RHead x) : No_cseq m w := by
 have ht : ∀ x ∈ l, x.t ≠ 5 := fun x hm e => by
  have h3 := List.filter_eq_nil_iff.1 hx x hm
  exact h3 (by simp [isT, e])
 exact ⟨hs, ref_none hM hmap 6 5 (by omega) (by omega) (by omega) isT_cseq hx, hseq_of hM hmap hl hn, hfind_nil (hs_names hmap (fun x hm => (nm_cseq (hR x hm) (ht x hm))) (by show lowT [67, 111, 110, 116, 101, 110, 116, 45, 76, 101, 110, 103, 116, 104] ≠ _; decide))⟩
theorem nm_callid {h : LHead} (R : RHead h) (ht : h.t ≠ 4) : lowT (hdrS h).nm ≠ [99, 97, 108, 108, 45, 105, 100] ∧ lowT (hdrS h).nm ≠ [105] := by
 obtain ⟨t, name, text, display, u, params, num, proto, version, transport, host, port⟩ := h
 obtain ⟨hs, h0, -⟩ := R
 dsimp only at hs h0 ht
 have fx : ∀ (sh : SH) (l : Bytes), sh.nm = l → lowT l ≠ [99, 97, 108, 108, 45, 105, 100] → lowT l ≠ [105] → lowT sh.nm ≠ [99, 97, 108, 108, 45, 105, 100] ∧ lowT sh.nm ≠ [105] := by
  intro sh l h1 q0 q1
  rw [h1]
  exact ⟨q0, q1⟩
 rcases sort_cases hs with rfl | rfl | rfl | rfl | rfl | rfl | rfl | rfl | rfl | rfl | rfl | rfl | rfl | rfl | rfl
 ·exact fx (.generic (bs name) (bs text)) name (by simp [SH.nm, bs]) (gen_nm (h0 rfl).1.2.1 (by decide)) (gen_nm (h0 rfl).1.2.1 (by decide))
 ·exact fx (hdrS ⟨1, name, text, display, u, params, num, proto, version, transport, host, port⟩) (nameS 1) rfl (by decide) (by decide)
 ·exact fx (hdrS ⟨2, name, text, display, u, params, num, proto, version, transport, host, port⟩) (nameS 2) rfl (by decide) (by decide)
 ·exact fx (hdrS ⟨3, name, text, display, u, params, num, proto, version, transport, host, port⟩) (nameS 3) rfl (by decide) (by decide)
 ·exact absurd rfl ht
 ·exact fx (hdrS ⟨5, name, text, display, u, params, num, proto, version, transport, host, port⟩) (nameS 5) rfl (by decide) (by decide)
 ·exact fx (hdrS ⟨6, name, text, display, u, params, num, proto, version, transport, host, port⟩) (nameS 6) rfl (by decide) (by decide)
 ·exact fx (hdrS ⟨7, name, text, display, u, params, num, proto, version, transport, host, port⟩) (nameS 7) rfl (by decide) (by decide)
 ·exact fx (hdrS ⟨8, name, text, display, u, params, num, proto, version, transport, host, port⟩) (nameS 8) rfl (by decide) (by decide)
 ·exact fx (hdrS ⟨9, name, text, display, u, params, num, proto, version, transport, host, port⟩) (nameS 9) rfl (by decide) (by decide)
 ·exact fx (hdrS ⟨10, name, text, display, u, params, num, proto, version, transport, host, port⟩) (nameS 10) rfl (by decide) (by decide)
 ·exact fx (hdrS ⟨11, name, text, display, u, params, num, proto, version, transport, host, port⟩) (nameS 11) rfl (by decide) (by decide)
 ·exact fx (hdrS ⟨12, name, text, display, u, params, num, proto, version, transport, host, port⟩) (nameS 12) rfl (by decide) (by decide)
 ·exact fx (hdrS ⟨13, name, text, display, u, params, num, proto, version, transport, host, port⟩) (nameS 13) rfl (by decide) (by decide)
 ·exact fx (hdrS ⟨14, name, text, display, u, params, num, proto, version, transport, host, port⟩) (nameS 14) rfl (by decide) (by decide)
structure No_callid (m : Nat) (w : World) : Prop where
 ex : ∃ hs, w.cell? ⟨m, 4, none⟩ = some (refV none) ∧ HSeq w m hs ∧ hfind hs [99, 97, 108, 108, 45, 105, 100] = .nilIface ∧ hfind hs [105] = .nilIface
theorem No_callid.below {m : Nat} {w w' : World} (h : No_callid m w) (hb : Below w.heap.size w w') : No_callid m w' := by
 obtain ⟨hs, h1, h2, h3⟩ := h.ex
 exact ⟨hs, cell_at_below h1 hb, h2.below hb, h3⟩
theorem No_callid.get {m : Nat} {w : World} (h : No_callid m w) : Calls Tryz.prog 221 #[.pointer (some ⟨m, 0, none⟩)] w fun e w' => e = .returned (.pointer none) ∧ Below w.heap.size w w' := by
 obtain ⟨hs, h1, h2, q0, q1⟩ := h.ex
 exact getcallid_none m hs w h1 h2 q0 q1
theorem no_callid_of {n0 m : Nat} {T : TypeId} {hs : List (Nat × SH)} {X : List Value} {w : World} (hM : MRep n0 w m T hs (refsOf hs) X) {l : List LHead} {n : Nat} (hmap : hs.map (·.2) = l.map hdrS ++ [SH.clen n]) (hl : l.length ≤ 1000) (hn : ∀ x ∈ l, (hdrS x).nm.length ≤ 70368744177664) (hx : l.filter (isT 4) = []) (hR : ∀ x ∈ l, RHead x) : No_callid m w := by
 have ht : ∀ x ∈ l, x.t ≠ 4 := fun x hm e => by
  have h3 := List.filter_eq_nil_iff.1 hx x hm
  exact h3 (by simp [isT, e])
 exact ⟨hs, ref_none hM hmap 4 4 (by omega) (by omega) (by omega) isT_callid hx, hseq_of hM hmap hl hn, hfind_nil (hs_names hmap (fun x hm => (nm_callid (hR x hm) (ht x hm)).1) (by show lowT [67, 111, 110, 116, 101, 110, 116, 45, 76, 101, 110, 103, 116, 104] ≠ _; decide)), hfind_nil (hs_names hmap (fun x hm => (nm_callid (hR x hm) (ht x hm)).2) (by show lowT [67, 111, 110, 116, 101, 110, 116, 45, 76, 101, 110, 103, 116, 104] ≠ _; decide))⟩
def ErrT (w : World) (e : Ending) (w' : World) : Prop := (∃ a, e = .returned (.tuple #[.string ⟨#[]⟩, .iface 201 (.pointer (some a))])) ∧ Below w.heap.size w w'
theorem mckey_nocseq (T : TypeId) (hT : IsMsgT T) (m : Nat) (a : ByteArray) (w : World) (h6 : No_cseq m w) :
  Calls Tryz.prog 82 #[.iface T (.pointer (some ⟨m, 0, none⟩)), .string a] w (ErrT w) := by
 have na6 := na_cseq hT
 have me6 := me_cseq hT
 have en6 := enters_of Tryz.func220 (by kernel_rfl) rfl
 have HC6 := hid h6.get
 clear h6
 go_enter Tryz.func82, Tryz.ntmps82
 go_wp2_with fail
 refine HC6.out.mono ?_
 rintro e w1 ⟨rfl, hb⟩
 have HB1 := hid hb
 clear hb
 go_wp2_with (go_at_call 92; refine (errnew_any _ _).mono ?_; rintro e w3 ⟨⟨a, rfl⟩, hb3⟩)
 go_ret2
 exact ⟨⟨_, rfl⟩, HB1.out.trans (hb3.mono HB1.out.size)⟩
theorem mckey_novia (T : TypeId) (hT : IsMsgT T) (m g6 : Nat) (num : Int) (meth : ByteArray) (w : World) (h1 : No_via m w) (h6 : w.cell? ⟨m, 6, none⟩ = some (refV (some g6))) (hc : HB w g6 156 #[.int .u32 num, .string meth]) :
  Calls Tryz.prog 82 #[.iface T (.pointer (some ⟨m, 0, none⟩)), .string ⟨#[]⟩] w (ErrT w) := by
 have na1 := na_via hT
 have me1 := me_via hT
 have en1 := enters_of Tryz.func246 (by kernel_rfl) rfl
 have na6 := na_cseq hT
 have me6 := me_cseq hT
 have en6 := enters_of Tryz.func220 (by kernel_rfl) rfl
 have HC6 := hid (getcseq_any m g6 w h6)
 have HC1 := hid h1.get
 have c1 := hc.cell 1
 clear hc h1 h6
 by_cases hm : meth.data.toList = ackB
 ·have hte : (meth.toList == [65, 67, 75]) = true := by rw [ba_list, hm]; rfl
  clear hm
  go_enter Tryz.func82, Tryz.ntmps82
  go_wp2_with fail
  refine HC6.out.mono ?_
  rintro e w1 ⟨rfl, rfl⟩
  go_wp2_with fail
  refine HC1.out.mono ?_
  rintro e w2 ⟨rfl, hb⟩
  have HB1 := hid hb
  clear hb
  go_wp2_with (go_at_call 92; refine (errnew_any _ _).mono ?_; rintro e w3 ⟨⟨a, rfl⟩, hb3⟩)
  go_ret2
  exact ⟨⟨_, rfl⟩, HB1.out.trans (hb3.mono HB1.out.size)⟩
 ·have hte : (meth.toList == [65, 67, 75]) = false := by
   rw [ba_list]
   simpa [ackB] using hm
  clear hm
  go_enter Tryz.func82, Tryz.ntmps82
  go_wp2_with fail
  refine HC6.out.mono ?_
  rintro e w1 ⟨rfl, rfl⟩
  go_wp2_with fail
  refine HC1.out.mono ?_
  rintro e w2 ⟨rfl, hb⟩
  have HB1 := hid hb
  clear hb
  go_wp2_with (go_at_call 92; refine (errnew_any _ _).mono ?_; rintro e w3 ⟨⟨a, rfl⟩, hb3⟩)
  go_ret2
  exact ⟨⟨_, rfl⟩, HB1.out.trans (hb3.mono HB1.out.size)⟩
theorem doorclient_no (v : Value) (a : ByteArray) (w : World) (h : Calls Tryz.prog 82 #[v, .string a] w (ErrT w)) : Calls Tryz.prog 49 #[v, .string a] w (ErrT w) := by
 have HC := hid h
 clear h
 go_enter Tryz.func49, Tryz.ntmps49
 go_wp2_with (go_at_call 82; refine HC.out.mono ?_; rintro e w1 ⟨⟨a, rfl⟩, hb⟩)
 go_ret2
 exact ⟨⟨_, rfl⟩, hb⟩
theorem getdlg_noid (T : TypeId) (hT : IsMsgT T) (m : Nat) (a1 a2 a3 : Addr) (w : World) (h4 : No_callid m w) :
  Calls Tryz.prog 80 #[.iface T (.pointer (some ⟨m, 0, none⟩)), .pointer (some a1), .pointer (some a2), .pointer (some a3)] w fun e w' => (∃ a, e = .returned (.iface 201 (.pointer (some a)))) ∧ Below w.heap.size w w' := by
 have na4 := na_callid hT
 have me4 := me_callid hT
 have en4 := enters_of Tryz.func221 (by kernel_rfl) rfl
 have HC4 := hid h4.get
 clear h4
 go_enter Tryz.func80, Tryz.ntmps80
 go_wp2_with fail
 refine HC4.out.mono ?_
 rintro e w1 ⟨rfl, hb⟩
 have HB1 := hid hb
 clear hb
 go_wp2_with (go_at_call 92; refine (errnew_any _ _).mono ?_; rintro e w3 ⟨⟨a, rfl⟩, hb3⟩)
 go_ret
 exact ⟨⟨_, rfl⟩, HB1.out.trans (hb3.mono HB1.out.size)⟩
theorem dlgres_noid (m : Nat) (w : World) (h4 : No_callid m w) :
  Calls Tryz.prog 46 #[.pointer (some ⟨m, 0, none⟩)] w (ErrT w) := by
 obtain ⟨wb, hwb⟩ : ∃ wb, wb = ((w.alloc (.cells #[.string ⟨#[]⟩] 9)).alloc (.cells #[.string ⟨#[]⟩] 9)).alloc (.cells #[.string ⟨#[]⟩] 9) := ⟨_, rfl⟩
 have hb0 : Below w.heap.size w wb := by rw [hwb]; exact (((Below.refl _ w).alloc (Nat.le_refl _) _).alloc (by simp) _).alloc (by simp; omega) _
 have HGD := hid (getdlg_noid 83 (.inr rfl) m ⟨w.heap.size, 0, none⟩ ⟨w.heap.size + 1, 0, none⟩ ⟨w.heap.size + 2, 0, none⟩ wb (h4.below hb0))
 have HB0 := hid hb0
 have HWB := hid hwb
 clear h4 hb0 hwb
 go_enter Tryz.func46, Tryz.ntmps46
 go_upto_region 2 with fail
 rw [← HWB.out, show w.heap.size + 1 + 1 = w.heap.size + 2 from rfl]
 go_upto_if 12 with (go_at_call 80; refine HGD.out.mono ?_; rintro e w1 ⟨⟨a, rfl⟩, hb1⟩)
 have HB1 := hid (HB0.out.trans (hb1.mono HB0.out.size))
 clear hb1
 go_wp2_with fail
 go_ret2
 exact ⟨⟨_, rfl⟩, HB1.out⟩
theorem dlguas_noid (m : Nat) (w : World) (h4 : No_callid m w) :
  Calls Tryz.prog 47 #[.pointer (some ⟨m, 0, none⟩)] w (ErrT w) := by
 obtain ⟨wb, hwb⟩ : ∃ wb, wb = ((w.alloc (.cells #[.string ⟨#[]⟩] 9)).alloc (.cells #[.string ⟨#[]⟩] 9)).alloc (.cells #[.string ⟨#[]⟩] 9) := ⟨_, rfl⟩
 have hb0 : Below w.heap.size w wb := by rw [hwb]; exact (((Below.refl _ w).alloc (Nat.le_refl _) _).alloc (by simp) _).alloc (by simp; omega) _
 have HGD := hid (getdlg_noid 85 (.inl rfl) m ⟨w.heap.size, 0, none⟩ ⟨w.heap.size + 1, 0, none⟩ ⟨w.heap.size + 2, 0, none⟩ wb (h4.below hb0))
 have HB0 := hid hb0
 have HWB := hid hwb
 clear h4 hb0 hwb
 go_enter Tryz.func47, Tryz.ntmps47
 go_upto_region 2 with fail
 rw [← HWB.out, show w.heap.size + 1 + 1 = w.heap.size + 2 from rfl]
 go_upto_if 12 with (go_at_call 80; refine HGD.out.mono ?_; rintro e w1 ⟨⟨a, rfl⟩, hb1⟩)
 have HB1 := hid (HB0.out.trans (hb1.mono HB0.out.size))
 clear hb1
 go_wp2_with fail
 go_ret2
 exact ⟨⟨_, rfl⟩, HB1.out⟩
def NoKeyI (w : World) (e : Ending) (w' : World) : Prop := (∃ A l c, e = .returned (.tuple #[.slice A l c, .bool false])) ∧ Below w.heap.size w w'
theorem msg_noid {N : Nat} {m : LMsg} {cs : List Value} {w : World} (hK : KMsg N m cs w) (hG : Gl N w) (h4 : m.heads.filter (isT 4) = []) (hR : ∀ x ∈ m.heads, RHead x) : Calls Tryz.prog 45 #[.agg cs.toArray] w fun e w' => ∃ mm, e = .returned (.iface (mtyI m) (.pointer (some ⟨mm, 0, none⟩))) ∧ No_callid mm w' ∧ Below w.heap.size w w' :=
 (hK.message hG).mono fun e w' ⟨mm, hs, h1, _, hmap, hb, n0, X, hM⟩ => ⟨mm, h1, no_callid_of hM hmap hK.many (fun x hx => (hK.heads x hx).nm) h4 hR, hb⟩
theorem dlg_uas_noid (N : Nat) (m : LMsg) (cs : List Value) (w : World) (hG : Gl N w) (hK : KMsg N m cs w) (h4 : m.heads.filter (isT 4) = []) (hR : ∀ x ∈ m.heads, RHead x) (hr : m.resp = false) :
  Calls Tryz.prog 20 #[.agg cs.toArray, .int .i64 1] w (NoKeyI w) := by
 have hlen := hK.at_.len19
 have hty : mtyI m = 85 := by unfold mtyI; rw [hr]; rfl
 have HK := hid hK
 have HG := hid hG
 have HDF := hid (And.intro h4 hR)
 clear hK hG h4 hR hr
 obtain ⟨x0, x1, x2, x3, x4, x5, x6, x7, x8, x9, x10, x11, x12, x13, x14, x15, x16, x17, x18, rfl⟩ := list19 hlen
 clear hlen
 obtain ⟨wb, hwb⟩ : ∃ wb, wb = w.alloc (.cells #[x0, x1, x2, x3, x4, x5, x6, x7, x8, x9, x10, x11, x12, x13, x14, x15, x16, x17, x18] 28) := ⟨_, rfl⟩
 have HWB1 := hid (show wb.heap[w.heap.size]? = some (.cells ([x0, x1, x2, x3, x4, x5, x6, x7, x8, x9, x10, x11, x12, x13, x14, x15, x16, x17, x18] : List Value).toArray 28 (0, 0)) by rw [hwb]; exact heap_alloc_new w _)
 have HB0 := hid (show Below w.heap.size w wb by rw [hwb]; exact (Below.refl _ w).alloc (Nat.le_refl _) _)
 have HC := hid (msg_noid (HK.out.below HB0.out) (HG.out.below HB0.out HG.out.le) HDF.out.1 HDF.out.2)
 rw [hty] at HC
 clear hty
 go_enter Tryz.func20, Tryz.ntmps20
 go_upto_region 1 with fail
 rw [← hwb]
 generalize Value.agg #[x0, x1, x2, x3, x4, x5, x6, x7, x8, x9, x10, x11, x12, x13, x14, x15, x16, x17, x18] = arg0
 clear hwb
 go_upto_region 4 with (first
  | (refine wpList_load_blk (by rfl) 28 (.tmp 2) (by rfl) w.heap.size 28 (0, 0) [x0, x1, x2, x3, x4, x5, x6, x7, x8, x9, x10, x11, x12, x13, x14, x15, x16, x17, x18] (by rfl) HWB1.out _ Tryz.underlying28 rfl 19 msg_size rfl ?_)
  | (go_at_call 45; refine HC.out.mono ?_; rintro e w1 ⟨mm, rfl, hd, hb1⟩)
  | fail)
 have HB1 := hid (HB0.out.trans (hb1.mono HB0.out.size))
 have HD := hid (dlguas_noid mm w1 hd)
 clear hd hb1
 have ta1 := ta_hit 85 (.inl rfl)
 have ta2 := ta_miss
 go_upto_region 17 with (go_at_call 47; refine HD.out.mono ?_; rintro e w2 ⟨⟨a, rfl⟩, hb2⟩)
 have HB2 := hid (HB1.out.trans (hb2.mono HB1.out.size))
 clear hb2
 refine wp_region_grow 5 (CK w2.heap.size) (IW w2)
  (fun i v w' => match i with
   | 0 => v = .string ⟨#[]⟩
   | 1 => SBu w' v []
   | 2 => v = .iface 201 (.pointer (some a))
   | 3 => v = .bool false
   | 4 => SBu w' v []
   | _ => True)
  [[], [0], [], [2], [1]] rfl (by kernel_rfl) (by kernel_rfl) (fun _ _ => IW.step) ?_ ?_ ?_ ?_
 ·intro j hj v w'
  match j, hj with
  | j + 5, _ => trivial
 ·exact CK.of_below (Below.refl _ _).drew (Nat.le_refl _)
 ·simp only [List.take_succ_cons, List.take_zero, fillAll]
  refine ⟨⟨?_, ?_⟩, ⟨?_, ?_⟩, ⟨?_, ?_⟩, ⟨?_, ?_⟩, ⟨?_, ?_⟩, trivial⟩
  ·exact fun v w1 w2 h k => h
  ·intro vals w1 hI hd
   unfold GStep
   go_wp2
   exact CK.refl _ _
  ·exact fun v w1 w2 h k => h.ku k.ku
  ·intro vals w1 hI hd
   have h1 : vals 0 = _ := hd.1
   have hr := Lib.run_convert_string_bytes (P := Tryz.prog) w1 9 22 5 ⟨#[]⟩ Tryz.underlying9 Tryz.underlying22 Tryz.underlying5
   have Y := hid (conv_sbu w1 ⟨#[]⟩ (by decide))
   unfold GStep
   go_wp2
   exact ⟨CK.of_below Y.out.2 hI.size, Y.out.1⟩
  ·exact fun v w1 w2 h k => h
  ·intro vals w1 hI hd
   unfold GStep
   go_wp2
   exact CK.refl _ _
  ·exact fun v w1 w2 h k => h
  ·intro vals w1 hI hd
   have h2 : vals 2 = _ := hd.1
   unfold GStep
   go_wp2
   exact CK.refl _ _
  ·exact fun v w1 w2 h k => h.ku k.ku
  ·intro vals w1 hI hd
   have h1 : SBu w1 (vals 1) [] := hd.1
   have H1 := hid h1
   clear hd
   unfold GStep
   dsimp only
   generalize vals 1 = x1 at h1 H1 ⊢
   obtain ⟨k1, cap1, cs1, fz1, rfl, -⟩ := h1
   go_wp2
   exact ⟨CK.refl _ _, H1.out⟩
 ·intro vals w3 hI3 hR
  simp only [List.drop_succ_cons, List.drop_zero, List.take_succ_cons, List.take_zero, fillAll]
  obtain ⟨-, -, -, r3, r4, -⟩ := hR
  have e3 : vals 3 = _ := r3
  rw [e3]
  generalize vals 4 = x4 at r4 ⊢
  have H4 := hid r4
  obtain ⟨k1, cap1, cs1, fz1, rfl, -⟩ := r4
  have HI3 := hid hI3
  clear hI3 e3 r3
  go_wp2
  go_ret2
  exact ⟨⟨_, _, _, rfl⟩, HB2.out.trans (HI3.out.below.mono HB2.out.size)⟩
theorem dlg_res_noid (N : Nat) (m : LMsg) (cs : List Value) (w : World) (hG : Gl N w) (hK : KMsg N m cs w) (h4 : m.heads.filter (isT 4) = []) (hR : ∀ x ∈ m.heads, RHead x) (hr : m.resp = true) :
  Calls Tryz.prog 20 #[.agg cs.toArray, .int .i64 0] w (NoKeyI w) := by
 have hlen := hK.at_.len19
 have hty : mtyI m = 83 := by unfold mtyI; rw [hr]; rfl
 have HK := hid hK
 have HG := hid hG
 have HDF := hid (And.intro h4 hR)
 clear hK hG h4 hR hr
 obtain ⟨x0, x1, x2, x3, x4, x5, x6, x7, x8, x9, x10, x11, x12, x13, x14, x15, x16, x17, x18, rfl⟩ := list19 hlen
 clear hlen
 obtain ⟨wb, hwb⟩ : ∃ wb, wb = w.alloc (.cells #[x0, x1, x2, x3, x4, x5, x6, x7, x8, x9, x10, x11, x12, x13, x14, x15, x16, x17, x18] 28) := ⟨_, rfl⟩
 have HWB1 := hid (show wb.heap[w.heap.size]? = some (.cells ([x0, x1, x2, x3, x4, x5, x6, x7, x8, x9, x10, x11, x12, x13, x14, x15, x16, x17, x18] : List Value).toArray 28 (0, 0)) by rw [hwb]; exact heap_alloc_new w _)
 have HB0 := hid (show Below w.heap.size w wb by rw [hwb]; exact (Below.refl _ w).alloc (Nat.le_refl _) _)
 have HC := hid (msg_noid (HK.out.below HB0.out) (HG.out.below HB0.out HG.out.le) HDF.out.1 HDF.out.2)
 rw [hty] at HC
 clear hty
 go_enter Tryz.func20, Tryz.ntmps20
 go_upto_region 1 with fail
 rw [← hwb]
 generalize Value.agg #[x0, x1, x2, x3, x4, x5, x6, x7, x8, x9, x10, x11, x12, x13, x14, x15, x16, x17, x18] = arg0
 clear hwb
 go_upto_region 4 with (first
  | (refine wpList_load_blk (by rfl) 28 (.tmp 2) (by rfl) w.heap.size 28 (0, 0) [x0, x1, x2, x3, x4, x5, x6, x7, x8, x9, x10, x11, x12, x13, x14, x15, x16, x17, x18] (by rfl) HWB1.out _ Tryz.underlying28 rfl 19 msg_size rfl ?_)
  | (go_at_call 45; refine HC.out.mono ?_; rintro e w1 ⟨mm, rfl, hd, hb1⟩)
  | fail)
 have HB1 := hid (HB0.out.trans (hb1.mono HB0.out.size))
 have HD := hid (dlgres_noid mm w1 hd)
 clear hd hb1
 have ta1 := ta_hit 83 (.inr rfl)
 go_upto_region 17 with (go_at_call 46; refine HD.out.mono ?_; rintro e w2 ⟨⟨a, rfl⟩, hb2⟩)
 have HB2 := hid (HB1.out.trans (hb2.mono HB1.out.size))
 clear hb2
 refine wp_region_grow 5 (CK w2.heap.size) (IW w2)
  (fun i v w' => match i with
   | 0 => v = .string ⟨#[]⟩
   | 1 => SBu w' v []
   | 2 => v = .iface 201 (.pointer (some a))
   | 3 => v = .bool false
   | 4 => SBu w' v []
   | _ => True)
  [[], [0], [], [2], [1]] rfl (by kernel_rfl) (by kernel_rfl) (fun _ _ => IW.step) ?_ ?_ ?_ ?_
 ·intro j hj v w'
  match j, hj with
  | j + 5, _ => trivial
 ·exact CK.of_below (Below.refl _ _).drew (Nat.le_refl _)
 ·simp only [List.take_succ_cons, List.take_zero, fillAll]
  refine ⟨⟨?_, ?_⟩, ⟨?_, ?_⟩, ⟨?_, ?_⟩, ⟨?_, ?_⟩, ⟨?_, ?_⟩, trivial⟩
  ·exact fun v w1 w2 h k => h
  ·intro vals w1 hI hd
   unfold GStep
   go_wp2
   exact CK.refl _ _
  ·exact fun v w1 w2 h k => h.ku k.ku
  ·intro vals w1 hI hd
   have h1 : vals 0 = _ := hd.1
   have hr := Lib.run_convert_string_bytes (P := Tryz.prog) w1 9 22 5 ⟨#[]⟩ Tryz.underlying9 Tryz.underlying22 Tryz.underlying5
   have Y := hid (conv_sbu w1 ⟨#[]⟩ (by decide))
   unfold GStep
   go_wp2
   exact ⟨CK.of_below Y.out.2 hI.size, Y.out.1⟩
  ·exact fun v w1 w2 h k => h
  ·intro vals w1 hI hd
   unfold GStep
   go_wp2
   exact CK.refl _ _
  ·exact fun v w1 w2 h k => h
  ·intro vals w1 hI hd
   have h2 : vals 2 = _ := hd.1
   unfold GStep
   go_wp2
   exact CK.refl _ _
  ·exact fun v w1 w2 h k => h.ku k.ku
  ·intro vals w1 hI hd
   have h1 : SBu w1 (vals 1) [] := hd.1
   have H1 := hid h1
   clear hd
   unfold GStep
   dsimp only
   generalize vals 1 = x1 at h1 H1 ⊢
   obtain ⟨k1, cap1, cs1, fz1, rfl, -⟩ := h1
   go_wp2
   exact ⟨CK.refl _ _, H1.out⟩
 ·intro vals w3 hI3 hR
  simp only [List.drop_succ_cons, List.drop_zero, List.take_succ_cons, List.take_zero, fillAll]
  obtain ⟨-, -, -, r3, r4, -⟩ := hR
  have e3 : vals 3 = _ := r3
  rw [e3]
  generalize vals 4 = x4 at r4 ⊢
  have H4 := hid r4
  obtain ⟨k1, cap1, cs1, fz1, rfl, -⟩ := r4
  have HI3 := hid hI3
  clear hI3 e3 r3
  go_wp2
  go_ret2
  exact ⟨⟨_, _, _, rfl⟩, HB2.out.trans (HI3.out.below.mono HB2.out.size)⟩
def ErrTV (v : Value) : Prop := ∃ a, v = .tuple #[.string ⟨#[]⟩, .iface 201 (.pointer (some a))]
def ErrTI (v : Value) : Prop := ∃ a, v = .iface 201 (.pointer (some a))
theorem ErrTV.mk' (a : Addr) : ErrTV (.tuple #[.string ⟨#[]⟩, .iface 201 (.pointer (some a))]) := ⟨a, rfl⟩
theorem ErrTI.mk' (a : Addr) : ErrTI (.iface 201 (.pointer (some a))) := ⟨a, rfl⟩
def NoVC (m : LMsg) : Prop := (∀ x ∈ m.heads, RHead x) ∧ (m.heads.filter (isT 5) = [] ∨ m.heads.filter (isT 9) = [] ∧ ∃ pc, m.heads.filter (isT 5) = [pc])
def NoAt (m : LMsg) (v : Value) (w : World) : Prop := ∃ mm, v = .iface (mtyI m) (.pointer (some ⟨mm, 0, none⟩)) ∧ (No_cseq mm w ∨ No_via mm w ∧ ∃ g6 num meth, w.cell? ⟨mm, 6, none⟩ = some (refV (some g6)) ∧ HB w g6 156 #[.int .u32 num, .string meth])
theorem NoAt.below {m : LMsg} {v : Value} {w w' : World} (h : NoAt m v w) (hb : Below w.heap.size w w') : NoAt m v w' := by
 obtain ⟨mm, h1, h2 | ⟨h2, g6, num, meth, h3, h4⟩⟩ := h
 ·exact ⟨mm, h1, .inl (h2.below hb)⟩
 ·exact ⟨mm, h1, .inr ⟨h2.below hb, g6, num, meth, cell_at_below h3 hb, h4.below hb⟩⟩
theorem NoAt.calls {m : LMsg} {v : Value} {w : World} (h : NoAt m v w) : ∃ mm, v = .iface (mtyI m) (.pointer (some ⟨mm, 0, none⟩)) ∧ Calls Tryz.prog 49 #[.iface (mtyI m) (.pointer (some ⟨mm, 0, none⟩)), .string ⟨#[]⟩] w (ErrT w) := by
 obtain ⟨mm, h1, h2 | ⟨h2, g6, num, meth, h3, h4⟩⟩ := h
 ·exact ⟨mm, h1, doorclient_no _ _ _ (mckey_nocseq _ (mtyI_ok m) mm _ w h2)⟩
 ·exact ⟨mm, h1, doorclient_no _ _ _ (mckey_novia _ (mtyI_ok m) mm g6 num meth w h2 h3 h4)⟩
theorem msg_vno {N : Nat} {m : LMsg} {cs : List Value} {w : World} (hK : KMsg N m cs w) (hG : Gl N w) (hX : NoVC m) : Calls Tryz.prog 45 #[.agg cs.toArray] w fun e w' => ∃ v, e = .returned v ∧ NoAt m v w' ∧ Below w.heap.size w w' :=
 (hK.message hG).mono fun e w' ⟨mm, hs, h1, _, hmap, hb, n0, X, hM⟩ => by
  refine ⟨_, h1, ⟨mm, rfl, ?_⟩, hb⟩
  obtain ⟨hR, h5 | ⟨h9, pc, h5⟩⟩ := hX
  ·exact .inl (no_cseq_of hM hmap hK.many (fun x hx => (hK.heads x hx).nm) h5 hR)
  ·obtain ⟨g5, c5, r5⟩ := ref_of hM hmap 6 5 (by omega) (by omega) (by omega) isT_cseq pc h5
   rw [hdr_cseq (filt_t h5)] at r5
   exact .inr ⟨no_via_of hM hmap hK.many (fun x hx => (hK.heads x hx).nm) h9 hR, g5, _, _, c5, r5⟩
theorem iclient_no (N : Nat) (m : LMsg) (cs : List Value) (w : World) (hG : Gl N w) (hK : KMsg N m cs w) (hX : NoVC m) :
  Calls Tryz.prog 21 #[.agg cs.toArray, .slice none 0 0] w (NoKeyI w) := by
 have hlen := hK.at_.len19
 have HK := hid hK
 have HG := hid hG
 have HF := hid hX
 clear hK hG hX
 obtain ⟨x0, x1, x2, x3, x4, x5, x6, x7, x8, x9, x10, x11, x12, x13, x14, x15, x16, x17, x18, rfl⟩ := list19 hlen
 clear hlen
 obtain ⟨wb, hwb⟩ : ∃ wb, wb = w.alloc (.cells #[x0, x1, x2, x3, x4, x5, x6, x7, x8, x9, x10, x11, x12, x13, x14, x15, x16, x17, x18] 28) := ⟨_, rfl⟩
 have HWB1 := hid (show wb.heap[w.heap.size]? = some (.cells ([x0, x1, x2, x3, x4, x5, x6, x7, x8, x9, x10, x11, x12, x13, x14, x15, x16, x17, x18] : List Value).toArray 28 (0, 0)) by rw [hwb]; exact heap_alloc_new w _)
 have HB0 := hid (show Below w.heap.size w wb by rw [hwb]; exact (Below.refl _ w).alloc (Nat.le_refl _) _)
 go_enter Tryz.func21, Tryz.ntmps21
 go_upto_region 1 with fail
 rw [← hwb]
 generalize Value.agg #[x0, x1, x2, x3, x4, x5, x6, x7, x8, x9, x10, x11, x12, x13, x14, x15, x16, x17, x18] = arg0
 clear hwb
 go_upto_region 2 with fail
 refine wp_region_grow 9 (fun w w' => Below w.heap.size w w') (fun w => Below wb.heap.size wb w)
  (fun i v w' => match i with
   | 0 => v = .agg #[x0, x1, x2, x3, x4, x5, x6, x7, x8, x9, x10, x11, x12, x13, x14, x15, x16, x17, x18]
   | 1 => NoAt m v w'
   | 2 => v = .slice none 0 0
   | 3 => v = .string ⟨#[]⟩
   | 4 => ErrTV v
   | 5 => ErrTV v
   | 6 => v = .string ⟨#[]⟩
   | 7 => ErrTI v
   | 8 => v = .string ⟨#[]⟩
   | _ => True)
  [[], [0], [], [2], [1, 3], [4], [5], [5], [6]] rfl (by kernel_rfl) (by kernel_rfl) (fun _ _ h k => h.trans (k.mono h.size)) ?_ ?_ ?_ ?_
 ·intro j hj v w'
  match j, hj with
  | j + 9, _ => trivial
 ·exact (Below.refl _ _).drew
 ·simp only [List.take_succ_cons, List.take_zero, fillAll]
  refine ⟨⟨?_, ?_⟩, ⟨?_, ?_⟩, ⟨?_, ?_⟩, ⟨?_, ?_⟩, ⟨?_, ?_⟩, ⟨?_, ?_⟩, ⟨?_, ?_⟩, ⟨?_, ?_⟩, ⟨?_, ?_⟩, trivial⟩
  ·exact fun v w1 w2 h k => h
  ·intro vals w1 hI hd
   have HGI := hid ((hI.block _ (heap_lt HWB1.out)).trans HWB1.out)
   unfold GStep
   dsimp only
   go_simp
   refine wpList_load_blk (by rfl) 28 (.tmp 2) (by rfl) w.heap.size 28 (0, 0) [x0, x1, x2, x3, x4, x5, x6, x7, x8, x9, x10, x11, x12, x13, x14, x15, x16, x17, x18] (by rfl) HGI.out _ Tryz.underlying28 rfl 19 msg_size rfl ?_
   go_wp2
   exact Below.refl _ _
  ·exact fun v w1 w2 h k => h.below k
  ·intro vals w1 hI hd
   have h1 : vals 0 = _ := hd.1
   have hbw := HB0.out.trans (hI.mono HB0.out.size)
   have HC := hid (msg_vno (HK.out.below hbw) (HG.out.below hbw HG.out.le) HF.out)
   have HI := hid hI
   clear hd hbw
   unfold GStep
   go_wp2_with (go_at_call 45; refine HC.out.mono ?_; rintro e w2 ⟨v, rfl, hv, hb⟩; have HF2 := hid (And.intro hb hv); clear hv hb)
   exact HF2.out
  ·exact fun v w1 w2 h k => h
  ·intro vals w1 hI hd
   unfold GStep
   go_wp2
   exact Below.refl _ _
  ·exact fun v w1 w2 h k => h
  ·intro vals w1 hI hd
   have h2 : vals 2 = _ := hd.1
   have hcv := (SB.nil w1).conv 82 Tryz.underlying82
   clear hd
   unfold GStep
   go_wp2
   first | exact Below.refl _ _ | exact ⟨CK.refl _ _, rfl⟩
  ·exact fun v w1 w2 h k => h
  ·intro vals w1 hI hd
   obtain ⟨r1, r3, -⟩ := hd
   have e3 : vals 3 = _ := r3
   clear hI
   unfold GStep
   dsimp only
   generalize vals 1 = x1 at r1 ⊢
   obtain ⟨mm, rfl, HC⟩ := r1.calls
   have HC := hid HC
   clear r1 r3
   go_wp2_with (go_at_call 49; refine HC.out.mono ?_; rintro e w2 ⟨⟨a, rfl⟩, hb⟩; have HF2 := hid (And.intro hb (ErrTV.mk' a)); clear hb)
   exact HF2.out
  ·exact fun v w1 w2 h k => h
  ·intro vals w1 hI hd
   have r : ErrTV (vals 4) := hd.1
   clear hd
   unfold GStep
   dsimp only
   generalize vals 4 = q at r ⊢
   obtain ⟨a, rfl⟩ := r
   go_wp2
   exact ⟨Below.refl _ _, ErrTV.mk' a⟩
  ·exact fun v w1 w2 h k => h
  ·intro vals w1 hI hd
   have r : ErrTV (vals 5) := hd.1
   clear hd
   unfold GStep
   dsimp only
   generalize vals 5 = q at r ⊢
   obtain ⟨a, rfl⟩ := r
   go_wp2
   exact Below.refl _ _
  ·exact fun v w1 w2 h k => h
  ·intro vals w1 hI hd
   have r : ErrTV (vals 5) := hd.1
   clear hd
   unfold GStep
   dsimp only
   generalize vals 5 = q at r ⊢
   obtain ⟨a, rfl⟩ := r
   go_wp2
   exact ⟨Below.refl _ _, ErrTI.mk' a⟩
  ·exact fun v w1 w2 h k => h
  ·intro vals w1 hI hd
   have h1 : vals 6 = _ := hd.1
   clear hd
   unfold GStep
   go_wp2
   exact Below.refl _ _
 ·intro vals w2 hI hR
  simp only [List.drop_succ_cons, List.drop_zero, List.take_succ_cons, List.take_zero, fillAll]
  obtain ⟨-, -, -, -, -, -, -, r7, r8, -⟩ := hR
  have e8 : vals 8 = _ := r8
  rw [e8]
  generalize vals 7 = q7 at r7 ⊢
  obtain ⟨a, rfl⟩ := r7
  have HB2 := hid hI
  clear hI r8 e8
  go_wp2
  refine wp_region_grow 5 (CK w2.heap.size) (IW w2)
   (fun i v w' => match i with
    | 0 => v = .string ⟨#[]⟩
    | 1 => SBu w' v []
    | 2 => v = .iface 201 (.pointer (some a))
    | 3 => v = .bool false
    | 4 => SBu w' v []
    | _ => True)
   [[], [0], [], [2], [1]] rfl (by kernel_rfl) (by kernel_rfl) (fun _ _ => IW.step) ?_ ?_ ?_ ?_
  ·intro j hj v w'
   match j, hj with
   | j + 5, _ => trivial
  ·exact CK.of_below (Below.refl _ _).drew (Nat.le_refl _)
  ·simp only [List.take_succ_cons, List.take_zero, fillAll]
   refine ⟨⟨?_, ?_⟩, ⟨?_, ?_⟩, ⟨?_, ?_⟩, ⟨?_, ?_⟩, ⟨?_, ?_⟩, trivial⟩
   ·exact fun v w1 w2 h k => h
   ·intro vals w1 hI hd
    unfold GStep
    go_wp2
    exact CK.refl _ _
   ·exact fun v w1 w2 h k => h.ku k.ku
   ·intro vals w1 hI hd
    have h1 : vals 0 = _ := hd.1
    have hr := Lib.run_convert_string_bytes (P := Tryz.prog) w1 9 22 5 ⟨#[]⟩ Tryz.underlying9 Tryz.underlying22 Tryz.underlying5
    have Y := hid (conv_sbu w1 ⟨#[]⟩ (by decide))
    unfold GStep
    go_wp2
    exact ⟨CK.of_below Y.out.2 hI.size, Y.out.1⟩
   ·exact fun v w1 w2 h k => h
   ·intro vals w1 hI hd
    unfold GStep
    go_wp2
    exact CK.refl _ _
   ·exact fun v w1 w2 h k => h
   ·intro vals w1 hI hd
    have h2 : vals 2 = _ := hd.1
    unfold GStep
    go_wp2
    exact CK.refl _ _
   ·exact fun v w1 w2 h k => h.ku k.ku
   ·intro vals w1 hI hd
    have h1 : SBu w1 (vals 1) [] := hd.1
    have H1 := hid h1
    clear hd
    unfold GStep
    dsimp only
    generalize vals 1 = x1 at h1 H1 ⊢
    obtain ⟨k1, cap1, cs1, fz1, rfl, -⟩ := h1
    go_wp2
    exact ⟨CK.refl _ _, H1.out⟩
  ·intro vals w3 hI3 hR
   simp only [List.drop_succ_cons, List.drop_zero, List.take_succ_cons, List.take_zero, fillAll]
   obtain ⟨-, -, -, r3, r4, -⟩ := hR
   have e3 : vals 3 = _ := r3
   rw [e3]
   generalize vals 4 = x4 at r4 ⊢
   have H4 := hid r4
   obtain ⟨k1, cap1, cs1, fz1, rfl, -⟩ := r4
   have HI3 := hid hI3
   clear hI3 e3 r3
   go_wp2
   go_ret2
   exact ⟨⟨_, _, _, rfl⟩, HB0.out.trans ((HB2.out.trans (HI3.out.below.mono HB2.out.size)).mono HB0.out.size)⟩
structure MIn (N : Nat) (m : LMsg) : Prop where
 code : I64 m.code
 bd : MBd m
 uri : UBd m.uri
 heads : ∀ h ∈ m.heads, HBd2 h
 nums : ∀ h ∈ m.heads, 0 ≤ h.num ∧ h.num < 4294967296
 len : m.reason.length ≤ 70368744177664 ∧ m.method.length ≤ 70368744177664
theorem MIn.of {w : World} {m : LMsg} {cs : List Value} {n : Nat} (N : Nat) (hM : LM w m cs) (hB : MBk m n) (hn : n ≤ 1048576) : MIn N m := by
 obtain ⟨a, ul, b, c, hs, d, -, -, -, -, -, hh, -, hc⟩ := hM
 obtain ⟨⟨q1, q2, q3, q4, q5⟩, q6, q7, q8, q9, -, -⟩ := hB
 refine ⟨hc, ⟨by omega, fun h hk => ?_⟩, ⟨by omega, by omega, by omega, by omega⟩, fun h hk => ?_, fun h hk => ?_, by omega, by omega⟩
 ·obtain ⟨⟨r1, -⟩, -, r7⟩ := q7 h hk
  exact ⟨by omega, by omega⟩
 ·obtain ⟨⟨r1, r2, r3, r4, r5⟩, r6, -⟩ := q7 h hk
  exact ⟨⟨by omega, by omega, by omega, by omega⟩, by omega⟩
 ·obtain ⟨i, hi, rfl⟩ := List.getElem_of_mem hk
  obtain ⟨A, c', -, -, -, -, h5⟩ := hh
  obtain ⟨a', cs', -, hl, -⟩ := h5 i hi
  obtain ⟨_, _, _, _, _, _, _, _, _, _, _, _, _, _, _, _, _, _, _, _, hnum, _⟩ := hl
  exact hnum
structure PMsg (m : LMsg) : Prop where
 hasBody : m.hasBody = true
 compact : m.compact = false
 version : m.version = sip20B
 len : m.reason.length ≤ 70368744177664 ∧ m.method.length ≤ 70368744177664
 body : m.body.length < 4294967296
 many : m.heads.length ≤ 1000
 heads : ∀ h ∈ m.heads, HMs h
 uri : m.resp = false → UBd m.uri ∧ m.uri.raw = []
theorem PMsg.k {N : Nat} {m : LMsg} {cs : List Value} {w : World} (P : PMsg m) (h : LM w m cs) : KMsg N m cs w := ⟨h, P.hasBody, P.compact, P.version, P.len, P.body, P.many, P.heads, P.uri⟩
theorem PMsg.of {N : Nat} {m : LMsg} (H : MIn N m) (R : RMsg m) : PMsg m :=
 ⟨R.hasBody, R.compact, R.version, H.len, by have := R.body; omega, by have := R.many; omega, fun h hh => hms_of (R.heads h hh).1 (H.nums h hh) (H.heads h hh) (R.heads h hh).2, fun hr => ⟨H.uri, (R.req hr).2.raw⟩⟩
theorem HMs.par {h : LHead} (H : HMs h) (ht : h.t = 9) (k v : Bytes) (hv : ValB ⟨v.toArray⟩) : HMs (parH h k v) := by
 obtain ⟨t, name, text, display, u, params, num, proto, version, transport, host, port⟩ := h
 dsimp only at ht
 subst ht
 obtain ⟨⟨b1, b2⟩, hu, h3, h4, h5, h6, h7⟩ := H
 have h4' : VOk ⟨bs proto, bs version, bs transport, bs host, port, strKVs params⟩ := h4
 refine ⟨⟨b1, by show (params.map _).length ≤ _; rw [List.length_map]; exact b2⟩, hu, h3, ?_, h5, h6, h7⟩
 show VOk ⟨bs proto, bs version, bs transport, bs host, port, strKVs (params.map (setK k v))⟩
 refine ⟨h4'.host, h4'.port, ?_⟩
 intro q hq
 obtain ⟨p, hp, rfl⟩ := List.mem_map.1 hq
 obtain ⟨r, hr, rfl⟩ := List.mem_map.1 hp
 have h8 := h4'.params (strKV r) (List.mem_map.2 ⟨r, hr, rfl⟩)
 unfold setK
 split
 ·exact hv
 ·exact h8
theorem plain_9 {h : LHead} (ht : h.t = 9) : (plainH h).t = 9 ∧ (plainH h).params = h.params := by
 obtain ⟨t, name, text, display, u, params, num, proto, version, transport, host, port⟩ := h
 dsimp only at ht
 subst ht
 exact ⟨rfl, rfl⟩
theorem plain_5 {h : LHead} (ht : h.t = 5) : (plainH h).t = 5 ∧ (plainH h).text = h.text := by
 obtain ⟨t, name, text, display, u, params, num, proto, version, transport, host, port⟩ := h
 dsimp only at ht
 subst ht
 exact ⟨rfl, rfl⟩
theorem goodbr {l : Bytes} (h1 : 7 < l.length) (h2 : l.take 7 = [122, 57, 104, 71, 52, 98, 75]) : GoodBr (bs l) := by
 refine ⟨?_, by rw [show (bs l).size = l.length from sz l]; exact h1⟩
 obtain ⟨r, rfl⟩ : ∃ r, l = magicB ++ r := ⟨l.drop 7, by rw [← show l.take 7 = magicB from h2, List.take_append_drop]⟩
 show Lib.hasPrefix (magicB ++ r) magicB = true
 first | rfl | simp [Lib.hasPrefix, magicB]
structure CallF (m : LMsg) (via cq pv pc : LHead) : Prop where
 p : PMsg m
 h9 : m.heads.filter (isT 9) = [pv]
 h5 : m.heads.filter (isT 5) = [pc]
 f9 : firstH 9 m.heads = via
 f5 : firstH 5 m.heads = cq
 t9 : via.t = 9
 t5 : cq.t = 5
 ms9 : HMs via
 ms5 : HMs cq
 par : pv.params = via.params
 txt : pc.text = cq.text
 find : (via.params.find? fun p => p.1 == branchB).map (·.2) = some (paramV via.params branchK)
 good : GoodBr (bs (paramV via.params branchK))
 brl : (paramV via.params branchK).length ≤ 8192
 txl : cq.text.length ≤ 8192
 sorts : ∀ h ∈ m.heads, 0 ≤ h.t ∧ h.t ≤ 14
 parl : via.params.length ≤ 1073741824
theorem CallF.of {N : Nat} {m : LMsg} (H : MIn N m) (R : RCall m) : ∃ via cq pv pc, CallF m via cq pv pc := by
 obtain ⟨pv, h9, m9, t9, f9⟩ := first_of (R.one 9 (by simp))
 obtain ⟨pc, h5, m5, t5, f5⟩ := first_of (R.one 5 (by simp))
 have P := PMsg.of H R.msg
 have q9 := plain_9 t9
 have q5 := plain_5 t5
 have rv := (R.msg.heads pv m9).1.via t9
 have rc := (R.msg.heads pc m5).1.cseq t5
 have hbr := R.br
 rw [f9] at hbr
 have hf := find_of_len (l := (plainH pv).params) (k := branchK) (by omega)
 refine ⟨plainH pv, plainH pc, pv, pc, P, h9, h5, f9, f5, q9.1, q5.1, (P.heads pv m9).plain, (P.heads pc m5).plain, q9.2.symm, q5.2.symm, hf.2, goodbr hbr.1 hbr.2, ?_, ?_, fun h hh => (P.heads h hh).t, ?_⟩
 ·obtain ⟨p, hp, hp2⟩ := Option.map_eq_some_iff.1 hf.2
  have hm := List.mem_of_find?_eq_some hp
  rw [q9.2] at hm
  have h1 := rv.2.2.2.2.2.2 p hm
  rw [← hp2]
  simp only [parB, Bool.and_eq_true, Bool.or_eq_true, decide_eq_true_eq] at h1
  rcases h1.2 with h2 | h2
  ·exact (wordS_ok h2).2
  ·rw [h2.2]; simp
 ·rw [q5.2]
  exact (wordS_ok rc.1).2
 ·rw [q9.2]
  have := rv.2.2.2.2.2.1
  omega
