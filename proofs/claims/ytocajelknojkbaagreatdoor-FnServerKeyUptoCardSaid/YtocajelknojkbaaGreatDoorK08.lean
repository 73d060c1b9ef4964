import Derived.Test.YtocajelknojkbaaGreatDoorK06
import Derived.Test.YtocajelknojkbaaGreatDoorK07
set_option maxRecDepth 100000
set_option maxHeartbeats 16000000
set_option linter.all false
namespace Go.Proofs.YtocajelknojkbaaGreatDoor
open Go.Lib (hid)
open Go.RowKit
theorem SH.rep_keep {n0 b : Nat} {bs : Bytes} {w w' : World} {g : Nat} {h : SH} (hr : h.rep w g) (hB : BW n0 b bs w) (hk : WK n0 b w w') : h.rep w' g := by
 cases h <;> first | exact AddrAt.keep hr hB hk | exact ViaAt.keep hr hB hk | exact BareAt.keep hr hB hk | exact HB.keep hr hB hk
theorem SH.rep_below {w w' : World} {g : Nat} {h : SH} (hr : h.rep w g) (hb : Below w.heap.size w w') : h.rep w' g := by
 cases h <;> first | exact AddrAt.below hr hb | exact ViaAt.below hr hb | exact BareAt.below hr hb | exact HB.below hr hb
def HList (w : World) (m : Nat) (hs : List (Nat × SH)) : Prop := ∃ cs t A cap, w.heap[m]? = some (.cells cs t (0, 0)) ∧ t ≠ 5 ∧ t ≠ 166 ∧ cs[0]? = some (.slice A hs.length cap) ∧ cs[12]? = some (.bool false) ∧ hs.length ≤ 4294967296 ∧
 (hs ≠ [] → ∃ bo ocs fz, A = some ⟨bo, 0, none⟩ ∧ w.heap[bo]? = some (.cells ocs 91 fz) ∧ ∀ i (h : i < hs.length), ocs[i]? = some (hs[i].2.v hs[i].1)) ∧ ∀ p ∈ hs, p.2.rep w p.1 ∧ p.2.ok
theorem HList.keep {n0 b : Nat} {bs : Bytes} {w w' : World} {m : Nat} {hs : List (Nat × SH)} (h : HList w m hs) (hB : BW n0 b bs w) (hk : WK n0 b w w') : HList w' m hs := by
 obtain ⟨cs, t, A, cap, h1, h2, h3, h4, h5, h6, h7, h8⟩ := h
 refine ⟨cs, t, A, cap, hk.blk h1 (hB.ne_blk h1 h3) h2, h2, h3, h4, h5, h6, fun hne => ?_, fun p hp => ⟨SH.rep_keep (h8 p hp).1 hB hk, (h8 p hp).2⟩⟩
 obtain ⟨bo, ocs, fz, e, hb, hc⟩ := h7 hne
 exact ⟨bo, ocs, fz, e, hk.blk hb (hB.ne_blk hb (by decide)) (by decide), hc⟩
theorem HList.below {w w' : World} {m : Nat} {hs : List (Nat × SH)} (h : HList w m hs) (hb : Below w.heap.size w w') : HList w' m hs := by
 obtain ⟨cs, t, A, cap, h1, h2, h3, h4, h5, h6, h7, h8⟩ := h
 refine ⟨cs, t, A, cap, (hb.block _ (heap_lt h1)).trans h1, h2, h3, h4, h5, h6, fun hne => ?_, fun p hp => ⟨SH.rep_below (h8 p hp).1 hb, (h8 p hp).2⟩⟩
 obtain ⟨bo, ocs, fz, e, hbo, hc⟩ := h7 hne
 exact ⟨bo, ocs, fz, e, (hb.block _ (heap_lt hbo)).trans hbo, hc⟩
def BodyAt (n1 : Nat) (w : World) (v : Value) : Option Bytes → Prop
 | none => v = .slice none 0 0
 | some l => ∃ g c cs fz, v = .slice (some ⟨g, 0, none⟩) l.length c ∧ g < n1 ∧ l.length ≤ 9223372036854775807 ∧ w.heap[g]? = some (.cells cs 5 fz) ∧ ∀ i (h : i < l.length), cs[i]? = some (.int .u8 l[i].toNat)
theorem BodyAt.below {n1 : Nat} {w w' : World} {v : Value} {l : Option Bytes} (h : BodyAt n1 w v l) (hb : Below n1 w w') : BodyAt n1 w' v l := by
 cases l with
 | none => exact h
 | some l =>
  obtain ⟨g, c, cs, fz, h1, h2, h3, h4, h5⟩ := h
  exact ⟨g, c, cs, fz, h1, h2, h3, (hb.block g h2).trans h4, h5⟩
theorem BodyAt.more {n1 n2 : Nat} {w : World} {v : Value} {l : Option Bytes} (h : BodyAt n1 w v l) (hn : n1 ≤ n2) : BodyAt n2 w v l := by
 cases l with
 | none => exact h
 | some l =>
  obtain ⟨g, c, cs, fz, h1, h2, h3, h4, h5⟩ := h
  exact ⟨g, c, cs, fz, h1, by omega, h3, h4, h5⟩
structure SMsg where
 resp : Bool
 method : ByteArray
 uri : SUri
 code : Int
 reason : ByteArray
 version : ByteArray
 heads : List (Nat × SH)
 body : Option Bytes
def MTy (M : SMsg) : TypeId := if M.resp then 133 else 136
def MCells (n1 : Nat) (w : World) (cs : Array Value) (M : SMsg) : Prop := cs[13]? = some (.string M.version) ∧ (∃ bv, cs[14]? = some bv ∧ BodyAt n1 w bv M.body) ∧
 (if M.resp then cs[18]? = some (.string M.reason) ∧ cs[19]? = some (.int .i64 M.code) else cs[18]? = some (.string M.method) ∧ UCells w (fun i => cs[19 + i]?) M.uri)
def MsgAt (n1 : Nat) (w : World) (m : Nat) (M : SMsg) : Prop := HList w m M.heads ∧ ∃ cs, w.heap[m]? = some (.cells cs (MTy M) (0, 0)) ∧ MCells n1 w cs M
theorem mty (M : SMsg) : MTy M ≠ 5 ∧ MTy M ≠ 166 := by
 unfold MTy
 split <;> exact ⟨by decide, by decide⟩
theorem MsgAt.keep {n1 b : Nat} {bs : Bytes} {w w' : World} {m : Nat} {M : SMsg} (h : MsgAt n1 w m M) (hB : BW n1 b bs w) (hk : WK n1 b w w') : MsgAt n1 w' m M := by
 obtain ⟨h1, cs, h2, h3, ⟨bv, h4, h5⟩, h6⟩ := h
 refine ⟨h1.keep hB hk, cs, hk.blk h2 (hB.ne_blk h2 (mty M).2) (mty M).1, h3, ⟨bv, h4, h5.below hk.1⟩, ?_⟩
 revert h6
 split
 ·exact id
 ·exact fun h6 => ⟨h6.1, h6.2.keep hB hk⟩
theorem MsgAt.below {n1 : Nat} {w w' : World} {m : Nat} {M : SMsg} (h : MsgAt n1 w m M) (hn : n1 ≤ w.heap.size) (hb : Below w.heap.size w w') : MsgAt n1 w' m M := by
 obtain ⟨h1, cs, h2, h3, ⟨bv, h4, h5⟩, h6⟩ := h
 refine ⟨h1.below hb, cs, (hb.block _ (heap_lt h2)).trans h2, h3, ⟨bv, h4, h5.below (hb.mono hn)⟩, ?_⟩
 revert h6
 split
 ·exact id
 ·exact fun h6 => ⟨h6.1, h6.2.below hb⟩
theorem MsgAt.cells {n1 : Nat} {w : World} {m : Nat} {M : SMsg} (h : MsgAt n1 w m M) : w.cell? ⟨m, 13, none⟩ = some (.string M.version) ∧ ∃ bv, w.cell? ⟨m, 14, none⟩ = some bv ∧ BodyAt n1 w bv M.body := by
 obtain ⟨_, cs, h2, h3, ⟨bv, h4, h5⟩, _⟩ := h
 have hc : ∀ j, w.cell? ⟨m, j, none⟩ = cs[j]? := fun j => by simp [World.cell?, h2]
 exact ⟨(hc 13).trans h3, bv, (hc 14).trans h4, h5⟩
theorem MsgAt.req {n1 : Nat} {w : World} {m : Nat} {M : SMsg} (h : MsgAt n1 w m M) (hr : M.resp = false) : w.cell? ⟨m, 18, none⟩ = some (.string M.method) ∧ UriAt w m 19 M.uri := by
 obtain ⟨_, cs, h2, h3, _, h6⟩ := h
 rw [if_neg (by rw [hr]; simp)] at h6
 exact ⟨by simp [World.cell?, h2, h6.1], cs, _, _, h2, (mty M).1, (mty M).2, h6.2⟩
theorem MsgAt.res {n1 : Nat} {w : World} {m : Nat} {M : SMsg} (h : MsgAt n1 w m M) (hr : M.resp = true) : w.cell? ⟨m, 18, none⟩ = some (.string M.reason) ∧ w.cell? ⟨m, 19, none⟩ = some (.int .i64 M.code) := by
 obtain ⟨_, cs, h2, h3, _, h6⟩ := h
 rw [if_pos hr] at h6
 exact ⟨by simp [World.cell?, h2, h6.1], by simp [World.cell?, h2, h6.2]⟩
def KT (w w' : World) : Prop := ∀ (g : Nat) (cs : Array Value) (t : TypeId), w.heap[g]? = some (.cells cs t (0, 0)) → t ≠ 5 → t ≠ 166 → t ≠ 91 → t ≠ 136 → t ≠ 133 → w'.heap[g]? = some (.cells cs t (0, 0))
theorem KT.refl (w : World) : KT w w := fun _ _ _ h _ _ _ _ _ => h
theorem KT.trans {w w1 w2 : World} (h : KT w w1) (k : KT w1 w2) : KT w w2 := fun g cs t hg a b c d e => k g cs t (h g cs t hg a b c d e) a b c d e
theorem KT.of_below {w w' : World} (h : Below w.heap.size w w') : KT w w' := fun g _ _ hg _ _ _ _ _ => (h.block g (heap_lt hg)).trans hg
theorem PRep.kt {w w' : World} {v : Value} {l : KVs} (h : PRep w v l) (k : KT w w') : PRep w' v l := by
 rcases h with h | ⟨g, cap, cs, h1, h2, h2', h3, h4⟩
 ·exact .inl h
 ·exact .inr ⟨g, cap, cs, h1, h2, h2', k g cs _ h3 (by decide) (by decide) (by decide) (by decide) (by decide), h4⟩
theorem UCells.kt {w w' : World} {cs : Nat → Option Value} {u : SUri} (h : UCells w cs u) (k : KT w w') : UCells w' cs u := by
 obtain ⟨c0, c1, c2, c3, c4, c5, c6, c7, vp, vh, c8, c9, p1, p2⟩ := h
 exact ⟨c0, c1, c2, c3, c4, c5, c6, c7, vp, vh, c8, c9, p1.kt k, p2.kt k⟩
theorem HB.kt {w w' : World} {g : Nat} {t : TypeId} {cs : Array Value} (h : HB w g t cs) (k : KT w w') (h1 : t ≠ 91) (h2 : t ≠ 136) (h3 : t ≠ 133) : HB w' g t cs := ⟨k g cs t h.1 h.2.1 h.2.2 h1 h2 h3, h.2⟩
theorem AddrAt.kt {t : TypeId} {w w' : World} {g : Nat} {d : ByteArray} {u : SUri} {p : KVs} (h : AddrAt t w g d u p) (k : KT w w') (h1 : t ≠ 91) (h2 : t ≠ 136) (h3 : t ≠ 133) : AddrAt t w' g d u p := by
 obtain ⟨cs, a1, a2, a3, vp, a4, a5⟩ := h
 exact ⟨cs, a1.kt k h1 h2 h3, a2, a3.kt k, vp, a4, a5.kt k⟩
theorem BareAt.kt {t : TypeId} {w w' : World} {g : Nat} {u : SUri} (h : BareAt t w g u) (k : KT w w') (h1 : t ≠ 91) (h2 : t ≠ 136) (h3 : t ≠ 133) : BareAt t w' g u := by
 obtain ⟨cs, a1, a3⟩ := h
 exact ⟨cs, a1.kt k h1 h2 h3, a3.kt k⟩
theorem ViaAt.kt {w w' : World} {g : Nat} {v : SVia} (h : ViaAt w g v) (k : KT w w') : ViaAt w' g v := by
 obtain ⟨cs, h1, c0, c1, c2, c3, c4, vp, c5, h5⟩ := h
 exact ⟨cs, h1.kt k (by decide) (by decide) (by decide), c0, c1, c2, c3, c4, vp, c5, h5.kt k⟩
theorem SH.rep_kt {w w' : World} {g : Nat} {h : SH} (hr : h.rep w g) (k : KT w w') : h.rep w' g := by
 cases h <;> first | exact AddrAt.kt hr k (by decide) (by decide) (by decide) | exact ViaAt.kt hr k | exact BareAt.kt hr k (by decide) (by decide) (by decide) | exact HB.kt hr k (by decide) (by decide) (by decide)
def MK (n0 m : Nat) (w w' : World) : Prop := Below n0 w w' ∧ Lib.OthersKept 91 (some m) w w'
theorem MK.refl (n0 m : Nat) (w : World) : MK n0 m w w := ⟨Below.refl _ _, Lib.OthersKept.refl _ _ _⟩
theorem MK.trans {n0 m : Nat} {w w1 w2 : World} (h : MK n0 m w w1) (k : MK n0 m w1 w2) : MK n0 m w w2 := ⟨h.1.trans k.1, h.2.trans k.2⟩
theorem MK.of_below {n0 m : Nat} {w w1 : World} (h : Below w.heap.size w w1) (hn : n0 ≤ w.heap.size) : MK n0 m w w1 :=
 ⟨h.mono hn, fun k _ hk _ _ => (h.block k (heap_lt hk)).trans hk⟩
theorem MK.kt {n0 m : Nat} {w w' : World} (h : MK n0 m w w') {cs : Array Value} {T : TypeId} {fz : Nat × Nat} (hm : w.heap[m]? = some (.cells cs T fz)) (hT : T = 136 ∨ T = 133) : KT w w' := by
 intro g cs' t hg _ _ h3 h4 h5
 refine h.2 g _ hg (fun e => ?_) (fun c f e => by injection e with _ e _; exact h3 e)
 injection e with e
 subst e
 rw [hm] at hg
 injection hg with hg
 injection hg with _ hg _
 rcases hT with rfl | rfl
 ·exact h4 hg.symm
 ·exact h5 hg.symm
def SH.slot : SH → Nat
 | .to_ .. => 3
 | .from_ .. => 2
 | .refby .. => 0
 | .contact .. => 5
 | .via .. => 1
 | .callid .. => 4
 | .ctype .. => 8
 | .maxf .. => 11
 | .expires .. => 0
 | .clen .. => 7
 | .cseq .. => 6
 | .route .. => 9
 | .rroute .. => 10
 | .referto .. => 0
 | .generic .. => 0
def SH.first : SH → Bool
 | .via .. => true
 | .route .. => true
 | .rroute .. => true
 | _ => false
def setRef (R : Nat → Option Nat) (h : SH) (g : Nat) : Nat → Option Nat := fun j => if h.slot ≠ 0 ∧ j = h.slot then some g else R j
def addRef (R : Nat → Option Nat) (h : SH) (g : Nat) : Nat → Option Nat := if h.first = true ∧ R h.slot ≠ none then R else setRef R h g
def refV (r : Option Nat) : Value := .pointer (r.map fun g => ⟨g, 0, none⟩)
def refTypes : List TypeId := [117, 118, 119, 120, 121, 122, 123, 124, 125, 126, 127]
theorem ptr_u {U : TypeId} (hU : U ∈ refTypes) : ∃ e, Tryz.prog.underlying U = some (.pointer e) ∧ (Tryz.prog.info? U).map (·.zero) = some (some (.pointer none)) := by
 simp only [refTypes, List.mem_cons, List.not_mem_nil, or_false] at hU
 rcases hU with rfl | rfl | rfl | rfl | rfl | rfl | rfl | rfl | rfl | rfl | rfl
 ·exact ⟨172, by kernel_rfl, by kernel_rfl⟩
 ·exact ⟨181, by kernel_rfl, by kernel_rfl⟩
 ·exact ⟨185, by kernel_rfl, by kernel_rfl⟩
 ·exact ⟨154, by kernel_rfl, by kernel_rfl⟩
 ·exact ⟨190, by kernel_rfl, by kernel_rfl⟩
 ·exact ⟨156, by kernel_rfl, by kernel_rfl⟩
 ·exact ⟨160, by kernel_rfl, by kernel_rfl⟩
 ·exact ⟨161, by kernel_rfl, by kernel_rfl⟩
 ·exact ⟨192, by kernel_rfl, by kernel_rfl⟩
 ·exact ⟨193, by kernel_rfl, by kernel_rfl⟩
 ·exact ⟨157, by kernel_rfl, by kernel_rfl⟩
theorem ta_no {T U : TypeId} (hU : U ∈ refTypes) (h : T ≠ U) (v : Value) (xT : TypeId) (w : World) : Sem.run Tryz.prog (Instr.typeAssert (.iface T v) xT U true) w = .ok (.tuple #[.pointer none, .bool false]) w := by
 obtain ⟨e, hu, hz⟩ := ptr_u hU
 obtain ⟨j, hj, hz'⟩ := Option.map_eq_some_iff.1 hz
 simp [Instr.typeAssert, run_underlying hu, typeInfo, zeroValue, hj, hz', h]
theorem ta_yes {U : TypeId} (hU : U ∈ refTypes) (v : Value) (xT : TypeId) (w : World) : Sem.run Tryz.prog (Instr.typeAssert (.iface U v) xT U true) w = .ok (.tuple #[v, .bool true]) w := by
 obtain ⟨e, hu, hz⟩ := ptr_u hU
 simp [Instr.typeAssert, run_underlying hu, typeInfo]
theorem sethref_any (m g : Nat) (h : SH) (cs : Array Value) (T : TypeId) (w : World) (hb : w.heap[m]? = some (.cells cs T (0, 0))) (hc : 12 ≤ cs.size) :
  Calls Tryz.prog 247 #[.pointer (some ⟨m, 0, none⟩), h.v g] w fun e w' => e = .returned (.tuple #[]) ∧ w' = (if h.slot = 0 then w else w.setCell ⟨m, h.slot, none⟩ (.pointer (some ⟨g, 0, none⟩))) := by
 have hcell : ∀ j, j < 12 → ∃ u, w.cell? ⟨m, j, none⟩ = some u := fun j hj => ⟨cs[j], by simp [World.cell?, hb, Array.getElem?_eq_getElem (show j < cs.size by omega)]⟩
 have hfz : ∀ j, w.frozen? ⟨m, j, none⟩ = false := fun j => by simp [World.frozen?, hb]
 obtain ⟨u1, c1⟩ := hcell 1 (by decide)
 have z1 := hfz 1
 obtain ⟨u2, c2⟩ := hcell 2 (by decide)
 have z2 := hfz 2
 obtain ⟨u3, c3⟩ := hcell 3 (by decide)
 have z3 := hfz 3
 obtain ⟨u4, c4⟩ := hcell 4 (by decide)
 have z4 := hfz 4
 obtain ⟨u5, c5⟩ := hcell 5 (by decide)
 have z5 := hfz 5
 obtain ⟨u6, c6⟩ := hcell 6 (by decide)
 have z6 := hfz 6
 obtain ⟨u7, c7⟩ := hcell 7 (by decide)
 have z7 := hfz 7
 obtain ⟨u8, c8⟩ := hcell 8 (by decide)
 have z8 := hfz 8
 obtain ⟨u9, c9⟩ := hcell 9 (by decide)
 have z9 := hfz 9
 obtain ⟨u10, c10⟩ := hcell 10 (by decide)
 have z10 := hfz 10
 obtain ⟨u11, c11⟩ := hcell 11 (by decide)
 have z11 := hfz 11
 clear hcell hfz hc hb
 cases h
 case to_ d u p =>
  simp only [SH.v, SH.ty, SH.slot]
  have a0 := fun v w => ta_no (T := 119) (U := 117) (by decide) (by decide) v 91 w
  have a1 := fun v w => ta_no (T := 119) (U := 118) (by decide) (by decide) v 91 w
  have a2 := fun v w => ta_yes (U := 119) (by decide) v 91 w
  have a3 := fun v w => ta_no (T := 119) (U := 120) (by decide) (by decide) v 91 w
  have a4 := fun v w => ta_no (T := 119) (U := 121) (by decide) (by decide) v 91 w
  have a5 := fun v w => ta_no (T := 119) (U := 122) (by decide) (by decide) v 91 w
  have a6 := fun v w => ta_no (T := 119) (U := 123) (by decide) (by decide) v 91 w
  have a7 := fun v w => ta_no (T := 119) (U := 124) (by decide) (by decide) v 91 w
  have a8 := fun v w => ta_no (T := 119) (U := 125) (by decide) (by decide) v 91 w
  have a9 := fun v w => ta_no (T := 119) (U := 126) (by decide) (by decide) v 91 w
  have a10 := fun v w => ta_no (T := 119) (U := 127) (by decide) (by decide) v 91 w
  go_enter Tryz.func247, Tryz.ntmps247
  go_wp2
  go_end0
  exact ⟨rfl, rfl⟩
 case from_ d u p =>
  simp only [SH.v, SH.ty, SH.slot]
  have a0 := fun v w => ta_no (T := 118) (U := 117) (by decide) (by decide) v 91 w
  have a1 := fun v w => ta_yes (U := 118) (by decide) v 91 w
  have a2 := fun v w => ta_no (T := 118) (U := 119) (by decide) (by decide) v 91 w
  have a3 := fun v w => ta_no (T := 118) (U := 120) (by decide) (by decide) v 91 w
  have a4 := fun v w => ta_no (T := 118) (U := 121) (by decide) (by decide) v 91 w
  have a5 := fun v w => ta_no (T := 118) (U := 122) (by decide) (by decide) v 91 w
  have a6 := fun v w => ta_no (T := 118) (U := 123) (by decide) (by decide) v 91 w
  have a7 := fun v w => ta_no (T := 118) (U := 124) (by decide) (by decide) v 91 w
  have a8 := fun v w => ta_no (T := 118) (U := 125) (by decide) (by decide) v 91 w
  have a9 := fun v w => ta_no (T := 118) (U := 126) (by decide) (by decide) v 91 w
  have a10 := fun v w => ta_no (T := 118) (U := 127) (by decide) (by decide) v 91 w
  go_enter Tryz.func247, Tryz.ntmps247
  go_wp2
  go_end0
  exact ⟨rfl, rfl⟩
 case refby d u p =>
  simp only [SH.v, SH.ty, SH.slot]
  have a0 := fun v w => ta_no (T := 196) (U := 117) (by decide) (by decide) v 91 w
  have a1 := fun v w => ta_no (T := 196) (U := 118) (by decide) (by decide) v 91 w
  have a2 := fun v w => ta_no (T := 196) (U := 119) (by decide) (by decide) v 91 w
  have a3 := fun v w => ta_no (T := 196) (U := 120) (by decide) (by decide) v 91 w
  have a4 := fun v w => ta_no (T := 196) (U := 121) (by decide) (by decide) v 91 w
  have a5 := fun v w => ta_no (T := 196) (U := 122) (by decide) (by decide) v 91 w
  have a6 := fun v w => ta_no (T := 196) (U := 123) (by decide) (by decide) v 91 w
  have a7 := fun v w => ta_no (T := 196) (U := 124) (by decide) (by decide) v 91 w
  have a8 := fun v w => ta_no (T := 196) (U := 125) (by decide) (by decide) v 91 w
  have a9 := fun v w => ta_no (T := 196) (U := 126) (by decide) (by decide) v 91 w
  have a10 := fun v w => ta_no (T := 196) (U := 127) (by decide) (by decide) v 91 w
  go_enter Tryz.func247, Tryz.ntmps247
  go_wp2
  go_end0
  exact ⟨rfl, rfl⟩
 case contact d u p =>
  simp only [SH.v, SH.ty, SH.slot]
  have a0 := fun v w => ta_no (T := 121) (U := 117) (by decide) (by decide) v 91 w
  have a1 := fun v w => ta_no (T := 121) (U := 118) (by decide) (by decide) v 91 w
  have a2 := fun v w => ta_no (T := 121) (U := 119) (by decide) (by decide) v 91 w
  have a3 := fun v w => ta_no (T := 121) (U := 120) (by decide) (by decide) v 91 w
  have a4 := fun v w => ta_yes (U := 121) (by decide) v 91 w
  have a5 := fun v w => ta_no (T := 121) (U := 122) (by decide) (by decide) v 91 w
  have a6 := fun v w => ta_no (T := 121) (U := 123) (by decide) (by decide) v 91 w
  have a7 := fun v w => ta_no (T := 121) (U := 124) (by decide) (by decide) v 91 w
  have a8 := fun v w => ta_no (T := 121) (U := 125) (by decide) (by decide) v 91 w
  have a9 := fun v w => ta_no (T := 121) (U := 126) (by decide) (by decide) v 91 w
  have a10 := fun v w => ta_no (T := 121) (U := 127) (by decide) (by decide) v 91 w
  go_enter Tryz.func247, Tryz.ntmps247
  go_wp2
  go_end0
  exact ⟨rfl, rfl⟩
 case via v =>
  simp only [SH.v, SH.ty, SH.slot]
  have a0 := fun v w => ta_yes (U := 117) (by decide) v 91 w
  have a1 := fun v w => ta_no (T := 117) (U := 118) (by decide) (by decide) v 91 w
  have a2 := fun v w => ta_no (T := 117) (U := 119) (by decide) (by decide) v 91 w
  have a3 := fun v w => ta_no (T := 117) (U := 120) (by decide) (by decide) v 91 w
  have a4 := fun v w => ta_no (T := 117) (U := 121) (by decide) (by decide) v 91 w
  have a5 := fun v w => ta_no (T := 117) (U := 122) (by decide) (by decide) v 91 w
  have a6 := fun v w => ta_no (T := 117) (U := 123) (by decide) (by decide) v 91 w
  have a7 := fun v w => ta_no (T := 117) (U := 124) (by decide) (by decide) v 91 w
  have a8 := fun v w => ta_no (T := 117) (U := 125) (by decide) (by decide) v 91 w
  have a9 := fun v w => ta_no (T := 117) (U := 126) (by decide) (by decide) v 91 w
  have a10 := fun v w => ta_no (T := 117) (U := 127) (by decide) (by decide) v 91 w
  go_enter Tryz.func247, Tryz.ntmps247
  go_wp2
  go_end0
  exact ⟨rfl, rfl⟩
 case callid s =>
  simp only [SH.v, SH.ty, SH.slot]
  have a0 := fun v w => ta_no (T := 120) (U := 117) (by decide) (by decide) v 91 w
  have a1 := fun v w => ta_no (T := 120) (U := 118) (by decide) (by decide) v 91 w
  have a2 := fun v w => ta_no (T := 120) (U := 119) (by decide) (by decide) v 91 w
  have a3 := fun v w => ta_yes (U := 120) (by decide) v 91 w
  have a4 := fun v w => ta_no (T := 120) (U := 121) (by decide) (by decide) v 91 w
  have a5 := fun v w => ta_no (T := 120) (U := 122) (by decide) (by decide) v 91 w
  have a6 := fun v w => ta_no (T := 120) (U := 123) (by decide) (by decide) v 91 w
  have a7 := fun v w => ta_no (T := 120) (U := 124) (by decide) (by decide) v 91 w
  have a8 := fun v w => ta_no (T := 120) (U := 125) (by decide) (by decide) v 91 w
  have a9 := fun v w => ta_no (T := 120) (U := 126) (by decide) (by decide) v 91 w
  have a10 := fun v w => ta_no (T := 120) (U := 127) (by decide) (by decide) v 91 w
  go_enter Tryz.func247, Tryz.ntmps247
  go_wp2
  go_end0
  exact ⟨rfl, rfl⟩
 case ctype s =>
  simp only [SH.v, SH.ty, SH.slot]
  have a0 := fun v w => ta_no (T := 124) (U := 117) (by decide) (by decide) v 91 w
  have a1 := fun v w => ta_no (T := 124) (U := 118) (by decide) (by decide) v 91 w
  have a2 := fun v w => ta_no (T := 124) (U := 119) (by decide) (by decide) v 91 w
  have a3 := fun v w => ta_no (T := 124) (U := 120) (by decide) (by decide) v 91 w
  have a4 := fun v w => ta_no (T := 124) (U := 121) (by decide) (by decide) v 91 w
  have a5 := fun v w => ta_no (T := 124) (U := 122) (by decide) (by decide) v 91 w
  have a6 := fun v w => ta_no (T := 124) (U := 123) (by decide) (by decide) v 91 w
  have a7 := fun v w => ta_yes (U := 124) (by decide) v 91 w
  have a8 := fun v w => ta_no (T := 124) (U := 125) (by decide) (by decide) v 91 w
  have a9 := fun v w => ta_no (T := 124) (U := 126) (by decide) (by decide) v 91 w
  have a10 := fun v w => ta_no (T := 124) (U := 127) (by decide) (by decide) v 91 w
  go_enter Tryz.func247, Tryz.ntmps247
  go_wp2
  go_end0
  exact ⟨rfl, rfl⟩
 case maxf n =>
  simp only [SH.v, SH.ty, SH.slot]
  have a0 := fun v w => ta_no (T := 127) (U := 117) (by decide) (by decide) v 91 w
  have a1 := fun v w => ta_no (T := 127) (U := 118) (by decide) (by decide) v 91 w
  have a2 := fun v w => ta_no (T := 127) (U := 119) (by decide) (by decide) v 91 w
  have a3 := fun v w => ta_no (T := 127) (U := 120) (by decide) (by decide) v 91 w
  have a4 := fun v w => ta_no (T := 127) (U := 121) (by decide) (by decide) v 91 w
  have a5 := fun v w => ta_no (T := 127) (U := 122) (by decide) (by decide) v 91 w
  have a6 := fun v w => ta_no (T := 127) (U := 123) (by decide) (by decide) v 91 w
  have a7 := fun v w => ta_no (T := 127) (U := 124) (by decide) (by decide) v 91 w
  have a8 := fun v w => ta_no (T := 127) (U := 125) (by decide) (by decide) v 91 w
  have a9 := fun v w => ta_no (T := 127) (U := 126) (by decide) (by decide) v 91 w
  have a10 := fun v w => ta_yes (U := 127) (by decide) v 91 w
  go_enter Tryz.func247, Tryz.ntmps247
  go_wp2
  go_end0
  exact ⟨rfl, rfl⟩
 case expires n =>
  simp only [SH.v, SH.ty, SH.slot]
  have a0 := fun v w => ta_no (T := 159) (U := 117) (by decide) (by decide) v 91 w
  have a1 := fun v w => ta_no (T := 159) (U := 118) (by decide) (by decide) v 91 w
  have a2 := fun v w => ta_no (T := 159) (U := 119) (by decide) (by decide) v 91 w
  have a3 := fun v w => ta_no (T := 159) (U := 120) (by decide) (by decide) v 91 w
  have a4 := fun v w => ta_no (T := 159) (U := 121) (by decide) (by decide) v 91 w
  have a5 := fun v w => ta_no (T := 159) (U := 122) (by decide) (by decide) v 91 w
  have a6 := fun v w => ta_no (T := 159) (U := 123) (by decide) (by decide) v 91 w
  have a7 := fun v w => ta_no (T := 159) (U := 124) (by decide) (by decide) v 91 w
  have a8 := fun v w => ta_no (T := 159) (U := 125) (by decide) (by decide) v 91 w
  have a9 := fun v w => ta_no (T := 159) (U := 126) (by decide) (by decide) v 91 w
  have a10 := fun v w => ta_no (T := 159) (U := 127) (by decide) (by decide) v 91 w
  go_enter Tryz.func247, Tryz.ntmps247
  go_wp2
  go_end0
  exact ⟨rfl, rfl⟩
 case clen n =>
  simp only [SH.v, SH.ty, SH.slot]
  have a0 := fun v w => ta_no (T := 123) (U := 117) (by decide) (by decide) v 91 w
  have a1 := fun v w => ta_no (T := 123) (U := 118) (by decide) (by decide) v 91 w
  have a2 := fun v w => ta_no (T := 123) (U := 119) (by decide) (by decide) v 91 w
  have a3 := fun v w => ta_no (T := 123) (U := 120) (by decide) (by decide) v 91 w
  have a4 := fun v w => ta_no (T := 123) (U := 121) (by decide) (by decide) v 91 w
  have a5 := fun v w => ta_no (T := 123) (U := 122) (by decide) (by decide) v 91 w
  have a6 := fun v w => ta_yes (U := 123) (by decide) v 91 w
  have a7 := fun v w => ta_no (T := 123) (U := 124) (by decide) (by decide) v 91 w
  have a8 := fun v w => ta_no (T := 123) (U := 125) (by decide) (by decide) v 91 w
  have a9 := fun v w => ta_no (T := 123) (U := 126) (by decide) (by decide) v 91 w
  have a10 := fun v w => ta_no (T := 123) (U := 127) (by decide) (by decide) v 91 w
  go_enter Tryz.func247, Tryz.ntmps247
  go_wp2
  go_end0
  exact ⟨rfl, rfl⟩
 case cseq n m =>
  simp only [SH.v, SH.ty, SH.slot]
  have a0 := fun v w => ta_no (T := 122) (U := 117) (by decide) (by decide) v 91 w
  have a1 := fun v w => ta_no (T := 122) (U := 118) (by decide) (by decide) v 91 w
  have a2 := fun v w => ta_no (T := 122) (U := 119) (by decide) (by decide) v 91 w
  have a3 := fun v w => ta_no (T := 122) (U := 120) (by decide) (by decide) v 91 w
  have a4 := fun v w => ta_no (T := 122) (U := 121) (by decide) (by decide) v 91 w
  have a5 := fun v w => ta_yes (U := 122) (by decide) v 91 w
  have a6 := fun v w => ta_no (T := 122) (U := 123) (by decide) (by decide) v 91 w
  have a7 := fun v w => ta_no (T := 122) (U := 124) (by decide) (by decide) v 91 w
  have a8 := fun v w => ta_no (T := 122) (U := 125) (by decide) (by decide) v 91 w
  have a9 := fun v w => ta_no (T := 122) (U := 126) (by decide) (by decide) v 91 w
  have a10 := fun v w => ta_no (T := 122) (U := 127) (by decide) (by decide) v 91 w
  go_enter Tryz.func247, Tryz.ntmps247
  go_wp2
  go_end0
  exact ⟨rfl, rfl⟩
 case route u =>
  simp only [SH.v, SH.ty, SH.slot]
  have a0 := fun v w => ta_no (T := 125) (U := 117) (by decide) (by decide) v 91 w
  have a1 := fun v w => ta_no (T := 125) (U := 118) (by decide) (by decide) v 91 w
  have a2 := fun v w => ta_no (T := 125) (U := 119) (by decide) (by decide) v 91 w
  have a3 := fun v w => ta_no (T := 125) (U := 120) (by decide) (by decide) v 91 w
  have a4 := fun v w => ta_no (T := 125) (U := 121) (by decide) (by decide) v 91 w
  have a5 := fun v w => ta_no (T := 125) (U := 122) (by decide) (by decide) v 91 w
  have a6 := fun v w => ta_no (T := 125) (U := 123) (by decide) (by decide) v 91 w
  have a7 := fun v w => ta_no (T := 125) (U := 124) (by decide) (by decide) v 91 w
  have a8 := fun v w => ta_yes (U := 125) (by decide) v 91 w
  have a9 := fun v w => ta_no (T := 125) (U := 126) (by decide) (by decide) v 91 w
  have a10 := fun v w => ta_no (T := 125) (U := 127) (by decide) (by decide) v 91 w
  go_enter Tryz.func247, Tryz.ntmps247
  go_wp2
  go_end0
  exact ⟨rfl, rfl⟩
 case rroute u =>
  simp only [SH.v, SH.ty, SH.slot]
  have a0 := fun v w => ta_no (T := 126) (U := 117) (by decide) (by decide) v 91 w
  have a1 := fun v w => ta_no (T := 126) (U := 118) (by decide) (by decide) v 91 w
  have a2 := fun v w => ta_no (T := 126) (U := 119) (by decide) (by decide) v 91 w
  have a3 := fun v w => ta_no (T := 126) (U := 120) (by decide) (by decide) v 91 w
  have a4 := fun v w => ta_no (T := 126) (U := 121) (by decide) (by decide) v 91 w
  have a5 := fun v w => ta_no (T := 126) (U := 122) (by decide) (by decide) v 91 w
  have a6 := fun v w => ta_no (T := 126) (U := 123) (by decide) (by decide) v 91 w
  have a7 := fun v w => ta_no (T := 126) (U := 124) (by decide) (by decide) v 91 w
  have a8 := fun v w => ta_no (T := 126) (U := 125) (by decide) (by decide) v 91 w
  have a9 := fun v w => ta_yes (U := 126) (by decide) v 91 w
  have a10 := fun v w => ta_no (T := 126) (U := 127) (by decide) (by decide) v 91 w
  go_enter Tryz.func247, Tryz.ntmps247
  go_wp2
  go_end0
  exact ⟨rfl, rfl⟩
 case referto u =>
  simp only [SH.v, SH.ty, SH.slot]
  have a0 := fun v w => ta_no (T := 194) (U := 117) (by decide) (by decide) v 91 w
  have a1 := fun v w => ta_no (T := 194) (U := 118) (by decide) (by decide) v 91 w
  have a2 := fun v w => ta_no (T := 194) (U := 119) (by decide) (by decide) v 91 w
  have a3 := fun v w => ta_no (T := 194) (U := 120) (by decide) (by decide) v 91 w
  have a4 := fun v w => ta_no (T := 194) (U := 121) (by decide) (by decide) v 91 w
  have a5 := fun v w => ta_no (T := 194) (U := 122) (by decide) (by decide) v 91 w
  have a6 := fun v w => ta_no (T := 194) (U := 123) (by decide) (by decide) v 91 w
  have a7 := fun v w => ta_no (T := 194) (U := 124) (by decide) (by decide) v 91 w
  have a8 := fun v w => ta_no (T := 194) (U := 125) (by decide) (by decide) v 91 w
  have a9 := fun v w => ta_no (T := 194) (U := 126) (by decide) (by decide) v 91 w
  have a10 := fun v w => ta_no (T := 194) (U := 127) (by decide) (by decide) v 91 w
  go_enter Tryz.func247, Tryz.ntmps247
  go_wp2
  go_end0
  exact ⟨rfl, rfl⟩
 case generic n v =>
  simp only [SH.v, SH.ty, SH.slot]
  have a0 := fun v w => ta_no (T := 208) (U := 117) (by decide) (by decide) v 91 w
  have a1 := fun v w => ta_no (T := 208) (U := 118) (by decide) (by decide) v 91 w
  have a2 := fun v w => ta_no (T := 208) (U := 119) (by decide) (by decide) v 91 w
  have a3 := fun v w => ta_no (T := 208) (U := 120) (by decide) (by decide) v 91 w
  have a4 := fun v w => ta_no (T := 208) (U := 121) (by decide) (by decide) v 91 w
  have a5 := fun v w => ta_no (T := 208) (U := 122) (by decide) (by decide) v 91 w
  have a6 := fun v w => ta_no (T := 208) (U := 123) (by decide) (by decide) v 91 w
  have a7 := fun v w => ta_no (T := 208) (U := 124) (by decide) (by decide) v 91 w
  have a8 := fun v w => ta_no (T := 208) (U := 125) (by decide) (by decide) v 91 w
  have a9 := fun v w => ta_no (T := 208) (U := 126) (by decide) (by decide) v 91 w
  have a10 := fun v w => ta_no (T := 208) (U := 127) (by decide) (by decide) v 91 w
  go_enter Tryz.func247, Tryz.ntmps247
  go_wp2
  go_end0
  exact ⟨rfl, rfl⟩
theorem hdr_info : (Tryz.prog.info? 91).map (fun i => (i.zero, i.size, i.bytes)) = some (some .nilIface, 1, 16) := by kernel_rfl
def mcells (v : Value) (R : Nat → Option Nat) (X : List Value) : Array Value := (v :: refV (R 1) :: refV (R 2) :: refV (R 3) :: refV (R 4) :: refV (R 5) :: refV (R 6) :: refV (R 7) :: refV (R 8) :: refV (R 9) :: refV (R 10) :: refV (R 11) :: X).toArray
structure MRep (n0 : Nat) (w : World) (m : Nat) (T : TypeId) (hs : List (Nat × SH)) (R : Nat → Option Nat) (X : List Value) : Prop where
 at_ : ∃ v, n0 ≤ m ∧ w.heap[m]? = some (.cells (mcells v R X) T (0, 0)) ∧ w.ownsRow n0 91 1 v hs.length (hs.map fun p => p.2.v p.1) ∧ (T = 136 ∨ T = 133)
 reps : ∀ p ∈ hs, p.2.rep w p.1
 lt : ∀ p ∈ hs, n0 ≤ p.1 ∧ p.1 < w.heap.size
theorem MRep.below {n0 : Nat} {w w' : World} {m : Nat} {T : TypeId} {hs : List (Nat × SH)} {R : Nat → Option Nat} {X : List Value} (h : MRep n0 w m T hs R X) (hb : Below w.heap.size w w') : MRep n0 w' m T hs R X := by
 obtain ⟨v, h1, h2, h3, h4⟩ := h.at_
 refine ⟨⟨v, h1, (hb.block m (heap_lt h2)).trans h2, h3.kept (row := none) ⟨hb.os, hb.tape, hb.output, hb.size, fun k hk _ => hb.block k hk⟩ (by cases v.ownBlock <;> simp), h4⟩, fun p hp => SH.rep_below (h.reps p hp) hb, fun p hp => ⟨(h.lt p hp).1, Nat.lt_of_lt_of_le (h.lt p hp).2 hb.size⟩⟩
theorem mset1 (v : Value) (R : Nat → Option Nat) (X : List Value) (h : SH) (g : Nat) (hs : h.slot = 1) : (v :: refV (R 1) :: refV (R 2) :: refV (R 3) :: refV (R 4) :: refV (R 5) :: refV (R 6) :: refV (R 7) :: refV (R 8) :: refV (R 9) :: refV (R 10) :: refV (R 11) :: X).set 1 (.pointer (some ⟨g, 0, none⟩)) = (v :: refV (setRef R h g 1) :: refV (setRef R h g 2) :: refV (setRef R h g 3) :: refV (setRef R h g 4) :: refV (setRef R h g 5) :: refV (setRef R h g 6) :: refV (setRef R h g 7) :: refV (setRef R h g 8) :: refV (setRef R h g 9) :: refV (setRef R h g 10) :: refV (setRef R h g 11) :: X) := by
 simp [setRef, hs, refV]
theorem mset2 (v : Value) (R : Nat → Option Nat) (X : List Value) (h : SH) (g : Nat) (hs : h.slot = 2) : (v :: refV (R 1) :: refV (R 2) :: refV (R 3) :: refV (R 4) :: refV (R 5) :: refV (R 6) :: refV (R 7) :: refV (R 8) :: refV (R 9) :: refV (R 10) :: refV (R 11) :: X).set 2 (.pointer (some ⟨g, 0, none⟩)) = (v :: refV (setRef R h g 1) :: refV (setRef R h g 2) :: refV (setRef R h g 3) :: refV (setRef R h g 4) :: refV (setRef R h g 5) :: refV (setRef R h g 6) :: refV (setRef R h g 7) :: refV (setRef R h g 8) :: refV (setRef R h g 9) :: refV (setRef R h g 10) :: refV (setRef R h g 11) :: X) := by
 simp [setRef, hs, refV]
theorem mset3 (v : Value) (R : Nat → Option Nat) (X : List Value) (h : SH) (g : Nat) (hs : h.slot = 3) : (v :: refV (R 1) :: refV (R 2) :: refV (R 3) :: refV (R 4) :: refV (R 5) :: refV (R 6) :: refV (R 7) :: refV (R 8) :: refV (R 9) :: refV (R 10) :: refV (R 11) :: X).set 3 (.pointer (some ⟨g, 0, none⟩)) = (v :: refV (setRef R h g 1) :: refV (setRef R h g 2) :: refV (setRef R h g 3) :: refV (setRef R h g 4) :: refV (setRef R h g 5) :: refV (setRef R h g 6) :: refV (setRef R h g 7) :: refV (setRef R h g 8) :: refV (setRef R h g 9) :: refV (setRef R h g 10) :: refV (setRef R h g 11) :: X) := by
 simp [setRef, hs, refV]
theorem mset4 (v : Value) (R : Nat → Option Nat) (X : List Value) (h : SH) (g : Nat) (hs : h.slot = 4) : (v :: refV (R 1) :: refV (R 2) :: refV (R 3) :: refV (R 4) :: refV (R 5) :: refV (R 6) :: refV (R 7) :: refV (R 8) :: refV (R 9) :: refV (R 10) :: refV (R 11) :: X).set 4 (.pointer (some ⟨g, 0, none⟩)) = (v :: refV (setRef R h g 1) :: refV (setRef R h g 2) :: refV (setRef R h g 3) :: refV (setRef R h g 4) :: refV (setRef R h g 5) :: refV (setRef R h g 6) :: refV (setRef R h g 7) :: refV (setRef R h g 8) :: refV (setRef R h g 9) :: refV (setRef R h g 10) :: refV (setRef R h g 11) :: X) := by
 simp [setRef, hs, refV]
theorem mset5 (v : Value) (R : Nat → Option Nat) (X : List Value) (h : SH) (g : Nat) (hs : h.slot = 5) : (v :: refV (R 1) :: refV (R 2) :: refV (R 3) :: refV (R 4) :: refV (R 5) :: refV (R 6) :: refV (R 7) :: refV (R 8) :: refV (R 9) :: refV (R 10) :: refV (R 11) :: X).set 5 (.pointer (some ⟨g, 0, none⟩)) = (v :: refV (setRef R h g 1) :: refV (setRef R h g 2) :: refV (setRef R h g 3) :: refV (setRef R h g 4) :: refV (setRef R h g 5) :: refV (setRef R h g 6) :: refV (setRef R h g 7) :: refV (setRef R h g 8) :: refV (setRef R h g 9) :: refV (setRef R h g 10) :: refV (setRef R h g 11) :: X) := by
 simp [setRef, hs, refV]
theorem mset6 (v : Value) (R : Nat → Option Nat) (X : List Value) (h : SH) (g : Nat) (hs : h.slot = 6) : (v :: refV (R 1) :: refV (R 2) :: refV (R 3) :: refV (R 4) :: refV (R 5) :: refV (R 6) :: refV (R 7) :: refV (R 8) :: refV (R 9) :: refV (R 10) :: refV (R 11) :: X).set 6 (.pointer (some ⟨g, 0, none⟩)) = (v :: refV (setRef R h g 1) :: refV (setRef R h g 2) :: refV (setRef R h g 3) :: refV (setRef R h g 4) :: refV (setRef R h g 5) :: refV (setRef R h g 6) :: refV (setRef R h g 7) :: refV (setRef R h g 8) :: refV (setRef R h g 9) :: refV (setRef R h g 10) :: refV (setRef R h g 11) :: X) := by
 simp [setRef, hs, refV]
theorem mset7 (v : Value) (R : Nat → Option Nat) (X : List Value) (h : SH) (g : Nat) (hs : h.slot = 7) : (v :: refV (R 1) :: refV (R 2) :: refV (R 3) :: refV (R 4) :: refV (R 5) :: refV (R 6) :: refV (R 7) :: refV (R 8) :: refV (R 9) :: refV (R 10) :: refV (R 11) :: X).set 7 (.pointer (some ⟨g, 0, none⟩)) = (v :: refV (setRef R h g 1) :: refV (setRef R h g 2) :: refV (setRef R h g 3) :: refV (setRef R h g 4) :: refV (setRef R h g 5) :: refV (setRef R h g 6) :: refV (setRef R h g 7) :: refV (setRef R h g 8) :: refV (setRef R h g 9) :: refV (setRef R h g 10) :: refV (setRef R h g 11) :: X) := by
 simp [setRef, hs, refV]
theorem mset8 (v : Value) (R : Nat → Option Nat) (X : List Value) (h : SH) (g : Nat) (hs : h.slot = 8) : (v :: refV (R 1) :: refV (R 2) :: refV (R 3) :: refV (R 4) :: refV (R 5) :: refV (R 6) :: refV (R 7) :: refV (R 8) :: refV (R 9) :: refV (R 10) :: refV (R 11) :: X).set 8 (.pointer (some ⟨g, 0, none⟩)) = (v :: refV (setRef R h g 1) :: refV (setRef R h g 2) :: refV (setRef R h g 3) :: refV (setRef R h g 4) :: refV (setRef R h g 5) :: refV (setRef R h g 6) :: refV (setRef R h g 7) :: refV (setRef R h g 8) :: refV (setRef R h g 9) :: refV (setRef R h g 10) :: refV (setRef R h g 11) :: X) := by
 simp [setRef, hs, refV]
theorem mset9 (v : Value) (R : Nat → Option Nat) (X : List Value) (h : SH) (g : Nat) (hs : h.slot = 9) : (v :: refV (R 1) :: refV (R 2) :: refV (R 3) :: refV (R 4) :: refV (R 5) :: refV (R 6) :: refV (R 7) :: refV (R 8) :: refV (R 9) :: refV (R 10) :: refV (R 11) :: X).set 9 (.pointer (some ⟨g, 0, none⟩)) = (v :: refV (setRef R h g 1) :: refV (setRef R h g 2) :: refV (setRef R h g 3) :: refV (setRef R h g 4) :: refV (setRef R h g 5) :: refV (setRef R h g 6) :: refV (setRef R h g 7) :: refV (setRef R h g 8) :: refV (setRef R h g 9) :: refV (setRef R h g 10) :: refV (setRef R h g 11) :: X) := by
 simp [setRef, hs, refV]
theorem mset10 (v : Value) (R : Nat → Option Nat) (X : List Value) (h : SH) (g : Nat) (hs : h.slot = 10) : (v :: refV (R 1) :: refV (R 2) :: refV (R 3) :: refV (R 4) :: refV (R 5) :: refV (R 6) :: refV (R 7) :: refV (R 8) :: refV (R 9) :: refV (R 10) :: refV (R 11) :: X).set 10 (.pointer (some ⟨g, 0, none⟩)) = (v :: refV (setRef R h g 1) :: refV (setRef R h g 2) :: refV (setRef R h g 3) :: refV (setRef R h g 4) :: refV (setRef R h g 5) :: refV (setRef R h g 6) :: refV (setRef R h g 7) :: refV (setRef R h g 8) :: refV (setRef R h g 9) :: refV (setRef R h g 10) :: refV (setRef R h g 11) :: X) := by
 simp [setRef, hs, refV]
theorem mset11 (v : Value) (R : Nat → Option Nat) (X : List Value) (h : SH) (g : Nat) (hs : h.slot = 11) : (v :: refV (R 1) :: refV (R 2) :: refV (R 3) :: refV (R 4) :: refV (R 5) :: refV (R 6) :: refV (R 7) :: refV (R 8) :: refV (R 9) :: refV (R 10) :: refV (R 11) :: X).set 11 (.pointer (some ⟨g, 0, none⟩)) = (v :: refV (setRef R h g 1) :: refV (setRef R h g 2) :: refV (setRef R h g 3) :: refV (setRef R h g 4) :: refV (setRef R h g 5) :: refV (setRef R h g 6) :: refV (setRef R h g 7) :: refV (setRef R h g 8) :: refV (setRef R h g 9) :: refV (setRef R h g 10) :: refV (setRef R h g 11) :: X) := by
 simp [setRef, hs, refV]
theorem setRef0 (R : Nat → Option Nat) (h : SH) (g : Nat) (hs : h.slot = 0) : setRef R h g = R := by
 funext j
 simp [setRef, hs]
theorem slot_cases (h : SH) : h.slot = 0 ∨ h.slot = 1 ∨ h.slot = 2 ∨ h.slot = 3 ∨ h.slot = 4 ∨ h.slot = 5 ∨ h.slot = 6 ∨ h.slot = 7 ∨ h.slot = 8 ∨ h.slot = 9 ∨ h.slot = 10 ∨ h.slot = 11 := by cases h <;> simp [SH.slot]
theorem MRep.put {n0 : Nat} {w w2 : World} {m : Nat} {T : TypeId} {hs : List (Nat × SH)} {R : Nat → Option Nat} {X : List Value} (hM : MRep n0 w m T hs R X) (g : Nat) (h : SH) (hr : h.rep w g) (hg : n0 ≤ g ∧ g < w.heap.size) (hn : n0 ≤ w.heap.size) {v v1 : Value}
  (hb : w.heap[m]? = some (.cells (mcells v R X) T (0, 0))) (ho : w.ownsRow n0 91 1 v hs.length (hs.map fun p => p.2.v p.1)) (ho1 : w2.ownsRow n0 91 1 v1 (hs.length + 1) ((hs.map fun p => p.2.v p.1) ++ [h.v g])) (hgr : w.grownBy w2 v.ownBlock) :
  (w2.setCell ⟨m, 0, none⟩ v1).heap[m]? = some (.cells (mcells v1 R X) T (0, 0)) ∧ MRep n0 (w2.setCell ⟨m, 0, none⟩ v1) m T (hs ++ [(g, h)]) R X ∧ MK n0 m w (w2.setCell ⟨m, 0, none⟩ v1) := by
 obtain ⟨_, hm, _, _, hT⟩ := hM.at_
 have hne : 91 ≠ T := by rcases hT with rfl | rfl <;> decide
 have hb2 : w2.heap[m]? = some (.cells (mcells v R X) T (0, 0)) := (hgr.block m (heap_lt hb) (own_ne_block ho hb hne)).trans hb
 have hrow : ∀ k, v.ownBlock = some k → ∃ c fz, w.heap[k]? = some (.cells c 91 fz) := by
  intro k hk
  rcases ho.2 with ⟨rfl, _⟩ | ⟨k', cap, cur, rfl, _, hh, _⟩
  ·simp [Value.ownBlock] at hk
  ·simp only [Value.ownBlock, Option.some.injEq] at hk
   subst hk
   exact ⟨_, _, hh⟩
 have hMK : MK n0 m w (w2.setCell ⟨m, 0, none⟩ v1) :=
  ⟨(Below.of_grown hgr hn (fun k hk => (ho.lt k hk).1)).setCell (p := ⟨m, 0, none⟩) hm _, ((Lib.OthersKept.refl _ _ w).grown hgr hrow).setCell ⟨m, 0, none⟩ rfl _⟩
 have hb3 : (w2.setCell ⟨m, 0, none⟩ v1).heap[m]? = some (.cells (mcells v1 R X) T (0, 0)) := blk_set hb2 0 v1
 have hkt : KT w (w2.setCell ⟨m, 0, none⟩ v1) := hMK.kt hb hT
 refine ⟨hb3, ⟨⟨v1, hm, hb3, ?_, hT⟩, ?_, ?_⟩, hMK⟩
 ·have := own_ne_block ho1 hb2 hne
  rw [List.length_append, List.map_append]
  exact ho1.kept (w' := w2.setCell ⟨m, 0, none⟩ v1) (row := some m) ⟨rfl, rfl, rfl, by simp [World.setCell], fun k hk hkm => Below.heap_setCell _ _ _ _ (fun e => hkm (by rw [e]))⟩ (.inr (Ne.symm this))
 ·intro p hp
  rcases List.mem_append.1 hp with hp | hp
  ·exact SH.rep_kt (hM.reps p hp) hkt
  ·obtain rfl := List.mem_singleton.1 hp
   exact SH.rep_kt hr hkt
 ·have hsz : w.heap.size ≤ (w2.setCell ⟨m, 0, none⟩ v1).heap.size := hMK.1.size
  intro p hp
  rcases List.mem_append.1 hp with hp | hp
  ·exact ⟨(hM.lt p hp).1, Nat.lt_of_lt_of_le (hM.lt p hp).2 hsz⟩
  ·obtain rfl := List.mem_singleton.1 hp
   exact ⟨hg.1, Nat.lt_of_lt_of_le hg.2 hsz⟩
theorem MRep.ref {n0 : Nat} {w : World} {m : Nat} {T : TypeId} {hs : List (Nat × SH)} {R : Nat → Option Nat} {X : List Value} (hM : MRep n0 w m T hs R X) (g : Nat) (h : SH) :
  MRep n0 (if h.slot = 0 then w else w.setCell ⟨m, h.slot, none⟩ (.pointer (some ⟨g, 0, none⟩))) m T hs (setRef R h g) X ∧ MK n0 m w (if h.slot = 0 then w else w.setCell ⟨m, h.slot, none⟩ (.pointer (some ⟨g, 0, none⟩))) := by
 by_cases h0 : h.slot = 0
 ·rw [if_pos h0, setRef0 R h g h0]
  exact ⟨hM, MK.refl _ _ _⟩
 ·rw [if_neg h0]
  obtain ⟨v, hm, hb, ho, hT⟩ := hM.at_
  have hne : 91 ≠ T := by rcases hT with rfl | rfl <;> decide
  have hMK : MK n0 m w (w.setCell ⟨m, h.slot, none⟩ (.pointer (some ⟨g, 0, none⟩))) := ⟨(Below.refl _ _).setCell (p := ⟨m, h.slot, none⟩) hm _, (Lib.OthersKept.refl _ _ w).setCell ⟨m, h.slot, none⟩ rfl _⟩
  have hkt := hMK.kt hb hT
  refine ⟨⟨⟨v, hm, ?_, ?_, hT⟩, fun p hp => SH.rep_kt (hM.reps p hp) hkt, fun p hp => ⟨(hM.lt p hp).1, Nat.lt_of_lt_of_le (hM.lt p hp).2 hMK.1.size⟩⟩, hMK⟩
  ·have := blk_set hb h.slot (.pointer (some ⟨g, 0, none⟩))
   rw [this]
   congr 2
   unfold mcells
   rcases slot_cases h with hs | hs | hs | hs | hs | hs | hs | hs | hs | hs | hs | hs
   ·exact absurd hs h0
   ·rw [hs, mset1 v R X h g hs]
   ·rw [hs, mset2 v R X h g hs]
   ·rw [hs, mset3 v R X h g hs]
   ·rw [hs, mset4 v R X h g hs]
   ·rw [hs, mset5 v R X h g hs]
   ·rw [hs, mset6 v R X h g hs]
   ·rw [hs, mset7 v R X h g hs]
   ·rw [hs, mset8 v R X h g hs]
   ·rw [hs, mset9 v R X h g hs]
   ·rw [hs, mset10 v R X h g hs]
   ·rw [hs, mset11 v R X h g hs]
  ·have := own_ne_block ho hb hne
   exact ho.kept (w' := w.setCell ⟨m, h.slot, none⟩ (.pointer (some ⟨g, 0, none⟩))) (row := some m) ⟨rfl, rfl, rfl, by simp [World.setCell], fun k hk hkm => Below.heap_setCell _ _ _ _ (fun e => hkm (by rw [e]))⟩ (.inr (Ne.symm this))
