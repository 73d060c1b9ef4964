import Derived.Test.YtglhcpmaiogdjaaGreatDoorP19
set_option maxRecDepth 100000
set_option maxHeartbeats 16000000
set_option linter.all false
namespace Go.Proofs.YtglhcpmaiogdjaaGreatDoor
open Go.Lib (hid)
open Go.RowKit
theorem hdr_info : (Tryz.prog.info? 92).map (fun i => (i.zero, i.size, i.bytes)) = some (some .nilIface, 1, 16) := by kernel_rfl
def mcells (v : Value) (R : Nat → Option Nat) (X : List Value) : Array Value := (v :: refV (R 1) :: refV (R 2) :: refV (R 3) :: refV (R 4) :: refV (R 5) :: refV (R 6) :: refV (R 7) :: refV (R 8) :: refV (R 9) :: refV (R 10) :: refV (R 11) :: X).toArray
structure MRep (n0 : Nat) (w : World) (m : Nat) (T : TypeId) (hs : List (Nat × SH)) (R : Nat → Option Nat) (X : List Value) : Prop where
 at_ : ∃ v, n0 ≤ m ∧ w.heap[m]? = some (.cells (mcells v R X) T (0, 0)) ∧ w.ownsRow n0 92 1 v hs.length (hs.map fun p => p.2.v p.1) ∧ (T = 121 ∨ T = 118)
 reps : ∀ p ∈ hs, p.2.rep w p.1
 lt : ∀ p ∈ hs, n0 ≤ p.1 ∧ p.1 < w.heap.size
theorem MRep.below {n0 : Nat} {w w' : World} {m : Nat} {T : TypeId} {hs : List (Nat × SH)} {R : Nat → Option Nat} {X : List Value} (h : MRep n0 w m T hs R X) (hb : Below w.heap.size w w') : MRep n0 w' m T hs R X := by
 obtain ⟨v, h1, h2, h3, h4⟩ := h.at_
 refine ⟨⟨v, h1, (hb.block m (heap_lt h2)).trans h2, h3.kept (row := none) ⟨hb.os, hb.tape, hb.output, hb.size, fun k hk _ => hb.block k hk⟩ (by cases v.ownBlock <;> simp), h4⟩, fun p hp => SH.rep_below (h.reps p hp) hb, fun p hp => ⟨(h.lt p hp).1, Nat.lt_of_lt_of_le (h.lt p hp).2 hb.size⟩⟩
theorem mset1 (v : Value) (R : Nat → Option Nat) (X : List Value) (h : SH) (g : Nat) (hs : h.slot = 1) : (v :: refV (R 1) :: refV (R 2) :: refV (R 3) :: refV (R 4) :: refV (R 5) :: refV (R 6) :: refV (R 7) :: refV (R 8) :: refV (R 9) :: refV (R 10) :: refV (R 11) :: X).set 1 (.pointer (some ⟨g, 0, none⟩)) = (v :: refV (setRef R h g 1) :: refV (setRef R h g 2) :: refV (setRef R h g 3) :: refV (setRef R h g 4) :: refV (setRef R h g 5) :: refV (setRef R h g 6) :: refV (setRef R h g 7) :: refV (setRef R h g 8) :: refV (setRef R h g 9) :: refV (setRef R h g 10) :: refV (setRef R h g 11) :: X) := by
 simp [setRef, hs, refV]
theorem mset2 (v : Value) (R : Nat → Option Nat) (X : List Value) (h : SH) (g : Nat) (hs : h.slot = 2) : (v :: refV (R 1) :: refV (R 2) :: refV (R 3) :: refV (R 4) :: refV (R 5) :: refV (R 6) :: refV (R 7) :: refV (R 8) :: refV (R 9) :: refV (R 10) :: refV (R 11) :: X).set 2 (.pointer (some ⟨g, 0, none⟩)) = (v :: refV (setRef R h g 1) :: refV (setRef R h g 2) :: refV (setRef R h g 3) :: refV (setRef R h g 4) :: refV (setRef R h g 5) :: refV (setRef R h g 6) :: refV (setRef R h g 7) :: refV (setRef R h g 8) :: refV (setRef R h g 9) :: refV (setRef R h g 10) :: refV (setRef R h g 11) :: X) := by
 simp [setRef, hs, refV]
theorem mset3 (v : Value) (R : Nat → Option Nat) (X : List Value) (h : SH) (g : Nat) (hs : h.slot = 3) : (v :: refV (R 1) :: refV (R 2) :: refV (R 3) :: refV (R 4) :: refV (R 5) :: refV (R 6) :: refV (R 7) :: refV (R 8) :: refV (R 9) :: refV (R 10) :: refV (R 11) :: X).set 3 (.pointer (some ⟨g, 0, none⟩)) = (v :: refV (setRef R h g 1) :: refV (setRef R h g 2) :: refV (setRef R h g 3) :: refV (setRef R h g 4) :: refV (setRef R h g 5) :: refV (setRef R h g 6) :: refV (setRef R h g 7) :: refV (setRef R h g 8) :: refV (setRef R h g 9) :: refV (setRef R h g 10) :: refV (setRef R h g 11) :: X) := by
 simp [setRef, hs, refV]
theorem mset4 (v : Value) (R : Nat → Option Nat) (X : List Value) (h : SH) (g : Nat) (hs : h.slot = 4) : (v :: refV (R 1) :: refV (R 2) :: refV (R 3) :: refV (R 4) :: refV (R 5) :: refV (R 6) :: refV (R 7) :: refV (R 8) :: refV (R 9) :: refV (R 10) :: refV (R 11) :: X).set 4 (.pointer (some ⟨g, 0, none⟩)) = (v :: refV (setRef R h g 1) :: refV (setRef R h g 2) :: refV (setRef R h g 3) :: refV (setRef R h g 4) :: refV (setRef R h g 5) :: refV (setRef R h g 6) :: refV (setRef R h g 7) :: refV (setRef R h g 8) :: refV (setRef R h g 9) :: refV (setRef R h g 10) :: refV (setRef R h g 11) :: X) := by
 simp [setRef, hs, refV]
theorem mset5 (v : Value) (R : Nat → Option Nat) (X : List Value) (h : SH) (g : Nat) (hs : h.slot = 5) : (v :: refV (R 1) :: refV (R 2) :: refV (R 3) :: refV (R 4) :: refV (R 5) :: refV (R 6) :: refV (R 7) :: refV (R 8) :: refV (R 9) :: refV (R 10) :: refV (R 11) :: X).set 5 (.pointer (some ⟨g, 0, none⟩)) = (v :: refV (setRef R h g 1) :: refV (setRef R h g 2) :: refV (setRef R h g 3) :: refV (setRef R h g 4) :: refV (setRef R h g 5) :: refV (setRef R h g 6) :: refV (setRef R h g 7) :: refV (setRef R h g 8) :: refV (setRef R h g 9) :: refV (setRef R h g 10) :: refV (setRef R h g 11) :: X) := by
 simp [setRef, hs, refV]
theorem mset6 (v : Value) (R : Nat → Option Nat) (X : List Value) (h : SH) (g : Nat) (hs : h.slot = 6) : (v :: refV (R 1) :: refV (R 2) :: refV (R 3) :: refV (R 4) :: refV (R 5) :: refV (R 6) :: refV (R 7) :: refV (R 8) :: refV (R 9) :: refV (R 10) :: refV (R 11) :: X).set 6 (.pointer (some ⟨g, 0, none⟩)) = (v :: refV (setRef R h g 1) :: refV (setRef R h g 2) :: refV (setRef R h g 3) :: refV (setRef R h g 4) :: refV (setRef R h g 5) :: refV (setRef R h g 6) :: refV (setRef R h g 7) :: refV (setRef R h g 8) :: refV (setRef R h g 9) :: refV (setRef R h g 10) :: refV (setRef R h g 11) :: X) := by
 simp [setRef, hs, refV]
theorem mset7 (v : Value) (R : Nat → Option Nat) (X : List Value) (h : SH) (g : Nat) (hs : h.slot = 7) : (v :: refV (R 1) :: refV (R 2) :: refV (R 3) :: refV (R 4) :: refV (R 5) :: refV (R 6) :: refV (R 7) :: refV (R 8) :: refV (R 9) :: refV (R 10) :: refV (R 11) :: X).set 7 (.pointer (some ⟨g, 0, none⟩)) = (v :: refV (setRef R h g 1) :: refV (setRef R h g 2) :: refV (setRef R h g 3) :: refV (setRef R h g 4) :: refV (setRef R h g 5) :: refV (setRef R h g 6) :: refV (setRef R h g 7) :: refV (setRef R h g 8) :: refV (setRef R h g 9) :: refV (setRef R h g 10) :: refV (setRef R h g 11) :: X) := by
 simp [setRef, hs, refV]
theorem mset8 (v : Value) (R : Nat → Option Nat) (X : List Value) (h : SH) (g : Nat) (hs : h.slot = 8) : (v :: refV (R 1) :: refV (R 2) :: refV (R 3) :: refV (R 4) :: refV (R 5) :: refV (R 6) :: refV (R 7) :: refV (R 8) :: refV (R 9) :: refV (R 10) :: refV (R 11) :: X).set 8 (.pointer (some ⟨g, 0, none⟩)) = (v :: refV (setRef R h g 1) :: refV (setRef R h g 2) :: refV (setRef R h g 3) :: refV (setRef R h g 4) :: refV (setRef R h g 5) :: refV (setRef R h g 6) :: refV (setRef R h g 7) :: refV (setRef R h g 8) :: refV (setRef R h g 9) :: refV (setRef R h g 10) :: refV (setRef R h g 11) :: X) := by
 simp [setRef, hs, refV]
theorem mset9 (v : Value) (R : Nat → Option Nat) (X : List Value) (h : SH) (g : Nat) (hs : h.slot = 9) : (v :: refV (R 1) :: refV (R 2) :: refV (R 3) :: refV (R 4) :: refV (R 5) :: refV (R 6) :: refV (R 7) :: refV (R 8) :: refV (R 9) :: refV (R 10) :: refV (R 11) :: X).set 9 (.pointer (some ⟨g, 0, none⟩)) = (v :: refV (setRef R h g 1) :: refV (setRef R h g 2) :: refV (setRef R h g 3) :: refV (setRef R h g 4) :: refV (setRef R h g 5) :: refV (setRef R h g 6) :: refV (setRef R h g 7) :: refV (setRef R h g 8) :: refV (setRef R h g 9) :: refV (setRef R h g 10) :: refV (setRef R h g 11) :: X) := by
 simp [setRef, hs, refV]
theorem mset10 (v : Value) (R : Nat → Option Nat) (X : List Value) (h : SH) (g : Nat) (hs : h.slot = 10) : (v :: refV (R 1) :: refV (R 2) :: refV (R 3) :: refV (R 4) :: refV (R 5) :: refV (R 6) :: refV (R 7) :: refV (R 8) :: refV (R 9) :: refV (R 10) :: refV (R 11) :: X).set 10 (.pointer (some ⟨g, 0, none⟩)) = (v :: refV (setRef R h g 1) :: refV (setRef R h g 2) :: refV (setRef R h g 3) :: refV (setRef R h g 4) :: refV (setRef R h g 5) :: refV (setRef R h g 6) :: refV (setRef R h g 7) :: refV (setRef R h g 8) :: refV (setRef R h g 9) :: refV (setRef R h g 10) :: refV (setRef R h g 11) :: X) := by
 simp [setRef, hs, refV]
theorem mset11 (v : Value) (R : Nat → Option Nat) (X : List Value) (h : SH) (g : Nat) (hs : h.slot = 11) : (v :: refV (R 1) :: refV (R 2) :: refV (R 3) :: refV (R 4) :: refV (R 5) :: refV (R 6) :: refV (R 7) :: refV (R 8) :: refV (R 9) :: refV (R 10) :: refV (R 11) :: X).set 11 (.pointer (some ⟨g, 0, none⟩)) = (v :: refV (setRef R h g 1) :: refV (setRef R h g 2) :: refV (setRef R h g 3) :: refV (setRef R h g 4) :: refV (setRef R h g 5) :: refV (setRef R h g 6) :: refV (setRef R h g 7) :: refV (setRef R h g 8) :: refV (setRef R h g 9) :: refV (setRef R h g 10) :: refV (setRef R h g 11) :: X) := by
 simp [setRef, hs, refV]
theorem setRef0 (R : Nat → Option Nat) (h : SH) (g : Nat) (hs : h.slot = 0) : setRef R h g = R := by
 funext j
 simp [setRef, hs]
theorem slot_cases (h : SH) : h.slot = 0 ∨ h.slot = 1 ∨ h.slot = 2 ∨ h.slot = 3 ∨ h.slot = 4 ∨ h.slot = 5 ∨ h.slot = 6 ∨ h.slot = 7 ∨ h.slot = 8 ∨ h.slot = 9 ∨ h.slot = 10 ∨ h.slot = 11 := by cases h <;> simp [SH.slot]
theorem MRep.put {n0 : Nat} {w w2 : World} {m : Nat} {T : TypeId} {hs : List (Nat × SH)} {R : Nat → Option Nat} {X : List Value} (hM : MRep n0 w m T hs R X) (g : Nat) (h : SH) (hr : h.rep w g) (hg : n0 ≤ g ∧ g < w.heap.size) (hn : n0 ≤ w.heap.size) {v v1 : Value}
  (hb : w.heap[m]? = some (.cells (mcells v R X) T (0, 0))) (ho : w.ownsRow n0 92 1 v hs.length (hs.map fun p => p.2.v p.1)) (ho1 : w2.ownsRow n0 92 1 v1 (hs.length + 1) ((hs.map fun p => p.2.v p.1) ++ [h.v g])) (hgr : w.grownBy w2 v.ownBlock) :
  (w2.setCell ⟨m, 0, none⟩ v1).heap[m]? = some (.cells (mcells v1 R X) T (0, 0)) ∧ MRep n0 (w2.setCell ⟨m, 0, none⟩ v1) m T (hs ++ [(g, h)]) R X ∧ MK n0 m w (w2.setCell ⟨m, 0, none⟩ v1) := by
 obtain ⟨_, hm, _, _, hT⟩ := hM.at_
 have hne : 92 ≠ T := by rcases hT with rfl | rfl <;> decide
 have hb2 : w2.heap[m]? = some (.cells (mcells v R X) T (0, 0)) := (hgr.block m (heap_lt hb) (own_ne_block ho hb hne)).trans hb
 have hrow : ∀ k, v.ownBlock = some k → ∃ c fz, w.heap[k]? = some (.cells c 92 fz) := by
  intro k hk
  rcases ho.2 with ⟨rfl, _⟩ | ⟨k', cap, cur, rfl, _, hh, _⟩
  ·simp [Value.ownBlock] at hk
  ·simp only [Value.ownBlock, Option.some.injEq] at hk
   subst hk
   exact ⟨_, _, hh⟩
 have hMK : MK n0 m w (w2.setCell ⟨m, 0, none⟩ v1) :=
  ⟨(Below.of_grown hgr hn (fun k hk => (ho.lt k hk).1)).setCell (p := ⟨m, 0, none⟩) hm _, ((Lib.OthersKept.refl _ _ w).grown hgr hrow).setCell ⟨m, 0, none⟩ rfl _⟩
 have hb3 : (w2.setCell ⟨m, 0, none⟩ v1).heap[m]? = some (.cells (mcells v1 R X) T (0, 0)) := blk_set hb2 0 v1
 have hkt : KT w (w2.setCell ⟨m, 0, none⟩ v1) := hMK.kt hb hT
 refine ⟨hb3, ⟨⟨v1, hm, hb3, ?_, hT⟩, ?_, ?_⟩, hMK⟩
 ·have := own_ne_block ho1 hb2 hne
  rw [List.length_append, List.map_append]
  exact ho1.kept (w' := w2.setCell ⟨m, 0, none⟩ v1) (row := some m) ⟨rfl, rfl, rfl, by simp [World.setCell], fun k hk hkm => Below.heap_setCell _ _ _ _ (fun e => hkm (by rw [e]))⟩ (.inr (Ne.symm this))
 ·intro p hp
  rcases List.mem_append.1 hp with hp | hp
  ·exact SH.rep_kt (hM.reps p hp) hkt
  ·obtain rfl := List.mem_singleton.1 hp
   exact SH.rep_kt hr hkt
 ·have hsz : w.heap.size ≤ (w2.setCell ⟨m, 0, none⟩ v1).heap.size := hMK.1.size
  intro p hp
  rcases List.mem_append.1 hp with hp | hp
  ·exact ⟨(hM.lt p hp).1, Nat.lt_of_lt_of_le (hM.lt p hp).2 hsz⟩
  ·obtain rfl := List.mem_singleton.1 hp
   exact ⟨hg.1, Nat.lt_of_lt_of_le hg.2 hsz⟩
theorem MRep.ref {n0 : Nat} {w : World} {m : Nat} {T : TypeId} {hs : List (Nat × SH)} {R : Nat → Option Nat} {X : List Value} (hM : MRep n0 w m T hs R X) (g : Nat) (h : SH) :
  MRep n0 (if h.slot = 0 then w else w.setCell ⟨m, h.slot, none⟩ (.pointer (some ⟨g, 0, none⟩))) m T hs (setRef R h g) X ∧ MK n0 m w (if h.slot = 0 then w else w.setCell ⟨m, h.slot, none⟩ (.pointer (some ⟨g, 0, none⟩))) := by
 by_cases h0 : h.slot = 0
 ·rw [if_pos h0, setRef0 R h g h0]
  exact ⟨hM, MK.refl _ _ _⟩
 ·rw [if_neg h0]
  obtain ⟨v, hm, hb, ho, hT⟩ := hM.at_
  have hne : 92 ≠ T := by rcases hT with rfl | rfl <;> decide
  have hMK : MK n0 m w (w.setCell ⟨m, h.slot, none⟩ (.pointer (some ⟨g, 0, none⟩))) := ⟨(Below.refl _ _).setCell (p := ⟨m, h.slot, none⟩) hm _, (Lib.OthersKept.refl _ _ w).setCell ⟨m, h.slot, none⟩ rfl _⟩
  have hkt := hMK.kt hb hT
  refine ⟨⟨⟨v, hm, ?_, ?_, hT⟩, fun p hp => SH.rep_kt (hM.reps p hp) hkt, fun p hp => ⟨(hM.lt p hp).1, Nat.lt_of_lt_of_le (hM.lt p hp).2 hMK.1.size⟩⟩, hMK⟩
  ·have := blk_set hb h.slot (.pointer (some ⟨g, 0, none⟩))
   rw [this]
   congr 2
   unfold mcells
   rcases slot_cases h with hs | hs | hs | hs | hs | hs | hs | hs | hs | hs | hs | hs
   ·exact absurd hs h0
   ·rw [hs, mset1 v R X h g hs]
   ·rw [hs, mset2 v R X h g hs]
   ·rw [hs, mset3 v R X h g hs]
   ·rw [hs, mset4 v R X h g hs]
   ·rw [hs, mset5 v R X h g hs]
   ·rw [hs, mset6 v R X h g hs]
   ·rw [hs, mset7 v R X h g hs]
   ·rw [hs, mset8 v R X h g hs]
   ·rw [hs, mset9 v R X h g hs]
   ·rw [hs, mset10 v R X h g hs]
   ·rw [hs, mset11 v R X h g hs]
  ·have := own_ne_block ho hb hne
   exact ho.kept (w' := w.setCell ⟨m, h.slot, none⟩ (.pointer (some ⟨g, 0, none⟩))) (row := some m) ⟨rfl, rfl, rfl, by simp [World.setCell], fun k hk hkm => Below.heap_setCell _ _ _ _ (fun e => hkm (by rw [e]))⟩ (.inr (Ne.symm this))
def AHPost (n0 m : Nat) (T : TypeId) (hs : List (Nat × SH)) (R : Nat → Option Nat) (X : List Value) (g : Nat) (h : SH) (w : World) (e : Ending) (w' : World) : Prop :=
 e = .returned (.tuple #[]) ∧ MRep n0 w' m T (hs ++ [(g, h)]) (addRef R h g) X ∧ MK n0 m w w'
theorem ah_to_ (n0 m g : Nat) (T : TypeId) (hs : List (Nat × SH)) (R : Nat → Option Nat) (X : List Value) (h : SH) (d : ByteArray) (u : SUri) (p : KVs) (hh : h = .to_ d u p) (w : World) (hn : n0 ≤ w.heap.size) (hM : MRep n0 w m T hs R X) (hr : h.rep w g) (hg : n0 ≤ g ∧ g < w.heap.size) (hl : hs.length < 4294967296) :
  Calls Tryz.prog 193 #[.pointer (some ⟨m, 0, none⟩), .iface 104 (.pointer (some ⟨g, 0, none⟩))] w (AHPost n0 m T hs R X g h w) := by
 have hv : h.v g = .iface 104 (.pointer (some ⟨g, 0, none⟩)) := by rw [hh]; rfl
 have hsl : h.slot = 3 := by rw [hh]; rfl
 have hfi : h.first = false := by rw [hh]; rfl
 obtain ⟨v, hm, hb, ho, hT⟩ := hM.at_
 have hne : 92 ≠ T := by rcases hT with rfl | rfl <;> decide
 have c0 : w.cell? ⟨m, 0, none⟩ = some v := blk_cell hb 0
 have HM := hid (And.intro hM hT)
 have HB := hid (And.intro hb hne)
 have HO := hid ho
 have HR := hid hr
 have HG := hid hg
 have HN := hid hn
 have HL := hid hl
 have HV := hid (And.intro hv (And.intro hsl hfi))
 clear hM hT hb hne ho hr hg hn hl hv hsl hfi hh hm
 have a0 := fun v w => ta_no (T := 104) (U := 102) (by decide) (by decide) v 92 w
 have a1 := fun v w => ta_no (T := 104) (U := 110) (by decide) (by decide) v 92 w
 have a2 := fun v w => ta_no (T := 104) (U := 111) (by decide) (by decide) v 92 w
 go_enter Tryz.func193, Tryz.ntmps193
 go_wp2_with (at_builtin; refine app_one n0 rfl _ _ 101 92 .nilIface 1 16 rfl Tryz.underlying101 hdr_info rfl (by decide) (by decide) v hs.length _ [.iface 104 (.pointer (some ⟨g, 0, none⟩))] (0, 0) rfl rfl rfl (by simp [Value.oneCell']) HO.out HN.out (by have := HL.out; omega) ?_)
 intro v1 w2 ho1 hgr
 obtain ⟨A1, k1, rfl⟩ := own_slice ho1
 have hb2 := (hgr.block m (heap_lt HB.out.1) (own_ne_block HO.out HB.out.1 HB.out.2)).trans HB.out.1
 rw [← HV.out.1] at ho1
 obtain ⟨hb3, hM3, hK3⟩ := HM.out.1.put g h HR.out HG.out HN.out HB.out.1 HO.out ho1 hgr
 have d0 : w2.cell? ⟨m, 0, none⟩ = some v := blk_cell hb2 0
 have f0 : w2.frozen? ⟨m, 0, none⟩ = false := blk_frozen hb2 0
 have hse := sethref_any m g h _ T _ hb3 (by simp [mcells])
 rw [HV.out.1] at hse
 simp only [HV.out.2.1, show ¬ ((3 : Nat) = 0) from by decide, if_false] at hse
 have HS := hid hse
 have HM3 := hid (And.intro hM3 hK3)
 clear hb3 hM3 hK3 hgr ho1 hb2 hse
 go_wp2_with (go_at_call 224; refine HS.out.mono ?_; rintro e w4 ⟨rfl, rfl⟩)
 go_end0
 obtain ⟨r1, r2⟩ := HM3.out.1.ref g h
 rw [HV.out.2.1, if_neg (by decide)] at r1 r2
 refine ⟨rfl, ?_, HM3.out.2.trans r2⟩
 unfold addRef
 rw [if_neg (by rw [HV.out.2.2]; simp)]
 exact r1
theorem ah_from_ (n0 m g : Nat) (T : TypeId) (hs : List (Nat × SH)) (R : Nat → Option Nat) (X : List Value) (h : SH) (d : ByteArray) (u : SUri) (p : KVs) (hh : h = .from_ d u p) (w : World) (hn : n0 ≤ w.heap.size) (hM : MRep n0 w m T hs R X) (hr : h.rep w g) (hg : n0 ≤ g ∧ g < w.heap.size) (hl : hs.length < 4294967296) :
  Calls Tryz.prog 193 #[.pointer (some ⟨m, 0, none⟩), .iface 103 (.pointer (some ⟨g, 0, none⟩))] w (AHPost n0 m T hs R X g h w) := by
 have hv : h.v g = .iface 103 (.pointer (some ⟨g, 0, none⟩)) := by rw [hh]; rfl
 have hsl : h.slot = 2 := by rw [hh]; rfl
 have hfi : h.first = false := by rw [hh]; rfl
 obtain ⟨v, hm, hb, ho, hT⟩ := hM.at_
 have hne : 92 ≠ T := by rcases hT with rfl | rfl <;> decide
 have c0 : w.cell? ⟨m, 0, none⟩ = some v := blk_cell hb 0
 have HM := hid (And.intro hM hT)
 have HB := hid (And.intro hb hne)
 have HO := hid ho
 have HR := hid hr
 have HG := hid hg
 have HN := hid hn
 have HL := hid hl
 have HV := hid (And.intro hv (And.intro hsl hfi))
 clear hM hT hb hne ho hr hg hn hl hv hsl hfi hh hm
 have a0 := fun v w => ta_no (T := 103) (U := 102) (by decide) (by decide) v 92 w
 have a1 := fun v w => ta_no (T := 103) (U := 110) (by decide) (by decide) v 92 w
 have a2 := fun v w => ta_no (T := 103) (U := 111) (by decide) (by decide) v 92 w
 go_enter Tryz.func193, Tryz.ntmps193
 go_wp2_with (at_builtin; refine app_one n0 rfl _ _ 101 92 .nilIface 1 16 rfl Tryz.underlying101 hdr_info rfl (by decide) (by decide) v hs.length _ [.iface 103 (.pointer (some ⟨g, 0, none⟩))] (0, 0) rfl rfl rfl (by simp [Value.oneCell']) HO.out HN.out (by have := HL.out; omega) ?_)
 intro v1 w2 ho1 hgr
 obtain ⟨A1, k1, rfl⟩ := own_slice ho1
 have hb2 := (hgr.block m (heap_lt HB.out.1) (own_ne_block HO.out HB.out.1 HB.out.2)).trans HB.out.1
 rw [← HV.out.1] at ho1
 obtain ⟨hb3, hM3, hK3⟩ := HM.out.1.put g h HR.out HG.out HN.out HB.out.1 HO.out ho1 hgr
 have d0 : w2.cell? ⟨m, 0, none⟩ = some v := blk_cell hb2 0
 have f0 : w2.frozen? ⟨m, 0, none⟩ = false := blk_frozen hb2 0
 have hse := sethref_any m g h _ T _ hb3 (by simp [mcells])
 rw [HV.out.1] at hse
 simp only [HV.out.2.1, show ¬ ((2 : Nat) = 0) from by decide, if_false] at hse
 have HS := hid hse
 have HM3 := hid (And.intro hM3 hK3)
 clear hb3 hM3 hK3 hgr ho1 hb2 hse
 go_wp2_with (go_at_call 224; refine HS.out.mono ?_; rintro e w4 ⟨rfl, rfl⟩)
 go_end0
 obtain ⟨r1, r2⟩ := HM3.out.1.ref g h
 rw [HV.out.2.1, if_neg (by decide)] at r1 r2
 refine ⟨rfl, ?_, HM3.out.2.trans r2⟩
 unfold addRef
 rw [if_neg (by rw [HV.out.2.2]; simp)]
 exact r1
theorem ah_refby (n0 m g : Nat) (T : TypeId) (hs : List (Nat × SH)) (R : Nat → Option Nat) (X : List Value) (h : SH) (d : ByteArray) (u : SUri) (p : KVs) (hh : h = .refby d u p) (w : World) (hn : n0 ≤ w.heap.size) (hM : MRep n0 w m T hs R X) (hr : h.rep w g) (hg : n0 ≤ g ∧ g < w.heap.size) (hl : hs.length < 4294967296) :
  Calls Tryz.prog 193 #[.pointer (some ⟨m, 0, none⟩), .iface 184 (.pointer (some ⟨g, 0, none⟩))] w (AHPost n0 m T hs R X g h w) := by
 have hv : h.v g = .iface 184 (.pointer (some ⟨g, 0, none⟩)) := by rw [hh]; rfl
 have hsl : h.slot = 0 := by rw [hh]; rfl
 have hfi : h.first = false := by rw [hh]; rfl
 obtain ⟨v, hm, hb, ho, hT⟩ := hM.at_
 have hne : 92 ≠ T := by rcases hT with rfl | rfl <;> decide
 have c0 : w.cell? ⟨m, 0, none⟩ = some v := blk_cell hb 0
 have HM := hid (And.intro hM hT)
 have HB := hid (And.intro hb hne)
 have HO := hid ho
 have HR := hid hr
 have HG := hid hg
 have HN := hid hn
 have HL := hid hl
 have HV := hid (And.intro hv (And.intro hsl hfi))
 clear hM hT hb hne ho hr hg hn hl hv hsl hfi hh hm
 have a0 := fun v w => ta_no (T := 184) (U := 102) (by decide) (by decide) v 92 w
 have a1 := fun v w => ta_no (T := 184) (U := 110) (by decide) (by decide) v 92 w
 have a2 := fun v w => ta_no (T := 184) (U := 111) (by decide) (by decide) v 92 w
 go_enter Tryz.func193, Tryz.ntmps193
 go_wp2_with (at_builtin; refine app_one n0 rfl _ _ 101 92 .nilIface 1 16 rfl Tryz.underlying101 hdr_info rfl (by decide) (by decide) v hs.length _ [.iface 184 (.pointer (some ⟨g, 0, none⟩))] (0, 0) rfl rfl rfl (by simp [Value.oneCell']) HO.out HN.out (by have := HL.out; omega) ?_)
 intro v1 w2 ho1 hgr
 obtain ⟨A1, k1, rfl⟩ := own_slice ho1
 have hb2 := (hgr.block m (heap_lt HB.out.1) (own_ne_block HO.out HB.out.1 HB.out.2)).trans HB.out.1
 rw [← HV.out.1] at ho1
 obtain ⟨hb3, hM3, hK3⟩ := HM.out.1.put g h HR.out HG.out HN.out HB.out.1 HO.out ho1 hgr
 have d0 : w2.cell? ⟨m, 0, none⟩ = some v := blk_cell hb2 0
 have f0 : w2.frozen? ⟨m, 0, none⟩ = false := blk_frozen hb2 0
 have hse := sethref_any m g h _ T _ hb3 (by simp [mcells])
 rw [HV.out.1] at hse
 simp only [HV.out.2.1, if_true] at hse
 have HS := hid hse
 have HM3 := hid (And.intro hM3 hK3)
 clear hb3 hM3 hK3 hgr ho1 hb2 hse
 go_wp2_with (go_at_call 224; refine HS.out.mono ?_; rintro e w4 ⟨rfl, rfl⟩)
 go_end0
 obtain ⟨r1, r2⟩ := HM3.out.1.ref g h
 rw [HV.out.2.1, if_pos rfl] at r1 r2
 refine ⟨rfl, ?_, HM3.out.2.trans r2⟩
 unfold addRef
 rw [if_neg (by rw [HV.out.2.2]; simp)]
 exact r1
theorem ah_contact (n0 m g : Nat) (T : TypeId) (hs : List (Nat × SH)) (R : Nat → Option Nat) (X : List Value) (h : SH) (d : ByteArray) (u : SUri) (p : KVs) (hh : h = .contact d u p) (w : World) (hn : n0 ≤ w.heap.size) (hM : MRep n0 w m T hs R X) (hr : h.rep w g) (hg : n0 ≤ g ∧ g < w.heap.size) (hl : hs.length < 4294967296) :
  Calls Tryz.prog 193 #[.pointer (some ⟨m, 0, none⟩), .iface 106 (.pointer (some ⟨g, 0, none⟩))] w (AHPost n0 m T hs R X g h w) := by
 have hv : h.v g = .iface 106 (.pointer (some ⟨g, 0, none⟩)) := by rw [hh]; rfl
 have hsl : h.slot = 5 := by rw [hh]; rfl
 have hfi : h.first = false := by rw [hh]; rfl
 obtain ⟨v, hm, hb, ho, hT⟩ := hM.at_
 have hne : 92 ≠ T := by rcases hT with rfl | rfl <;> decide
 have c0 : w.cell? ⟨m, 0, none⟩ = some v := blk_cell hb 0
 have HM := hid (And.intro hM hT)
 have HB := hid (And.intro hb hne)
 have HO := hid ho
 have HR := hid hr
 have HG := hid hg
 have HN := hid hn
 have HL := hid hl
 have HV := hid (And.intro hv (And.intro hsl hfi))
 clear hM hT hb hne ho hr hg hn hl hv hsl hfi hh hm
 have a0 := fun v w => ta_no (T := 106) (U := 102) (by decide) (by decide) v 92 w
 have a1 := fun v w => ta_no (T := 106) (U := 110) (by decide) (by decide) v 92 w
 have a2 := fun v w => ta_no (T := 106) (U := 111) (by decide) (by decide) v 92 w
 go_enter Tryz.func193, Tryz.ntmps193
 go_wp2_with (at_builtin; refine app_one n0 rfl _ _ 101 92 .nilIface 1 16 rfl Tryz.underlying101 hdr_info rfl (by decide) (by decide) v hs.length _ [.iface 106 (.pointer (some ⟨g, 0, none⟩))] (0, 0) rfl rfl rfl (by simp [Value.oneCell']) HO.out HN.out (by have := HL.out; omega) ?_)
 intro v1 w2 ho1 hgr
 obtain ⟨A1, k1, rfl⟩ := own_slice ho1
 have hb2 := (hgr.block m (heap_lt HB.out.1) (own_ne_block HO.out HB.out.1 HB.out.2)).trans HB.out.1
 rw [← HV.out.1] at ho1
 obtain ⟨hb3, hM3, hK3⟩ := HM.out.1.put g h HR.out HG.out HN.out HB.out.1 HO.out ho1 hgr
 have d0 : w2.cell? ⟨m, 0, none⟩ = some v := blk_cell hb2 0
 have f0 : w2.frozen? ⟨m, 0, none⟩ = false := blk_frozen hb2 0
 have hse := sethref_any m g h _ T _ hb3 (by simp [mcells])
 rw [HV.out.1] at hse
 simp only [HV.out.2.1, show ¬ ((5 : Nat) = 0) from by decide, if_false] at hse
 have HS := hid hse
 have HM3 := hid (And.intro hM3 hK3)
 clear hb3 hM3 hK3 hgr ho1 hb2 hse
 go_wp2_with (go_at_call 224; refine HS.out.mono ?_; rintro e w4 ⟨rfl, rfl⟩)
 go_end0
 obtain ⟨r1, r2⟩ := HM3.out.1.ref g h
 rw [HV.out.2.1, if_neg (by decide)] at r1 r2
 refine ⟨rfl, ?_, HM3.out.2.trans r2⟩
 unfold addRef
 rw [if_neg (by rw [HV.out.2.2]; simp)]
 exact r1
theorem ah_via (n0 m g : Nat) (T : TypeId) (hs : List (Nat × SH)) (R : Nat → Option Nat) (X : List Value) (h : SH) (x : SVia) (hh : h = .via x) (w : World) (hn : n0 ≤ w.heap.size) (hM : MRep n0 w m T hs R X) (hr : h.rep w g) (hg : n0 ≤ g ∧ g < w.heap.size) (hl : hs.length < 4294967296) :
  Calls Tryz.prog 193 #[.pointer (some ⟨m, 0, none⟩), .iface 102 (.pointer (some ⟨g, 0, none⟩))] w (AHPost n0 m T hs R X g h w) := by
 have hv : h.v g = .iface 102 (.pointer (some ⟨g, 0, none⟩)) := by rw [hh]; rfl
 have hsl : h.slot = 1 := by rw [hh]; rfl
 have hfi : h.first = true := by rw [hh]; rfl
 obtain ⟨v, hm, hb, ho, hT⟩ := hM.at_
 have hne : 92 ≠ T := by rcases hT with rfl | rfl <;> decide
 have c0 : w.cell? ⟨m, 0, none⟩ = some v := blk_cell hb 0
 have HM := hid (And.intro hM hT)
 have HB := hid (And.intro hb hne)
 have HO := hid ho
 have HR := hid hr
 have HG := hid hg
 have HN := hid hn
 have HL := hid hl
 have HV := hid (And.intro hv (And.intro hsl hfi))
 clear hM hT hb hne ho hr hg hn hl hv hsl hfi hh hm
 have a0 := fun v w => ta_yes (U := 102) (by decide) v 92 w
 have a1 := fun v w => ta_no (T := 102) (U := 110) (by decide) (by decide) v 92 w
 have a2 := fun v w => ta_no (T := 102) (U := 111) (by decide) (by decide) v 92 w
 go_enter Tryz.func193, Tryz.ntmps193
 go_wp2_with (at_builtin; refine app_one n0 rfl _ _ 101 92 .nilIface 1 16 rfl Tryz.underlying101 hdr_info rfl (by decide) (by decide) v hs.length _ [.iface 102 (.pointer (some ⟨g, 0, none⟩))] (0, 0) rfl rfl rfl (by simp [Value.oneCell']) HO.out HN.out (by have := HL.out; omega) ?_)
 intro v1 w2 ho1 hgr
 obtain ⟨A1, k1, rfl⟩ := own_slice ho1
 have hb2 := (hgr.block m (heap_lt HB.out.1) (own_ne_block HO.out HB.out.1 HB.out.2)).trans HB.out.1
 rw [← HV.out.1] at ho1
 obtain ⟨hb3, hM3, hK3⟩ := HM.out.1.put g h HR.out HG.out HN.out HB.out.1 HO.out ho1 hgr
 have d0 : w2.cell? ⟨m, 0, none⟩ = some v := blk_cell hb2 0
 have f0 : w2.frozen? ⟨m, 0, none⟩ = false := blk_frozen hb2 0
 have d1 : w2.cell? ⟨m, 1, none⟩ = some (refV (R 1)) := blk_cell hb2 1
 have f1 : w2.frozen? ⟨m, 1, none⟩ = false := blk_frozen hb2 1
 have HB3 := hid hb3
 have HM3 := hid (And.intro hM3 hK3)
 clear hb3 hM3 hK3 hgr ho1 hb2
 obtain ⟨r, hr⟩ : ∃ r, r = R 1 := ⟨_, rfl⟩
 rw [← hr] at d1
 have HRJ := hid hr
 clear hr
 cases r with
 | none =>
  simp only [refV, Option.map_none] at d1
  go_wp2
  go_end0
  obtain ⟨r1, r2⟩ := HM3.out.1.ref g h
  rw [HV.out.2.1, if_neg (by decide)] at r1 r2
  refine ⟨rfl, ?_, HM3.out.2.trans r2⟩
  unfold addRef
  rw [if_neg (by rw [HV.out.2.1, ← HRJ.out]; simp)]
  exact r1
 | some q =>
  simp only [refV, Option.map_some] at d1
  go_wp2
  go_end0
  refine ⟨rfl, ?_, HM3.out.2⟩
  unfold addRef
  rw [if_pos ⟨HV.out.2.2, by rw [HV.out.2.1, ← HRJ.out]; simp⟩]
  exact HM3.out.1
theorem ah_callid (n0 m g : Nat) (T : TypeId) (hs : List (Nat × SH)) (R : Nat → Option Nat) (X : List Value) (h : SH) (s : ByteArray) (hh : h = .callid s) (w : World) (hn : n0 ≤ w.heap.size) (hM : MRep n0 w m T hs R X) (hr : h.rep w g) (hg : n0 ≤ g ∧ g < w.heap.size) (hl : hs.length < 4294967296) :
  Calls Tryz.prog 193 #[.pointer (some ⟨m, 0, none⟩), .iface 105 (.pointer (some ⟨g, 0, none⟩))] w (AHPost n0 m T hs R X g h w) := by
 have hv : h.v g = .iface 105 (.pointer (some ⟨g, 0, none⟩)) := by rw [hh]; rfl
 have hsl : h.slot = 4 := by rw [hh]; rfl
 have hfi : h.first = false := by rw [hh]; rfl
 obtain ⟨v, hm, hb, ho, hT⟩ := hM.at_
 have hne : 92 ≠ T := by rcases hT with rfl | rfl <;> decide
 have c0 : w.cell? ⟨m, 0, none⟩ = some v := blk_cell hb 0
 have HM := hid (And.intro hM hT)
 have HB := hid (And.intro hb hne)
 have HO := hid ho
 have HR := hid hr
 have HG := hid hg
 have HN := hid hn
 have HL := hid hl
 have HV := hid (And.intro hv (And.intro hsl hfi))
 clear hM hT hb hne ho hr hg hn hl hv hsl hfi hh hm
 have a0 := fun v w => ta_no (T := 105) (U := 102) (by decide) (by decide) v 92 w
 have a1 := fun v w => ta_no (T := 105) (U := 110) (by decide) (by decide) v 92 w
 have a2 := fun v w => ta_no (T := 105) (U := 111) (by decide) (by decide) v 92 w
 go_enter Tryz.func193, Tryz.ntmps193
 go_wp2_with (at_builtin; refine app_one n0 rfl _ _ 101 92 .nilIface 1 16 rfl Tryz.underlying101 hdr_info rfl (by decide) (by decide) v hs.length _ [.iface 105 (.pointer (some ⟨g, 0, none⟩))] (0, 0) rfl rfl rfl (by simp [Value.oneCell']) HO.out HN.out (by have := HL.out; omega) ?_)
 intro v1 w2 ho1 hgr
 obtain ⟨A1, k1, rfl⟩ := own_slice ho1
 have hb2 := (hgr.block m (heap_lt HB.out.1) (own_ne_block HO.out HB.out.1 HB.out.2)).trans HB.out.1
 rw [← HV.out.1] at ho1
 obtain ⟨hb3, hM3, hK3⟩ := HM.out.1.put g h HR.out HG.out HN.out HB.out.1 HO.out ho1 hgr
 have d0 : w2.cell? ⟨m, 0, none⟩ = some v := blk_cell hb2 0
 have f0 : w2.frozen? ⟨m, 0, none⟩ = false := blk_frozen hb2 0
 have hse := sethref_any m g h _ T _ hb3 (by simp [mcells])
 rw [HV.out.1] at hse
 simp only [HV.out.2.1, show ¬ ((4 : Nat) = 0) from by decide, if_false] at hse
 have HS := hid hse
 have HM3 := hid (And.intro hM3 hK3)
 clear hb3 hM3 hK3 hgr ho1 hb2 hse
 go_wp2_with (go_at_call 224; refine HS.out.mono ?_; rintro e w4 ⟨rfl, rfl⟩)
 go_end0
 obtain ⟨r1, r2⟩ := HM3.out.1.ref g h
 rw [HV.out.2.1, if_neg (by decide)] at r1 r2
 refine ⟨rfl, ?_, HM3.out.2.trans r2⟩
 unfold addRef
 rw [if_neg (by rw [HV.out.2.2]; simp)]
 exact r1
theorem ah_ctype (n0 m g : Nat) (T : TypeId) (hs : List (Nat × SH)) (R : Nat → Option Nat) (X : List Value) (h : SH) (s : ByteArray) (hh : h = .ctype s) (w : World) (hn : n0 ≤ w.heap.size) (hM : MRep n0 w m T hs R X) (hr : h.rep w g) (hg : n0 ≤ g ∧ g < w.heap.size) (hl : hs.length < 4294967296) :
  Calls Tryz.prog 193 #[.pointer (some ⟨m, 0, none⟩), .iface 109 (.pointer (some ⟨g, 0, none⟩))] w (AHPost n0 m T hs R X g h w) := by
 have hv : h.v g = .iface 109 (.pointer (some ⟨g, 0, none⟩)) := by rw [hh]; rfl
 have hsl : h.slot = 8 := by rw [hh]; rfl
 have hfi : h.first = false := by rw [hh]; rfl
 obtain ⟨v, hm, hb, ho, hT⟩ := hM.at_
 have hne : 92 ≠ T := by rcases hT with rfl | rfl <;> decide
 have c0 : w.cell? ⟨m, 0, none⟩ = some v := blk_cell hb 0
 have HM := hid (And.intro hM hT)
 have HB := hid (And.intro hb hne)
 have HO := hid ho
 have HR := hid hr
 have HG := hid hg
 have HN := hid hn
 have HL := hid hl
 have HV := hid (And.intro hv (And.intro hsl hfi))
 clear hM hT hb hne ho hr hg hn hl hv hsl hfi hh hm
 have a0 := fun v w => ta_no (T := 109) (U := 102) (by decide) (by decide) v 92 w
 have a1 := fun v w => ta_no (T := 109) (U := 110) (by decide) (by decide) v 92 w
 have a2 := fun v w => ta_no (T := 109) (U := 111) (by decide) (by decide) v 92 w
 go_enter Tryz.func193, Tryz.ntmps193
 go_wp2_with (at_builtin; refine app_one n0 rfl _ _ 101 92 .nilIface 1 16 rfl Tryz.underlying101 hdr_info rfl (by decide) (by decide) v hs.length _ [.iface 109 (.pointer (some ⟨g, 0, none⟩))] (0, 0) rfl rfl rfl (by simp [Value.oneCell']) HO.out HN.out (by have := HL.out; omega) ?_)
 intro v1 w2 ho1 hgr
 obtain ⟨A1, k1, rfl⟩ := own_slice ho1
 have hb2 := (hgr.block m (heap_lt HB.out.1) (own_ne_block HO.out HB.out.1 HB.out.2)).trans HB.out.1
 rw [← HV.out.1] at ho1
 obtain ⟨hb3, hM3, hK3⟩ := HM.out.1.put g h HR.out HG.out HN.out HB.out.1 HO.out ho1 hgr
 have d0 : w2.cell? ⟨m, 0, none⟩ = some v := blk_cell hb2 0
 have f0 : w2.frozen? ⟨m, 0, none⟩ = false := blk_frozen hb2 0
 have hse := sethref_any m g h _ T _ hb3 (by simp [mcells])
 rw [HV.out.1] at hse
 simp only [HV.out.2.1, show ¬ ((8 : Nat) = 0) from by decide, if_false] at hse
 have HS := hid hse
 have HM3 := hid (And.intro hM3 hK3)
 clear hb3 hM3 hK3 hgr ho1 hb2 hse
 go_wp2_with (go_at_call 224; refine HS.out.mono ?_; rintro e w4 ⟨rfl, rfl⟩)
 go_end0
 obtain ⟨r1, r2⟩ := HM3.out.1.ref g h
 rw [HV.out.2.1, if_neg (by decide)] at r1 r2
 refine ⟨rfl, ?_, HM3.out.2.trans r2⟩
 unfold addRef
 rw [if_neg (by rw [HV.out.2.2]; simp)]
 exact r1
theorem ah_maxf (n0 m g : Nat) (T : TypeId) (hs : List (Nat × SH)) (R : Nat → Option Nat) (X : List Value) (h : SH) (n : Int) (hh : h = .maxf n) (w : World) (hn : n0 ≤ w.heap.size) (hM : MRep n0 w m T hs R X) (hr : h.rep w g) (hg : n0 ≤ g ∧ g < w.heap.size) (hl : hs.length < 4294967296) :
  Calls Tryz.prog 193 #[.pointer (some ⟨m, 0, none⟩), .iface 112 (.pointer (some ⟨g, 0, none⟩))] w (AHPost n0 m T hs R X g h w) := by
 have hv : h.v g = .iface 112 (.pointer (some ⟨g, 0, none⟩)) := by rw [hh]; rfl
 have hsl : h.slot = 11 := by rw [hh]; rfl
 have hfi : h.first = false := by rw [hh]; rfl
 obtain ⟨v, hm, hb, ho, hT⟩ := hM.at_
 have hne : 92 ≠ T := by rcases hT with rfl | rfl <;> decide
 have c0 : w.cell? ⟨m, 0, none⟩ = some v := blk_cell hb 0
 have HM := hid (And.intro hM hT)
 have HB := hid (And.intro hb hne)
 have HO := hid ho
 have HR := hid hr
 have HG := hid hg
 have HN := hid hn
 have HL := hid hl
 have HV := hid (And.intro hv (And.intro hsl hfi))
 clear hM hT hb hne ho hr hg hn hl hv hsl hfi hh hm
 have a0 := fun v w => ta_no (T := 112) (U := 102) (by decide) (by decide) v 92 w
 have a1 := fun v w => ta_no (T := 112) (U := 110) (by decide) (by decide) v 92 w
 have a2 := fun v w => ta_no (T := 112) (U := 111) (by decide) (by decide) v 92 w
 go_enter Tryz.func193, Tryz.ntmps193
 go_wp2_with (at_builtin; refine app_one n0 rfl _ _ 101 92 .nilIface 1 16 rfl Tryz.underlying101 hdr_info rfl (by decide) (by decide) v hs.length _ [.iface 112 (.pointer (some ⟨g, 0, none⟩))] (0, 0) rfl rfl rfl (by simp [Value.oneCell']) HO.out HN.out (by have := HL.out; omega) ?_)
 intro v1 w2 ho1 hgr
 obtain ⟨A1, k1, rfl⟩ := own_slice ho1
 have hb2 := (hgr.block m (heap_lt HB.out.1) (own_ne_block HO.out HB.out.1 HB.out.2)).trans HB.out.1
 rw [← HV.out.1] at ho1
 obtain ⟨hb3, hM3, hK3⟩ := HM.out.1.put g h HR.out HG.out HN.out HB.out.1 HO.out ho1 hgr
 have d0 : w2.cell? ⟨m, 0, none⟩ = some v := blk_cell hb2 0
 have f0 : w2.frozen? ⟨m, 0, none⟩ = false := blk_frozen hb2 0
 have hse := sethref_any m g h _ T _ hb3 (by simp [mcells])
 rw [HV.out.1] at hse
 simp only [HV.out.2.1, show ¬ ((11 : Nat) = 0) from by decide, if_false] at hse
 have HS := hid hse
 have HM3 := hid (And.intro hM3 hK3)
 clear hb3 hM3 hK3 hgr ho1 hb2 hse
 go_wp2_with (go_at_call 224; refine HS.out.mono ?_; rintro e w4 ⟨rfl, rfl⟩)
 go_end0
 obtain ⟨r1, r2⟩ := HM3.out.1.ref g h
 rw [HV.out.2.1, if_neg (by decide)] at r1 r2
 refine ⟨rfl, ?_, HM3.out.2.trans r2⟩
 unfold addRef
 rw [if_neg (by rw [HV.out.2.2]; simp)]
 exact r1
theorem ah_expires (n0 m g : Nat) (T : TypeId) (hs : List (Nat × SH)) (R : Nat → Option Nat) (X : List Value) (h : SH) (n : Int) (hh : h = .expires n) (w : World) (hn : n0 ≤ w.heap.size) (hM : MRep n0 w m T hs R X) (hr : h.rep w g) (hg : n0 ≤ g ∧ g < w.heap.size) (hl : hs.length < 4294967296) :
  Calls Tryz.prog 193 #[.pointer (some ⟨m, 0, none⟩), .iface 141 (.pointer (some ⟨g, 0, none⟩))] w (AHPost n0 m T hs R X g h w) := by
 have hv : h.v g = .iface 141 (.pointer (some ⟨g, 0, none⟩)) := by rw [hh]; rfl
 have hsl : h.slot = 0 := by rw [hh]; rfl
 have hfi : h.first = false := by rw [hh]; rfl
 obtain ⟨v, hm, hb, ho, hT⟩ := hM.at_
 have hne : 92 ≠ T := by rcases hT with rfl | rfl <;> decide
 have c0 : w.cell? ⟨m, 0, none⟩ = some v := blk_cell hb 0
 have HM := hid (And.intro hM hT)
 have HB := hid (And.intro hb hne)
 have HO := hid ho
 have HR := hid hr
 have HG := hid hg
 have HN := hid hn
 have HL := hid hl
 have HV := hid (And.intro hv (And.intro hsl hfi))
 clear hM hT hb hne ho hr hg hn hl hv hsl hfi hh hm
 have a0 := fun v w => ta_no (T := 141) (U := 102) (by decide) (by decide) v 92 w
 have a1 := fun v w => ta_no (T := 141) (U := 110) (by decide) (by decide) v 92 w
 have a2 := fun v w => ta_no (T := 141) (U := 111) (by decide) (by decide) v 92 w
 go_enter Tryz.func193, Tryz.ntmps193
 go_wp2_with (at_builtin; refine app_one n0 rfl _ _ 101 92 .nilIface 1 16 rfl Tryz.underlying101 hdr_info rfl (by decide) (by decide) v hs.length _ [.iface 141 (.pointer (some ⟨g, 0, none⟩))] (0, 0) rfl rfl rfl (by simp [Value.oneCell']) HO.out HN.out (by have := HL.out; omega) ?_)
 intro v1 w2 ho1 hgr
 obtain ⟨A1, k1, rfl⟩ := own_slice ho1
 have hb2 := (hgr.block m (heap_lt HB.out.1) (own_ne_block HO.out HB.out.1 HB.out.2)).trans HB.out.1
 rw [← HV.out.1] at ho1
 obtain ⟨hb3, hM3, hK3⟩ := HM.out.1.put g h HR.out HG.out HN.out HB.out.1 HO.out ho1 hgr
 have d0 : w2.cell? ⟨m, 0, none⟩ = some v := blk_cell hb2 0
 have f0 : w2.frozen? ⟨m, 0, none⟩ = false := blk_frozen hb2 0
 have hse := sethref_any m g h _ T _ hb3 (by simp [mcells])
 rw [HV.out.1] at hse
 simp only [HV.out.2.1, if_true] at hse
 have HS := hid hse
 have HM3 := hid (And.intro hM3 hK3)
 clear hb3 hM3 hK3 hgr ho1 hb2 hse
 go_wp2_with (go_at_call 224; refine HS.out.mono ?_; rintro e w4 ⟨rfl, rfl⟩)
 go_end0
 obtain ⟨r1, r2⟩ := HM3.out.1.ref g h
 rw [HV.out.2.1, if_pos rfl] at r1 r2
 refine ⟨rfl, ?_, HM3.out.2.trans r2⟩
 unfold addRef
 rw [if_neg (by rw [HV.out.2.2]; simp)]
 exact r1
theorem ah_clen (n0 m g : Nat) (T : TypeId) (hs : List (Nat × SH)) (R : Nat → Option Nat) (X : List Value) (h : SH) (n : Int) (hh : h = .clen n) (w : World) (hn : n0 ≤ w.heap.size) (hM : MRep n0 w m T hs R X) (hr : h.rep w g) (hg : n0 ≤ g ∧ g < w.heap.size) (hl : hs.length < 4294967296) :
  Calls Tryz.prog 193 #[.pointer (some ⟨m, 0, none⟩), .iface 108 (.pointer (some ⟨g, 0, none⟩))] w (AHPost n0 m T hs R X g h w) := by
 have hv : h.v g = .iface 108 (.pointer (some ⟨g, 0, none⟩)) := by rw [hh]; rfl
 have hsl : h.slot = 7 := by rw [hh]; rfl
 have hfi : h.first = false := by rw [hh]; rfl
 obtain ⟨v, hm, hb, ho, hT⟩ := hM.at_
 have hne : 92 ≠ T := by rcases hT with rfl | rfl <;> decide
 have c0 : w.cell? ⟨m, 0, none⟩ = some v := blk_cell hb 0
 have HM := hid (And.intro hM hT)
 have HB := hid (And.intro hb hne)
 have HO := hid ho
 have HR := hid hr
 have HG := hid hg
 have HN := hid hn
 have HL := hid hl
 have HV := hid (And.intro hv (And.intro hsl hfi))
 clear hM hT hb hne ho hr hg hn hl hv hsl hfi hh hm
 have a0 := fun v w => ta_no (T := 108) (U := 102) (by decide) (by decide) v 92 w
 have a1 := fun v w => ta_no (T := 108) (U := 110) (by decide) (by decide) v 92 w
 have a2 := fun v w => ta_no (T := 108) (U := 111) (by decide) (by decide) v 92 w
 go_enter Tryz.func193, Tryz.ntmps193
 go_wp2_with (at_builtin; refine app_one n0 rfl _ _ 101 92 .nilIface 1 16 rfl Tryz.underlying101 hdr_info rfl (by decide) (by decide) v hs.length _ [.iface 108 (.pointer (some ⟨g, 0, none⟩))] (0, 0) rfl rfl rfl (by simp [Value.oneCell']) HO.out HN.out (by have := HL.out; omega) ?_)
 intro v1 w2 ho1 hgr
 obtain ⟨A1, k1, rfl⟩ := own_slice ho1
 have hb2 := (hgr.block m (heap_lt HB.out.1) (own_ne_block HO.out HB.out.1 HB.out.2)).trans HB.out.1
 rw [← HV.out.1] at ho1
 obtain ⟨hb3, hM3, hK3⟩ := HM.out.1.put g h HR.out HG.out HN.out HB.out.1 HO.out ho1 hgr
 have d0 : w2.cell? ⟨m, 0, none⟩ = some v := blk_cell hb2 0
 have f0 : w2.frozen? ⟨m, 0, none⟩ = false := blk_frozen hb2 0
 have hse := sethref_any m g h _ T _ hb3 (by simp [mcells])
 rw [HV.out.1] at hse
 simp only [HV.out.2.1, show ¬ ((7 : Nat) = 0) from by decide, if_false] at hse
 have HS := hid hse
 have HM3 := hid (And.intro hM3 hK3)
 clear hb3 hM3 hK3 hgr ho1 hb2 hse
 go_wp2_with (go_at_call 224; refine HS.out.mono ?_; rintro e w4 ⟨rfl, rfl⟩)
 go_end0
 obtain ⟨r1, r2⟩ := HM3.out.1.ref g h
 rw [HV.out.2.1, if_neg (by decide)] at r1 r2
 refine ⟨rfl, ?_, HM3.out.2.trans r2⟩
 unfold addRef
 rw [if_neg (by rw [HV.out.2.2]; simp)]
 exact r1
theorem ah_cseq (n0 m g : Nat) (T : TypeId) (hs : List (Nat × SH)) (R : Nat → Option Nat) (X : List Value) (h : SH) (n : Int) (s : ByteArray) (hh : h = .cseq n s) (w : World) (hn : n0 ≤ w.heap.size) (hM : MRep n0 w m T hs R X) (hr : h.rep w g) (hg : n0 ≤ g ∧ g < w.heap.size) (hl : hs.length < 4294967296) :
  Calls Tryz.prog 193 #[.pointer (some ⟨m, 0, none⟩), .iface 107 (.pointer (some ⟨g, 0, none⟩))] w (AHPost n0 m T hs R X g h w) := by
 have hv : h.v g = .iface 107 (.pointer (some ⟨g, 0, none⟩)) := by rw [hh]; rfl
 have hsl : h.slot = 6 := by rw [hh]; rfl
 have hfi : h.first = false := by rw [hh]; rfl
 obtain ⟨v, hm, hb, ho, hT⟩ := hM.at_
 have hne : 92 ≠ T := by rcases hT with rfl | rfl <;> decide
 have c0 : w.cell? ⟨m, 0, none⟩ = some v := blk_cell hb 0
 have HM := hid (And.intro hM hT)
 have HB := hid (And.intro hb hne)
 have HO := hid ho
 have HR := hid hr
 have HG := hid hg
 have HN := hid hn
 have HL := hid hl
 have HV := hid (And.intro hv (And.intro hsl hfi))
 clear hM hT hb hne ho hr hg hn hl hv hsl hfi hh hm
 have a0 := fun v w => ta_no (T := 107) (U := 102) (by decide) (by decide) v 92 w
 have a1 := fun v w => ta_no (T := 107) (U := 110) (by decide) (by decide) v 92 w
 have a2 := fun v w => ta_no (T := 107) (U := 111) (by decide) (by decide) v 92 w
 go_enter Tryz.func193, Tryz.ntmps193
 go_wp2_with (at_builtin; refine app_one n0 rfl _ _ 101 92 .nilIface 1 16 rfl Tryz.underlying101 hdr_info rfl (by decide) (by decide) v hs.length _ [.iface 107 (.pointer (some ⟨g, 0, none⟩))] (0, 0) rfl rfl rfl (by simp [Value.oneCell']) HO.out HN.out (by have := HL.out; omega) ?_)
 intro v1 w2 ho1 hgr
 obtain ⟨A1, k1, rfl⟩ := own_slice ho1
 have hb2 := (hgr.block m (heap_lt HB.out.1) (own_ne_block HO.out HB.out.1 HB.out.2)).trans HB.out.1
 rw [← HV.out.1] at ho1
 obtain ⟨hb3, hM3, hK3⟩ := HM.out.1.put g h HR.out HG.out HN.out HB.out.1 HO.out ho1 hgr
 have d0 : w2.cell? ⟨m, 0, none⟩ = some v := blk_cell hb2 0
 have f0 : w2.frozen? ⟨m, 0, none⟩ = false := blk_frozen hb2 0
 have hse := sethref_any m g h _ T _ hb3 (by simp [mcells])
 rw [HV.out.1] at hse
 simp only [HV.out.2.1, show ¬ ((6 : Nat) = 0) from by decide, if_false] at hse
 have HS := hid hse
 have HM3 := hid (And.intro hM3 hK3)
 clear hb3 hM3 hK3 hgr ho1 hb2 hse
 go_wp2_with (go_at_call 224; refine HS.out.mono ?_; rintro e w4 ⟨rfl, rfl⟩)
 go_end0
 obtain ⟨r1, r2⟩ := HM3.out.1.ref g h
 rw [HV.out.2.1, if_neg (by decide)] at r1 r2
 refine ⟨rfl, ?_, HM3.out.2.trans r2⟩
 unfold addRef
 rw [if_neg (by rw [HV.out.2.2]; simp)]
 exact r1
theorem ah_route (n0 m g : Nat) (T : TypeId) (hs : List (Nat × SH)) (R : Nat → Option Nat) (X : List Value) (h : SH) (u : SUri) (hh : h = .route u) (w : World) (hn : n0 ≤ w.heap.size) (hM : MRep n0 w m T hs R X) (hr : h.rep w g) (hg : n0 ≤ g ∧ g < w.heap.size) (hl : hs.length < 4294967296) :
  Calls Tryz.prog 193 #[.pointer (some ⟨m, 0, none⟩), .iface 110 (.pointer (some ⟨g, 0, none⟩))] w (AHPost n0 m T hs R X g h w) := by
 have hv : h.v g = .iface 110 (.pointer (some ⟨g, 0, none⟩)) := by rw [hh]; rfl
 have hsl : h.slot = 9 := by rw [hh]; rfl
 have hfi : h.first = true := by rw [hh]; rfl
 obtain ⟨v, hm, hb, ho, hT⟩ := hM.at_
 have hne : 92 ≠ T := by rcases hT with rfl | rfl <;> decide
 have c0 : w.cell? ⟨m, 0, none⟩ = some v := blk_cell hb 0
 have HM := hid (And.intro hM hT)
 have HB := hid (And.intro hb hne)
 have HO := hid ho
 have HR := hid hr
 have HG := hid hg
 have HN := hid hn
 have HL := hid hl
 have HV := hid (And.intro hv (And.intro hsl hfi))
 clear hM hT hb hne ho hr hg hn hl hv hsl hfi hh hm
 have a0 := fun v w => ta_no (T := 110) (U := 102) (by decide) (by decide) v 92 w
 have a1 := fun v w => ta_yes (U := 110) (by decide) v 92 w
 have a2 := fun v w => ta_no (T := 110) (U := 111) (by decide) (by decide) v 92 w
 go_enter Tryz.func193, Tryz.ntmps193
 go_wp2_with (at_builtin; refine app_one n0 rfl _ _ 101 92 .nilIface 1 16 rfl Tryz.underlying101 hdr_info rfl (by decide) (by decide) v hs.length _ [.iface 110 (.pointer (some ⟨g, 0, none⟩))] (0, 0) rfl rfl rfl (by simp [Value.oneCell']) HO.out HN.out (by have := HL.out; omega) ?_)
 intro v1 w2 ho1 hgr
 obtain ⟨A1, k1, rfl⟩ := own_slice ho1
 have hb2 := (hgr.block m (heap_lt HB.out.1) (own_ne_block HO.out HB.out.1 HB.out.2)).trans HB.out.1
 rw [← HV.out.1] at ho1
 obtain ⟨hb3, hM3, hK3⟩ := HM.out.1.put g h HR.out HG.out HN.out HB.out.1 HO.out ho1 hgr
 have d0 : w2.cell? ⟨m, 0, none⟩ = some v := blk_cell hb2 0
 have f0 : w2.frozen? ⟨m, 0, none⟩ = false := blk_frozen hb2 0
 have d9 : w2.cell? ⟨m, 9, none⟩ = some (refV (R 9)) := blk_cell hb2 9
 have f9 : w2.frozen? ⟨m, 9, none⟩ = false := blk_frozen hb2 9
 have HB3 := hid hb3
 have HM3 := hid (And.intro hM3 hK3)
 clear hb3 hM3 hK3 hgr ho1 hb2
 obtain ⟨r, hr⟩ : ∃ r, r = R 9 := ⟨_, rfl⟩
 rw [← hr] at d9
 have HRJ := hid hr
 clear hr
 cases r with
 | none =>
  simp only [refV, Option.map_none] at d9
  go_wp2
  go_end0
  obtain ⟨r1, r2⟩ := HM3.out.1.ref g h
  rw [HV.out.2.1, if_neg (by decide)] at r1 r2
  refine ⟨rfl, ?_, HM3.out.2.trans r2⟩
  unfold addRef
  rw [if_neg (by rw [HV.out.2.1, ← HRJ.out]; simp)]
  exact r1
 | some q =>
  simp only [refV, Option.map_some] at d9
  go_wp2
  go_end0
  refine ⟨rfl, ?_, HM3.out.2⟩
  unfold addRef
  rw [if_pos ⟨HV.out.2.2, by rw [HV.out.2.1, ← HRJ.out]; simp⟩]
  exact HM3.out.1
theorem ah_rroute (n0 m g : Nat) (T : TypeId) (hs : List (Nat × SH)) (R : Nat → Option Nat) (X : List Value) (h : SH) (u : SUri) (hh : h = .rroute u) (w : World) (hn : n0 ≤ w.heap.size) (hM : MRep n0 w m T hs R X) (hr : h.rep w g) (hg : n0 ≤ g ∧ g < w.heap.size) (hl : hs.length < 4294967296) :
  Calls Tryz.prog 193 #[.pointer (some ⟨m, 0, none⟩), .iface 111 (.pointer (some ⟨g, 0, none⟩))] w (AHPost n0 m T hs R X g h w) := by
 have hv : h.v g = .iface 111 (.pointer (some ⟨g, 0, none⟩)) := by rw [hh]; rfl
 have hsl : h.slot = 10 := by rw [hh]; rfl
 have hfi : h.first = true := by rw [hh]; rfl
 obtain ⟨v, hm, hb, ho, hT⟩ := hM.at_
 have hne : 92 ≠ T := by rcases hT with rfl | rfl <;> decide
 have c0 : w.cell? ⟨m, 0, none⟩ = some v := blk_cell hb 0
 have HM := hid (And.intro hM hT)
 have HB := hid (And.intro hb hne)
 have HO := hid ho
 have HR := hid hr
 have HG := hid hg
 have HN := hid hn
 have HL := hid hl
 have HV := hid (And.intro hv (And.intro hsl hfi))
 clear hM hT hb hne ho hr hg hn hl hv hsl hfi hh hm
 have a0 := fun v w => ta_no (T := 111) (U := 102) (by decide) (by decide) v 92 w
 have a1 := fun v w => ta_no (T := 111) (U := 110) (by decide) (by decide) v 92 w
 have a2 := fun v w => ta_yes (U := 111) (by decide) v 92 w
 go_enter Tryz.func193, Tryz.ntmps193
 go_wp2_with (at_builtin; refine app_one n0 rfl _ _ 101 92 .nilIface 1 16 rfl Tryz.underlying101 hdr_info rfl (by decide) (by decide) v hs.length _ [.iface 111 (.pointer (some ⟨g, 0, none⟩))] (0, 0) rfl rfl rfl (by simp [Value.oneCell']) HO.out HN.out (by have := HL.out; omega) ?_)
 intro v1 w2 ho1 hgr
 obtain ⟨A1, k1, rfl⟩ := own_slice ho1
 have hb2 := (hgr.block m (heap_lt HB.out.1) (own_ne_block HO.out HB.out.1 HB.out.2)).trans HB.out.1
 rw [← HV.out.1] at ho1
 obtain ⟨hb3, hM3, hK3⟩ := HM.out.1.put g h HR.out HG.out HN.out HB.out.1 HO.out ho1 hgr
 have d0 : w2.cell? ⟨m, 0, none⟩ = some v := blk_cell hb2 0
 have f0 : w2.frozen? ⟨m, 0, none⟩ = false := blk_frozen hb2 0
 have d10 : w2.cell? ⟨m, 10, none⟩ = some (refV (R 10)) := blk_cell hb2 10
 have f10 : w2.frozen? ⟨m, 10, none⟩ = false := blk_frozen hb2 10
 have HB3 := hid hb3
 have HM3 := hid (And.intro hM3 hK3)
 clear hb3 hM3 hK3 hgr ho1 hb2
 obtain ⟨r, hr⟩ : ∃ r, r = R 10 := ⟨_, rfl⟩
 rw [← hr] at d10
 have HRJ := hid hr
 clear hr
 cases r with
 | none =>
  simp only [refV, Option.map_none] at d10
  go_wp2
  go_end0
  obtain ⟨r1, r2⟩ := HM3.out.1.ref g h
  rw [HV.out.2.1, if_neg (by decide)] at r1 r2
  refine ⟨rfl, ?_, HM3.out.2.trans r2⟩
  unfold addRef
  rw [if_neg (by rw [HV.out.2.1, ← HRJ.out]; simp)]
  exact r1
 | some q =>
  simp only [refV, Option.map_some] at d10
  go_wp2
  go_end0
  refine ⟨rfl, ?_, HM3.out.2⟩
  unfold addRef
  rw [if_pos ⟨HV.out.2.2, by rw [HV.out.2.1, ← HRJ.out]; simp⟩]
  exact HM3.out.1
theorem ah_referto (n0 m g : Nat) (T : TypeId) (hs : List (Nat × SH)) (R : Nat → Option Nat) (X : List Value) (h : SH) (u : SUri) (hh : h = .referto u) (w : World) (hn : n0 ≤ w.heap.size) (hM : MRep n0 w m T hs R X) (hr : h.rep w g) (hg : n0 ≤ g ∧ g < w.heap.size) (hl : hs.length < 4294967296) :
  Calls Tryz.prog 193 #[.pointer (some ⟨m, 0, none⟩), .iface 182 (.pointer (some ⟨g, 0, none⟩))] w (AHPost n0 m T hs R X g h w) := by
 have hv : h.v g = .iface 182 (.pointer (some ⟨g, 0, none⟩)) := by rw [hh]; rfl
 have hsl : h.slot = 0 := by rw [hh]; rfl
 have hfi : h.first = false := by rw [hh]; rfl
 obtain ⟨v, hm, hb, ho, hT⟩ := hM.at_
 have hne : 92 ≠ T := by rcases hT with rfl | rfl <;> decide
 have c0 : w.cell? ⟨m, 0, none⟩ = some v := blk_cell hb 0
 have HM := hid (And.intro hM hT)
 have HB := hid (And.intro hb hne)
 have HO := hid ho
 have HR := hid hr
 have HG := hid hg
 have HN := hid hn
 have HL := hid hl
 have HV := hid (And.intro hv (And.intro hsl hfi))
 clear hM hT hb hne ho hr hg hn hl hv hsl hfi hh hm
 have a0 := fun v w => ta_no (T := 182) (U := 102) (by decide) (by decide) v 92 w
 have a1 := fun v w => ta_no (T := 182) (U := 110) (by decide) (by decide) v 92 w
 have a2 := fun v w => ta_no (T := 182) (U := 111) (by decide) (by decide) v 92 w
 go_enter Tryz.func193, Tryz.ntmps193
 go_wp2_with (at_builtin; refine app_one n0 rfl _ _ 101 92 .nilIface 1 16 rfl Tryz.underlying101 hdr_info rfl (by decide) (by decide) v hs.length _ [.iface 182 (.pointer (some ⟨g, 0, none⟩))] (0, 0) rfl rfl rfl (by simp [Value.oneCell']) HO.out HN.out (by have := HL.out; omega) ?_)
 intro v1 w2 ho1 hgr
 obtain ⟨A1, k1, rfl⟩ := own_slice ho1
 have hb2 := (hgr.block m (heap_lt HB.out.1) (own_ne_block HO.out HB.out.1 HB.out.2)).trans HB.out.1
 rw [← HV.out.1] at ho1
 obtain ⟨hb3, hM3, hK3⟩ := HM.out.1.put g h HR.out HG.out HN.out HB.out.1 HO.out ho1 hgr
 have d0 : w2.cell? ⟨m, 0, none⟩ = some v := blk_cell hb2 0
 have f0 : w2.frozen? ⟨m, 0, none⟩ = false := blk_frozen hb2 0
 have hse := sethref_any m g h _ T _ hb3 (by simp [mcells])
 rw [HV.out.1] at hse
 simp only [HV.out.2.1, if_true] at hse
 have HS := hid hse
 have HM3 := hid (And.intro hM3 hK3)
 clear hb3 hM3 hK3 hgr ho1 hb2 hse
 go_wp2_with (go_at_call 224; refine HS.out.mono ?_; rintro e w4 ⟨rfl, rfl⟩)
 go_end0
 obtain ⟨r1, r2⟩ := HM3.out.1.ref g h
 rw [HV.out.2.1, if_pos rfl] at r1 r2
 refine ⟨rfl, ?_, HM3.out.2.trans r2⟩
 unfold addRef
 rw [if_neg (by rw [HV.out.2.2]; simp)]
 exact r1
theorem ah_generic (n0 m g : Nat) (T : TypeId) (hs : List (Nat × SH)) (R : Nat → Option Nat) (X : List Value) (h : SH) (n s : ByteArray) (hh : h = .generic n s) (w : World) (hn : n0 ≤ w.heap.size) (hM : MRep n0 w m T hs R X) (hr : h.rep w g) (hg : n0 ≤ g ∧ g < w.heap.size) (hl : hs.length < 4294967296) :
  Calls Tryz.prog 193 #[.pointer (some ⟨m, 0, none⟩), .iface 186 (.pointer (some ⟨g, 0, none⟩))] w (AHPost n0 m T hs R X g h w) := by
 have hv : h.v g = .iface 186 (.pointer (some ⟨g, 0, none⟩)) := by rw [hh]; rfl
 have hsl : h.slot = 0 := by rw [hh]; rfl
 have hfi : h.first = false := by rw [hh]; rfl
 obtain ⟨v, hm, hb, ho, hT⟩ := hM.at_
 have hne : 92 ≠ T := by rcases hT with rfl | rfl <;> decide
 have c0 : w.cell? ⟨m, 0, none⟩ = some v := blk_cell hb 0
 have HM := hid (And.intro hM hT)
 have HB := hid (And.intro hb hne)
 have HO := hid ho
 have HR := hid hr
 have HG := hid hg
 have HN := hid hn
 have HL := hid hl
 have HV := hid (And.intro hv (And.intro hsl hfi))
 clear hM hT hb hne ho hr hg hn hl hv hsl hfi hh hm
 have a0 := fun v w => ta_no (T := 186) (U := 102) (by decide) (by decide) v 92 w
 have a1 := fun v w => ta_no (T := 186) (U := 110) (by decide) (by decide) v 92 w
 have a2 := fun v w => ta_no (T := 186) (U := 111) (by decide) (by decide) v 92 w
 go_enter Tryz.func193, Tryz.ntmps193
 go_wp2_with (at_builtin; refine app_one n0 rfl _ _ 101 92 .nilIface 1 16 rfl Tryz.underlying101 hdr_info rfl (by decide) (by decide) v hs.length _ [.iface 186 (.pointer (some ⟨g, 0, none⟩))] (0, 0) rfl rfl rfl (by simp [Value.oneCell']) HO.out HN.out (by have := HL.out; omega) ?_)
 intro v1 w2 ho1 hgr
 obtain ⟨A1, k1, rfl⟩ := own_slice ho1
 have hb2 := (hgr.block m (heap_lt HB.out.1) (own_ne_block HO.out HB.out.1 HB.out.2)).trans HB.out.1
 rw [← HV.out.1] at ho1
 obtain ⟨hb3, hM3, hK3⟩ := HM.out.1.put g h HR.out HG.out HN.out HB.out.1 HO.out ho1 hgr
 have d0 : w2.cell? ⟨m, 0, none⟩ = some v := blk_cell hb2 0
 have f0 : w2.frozen? ⟨m, 0, none⟩ = false := blk_frozen hb2 0
 have hse := sethref_any m g h _ T _ hb3 (by simp [mcells])
 rw [HV.out.1] at hse
 simp only [HV.out.2.1, if_true] at hse
 have HS := hid hse
 have HM3 := hid (And.intro hM3 hK3)
 clear hb3 hM3 hK3 hgr ho1 hb2 hse
 go_wp2_with (go_at_call 224; refine HS.out.mono ?_; rintro e w4 ⟨rfl, rfl⟩)
 go_end0
 obtain ⟨r1, r2⟩ := HM3.out.1.ref g h
 rw [HV.out.2.1, if_pos rfl] at r1 r2
 refine ⟨rfl, ?_, HM3.out.2.trans r2⟩
 unfold addRef
 rw [if_neg (by rw [HV.out.2.2]; simp)]
 exact r1
theorem ah_any (n0 m g : Nat) (T : TypeId) (hs : List (Nat × SH)) (R : Nat → Option Nat) (X : List Value) (h : SH) (w : World) (hn : n0 ≤ w.heap.size) (hM : MRep n0 w m T hs R X) (hr : h.rep w g) (hg : n0 ≤ g ∧ g < w.heap.size) (hl : hs.length < 4294967296) :
  Calls Tryz.prog 193 #[.pointer (some ⟨m, 0, none⟩), h.v g] w (AHPost n0 m T hs R X g h w) := by
 cases h with
 | to_ x y z => exact ah_to_ n0 m g T hs R X _ x y z rfl w hn hM hr hg hl
 | from_ x y z => exact ah_from_ n0 m g T hs R X _ x y z rfl w hn hM hr hg hl
 | refby x y z => exact ah_refby n0 m g T hs R X _ x y z rfl w hn hM hr hg hl
 | contact x y z => exact ah_contact n0 m g T hs R X _ x y z rfl w hn hM hr hg hl
 | via x => exact ah_via n0 m g T hs R X _ x rfl w hn hM hr hg hl
 | callid x => exact ah_callid n0 m g T hs R X _ x rfl w hn hM hr hg hl
 | ctype x => exact ah_ctype n0 m g T hs R X _ x rfl w hn hM hr hg hl
 | maxf x => exact ah_maxf n0 m g T hs R X _ x rfl w hn hM hr hg hl
 | expires x => exact ah_expires n0 m g T hs R X _ x rfl w hn hM hr hg hl
 | clen x => exact ah_clen n0 m g T hs R X _ x rfl w hn hM hr hg hl
 | cseq x y => exact ah_cseq n0 m g T hs R X _ x y rfl w hn hM hr hg hl
 | route x => exact ah_route n0 m g T hs R X _ x rfl w hn hM hr hg hl
 | rroute x => exact ah_rroute n0 m g T hs R X _ x rfl w hn hM hr hg hl
 | referto x => exact ah_referto n0 m g T hs R X _ x rfl w hn hM hr hg hl
 | generic x y => exact ah_generic n0 m g T hs R X _ x y rfl w hn hM hr hg hl
def ten0 : Array Value := #[.nilIface, .nilIface, .nilIface, .nilIface, .nilIface, .nilIface, .nilIface, .nilIface, .nilIface, .nilIface]
theorem made_ten : madeCells Value.nilIface.cells (Int.toNat 10 * 1) = ten0 := by kernel_rfl
theorem make_order (w : World) : Sem.run Tryz.prog (Instr.makeSlice 101 (.int .i64 0) (.int .i64 10)) w = .ok (.slice (some ⟨w.heap.size, 0, none⟩) 0 10) (w.alloc (.cells ten0 92)) := by
 obtain ⟨i, hi, hzz⟩ := Option.map_eq_some_iff.1 hdr_info
 simp only [Prod.mk.injEq] at hzz
 obtain ⟨hz, hs, hb⟩ := hzz
 have hr := run_make (P := Tryz.prog) w 101 92 i .nilIface Tryz.underlying101 hi hz .i64 .i64 0 10 (by omega) (by omega) (by rw [hb]; decide) (by decide)
 rw [hs, made_ten] at hr
 exact hr
def sip2 : ByteArray := ⟨#[83, 73, 80, 47, 50, 46, 48]⟩
def msgX (body : Value) : List Value := [.bool false, .string sip2, body, .string ⟨#[]⟩, .string ⟨#[]⟩, .string ⟨#[]⟩]
def uriV (u : SUri) (vp vh : Value) : List Value := [.string u.scheme, .string u.raw, .bool u.star, .bool u.slashes, .string u.user, .string u.pass, .string u.host, .int .i64 u.port, vp, vh]
def UVal (w : World) (v : Value) (u : SUri) : Prop := ∃ vp vh, v = .agg (uriV u vp vh).toArray ∧ PRep w vp u.params ∧ PRep w vh u.hdrs
theorem UVal.below {w w' : World} {v : Value} {u : SUri} (h : UVal w v u) (hb : Below w.heap.size w w') : UVal w' v u := by
 obtain ⟨vp, vh, h1, h2, h3⟩ := h
 exact ⟨vp, vh, h1, h2.below hb, h3.below hb⟩
theorem PRep.put {w : World} {v : Value} {l : KVs} (h : PRep w v l) {B : Nat} {cs : Array Value} {t : TypeId} {fz : Nat × Nat} (hB : w.heap[B]? = some (.cells cs t fz)) (ht : t ≠ 177) (i : Nat) (x : Value) : PRep (w.setCell ⟨B, i, none⟩ x) v l := by
 rcases h with h | ⟨g, cap, cs', h1, h2, h2', h3, h4⟩
 ·exact .inl h
 ·refine .inr ⟨g, cap, cs', h1, h2, h2', ?_, h4⟩
  rw [Below.heap_setCell]
  ·exact h3
  ·rintro rfl
   rw [h3] at hB
   injection hB with hB
   injection hB with _ hB _
   exact ht hB.symm
theorem mrep_new (w : World) (n0 m : Nat) (hm : m = w.heap.size) (hn : n0 ≤ w.heap.size) (T : TypeId) (hT : T = 121 ∨ T = 118) (X : List Value) (cs : Array Value) (hcs : cs = mcells (.slice (some ⟨m + 1, 0, none⟩) 0 10) (fun _ => none) X) :
  MRep n0 ((w.alloc (.cells cs T)).alloc (.cells ten0 92)) m T [] (fun _ => none) X := by
 subst hcs
 subst hm
 refine ⟨⟨.slice (some ⟨w.heap.size + 1, 0, none⟩) 0 10, hn, ?_, ?_, hT⟩, fun p hp => absurd hp (by simp), fun p hp => absurd hp (by simp)⟩
 ·rw [Below.heap_alloc _ _ _ (by simp)]
  exact heap_alloc_new w _
 ·have := World.ownsRow_made (w.alloc (.cells (mcells (.slice (some ⟨w.heap.size + 1, 0, none⟩) 0 10) (fun _ => none) X) T)) (base := n0) (e := 92) (size := 1) ten0 10 (by simp; omega) (by decide) (by decide)
  simpa using this
theorem newres_any (code : Int) (reason : ByteArray) (w : World) :
  Calls Tryz.prog 62 #[.int .i64 code, .string reason] w fun e w' => e = .returned (.pointer (some ⟨w.heap.size, 0, none⟩)) ∧
   MRep w.heap.size w' w.heap.size 118 [] (fun _ => none) (msgX (.slice none 0 0) ++ [.string reason, .int .i64 code]) ∧ Below w.heap.size w w' := by
 have q2 := make_order
 go_enter Tryz.func62, Tryz.ntmps62
 go_wp2
 go_ret
 exact ⟨rfl, mrep_new w w.heap.size w.heap.size rfl (Nat.le_refl _) _ (.inr rfl) _ _ rfl, ((Below.refl _ w).alloc (Nat.le_refl _) _).alloc (by simp) _⟩
theorem PRep.cases2 {w : World} {v : Value} {l : KVs} (h : PRep w v l) : (v = .slice none 0 0 ∧ l = []) ∨ ∃ g c, v = .slice (some ⟨g, 0, none⟩) l.length c := by
 rcases h with h | ⟨g, cap, cs, h1, _⟩
 ·exact .inl h
 ·exact .inr ⟨g, cap, h1⟩
theorem box_cells {w w1 : World} {u : SUri} {vp vh : Value} (hb : w1.heap[w.heap.size]? = some (.cells (uriV u vp vh).toArray 87 (0, 0))) :
  w1.cell? ⟨w.heap.size, 0, none⟩ = some (.string u.scheme) ∧ w1.cell? ⟨w.heap.size, 1, none⟩ = some (.string u.raw) ∧ w1.cell? ⟨w.heap.size, 2, none⟩ = some (.bool u.star) ∧ w1.cell? ⟨w.heap.size, 3, none⟩ = some (.bool u.slashes) ∧ w1.cell? ⟨w.heap.size, 4, none⟩ = some (.string u.user) ∧
  w1.cell? ⟨w.heap.size, 5, none⟩ = some (.string u.pass) ∧ w1.cell? ⟨w.heap.size, 6, none⟩ = some (.string u.host) ∧ w1.cell? ⟨w.heap.size, 7, none⟩ = some (.int .i64 u.port) ∧ w1.cell? ⟨w.heap.size, 8, none⟩ = some vp ∧ w1.cell? ⟨w.heap.size, 9, none⟩ = some vh := by
 refine ⟨?_, ?_, ?_, ?_, ?_, ?_, ?_, ?_, ?_, ?_⟩ <;> rw [blk_cell hb] <;> rfl
def NRPost (method : ByteArray) (u : SUri) (w : World) (e : Ending) (w' : World) : Prop := ∃ m vp vh, e = .returned (.pointer (some ⟨m, 0, none⟩)) ∧
 MRep w.heap.size w' m 121 [] (fun _ => none) (msgX (.slice none 0 0) ++ .string method :: uriV u vp vh) ∧ PRep w' vp u.params ∧ PRep w' vh u.hdrs ∧ Below w.heap.size w w'
theorem newreq_any (method : ByteArray) (u : SUri) (v : Value) (w : World) (hv : UVal w v u) (hp : u.params.length ≤ 1073741824) (hh : u.hdrs.length ≤ 1073741824) :
  Calls Tryz.prog 63 #[.string method, v] w (NRPost method u w) := by
 obtain ⟨vp, vh, rfl, h1, h2⟩ := hv
 have q2 := make_order
 have q1 := fun (w : World) (a : Option Addr) (n c : Nat) => run_neq_slice_nil_any (P := Tryz.prog) w 85 177 a n c 0 0 Tryz.underlying85
 have HB0 := hid (((Below.refl w.heap.size w).alloc (Nat.le_refl _) (.cells (uriV u vp vh).toArray 87)))
 have H1 := hid (h1.below HB0.out)
 have H2 := hid (h2.below HB0.out)
 have HP := hid (And.intro hp hh)
 have HX := hid (And.intro h1.cases2 h2.cases2)
 clear h1 h2 hp hh
 simp only [uriV] at *
 rcases HX.out.1 with ⟨rfl, hpe⟩ | ⟨g1, c1, rfl⟩
 ·rcases HX.out.2 with ⟨rfl, hhe⟩ | ⟨g2, c2, rfl⟩
  ·have HE := hid (And.intro hpe hhe)
   clear hpe hhe
   go_enter Tryz.func63, Tryz.ntmps63
   go_wp2
   go_ret
   refine ⟨_, .slice none 0 0, .slice none 0 0, rfl, mrep_new _ w.heap.size _ ?_ ?_ _ (.inl rfl) _ _ ?_, .inl ⟨rfl, HE.out.1⟩, .inl ⟨rfl, HE.out.2⟩, ?_⟩
   ·simp
   ·simp
   ·rfl
   ·exact (HB0.out.alloc (by simp) _).alloc (by simp; omega) _
  ·have HE := hid hpe
   clear hpe
   go_enter Tryz.func63, Tryz.ntmps63
   go_wp2_with fail
   refine (hclone_any _ u.hdrs _ H2.out HP.out.2).mono ?_
   rintro e w1 ⟨v2, rfl, hr2, hb2⟩
   have hbx := (hb2.block w.heap.size (by simp)).trans (heap_alloc_new w _)
   obtain ⟨d0, d1, d2, d3, d4, d5, d6, d7, d8, d9⟩ := box_cells (u := u) hbx
   have f9 : w1.frozen? ⟨w.heap.size, 9, none⟩ = false := blk_frozen hbx 9
   have HR2 := hid (hr2.put (i := 9) (x := v2) hbx (by decide))
   have HS := hid (show w.heap.size ≤ w1.heap.size from Nat.le_trans (by simp) hb2.size)
   have HB2 := hid (HB0.out.trans (hb2.mono (by simp)))
   have hlt1 : w.heap.size < w1.heap.size := Nat.lt_of_lt_of_le (by simp) hb2.size
   have hlt2 : w.heap.size < w1.heap.size + 1 := Nat.lt_succ_of_lt hlt1
   clear hr2 hbx hb2
   rcases HR2.out.cases2 with ⟨rfl, hv2⟩ | ⟨g3, c3, rfl⟩
   all_goals
    (go_wp2
     go_ret
     refine ⟨_, .slice none 0 0, _, rfl, mrep_new _ w.heap.size _ ?_ ?_ _ (.inl rfl) _ _ ?_, .inl ⟨rfl, HE.out⟩, (HR2.out.below (((Below.refl _ _).alloc (Nat.le_refl _) _).alloc (by simp) _)), ?_⟩
     ·simp [World.setCell]
     ·simpa [World.setCell] using HS.out
     ·rfl
     ·exact ((HB2.out.setCell (p := ⟨w.heap.size, 9, none⟩) (Nat.le_refl _) _).alloc (by simpa [World.setCell] using HS.out) _).alloc (by simp [World.setCell]; have := HS.out; omega) _)
 ·go_enter Tryz.func63, Tryz.ntmps63
  go_wp2_with fail
  refine (hclone_any _ u.params _ H1.out HP.out.1).mono ?_
  rintro e w1 ⟨v2, rfl, hr2, hb2⟩
  have hbx := (hb2.block w.heap.size (by simp)).trans (heap_alloc_new w _)
  obtain ⟨d0, d1, d2, d3, d4, d5, d6, d7, d8, d9⟩ := box_cells (u := u) hbx
  have f8 : w1.frozen? ⟨w.heap.size, 8, none⟩ = false := blk_frozen hbx 8
  have hr4 := (H2.out.below hb2).put (i := 8) (x := v2) hbx (by decide)
  have hbx2 := blk_set hbx 8 v2
  have HR2 := hid (And.intro (hr2.put (i := 8) (x := v2) hbx (by decide)) (And.intro hr4 hbx2))
  have hlt1 : w.heap.size < w1.heap.size := Nat.lt_of_lt_of_le (by simp) hb2.size
  have hlt2 : w.heap.size < w1.heap.size + 1 := Nat.lt_succ_of_lt hlt1
  have HS := hid (Nat.le_of_lt hlt1)
  have HB2 := hid ((HB0.out.trans (hb2.mono (by simp))).setCell (p := ⟨w.heap.size, 8, none⟩) (Nat.le_refl _) v2)
  clear hr2 hbx hb2 hr4 hbx2
  rcases HX.out.2 with ⟨rfl, hhe⟩ | ⟨g2, c2, rfl⟩
  ·have HE := hid hhe
   clear hhe
   rcases HR2.out.1.cases2 with ⟨rfl, hv2⟩ | ⟨g3, c3, rfl⟩
   all_goals
    (go_wp2
     go_ret
     refine ⟨_, _, .slice none 0 0, rfl, mrep_new _ w.heap.size _ ?_ ?_ _ (.inl rfl) _ _ ?_, (HR2.out.1.below (((Below.refl _ _).alloc (Nat.le_refl _) _).alloc (by simp) _)), .inl ⟨rfl, HE.out⟩, ?_⟩
     ·simp [World.setCell]
     ·simpa [World.setCell] using HS.out
     ·rfl
     ·exact (HB2.out.alloc (by simpa [World.setCell] using HS.out) _).alloc (by simp [World.setCell]; have := HS.out; omega) _)
  ·have HS2 := hid (show w.heap.size ≤ (w1.setCell ⟨w.heap.size, 8, none⟩ v2).heap.size by simpa [World.setCell] using HS.out)
   obtain ⟨v3, hv3⟩ : ∃ v3, v3 = v2 := ⟨_, rfl⟩
   rcases HR2.out.1.cases2 with ⟨rfl, hv2⟩ | ⟨g3, c3, rfl⟩
   all_goals
    (subst hv3
     go_wp2_with fail
     refine (hclone_any _ u.hdrs _ HR2.out.2.1 HP.out.2).mono ?_
     rintro e w3 ⟨v4, rfl, hr3, hb3⟩
     have hbx := (hb3.block w.heap.size (by simpa [World.setCell] using hlt1)).trans HR2.out.2.2
     obtain ⟨d0, d1, d2, d3, d4, d5, d6, d7, d8, d9⟩ := box_cells (u := u) hbx
     have f9 : w3.frozen? ⟨w.heap.size, 9, none⟩ = false := blk_frozen hbx 9
     have HR5 := hid (hr3.put (i := 9) (x := v4) hbx (by decide))
     have HR6 := hid ((HR2.out.1.below hb3).put (i := 9) (x := v4) hbx (by decide))
     have hlt3 : w.heap.size < w3.heap.size := Nat.lt_of_lt_of_le (by simpa [World.setCell] using hlt1) hb3.size
     have hlt4 : w.heap.size < w3.heap.size + 1 := Nat.lt_succ_of_lt hlt3
     have HS3 := hid (Nat.le_of_lt hlt3)
     have HB3 := hid ((HB2.out.trans (hb3.mono HS2.out)).setCell (p := ⟨w.heap.size, 9, none⟩) (Nat.le_refl _) v4)
     clear hr3 hbx hb3 hlt1 hlt2
     obtain ⟨v5, hv5⟩ : ∃ v5, v5 = v4 := ⟨_, rfl⟩
     rcases HR5.out.cases2 with ⟨rfl, hv6⟩ | ⟨g5, c5, rfl⟩
     all_goals
      (subst hv5
       go_wp2
       go_ret
       refine ⟨_, _, _, rfl, mrep_new _ w.heap.size _ ?_ ?_ _ (.inl rfl) _ _ ?_, (HR6.out.below (((Below.refl _ _).alloc (Nat.le_refl _) _).alloc (by simp) _)), (HR5.out.below (((Below.refl _ _).alloc (Nat.le_refl _) _).alloc (by simp) _)), ?_⟩
       ·simp [World.setCell]
       ·simpa [World.setCell] using HS3.out
       ·rfl
       ·exact (HB3.out.alloc (by simpa [World.setCell] using HS3.out) _).alloc (by simp [World.setCell]; have := HS3.out; omega) _))
