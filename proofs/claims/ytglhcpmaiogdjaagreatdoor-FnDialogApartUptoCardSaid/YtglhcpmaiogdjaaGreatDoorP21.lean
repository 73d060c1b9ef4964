import Derived.Test.YtglhcpmaiogdjaaGreatDoorP20
set_option maxRecDepth 100000
set_option maxHeartbeats 16000000
set_option linter.all false
namespace Go.Proofs.YtglhcpmaiogdjaaGreatDoor
open Go.Lib (hid)
open Go.RowKit
def HSeq (w : World) (m : Nat) (hs : List (Nat × SH)) : Prop := ∃ A cap, w.cell? ⟨m, 0, none⟩ = some (.slice A hs.length cap) ∧ (∀ i (h : i < hs.length), ∃ bo, A = some ⟨bo, 0, none⟩ ∧ w.cell? ⟨bo, i, none⟩ = some (hs[i].2.v hs[i].1)) ∧
 (∀ p ∈ hs, p.2.rep w p.1 ∧ p.2.nm.length ≤ 70368744177664) ∧ hs.length ≤ 4294967296
def isNm (nm : Bytes) (p : Nat × SH) : Bool := lowT p.2.nm == nm
def hfind (hs : List (Nat × SH)) (nm : Bytes) : Value := ((hs.find? (isNm nm)).map fun p => p.2.v p.1).getD .nilIface
theorem find_drop {hs : List (Nat × SH)} {nm : Bytes} {k : Nat} (h : ∀ i (hi : i < hs.length), i < k → isNm nm hs[i] = false) : hs.find? (isNm nm) = (hs.drop k).find? (isNm nm) := by
 induction k generalizing hs with
 | zero => simp
 | succ k ih =>
  cases hs with
  | nil => simp
  | cons a r =>
   have h0 := h 0 (by simp) (by omega)
   simp only [List.getElem_cons_zero] at h0
   rw [List.find?_cons_of_neg (by simp [h0]), List.drop_succ_cons]
   exact ih (fun i hi hk => h (i + 1) (by simpa using hi) (by omega))
theorem HSeq.below {w w' : World} {m : Nat} {hs : List (Nat × SH)} (h : HSeq w m hs) (hb : Below w.heap.size w w') : HSeq w' m hs := by
 obtain ⟨A, cap, h1, h2, h3, h4⟩ := h
 refine ⟨A, cap, cell_below hb h1, fun i hi => ?_, fun p hp => ⟨SH.rep_below (h3 p hp).1 hb, (h3 p hp).2⟩, h4⟩
 obtain ⟨bo, e, hc⟩ := h2 i hi
 exact ⟨bo, e, cell_below hb hc⟩
theorem geth_any (m : Nat) (hs : List (Nat × SH)) (nm : ByteArray) (w : World) (hA : HSeq w m hs) :
  Calls Tryz.prog 239 #[.pointer (some ⟨m, 0, none⟩), .string nm] w fun e w' => e = .returned (hfind hs nm.data.toList) ∧ Below w.heap.size w w' := by
 have HA := hid hA
 obtain ⟨A, cap, c0, hel, hrep, hlen⟩ := hA
 have HE := hid hel
 have HR := hid hrep
 have HLN := hid hlen
 have hlen2 : hs.length ≤ 9223372036854775807 := by omega
 clear hel hrep hlen
 go_enter Tryz.func239, Tryz.ntmps239
 go_wp2_with fail
 go_loopw [6, 12] (fun _ i wr => ∃ k : Nat, k ≤ hs.length ∧ i = .int .i64 k ∧ (∀ j (hj : j < hs.length), j < k → isNm nm.data.toList hs[j] = false) ∧ Below w.heap.size w wr) (fun _ i _ => hs.length - (intOf i).toNat)
 case atStart => exact ⟨0, Nat.zero_le _, rfl, fun j _ h => absurd h (by omega), Below.refl _ _⟩
 case round =>
  obtain ⟨k, hk, rfl, hno, hb⟩ := hrel
  obtain ⟨wo, rfl⟩ : ∃ wo : World, wo = wr := ⟨_, rfl⟩
  have HNO := hid hno
  have HB := hid hb
  have HK := hid hk
  clear hno hb hk c0
  by_cases hlt : k < hs.length
  ·obtain ⟨bo, rfl, hc⟩ := HE.out k hlt
   have hc1 := cell_below HB.out hc
   unfold SH.v at hc1
   have hr := SH.rep_below (HR.out _ (List.getElem_mem hlt)).1 HB.out
   obtain ⟨f1, r1, nm1, en1, na1, me1, hnm, hcall⟩ := disp_name hs[k].2 hs[k].1 wo hr
   have HC1 := hid hcall
   have hlow := hlow_any nm1 wo (by rw [dl nm1, hnm]; exact (HR.out _ (List.getElem_mem hlt)).2)
   have HLOW := hid hlow
   have HNM := hid hnm
   have HLT := hid (Nat.succ_le_of_lt hlt)
   clear hc hr hcall hlow hnm
   go_wp2_with fail
   refine HC1.out.mono ?_
   rintro e w1 ⟨rfl, rfl⟩
   go_wp2_with fail
   refine HLOW.out.mono ?_
   rintro e w2 ⟨rfl, hb2⟩
   have HB2 := hid (HB.out.trans (hb2.mono HB.out.size))
   clear hb2
   by_cases hm : lowT nm1.data.toList = nm.data.toList
   ·have hte : (lowT nm1.data.toList == nm.toList) = true := by rw [ba_list]; simp [hm]
    have HM := hid hm
    clear hm
    go_wp2
    go_ret
    refine ⟨?_, HB2.out⟩
    have hfi : hs.find? (isNm nm.data.toList) = some hs[k] := by
     rw [find_drop HNO.out, List.drop_eq_getElem_cons hlt]
     exact List.find?_cons_of_pos (by simp [isNm, ← HNM.out, HM.out])
    rw [hfind, hfi]
    rfl
   ·have hte : (lowT nm1.data.toList == nm.toList) = false := by rw [ba_list]; simp [hm]
    have HM := hid hm
    clear hm
    go_wp2
    go_roundw
    case rel =>
     refine ⟨k + 1, HLT.out, by simp, fun j hj hjk => ?_, HB2.out⟩
     by_cases hjl : j < k
     ·exact HNO.out j hj hjl
     ·obtain rfl : j = k := by omega
      simp [isNm, ← HNM.out, HM.out]
    case measure => exact meas_step HLT.out (by simp)
  ·have HNL := hid hlt
   go_wp2
   go_ret
   refine ⟨?_, HB.out⟩
   have hfi : hs.find? (isNm nm.data.toList) = none := by
    rw [find_drop HNO.out, List.drop_eq_nil_of_le (by have := HNL.out; omega)]
    rfl
   rw [hfind, hfi]
   rfl
def nmCL : Bytes := [99, 111, 110, 116, 101, 110, 116, 45, 108, 101, 110, 103, 116, 104]
def noCL (hs : List (Nat × SH)) : Prop := ∀ p ∈ hs, lowT p.2.nm ≠ nmCL ∧ lowT p.2.nm ≠ [108]
theorem hfind_none {hs : List (Nat × SH)} {nm : Bytes} (h : ∀ p ∈ hs, lowT p.2.nm ≠ nm) : hfind hs nm = .nilIface := by
 unfold hfind
 rw [List.find?_eq_none.2 (fun p hp => by simpa [isNm] using h p hp)]
 rfl
theorem lazy_none (m bo : Nat) (x y : Value) (hs : List (Nat × SH)) (w : World) (hA : HSeq w m hs) (hno : noCL hs) (h0 : w.cell? ⟨bo, 0, none⟩ = some (.string ⟨nmCL.toArray⟩)) (h1 : w.cell? ⟨bo, 1, none⟩ = some (.string ⟨#[108]⟩)) :
  Calls Tryz.prog 231 #[.pointer (some ⟨m, 0, none⟩), x, .slice (some ⟨bo, 0, none⟩) 2 2, y] w fun e w' => e = .returned (.bool false) ∧ Below w.heap.size w w' := by
 have HA := hid hA
 have HNO := hid hno
 have HC := hid (And.intro h0 h1)
 clear hA hno h0 h1
 go_enter Tryz.func231, Tryz.ntmps231
 go_wp2_with fail
 go_loopw [10, 11, 15] (fun _ _ i wr => ∃ k : Nat, k ≤ 2 ∧ i = .int .i64 k ∧ Below w.heap.size w wr) (fun _ _ i _ => 2 - (intOf i).toNat)
 case atStart => exact ⟨0, Nat.zero_le _, rfl, Below.refl _ _⟩
 case round =>
  obtain ⟨k, hk, rfl, hb⟩ := hrel
  have HB := hid hb
  obtain ⟨wo, rfl⟩ : ∃ wo : World, wo = wr := ⟨_, rfl⟩
  clear hb
  rcases (show k = 0 ∨ k = 1 ∨ k = 2 by omega) with rfl | rfl | rfl
  ·have c0 := cell_below HB.out HC.out.1
   have hg := geth_any m hs ⟨nmCL.toArray⟩ wo (HA.out.below HB.out)
   rw [hfind_none (fun p hp => (HNO.out p hp).1)] at hg
   have HG := hid hg
   clear hg
   go_wp2_with fail
   refine HG.out.mono ?_
   rintro e w1 ⟨rfl, hb1⟩
   have HB1 := hid (HB.out.trans (hb1.mono HB.out.size))
   clear hb1
   go_wp2
   go_roundw
   case rel => exact ⟨1, by omega, rfl, HB1.out⟩
   case measure => simp [intOf]
  ·have c1 := cell_below HB.out HC.out.2
   have hg := geth_any m hs ⟨#[108]⟩ wo (HA.out.below HB.out)
   rw [hfind_none (fun p hp => (HNO.out p hp).2)] at hg
   have HG := hid hg
   clear hg
   go_wp2_with fail
   refine HG.out.mono ?_
   rintro e w1 ⟨rfl, hb1⟩
   have HB1 := hid (HB.out.trans (hb1.mono HB.out.size))
   clear hb1
   go_wp2
   go_roundw
   case rel => exact ⟨2, by omega, rfl, HB1.out⟩
   case measure => simp [intOf]
  ·go_wp2
   go_ret
   exact ⟨rfl, HB.out⟩
theorem clget_none (m : Nat) (hs : List (Nat × SH)) (w : World) (hA : HSeq w m hs) (hno : noCL hs) (h7 : w.cell? ⟨m, 7, none⟩ = some (.pointer none)) :
  Calls Tryz.prog 199 #[.pointer (some ⟨m, 0, none⟩)] w fun e w' => e = .returned (.pointer none) ∧ Below w.heap.size w w' := by
 have HA := hid hA
 have HNO := hid hno
 have H7 := hid h7
 clear hA hno
 go_enter Tryz.func199, Tryz.ntmps199
 go_wp2_with fail
 have hb2 : Below w.heap.size w ((w.alloc (.cells #[.int .u32 0] 142)).alloc (.cells #[.string ⟨nmCL.toArray⟩, .string ⟨#[108]⟩] 9)) := ((Below.refl _ w).alloc (Nat.le_refl _) _).alloc (by simp) _
 refine (lazy_none m (w.heap.size + 1) _ _ hs _ (HA.out.below hb2) HNO.out ?_ ?_).mono ?_
 ·have := Lib.cell_of_heap (heap_alloc_new (w.alloc (.cells #[.int .u32 0] 142)) (.cells #[.string ⟨nmCL.toArray⟩, .string ⟨#[108]⟩] 9)) (j := 0)
  first | exact this | simp
 ·have := Lib.cell_of_heap (heap_alloc_new (w.alloc (.cells #[.int .u32 0] 142)) (.cells #[.string ⟨nmCL.toArray⟩, .string ⟨#[108]⟩] 9)) (j := 1)
  first | exact this | simp
 ·rintro e w1 ⟨rfl, hb⟩
  have HB := hid (hb2.trans (hb.mono hb2.size))
  have c7 := cell_below HB.out H7.out
  clear hb hb2 h7
  go_wp2
  go_ret
  exact ⟨rfl, HB.out⟩
theorem MRep.hseq {n0 m : Nat} {T : TypeId} {hs : List (Nat × SH)} {R : Nat → Option Nat} {X : List Value} {w : World} (hM : MRep n0 w m T hs R X) (hnm : ∀ p ∈ hs, p.2.nm.length ≤ 70368744177664) (hl : hs.length ≤ 4294967296) : HSeq w m hs := by
 obtain ⟨v, hm, hb, ho, hT⟩ := hM.at_
 rcases ho.2 with ⟨rfl, h0⟩ | ⟨g, cap, cur, rfl, _, hg, _, _, _, ht⟩
 ·obtain rfl := List.length_eq_zero_iff.1 h0
  exact ⟨none, 0, blk_cell hb 0, fun i hi => absurd hi (by simp), fun p hp => absurd hp (by simp), by simp⟩
 ·refine ⟨some ⟨g, 0, none⟩, cap, blk_cell hb 0, fun i hi => ⟨g, rfl, ?_⟩, fun p hp => ⟨hM.reps p hp, hnm p hp⟩, hl⟩
  rw [blk_cell hg]
  have h1 : (hs.map fun p => p.2.v p.1)[i]? = some (hs[i].2.v hs[i].1) := by simp [hi]
  rw [← ht, List.getElem?_take_of_lt (by omega)] at h1
  simpa using h1
theorem MRep.setBody {n0 m : Nat} {T : TypeId} {hs : List (Nat × SH)} {R : Nat → Option Nat} {X : List Value} {w : World} (hM : MRep n0 w m T hs R X) (u : Value) : MRep n0 (w.setCell ⟨m, 14, none⟩ u) m T hs R (X.set 2 u) ∧ MK n0 m w (w.setCell ⟨m, 14, none⟩ u) := by
 obtain ⟨v, hm, hb, ho, hT⟩ := hM.at_
 have hne : 92 ≠ T := by rcases hT with rfl | rfl <;> decide
 have hMK : MK n0 m w (w.setCell ⟨m, 14, none⟩ u) := ⟨(Below.refl _ _).setCell (p := ⟨m, 14, none⟩) hm _, (Lib.OthersKept.refl _ _ w).setCell ⟨m, 14, none⟩ rfl _⟩
 have hkt := hMK.kt hb hT
 refine ⟨⟨⟨v, hm, ?_, ?_, hT⟩, fun p hp => SH.rep_kt (hM.reps p hp) hkt, fun p hp => ⟨(hM.lt p hp).1, Nat.lt_of_lt_of_le (hM.lt p hp).2 hMK.1.size⟩⟩, hMK⟩
 ·have := blk_set hb 14 u
  rw [this]
  rfl
 ·have := own_ne_block ho hb hne
  exact ho.kept (w' := w.setCell ⟨m, 14, none⟩ u) (row := some m) ⟨rfl, rfl, rfl, by simp [World.setCell], fun k hk hkm => Below.heap_setCell _ _ _ _ (fun e => hkm (by rw [e]))⟩ (.inr (Ne.symm this))
theorem setbody_any (n0 m : Nat) (T : TypeId) (hs : List (Nat × SH)) (R : Nat → Option Nat) (X : List Value) (a : Addr) (n c : Nat) (w : World) (hn : n0 ≤ w.heap.size) (hM : MRep n0 w m T hs R X) (hnm : ∀ p ∈ hs, p.2.nm.length ≤ 70368744177664) (hsl : hs.length < 4294967296) (hno : noCL hs) (h7 : R 7 = none) (hX : 2 < X.length) (hl : n < 4294967296) :
  Calls Tryz.prog 214 #[.pointer (some ⟨m, 0, none⟩), .slice (some a) n c] w fun e w' => e = .returned (.tuple #[]) ∧ MRep n0 w' m T (hs ++ [(w.heap.size, .clen n)]) (addRef R (.clen n) w.heap.size) (X.set 2 (.slice (some a) n c)) ∧ MK n0 m w w' := by
 obtain ⟨v, hm, hb, ho, hT⟩ := hM.at_
 have q1 := fun (w : World) (a : Option Addr) (n c : Nat) => Lib.run_eql_slice_nil (P := Tryz.prog) w 22 5 a n c 0 0 Tryz.underlying22
 have hlt := heap_lt hb
 have c14 : ∃ u, w.cell? ⟨m, 14, none⟩ = some u := ⟨X[2], by rw [blk_cell hb]; simp [mcells, hX]⟩
 obtain ⟨u14, c14⟩ := c14
 have f14 := blk_frozen hb 14
 obtain ⟨hM2, hK2⟩ := hM.setBody (.slice (some a) n c)
 have hsz : (w.setCell ⟨m, 14, none⟩ (.slice (some a) n c)).heap.size = w.heap.size := by simp [World.setCell]
 have hbl : Below (w.setCell ⟨m, 14, none⟩ (.slice (some a) n c)).heap.size (w.setCell ⟨m, 14, none⟩ (.slice (some a) n c)) ((w.setCell ⟨m, 14, none⟩ (.slice (some a) n c)).alloc (.cells #[.int .u32 n] 142)) := (Below.refl _ _).alloc (Nat.le_refl _) _
 have hM3 := hM2.below hbl
 have hK3 : MK n0 m w _ := hK2.trans (MK.of_below hbl (by rw [hsz]; exact hn))
 have HM := hid (And.intro hM3 hK3)
 have HQ := hid (hM3.hseq hnm (Nat.le_of_lt hsl))
 have HN := hid (And.intro hno (And.intro h7 (And.intro hsl hn)))
 have HG := hid (show HB ((w.setCell ⟨m, 14, none⟩ (.slice (some a) n c)).alloc (.cells #[.int .u32 n] 142)) w.heap.size 142 #[.int .u32 n] from ⟨by rw [← hsz]; exact heap_alloc_new _ _, by decide, by decide⟩)
 have HS := hid (show w.heap.size < ((w.setCell ⟨m, 14, none⟩ (.slice (some a) n c)).alloc (.cells #[.int .u32 n] 142)).heap.size by simp [World.setCell])
 have hlen : n ≤ 9223372036854775807 := by omega
 have hwr : IntKind.u32.wrap (n : Int) = n := by rw [IntKind.wrap_u32]; omega
 clear hM ho hT hb hl hM2 hK2 hM3 hK3 hbl hsz hno h7 hsl hn hnm
 go_enter Tryz.func214, Tryz.ntmps214
 go_wp2_with fail
 obtain ⟨v3, hm3, hb3, _⟩ := HM.out.1.at_
 have c7 := blk_cell hb3 7
 have hc7 : (mcells v3 R (X.set 2 (.slice (some a) n c)))[7]? = some (.pointer none) := by
  show some (refV (R 7)) = _
  rw [HN.out.2.1]
  rfl
 rw [hc7] at c7
 refine (clget_none m hs _ HQ.out HN.out.1 c7).mono ?_
 rintro e w4 ⟨rfl, hb4⟩
 have HM4 := hid (And.intro (HM.out.1.below hb4) (HM.out.2.trans (MK.of_below hb4 (Nat.le_trans HN.out.2.2.2 (Nat.le_of_lt HS.out)))))
 have HG4 := hid (HG.out.below hb4)
 have HS4 := hid (Nat.lt_of_lt_of_le HS.out hb4.size)
 clear hb4 hc7 c7 hb3 c14 f14
 go_wp2_with fail
 refine (ah_any n0 m w.heap.size T hs R (X.set 2 (.slice (some a) n c)) (.clen n) w4 (Nat.le_trans HN.out.2.2.2 (Nat.le_of_lt HS4.out)) HM4.out.1 HG4.out ⟨HN.out.2.2.2, HS4.out⟩ HN.out.2.2.1).mono ?_
 rintro e w5 ⟨rfl, hM5, hK5⟩
 have HF := hid (And.intro hM5 (HM4.out.2.trans hK5))
 clear hM5 hK5
 go_wp2
 go_end0
 exact ⟨rfl, HF.out.1, HF.out.2⟩
