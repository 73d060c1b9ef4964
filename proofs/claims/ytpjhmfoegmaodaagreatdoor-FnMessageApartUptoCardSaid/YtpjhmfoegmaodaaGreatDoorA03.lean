import Derived.Test.YtpjhmfoegmaodaaGreatDoorA02
import Derived.Deep.DeepCutAuto
import Derived.Lib.AppendIntMem
set_option maxRecDepth 100000
set_option maxHeartbeats 16000000
set_option linter.all false
namespace Go.Proofs.YtpjhmfoegmaodaaGreatDoor
section
open Go.Lib (hid)
open Go.RowKit
def WrPost (n0 b : Nat) (bs t : Bytes) (w : World) (e : Ending) (w' : World) : Prop := e = .returned (.tuple #[]) ∧ BW n0 b (bs ++ t) w' ∧ WK n0 b w w'
abbrev bptr (b : Nat) : Value := .iface 132 (.pointer (some ⟨b, 0, none⟩))
theorem sep59 (w : World) : (convert 5 9 (.int .u8 (59 : UInt8).toNat)).run Tryz.prog w = .ok (.string ⟨#[59]⟩) w := by kernel_rfl
theorem ptsw_any (n0 b : Nat) (bs : Bytes) (sep : UInt8) (hss : ∀ w, (convert 5 9 (.int .u8 sep.toNat)).run Tryz.prog w = .ok (.string ⟨#[sep]⟩) w) (v : Value) (l : KVs) (w : World) (hB : BW n0 b bs w) (hr : PRep w v l) (ho : KVok l) (hl : bs.length + (psepT sep l).length ≤ 140737488355328) :
  Calls Tryz.prog 234 #[v, .int .u8 sep.toNat, bptr b] w (WrPost n0 b bs (paramsT sep l) w) := by
 have q1 := fun (w : World) (a : Option Addr) (n c : Nat) => Lib.run_eql_slice_nil (P := Tryz.prog) w 72 159 a n c 0 0 Tryz.underlying72
 have hna := ws_nilAhead
 have hme := ws_method
 rcases hr with ⟨rfl, rfl⟩ | ⟨g, cap, cs, rfl, h2, h2', h3, h4⟩
 ·go_enter Tryz.func234, Tryz.ntmps234
  go_wp2
  go_end0
  exact ⟨rfl, by simpa [paramsT, psepT] using hB, WK.refl _ _ _⟩
 ·have hg := heap_lt h3
  by_cases h0 : l.length = 0
  ·have : l = [] := List.eq_nil_of_length_eq_zero h0
   subst this
   go_enter Tryz.func234, Tryz.ntmps234
   go_wp2
   go_end0
   exact ⟨rfl, by simpa [paramsT, psepT] using hB, WK.refl _ _ _⟩
  ·have hm : l.length ≤ 9223372036854775807 := by omega
   have hz : ((l.length : Int) == 0) = false := by rw [beq_eq_false_iff_ne]; omega
   have H4 := hid h4
   have H3 := hid h3
   have HO := hid ho
   have HB := hid hB
   have hgb := hB.ne_blk h3 (by decide)
   clear h4 h3 ho hB
   go_enter Tryz.func234, Tryz.ntmps234
   go_wp2_with fail
   go_loopw [7, 9, 21] (fun c _ i wr => ∃ k : Nat, k ≤ l.length ∧ i = .int .i64 k ∧ c = .int .i64 k ∧ BW n0 b (bs ++ paramsT sep (l.take k)) wr ∧ WK n0 b w wr) (fun _ _ i _ => l.length - (intOf i).toNat)
   case atStart => exact ⟨0, Nat.zero_le _, rfl, rfl, by simpa [psepT, paramsT] using HB.out, WK.refl _ _ _⟩
   case round =>
    obtain ⟨k, hk, rfl, rfl, hB, hbw⟩ := hrel
    obtain ⟨wo, rfl⟩ : ∃ wo : World, wo = wr := ⟨_, rfl⟩
    have hBW := hid hB
    have hBL := hid hbw
    have h3' : wo.heap[g]? = some (.cells cs 159 (0, 0)) := hbw.blk H3.out hgb (by decide)
    clear hB hbw
    by_cases hlt : k < l.length
    ·obtain ⟨p1, p2⟩ := H4.out k hlt
     have c1 : wo.cell? ⟨g, k * 2, none⟩ = some (.string l[k].1) := by simp [World.cell?, h3', p1]
     have c2 : wo.cell? ⟨g, k * 2 + 1, none⟩ = some (.string l[k].2) := by simp [World.cell?, h3', p2]
     clear h3'
     have hkv : (kvT l[k]).length = l[k].1.data.toList.length + (if l[k].2.data.toList = [] then 0 else 1 + l[k].2.data.toList.length) := by
      unfold kvT
      split <;> simp <;> omega
     have e1 : l[k].1.size = l[k].1.data.toList.length := (Array.length_toList).symm
     have e2 : l[k].2.size = l[k].2.data.toList.length := (Array.length_toList).symm
     have HE := hid (And.intro hkv (And.intro e1 e2))
     clear hkv e1 e2
     have hnw : wo.heap.size ≠ b := by have := hBW.out.lt; omega
     have hne := hnw
     clear hnw
     have hn0 : n0 ≤ wo.heap.size := by have := hBW.out.lt; omega
     have hpre : (paramsT sep (l.take k)).length + 1 + (kvT l[k]).length ≤ (psepT sep l).length := by
      have := psepT_le sep l (k + 1)
      rw [take_step l k hlt, psepT_snoc, List.length_append, List.length_cons] at this
      unfold paramsT
      rw [List.length_drop]
      omega
     by_cases hk0 : k = 0
     ·have ht0 : paramsT sep (l.take k) = [] := by subst hk0; rfl
      have HT := hid ht0
      have hfin : ∀ (W : World), BW n0 b (bs ++ kvT l[k]) W → BW n0 b (bs ++ paramsT sep (l.take (k + 1))) W := by
       intro W hW
       rw [take_step l k hlt]
       unfold paramsT
       rw [psepT_snoc]
       subst hk0
       simpa [psepT] using hW
      have HL1 := hid (show bs.length + (kvT l[k]).length ≤ 140737488355328 by omega)
      have HB1 : Hid (BW n0 b bs (wo.alloc (.cells #[.string l[k].1, .string l[k].2] 159))) := hid (by have := hBW.out; rw [ht0, List.append_nil] at this; exact this.below ((Below.refl _ _).alloc (Nat.le_refl _) _))
      have HK1 : Hid (WK n0 b wo (wo.alloc (.cells #[.string l[k].1, .string l[k].2] 159))) := hid (WK.of_below ((Below.refl _ _).alloc (Nat.le_refl _) _) hn0)
      have Hb1 := hid (heap_alloc_new wo (.cells #[.string l[k].1, .string l[k].2] 159))
      have x1 := trivial
      have hk0' : ¬ (0 : Int) < k := by omega
      have HF := hid hfin
      clear hfin
      clear ht0 hpre hk0
      go_wp2_with fail
      refine (ws_any n0 b _ _ _ HB1.out (by have := HE.out; have := HL1.out; omega)).mono ?_
      rintro e w2 ⟨rfl, hB2, hk2⟩
      have b2 := hk2.blk Hb1.out hne (by decide)
      have x2 : w2.cell? ⟨wo.heap.size, 1, none⟩ = some (.string l[k].2) := by simp [World.cell?, b2]
      have HB2 := hid hB2
      have HK2 := hid (HK1.out.trans hk2)
      have Hb2 := hid b2
      clear hB2 hk2 b2 x1
      by_cases hv : l[k].2.data.toList = []
      ·have hv' := se_nil' hv
       have HV := hid hv
       clear hv
       go_wp2_with fail
       go_roundw
       case rel => exact ⟨k + 1, by omega, by go_num, by go_num, HF.out _ (by have := HB2.out; unfold kvT; rw [if_pos HV.out]; simpa using this), hBL.out.trans HK2.out⟩
       case measure => simp [intOf]; omega
      ·have hv' := se_cons' hv
       have HV := hid hv
       clear hv
       go_wp2_with fail
       have hE := HE.out
       rw [if_neg HV.out] at hE
       have HE2 := hid hE
       clear hE
       refine (cany_any _ _ (HO.out _ (by simp))).mono ?_
       rintro e w3 ⟨rfl, hb3⟩
       have b3 := (hb3.block _ (heap_lt Hb2.out)).trans Hb2.out
       have HB3 := hid (HB2.out.below hb3)
       have HK3 := hid (HK2.out.trans (WK.of_below hb3 (Nat.le_trans HB2.out.lt.1 (Nat.le_of_lt HB2.out.lt.2))))
       have Hb3 := hid b3
       clear hb3 b3 x2
       go_wp2_with fail
       refine (ws_any n0 b _ _ _ HB3.out (by have := HE2.out; have := HL1.out; show _ + 1 ≤ _; simp only [List.length_append] at *; omega)).mono ?_
       rintro e w4 ⟨rfl, hB4, hk4⟩
       have b4 := hk4.blk Hb3.out hne (by decide)
       have x4 : w4.cell? ⟨wo.heap.size, 1, none⟩ = some (.string l[k].2) := by simp [World.cell?, b4]
       have HB4 := hid hB4
       have HK4 := hid (HK3.out.trans hk4)
       clear hB4 hk4 b4
       go_wp2_with fail
       refine (ws_any n0 b _ _ _ HB4.out (by have := HE2.out; have := HL1.out; simp only [List.length_append, List.length_cons, List.length_nil] at *; omega)).mono ?_
       rintro e w5 ⟨rfl, hB5, hk5⟩
       have HB5 := hid hB5
       have HK5 := hid (HK4.out.trans hk5)
       clear hB5 hk5
       go_wp2_with fail
       go_roundw
       case rel => exact ⟨k + 1, by omega, by go_num, by go_num, HF.out _ (by have := HB5.out; unfold kvT; rw [if_neg HV.out]; simpa using this), hBL.out.trans HK5.out⟩
       case measure => simp [intOf]; omega
     ·have hgt2 : (0 : Int) < k := by omega
      have hfin : ∀ (W : World), BW n0 b (bs ++ paramsT sep (l.take k) ++ [sep] ++ kvT l[k]) W → BW n0 b (bs ++ paramsT sep (l.take (k + 1))) W := by
       intro W hW
       have hd : paramsT sep (l.take (k + 1)) = paramsT sep (l.take k) ++ [sep] ++ kvT l[k] := by
        rw [take_step l k hlt]
        unfold paramsT
        rw [psepT_snoc, List.drop_append_of_le_length]
        ·simp
        ·cases l with
         | nil => exact absurd rfl h0
         | cons a r =>
          cases k with
          | zero => exact absurd rfl hk0
          | succ k => simp [psepT]
       rw [hd]
       simpa using hW
      have HL0 := hid (show bs.length + ((paramsT sep (l.take k)).length + 1 + (kvT l[k]).length) ≤ 140737488355328 by omega)
      have HB0 : Hid (BW n0 b (bs ++ paramsT sep (l.take k)) (wo.alloc (.cells #[.string l[k].1, .string l[k].2] 159))) := hid (hBW.out.below ((Below.refl _ _).alloc (Nat.le_refl _) _))
      have HK0 : Hid (WK n0 b wo (wo.alloc (.cells #[.string l[k].1, .string l[k].2] 159))) := hid (WK.of_below ((Below.refl _ _).alloc (Nat.le_refl _) _) hn0)
      have Hb0 := hid (heap_alloc_new wo (.cells #[.string l[k].1, .string l[k].2] 159))
      have HF := hid hfin
      clear hpre hk0 hfin
      go_wp2_with fail
      refine (ws_any n0 b _ _ _ HB0.out (by have := HL0.out; show _ + 1 ≤ _; simp only [List.length_append]; omega)).mono ?_
      rintro e w1 ⟨rfl, hB1, hk1⟩
      have b1 := hk1.blk Hb0.out hne (by decide)
      have x1 : w1.cell? ⟨wo.heap.size, 0, none⟩ = some (.string l[k].1) := by simp [World.cell?, b1]
      have HB1 := hid hB1
      have HK1 := hid (HK0.out.trans hk1)
      have Hb1 := hid b1
      have HL1 := hid (show (bs ++ paramsT sep (l.take k) ++ [sep]).length + (kvT l[k]).length ≤ 140737488355328 by have := HL0.out; simp only [List.length_append, List.length_singleton]; omega)
      clear hB1 hk1 b1
      go_wp2_with fail
      refine (ws_any n0 b _ _ _ HB1.out (by have := HE.out; have := HL1.out; omega)).mono ?_
      rintro e w2 ⟨rfl, hB2, hk2⟩
      have b2 := hk2.blk Hb1.out hne (by decide)
      have x2 : w2.cell? ⟨wo.heap.size, 1, none⟩ = some (.string l[k].2) := by simp [World.cell?, b2]
      have HB2 := hid hB2
      have HK2 := hid (HK1.out.trans hk2)
      have Hb2 := hid b2
      clear hB2 hk2 b2 x1
      by_cases hv : l[k].2.data.toList = []
      ·have hv' := se_nil' hv
       have HV := hid hv
       clear hv
       go_wp2_with fail
       go_roundw
       case rel => exact ⟨k + 1, by omega, by go_num, by go_num, HF.out _ (by have := HB2.out; unfold kvT; rw [if_pos HV.out]; simpa using this), hBL.out.trans HK2.out⟩
       case measure => simp [intOf]; omega
      ·have hv' := se_cons' hv
       have HV := hid hv
       clear hv
       go_wp2_with fail
       have hE := HE.out
       rw [if_neg HV.out] at hE
       have HE2 := hid hE
       clear hE
       refine (cany_any _ _ (HO.out _ (by simp))).mono ?_
       rintro e w3 ⟨rfl, hb3⟩
       have b3 := (hb3.block _ (heap_lt Hb2.out)).trans Hb2.out
       have HB3 := hid (HB2.out.below hb3)
       have HK3 := hid (HK2.out.trans (WK.of_below hb3 (Nat.le_trans HB2.out.lt.1 (Nat.le_of_lt HB2.out.lt.2))))
       have Hb3 := hid b3
       clear hb3 b3 x2
       go_wp2_with fail
       refine (ws_any n0 b _ _ _ HB3.out (by have := HE2.out; have := HL1.out; show _ + 1 ≤ _; simp only [List.length_append] at *; omega)).mono ?_
       rintro e w4 ⟨rfl, hB4, hk4⟩
       have b4 := hk4.blk Hb3.out hne (by decide)
       have x4 : w4.cell? ⟨wo.heap.size, 1, none⟩ = some (.string l[k].2) := by simp [World.cell?, b4]
       have HB4 := hid hB4
       have HK4 := hid (HK3.out.trans hk4)
       clear hB4 hk4 b4
       go_wp2_with fail
       refine (ws_any n0 b _ _ _ HB4.out (by have := HE2.out; have := HL1.out; simp only [List.length_append, List.length_cons, List.length_nil] at *; omega)).mono ?_
       rintro e w5 ⟨rfl, hB5, hk5⟩
       have HB5 := hid hB5
       have HK5 := hid (HK4.out.trans hk5)
       clear hB5 hk5
       go_wp2_with fail
       go_roundw
       case rel => exact ⟨k + 1, by omega, by go_num, by go_num, HF.out _ (by have := HB5.out; unfold kvT; rw [if_neg HV.out]; simpa using this), hBL.out.trans HK5.out⟩
       case measure => simp [intOf]; omega
    ·clear h3'
     go_wp2
     go_end0
     have hke : k = l.length := by omega
     subst hke
     have := hBW.out
     rw [List.take_length] at this
     exact ⟨rfl, this, hBL.out⟩
end
section
open Go.Lib (hid)
open Go.RowKit Go.Lib Go.Sort
structure SUri where
 scheme : ByteArray
 raw : ByteArray
 star : Bool
 slashes : Bool
 user : ByteArray
 pass : ByteArray
 host : ByteArray
 port : Int
 params : KVs
 hdrs : KVs
def portT (n : Int) : Bytes := if 0 < n then 58 :: Lib.itoa n else []
def userT (u : SUri) : Bytes := if u.user.data.toList = [] then [] else u.user.data.toList ++ (if u.pass.data.toList = [] then [] else 58 :: u.pass.data.toList) ++ [64]
def tailT (c sep : UInt8) (l : KVs) : Bytes := if l = [] then [] else c :: paramsT sep l
def uriT (u : SUri) : Bytes := u.scheme.data.toList ++ [58] ++
 (if u.raw.data.toList = [] then userT u ++ u.host.data.toList ++ portT u.port ++ tailT 59 59 u.params ++ tailT 63 38 u.hdrs else u.raw.data.toList)
structure UOk (u : SUri) : Prop where
 scheme : u.scheme.data.toList ≠ []
 slashes : u.slashes = false
 host : u.raw.data.toList = [] → HostB u.host
 port : -9223372036854775808 ≤ u.port ∧ u.port ≤ 9223372036854775807
 params : u.raw.data.toList = [] → KVok u.params
 hdrs : u.raw.data.toList = [] → KVok u.hdrs
def UCells (w : World) (cs : Nat → Option Value) (u : SUri) : Prop := cs 0 = some (.string u.scheme) ∧ cs 1 = some (.string u.raw) ∧ cs 2 = some (.bool u.star) ∧ cs 3 = some (.bool u.slashes) ∧ cs 4 = some (.string u.user) ∧
 cs 5 = some (.string u.pass) ∧ cs 6 = some (.string u.host) ∧ cs 7 = some (.int .i64 u.port) ∧ ∃ vp vh, cs 8 = some vp ∧ cs 9 = some vh ∧ PRep w vp u.params ∧ PRep w vh u.hdrs
def UriAt (w : World) (g o : Nat) (u : SUri) : Prop := ∃ cs t fz, w.heap[g]? = some (.cells cs t fz) ∧ t ≠ 5 ∧ t ≠ 134 ∧ UCells w (fun i => cs[o + i]?) u
theorem UriAt.keep {n0 b : Nat} {bs : Bytes} {w w' : World} {g o : Nat} {u : SUri} (h : UriAt w g o u) (hB : BW n0 b bs w) (hk : WK n0 b w w') : UriAt w' g o u := by
 obtain ⟨cs, t, fz, h1, h2, h3, c0, c1, c2, c3, c4, c5, c6, c7, vp, vh, c8, c9, p1, p2⟩ := h
 exact ⟨cs, t, fz, hk.blk h1 (hB.ne_blk h1 h3) h2, h2, h3, c0, c1, c2, c3, c4, c5, c6, c7, vp, vh, c8, c9, p1.keep hB hk, p2.keep hB hk⟩
theorem UriAt.below {w w' : World} {g o : Nat} {u : SUri} (h : UriAt w g o u) (hb : Below w.heap.size w w') : UriAt w' g o u := by
 obtain ⟨cs, t, fz, h1, h2, h3, c0, c1, c2, c3, c4, c5, c6, c7, vp, vh, c8, c9, p1, p2⟩ := h
 exact ⟨cs, t, fz, (hb.block g (heap_lt h1)).trans h1, h2, h3, c0, c1, c2, c3, c4, c5, c6, c7, vp, vh, c8, c9, p1.below hb, p2.below hb⟩
theorem UriAt.cells {w : World} {g o : Nat} {u : SUri} (h : UriAt w g o u) : w.cell? ⟨g, o, none⟩ = some (.string u.scheme) ∧ w.cell? ⟨g, o + 1, none⟩ = some (.string u.raw) ∧ w.cell? ⟨g, o + 2, none⟩ = some (.bool u.star) ∧
  w.cell? ⟨g, o + 3, none⟩ = some (.bool u.slashes) ∧ w.cell? ⟨g, o + 4, none⟩ = some (.string u.user) ∧ w.cell? ⟨g, o + 5, none⟩ = some (.string u.pass) ∧ w.cell? ⟨g, o + 6, none⟩ = some (.string u.host) ∧ w.cell? ⟨g, o + 7, none⟩ = some (.int .i64 u.port) ∧
  ∃ vp vh, w.cell? ⟨g, o + 8, none⟩ = some vp ∧ w.cell? ⟨g, o + 9, none⟩ = some vh ∧ PRep w vp u.params ∧ PRep w vh u.hdrs := by
 obtain ⟨cs, t, fz, h1, h2, h3, c0, c1, c2, c3, c4, c5, c6, c7, vp, vh, c8, c9, p1, p2⟩ := h
 have hc : ∀ j, w.cell? ⟨g, j, none⟩ = cs[j]? := fun j => by simp [World.cell?, h1]
 simp only [hc]
 exact ⟨c0, c1, c2, c3, c4, c5, c6, c7, vp, vh, c8, c9, p1, p2⟩
theorem UriAt.cellKeep {n0 b : Nat} {bs : Bytes} {w w' : World} {g o : Nat} {u : SUri} (h : UriAt w g o u) (hB : BW n0 b bs w) (hk : WK n0 b w w') {j : Nat} {v : Value} (hc : w.cell? ⟨g, j, none⟩ = some v) : w'.cell? ⟨g, j, none⟩ = some v := by
 obtain ⟨cs, t, fz, h1, h2, h3, _⟩ := h
 have h4 := hk.blk h1 (hB.ne_blk h1 h3) h2
 simp only [World.cell?, h1] at hc
 simp only [World.cell?, h4]
 exact hc
theorem itoa_any (n : Int) (h0 : -9223372036854775808 ≤ n) (h1 : n ≤ 9223372036854775807) (w : World) (hG : G0 w) :
  Calls Tryz.prog 85 #[.int .i64 n] w fun e w' => e = .returned (.string ⟨(Lib.itoa n).toArray⟩) ∧ Below w.heap.size w w' := by
 refine (Tryz.strconv_Itoa n h0 h1 w hG.pow10).mono ?_
 rintro e w' ⟨rfl, k, os, rfl⟩
 exact ⟨rfl, below_grow _ _ (Nat.le_refl _) _ _⟩
theorem PRep.slice {w : World} {v : Value} {l : KVs} (h : PRep w v l) : ∃ A c, v = .slice A l.length c ∧ l.length ≤ 9223372036854775807 ∧ (A = none → l = []) := by
 rcases h with ⟨rfl, rfl⟩ | ⟨g, cap, cs, rfl, h2, h2', h3, h4⟩
 ·exact ⟨none, 0, rfl, by simp, fun _ => rfl⟩
 ·exact ⟨_, cap, rfl, by omega, fun h => by cases h⟩
theorem urisw_raw (n0 b : Nat) (bs : Bytes) (g o : Nat) (u : SUri) (w : World) (hB : BW n0 b bs w) (hu : UriAt w g o u) (ho : UOk u) (hraw : u.raw.data.toList ≠ []) (hl : bs.length + (uriT u).length ≤ 140737488355328) :
  Calls Tryz.prog 76 #[.pointer (some ⟨g, o, none⟩), bptr b] w (WrPost n0 b bs (uriT u) w) := by
 have hT : uriT u = u.scheme.data.toList ++ [58] ++ u.raw.data.toList := by unfold uriT; rw [if_neg hraw]
 rw [hT] at hl ⊢
 have e0 : u.scheme.size = u.scheme.data.toList.length := (Array.length_toList).symm
 have e1 : u.raw.size = u.raw.data.toList.length := (Array.length_toList).symm
 simp only [List.length_append, List.length_singleton] at hl
 have HL := hid (And.intro hl (And.intro e0 e1))
 clear hl e0 e1 hT
 have hs1 := se_cons' ho.scheme
 have hr1 := se_cons hraw
 have hna := ws_nilAhead
 have hme := ws_method
 obtain ⟨c0, c1, _⟩ := hu.cells
 have HU := hid hu
 have HB := hid hB
 clear hu hB ho hraw
 go_enter Tryz.func76, Tryz.ntmps76
 go_wp2_with fail
 refine (ws_any n0 b _ _ _ HB.out (by have := HL.out; omega)).mono ?_
 rintro e w1 ⟨rfl, hB1, hk1⟩
 have HB1 := hid hB1
 have HK1 := hid hk1
 clear hB1 hk1 c0 c1
 go_wp2_with fail
 refine (ws_any n0 b _ _ _ HB1.out (by have := HL.out; show _ + 1 ≤ _; simp only [List.length_append]; omega)).mono ?_
 rintro e w2 ⟨rfl, hB2, hk2⟩
 have HB2 := hid hB2
 have HK2 := hid (HK1.out.trans hk2)
 have HU2 := hid (HU.out.keep HB.out HK2.out)
 obtain ⟨_, c1, _⟩ := HU2.out.cells
 clear hB2 hk2
 go_wp2_with fail
 refine stail 8 (by kernel_rfl) (by kernel_rfl) ?_
 simp only [List.take_succ_cons, List.take_zero, List.drop_succ_cons, List.drop_zero]
 repeat still_step
 refine wpStill_nil ?_
 go_wp2_with fail
 refine (ws_any n0 b _ _ _ HB2.out.drew (by have := HL.out; show _ ≤ _; simp only [List.length_append, List.length_cons, List.length_nil]; omega)).mono ?_
 rintro e w3 ⟨rfl, hB3, hk3⟩
 go_wp2_with fail
 go_end0
 exact ⟨rfl, by simpa using hB3, (HK2.out.drew).trans hk3⟩
def uriV (u : SUri) (vp vh : Value) : List Value := [.string u.scheme, .string u.raw, .bool u.star, .bool u.slashes, .string u.user, .string u.pass, .string u.host, .int .i64 u.port, vp, vh]
end
