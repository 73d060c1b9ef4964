import Derived.Test.YtpjhmfoegmaodaaGreatDoorA04
set_option maxRecDepth 100000
set_option maxHeartbeats 16000000
set_option linter.all false
namespace Go.Proofs.YtpjhmfoegmaodaaGreatDoor
open Go.Lib (hid)
open Go.RowKit
theorem urisw_any (N n0 b : Nat) (bs : Bytes) (g o : Nat) (u : SUri) (w : World) (hG : Gl N w) (hN : N ≤ n0) (hB : BW n0 b bs w) (hu : UriAt w g o u) (ho : UOk u) (hl : bs.length + (uriT u).length ≤ 140737488355328) :
  Calls Tryz.prog 76 #[.pointer (some ⟨g, o, none⟩), bptr b] w (WrPost n0 b bs (uriT u) w) := by
 by_cases hr : u.raw.data.toList = []
 ·exact urisw_sip N n0 b bs g o u w hG hN hB hu ho hr hl
 ·exact urisw_raw n0 b bs g o u w hB hu ho hr hl
theorem uristr_any (N : Nat) (g o : Nat) (u : SUri) (w : World) (hG : Gl N w) (hu : UriAt w g o u) (ho : UOk u) (hl : (uriT u).length ≤ 140737488355328) :
  Calls Tryz.prog 52 #[.pointer (some ⟨g, o, none⟩)] w (StrPost (uriT u) w) := by
 have HG := hid hG
 have HU := hid hu
 have HO := hid ho
 clear hG hu ho
 have hb0 : Below w.heap.size w (w.alloc (.cells #[.pointer none, .slice none 0 0] 134)) := (Below.refl _ _).alloc (Nat.le_refl _) _
 have HB0 := hid hb0
 clear hb0
 go_enter Tryz.func52, Tryz.ntmps52
 go_wp2_with fail
 refine (urisw_any N w.heap.size w.heap.size [] g o u _ (HG.out.step HB0.out) HG.out.le (BW.fresh w) (HU.out.below HB0.out) HO.out (by simpa using hl)).mono ?_
 rintro e w1 ⟨rfl, hB1, hk1⟩
 have HB1 := hid hB1
 have HK1 := hid hk1
 clear hB1 hk1
 go_wp2_with fail
 refine (bstr_any w.heap.size w.heap.size _ _ HB1.out).mono ?_
 rintro e w2 ⟨rfl, hB2, hk2⟩
 go_wp2_with fail
 go_ret
 exact ⟨rets (by simp), (HB0.out.trans HK1.out.1).trans hk2.1⟩
def HB (w : World) (g : Nat) (t : TypeId) (cs : Array Value) : Prop := w.heap[g]? = some (.cells cs t (0, 0)) ∧ t ≠ 5 ∧ t ≠ 134
theorem HB.keep {n0 b : Nat} {bs : Bytes} {w w' : World} {g : Nat} {t : TypeId} {cs : Array Value} (h : HB w g t cs) (hB : BW n0 b bs w) (hk : WK n0 b w w') : HB w' g t cs := ⟨hk.blk h.1 (hB.ne_blk h.1 h.2.2) h.2.1, h.2⟩
theorem HB.below {w w' : World} {g : Nat} {t : TypeId} {cs : Array Value} (h : HB w g t cs) (hb : Below w.heap.size w w') : HB w' g t cs := ⟨(hb.block g (heap_lt h.1)).trans h.1, h.2⟩
theorem HB.cell {w : World} {g : Nat} {t : TypeId} {cs : Array Value} (h : HB w g t cs) (j : Nat) : w.cell? ⟨g, j, none⟩ = cs[j]? := by simp [World.cell?, h.1]
theorem HB.cellKeep {n0 b : Nat} {bs : Bytes} {w w' : World} {g : Nat} {t : TypeId} {cs : Array Value} (h : HB w g t cs) (hB : BW n0 b bs w) (hk : WK n0 b w w') {j : Nat} {v : Value} (hc : w.cell? ⟨g, j, none⟩ = some v) : w'.cell? ⟨g, j, none⟩ = some v := by
 rw [(h.keep hB hk).cell, ← h.cell]; exact hc
def AddrAt (t : TypeId) (w : World) (g : Nat) (d : ByteArray) (u : SUri) (p : KVs) : Prop := ∃ cs, HB w g t cs ∧ cs[0]? = some (.string d) ∧ UCells w (fun i => cs[1 + i]?) u ∧ ∃ vp, cs[11]? = some vp ∧ PRep w vp p
theorem UCells.keep {n0 b : Nat} {bs : Bytes} {w w' : World} {cs : Nat → Option Value} {u : SUri} (h : UCells w cs u) (hB : BW n0 b bs w) (hk : WK n0 b w w') : UCells w' cs u := by
 obtain ⟨c0, c1, c2, c3, c4, c5, c6, c7, vp, vh, c8, c9, p1, p2⟩ := h
 exact ⟨c0, c1, c2, c3, c4, c5, c6, c7, vp, vh, c8, c9, p1.keep hB hk, p2.keep hB hk⟩
theorem UCells.below {w w' : World} {cs : Nat → Option Value} {u : SUri} (h : UCells w cs u) (hb : Below w.heap.size w w') : UCells w' cs u := by
 obtain ⟨c0, c1, c2, c3, c4, c5, c6, c7, vp, vh, c8, c9, p1, p2⟩ := h
 exact ⟨c0, c1, c2, c3, c4, c5, c6, c7, vp, vh, c8, c9, p1.below hb, p2.below hb⟩
section
variable {t : TypeId} {n0 b : Nat} {bs : Bytes} {w w' : World} {g : Nat} {d : ByteArray} {u : SUri} {p : KVs}
theorem AddrAt.keep (h : AddrAt t w g d u p) (hB : BW n0 b bs w) (hk : WK n0 b w w') : AddrAt t w' g d u p := by
 obtain ⟨cs, h1, h2, h3, vp, h4, h5⟩ := h
 exact ⟨cs, h1.keep hB hk, h2, h3.keep hB hk, vp, h4, h5.keep hB hk⟩
theorem AddrAt.below (h : AddrAt t w g d u p) (hb : Below w.heap.size w w') : AddrAt t w' g d u p := by
 obtain ⟨cs, h1, h2, h3, vp, h4, h5⟩ := h
 exact ⟨cs, h1.below hb, h2, h3.below hb, vp, h4, h5.below hb⟩
theorem AddrAt.uri (h : AddrAt t w g d u p) : UriAt w g 1 u := by
 obtain ⟨cs, h1, h2, h3, vp, h4, h5⟩ := h
 exact ⟨cs, t, (0, 0), h1.1, h1.2.1, h1.2.2, h3⟩
theorem AddrAt.cells (h : AddrAt t w g d u p) : w.cell? ⟨g, 0, none⟩ = some (.string d) ∧ w.cell? ⟨g, 3, none⟩ = some (.bool u.star) ∧ ∃ vp, w.cell? ⟨g, 11, none⟩ = some vp ∧ PRep w vp p := by
 obtain ⟨cs, h1, h2, h3, vp, h4, h5⟩ := h
 exact ⟨(h1.cell 0).trans h2, (h1.cell 3).trans h3.2.2.1, vp, (h1.cell 11).trans h4, h5⟩
theorem AddrAt.cellKeep (h : AddrAt t w g d u p) (hB : BW n0 b bs w) (hk : WK n0 b w w') {j : Nat} {v : Value} (hc : w.cell? ⟨g, j, none⟩ = some v) : w'.cell? ⟨g, j, none⟩ = some v := by
 obtain ⟨cs, h1, _⟩ := h
 exact h1.cellKeep hB hk hc
end
def showT (d : ByteArray) : Bytes := if d.data.toList = [] then [] else 34 :: d.data.toList ++ [34, 32]
def addrT (d : ByteArray) (u : SUri) (p : KVs) : Bytes := showT d ++ [60] ++ uriT u ++ [62] ++ tailT 59 59 p
structure SVia where
 pn : ByteArray
 pv : ByteArray
 tr : ByteArray
 host : ByteArray
 port : Int
 params : KVs
def ViaAt (w : World) (g : Nat) (v : SVia) : Prop := ∃ cs, HB w g 142 cs ∧ cs[0]? = some (.string v.pn) ∧ cs[1]? = some (.string v.pv) ∧ cs[2]? = some (.string v.tr) ∧ cs[3]? = some (.string v.host) ∧ cs[4]? = some (.int .i64 v.port) ∧ ∃ vp, cs[5]? = some vp ∧ PRep w vp v.params
section
variable {n0 b : Nat} {bs : Bytes} {w w' : World} {g : Nat} {v : SVia}
theorem ViaAt.keep (h : ViaAt w g v) (hB : BW n0 b bs w) (hk : WK n0 b w w') : ViaAt w' g v := by
 obtain ⟨cs, h1, c0, c1, c2, c3, c4, vp, c5, h5⟩ := h
 exact ⟨cs, h1.keep hB hk, c0, c1, c2, c3, c4, vp, c5, h5.keep hB hk⟩
theorem ViaAt.below (h : ViaAt w g v) (hb : Below w.heap.size w w') : ViaAt w' g v := by
 obtain ⟨cs, h1, c0, c1, c2, c3, c4, vp, c5, h5⟩ := h
 exact ⟨cs, h1.below hb, c0, c1, c2, c3, c4, vp, c5, h5.below hb⟩
theorem ViaAt.cells (h : ViaAt w g v) : w.cell? ⟨g, 0, none⟩ = some (.string v.pn) ∧ w.cell? ⟨g, 1, none⟩ = some (.string v.pv) ∧ w.cell? ⟨g, 2, none⟩ = some (.string v.tr) ∧ w.cell? ⟨g, 3, none⟩ = some (.string v.host) ∧ w.cell? ⟨g, 4, none⟩ = some (.int .i64 v.port) ∧ ∃ vp, w.cell? ⟨g, 5, none⟩ = some vp ∧ PRep w vp v.params := by
 obtain ⟨cs, h1, c0, c1, c2, c3, c4, vp, c5, h5⟩ := h
 simp only [h1.cell]
 exact ⟨c0, c1, c2, c3, c4, vp, c5, h5⟩
theorem ViaAt.cellKeep (h : ViaAt w g v) (hB : BW n0 b bs w) (hk : WK n0 b w w') {j : Nat} {x : Value} (hc : w.cell? ⟨g, j, none⟩ = some x) : w'.cell? ⟨g, j, none⟩ = some x := by
 obtain ⟨cs, h1, _⟩ := h
 exact h1.cellKeep hB hk hc
end
def viaT (v : SVia) : Bytes := v.pn.data.toList ++ [47] ++ v.pv.data.toList ++ [47] ++ v.tr.data.toList ++ [32] ++ v.host.data.toList ++ portT v.port ++ tailT 59 59 v.params
structure VOk (v : SVia) : Prop where
 host : HostB v.host
 port : -9223372036854775808 ≤ v.port ∧ v.port ≤ 9223372036854775807
 params : KVok v.params
def RS (n0 b : Nat) (t : Bytes) (wx w : World) (F : Prop) : Prop := BW n0 b t wx ∧ WK n0 b w wx ∧ F
theorem to_vsw (N n0 b : Nat) (bs : Bytes) (g : Nat) (d : ByteArray) (u : SUri) (p : KVs) (w : World) (hG : Gl N w) (hN : N ≤ n0) (hB : BW n0 b bs w) (hA : AddrAt 138 w g d u p) (ho : UOk u) (hp : KVok p) (hl : bs.length + (addrT d u p).length ≤ 70368744177664) :
  Calls Tryz.prog 246 #[.pointer (some ⟨g, 0, none⟩), bptr b] w (WrPost n0 b bs (addrT d u p) w) := by
 unfold addrT at hl ⊢
 obtain ⟨FF, hFF⟩ : ∃ FF : World → Prop, FF = fun wx => AddrAt 138 wx g d u p := ⟨_, rfl⟩
 have hAF : ∀ wx, FF wx = AddrAt 138 wx g d u p := fun wx => by rw [hFF]
 have HAF := hid hAF
 clear hFF hAF
 have hd := dl d
 have HL := hid (And.intro hl hd)
 have HO := hid (And.intro ho hp)
 have hna := ws_nilAhead
 have hme := ws_method
 have q1 := fun (w : World) (a : Option Addr) (n c : Nat) => run_neq_slice_nil_any (P := Tryz.prog) w 72 159 a n c 0 0 Tryz.underlying72
 obtain ⟨c0, c3, _⟩ := hA.cells
 clear c3
 have HU0 := hid hA
 have HB0 := hid hB
 have HK0 := hid (WK.refl n0 b w)
 have HG := hid hG
 clear hA hB ho hp hl hd hG
 go_enter Tryz.func246, Tryz.ntmps246
 go_upto_if 8 with fail
 go_cut [] (fun wx => RS n0 b (bs ++ showT d) wx w (FF wx))
 case first =>
  by_cases hd : d.data.toList = []
  ·have h1 := se_nil hd
   have hT : showT d = [] := by unfold showT; rw [if_pos hd]
   have HT := hid hT
   clear hd hT
   rw [h1]
   go_wp2_with fail
   go_meet
   exact ⟨by rw [HT.out, List.append_nil]; exact HB0.out, HK0.out, by rw [HAF.out]; exact HU0.out⟩
  ·have h1 := se_cons hd
   have hT : showT d = 34 :: d.data.toList ++ [34, 32] := by unfold showT; rw [if_neg hd]
   have hTl : (showT d).length = d.data.toList.length + 3 := by rw [hT]; simp
   have HT := hid (And.intro hT hTl)
   clear hd hT hTl
   rw [h1]
   go_wp2_with fail
   refine (ws_any n0 b _ _ _ HB0.out (by have := HL.out; have := HT.out.2; show _ + 1 ≤ _; simp only [List.length_append, List.length_cons, List.length_nil] at *; omega)).mono ?_
   rintro e wA ⟨rfl, hBA, hkA⟩
   have HBA := hid hBA
   have HKA := hid (HK0.out.trans hkA)
   have HUA := hid (HU0.out.keep HB0.out hkA)
   clear hBA hkA
   clear c0
   obtain ⟨c0, _⟩ := HUA.out.cells
   go_wp2_with fail
   refine stail 8 (by kernel_rfl) (by kernel_rfl) ?_
   simp only [List.take_succ_cons, List.take_zero, List.drop_succ_cons, List.drop_zero]
   repeat still_step
   refine wpStill_nil ?_
   have HBB := hid HBA.out.drew
   have HKB := hid HKA.out.drew
   have HUB := hid (HUA.out.below (Below.refl _ wA).drew)
   go_wp2_with fail
   refine (ws_any n0 b _ _ _ HBB.out (by have := HL.out; have := HT.out.2; simp only [List.length_append, List.length_cons, List.length_nil] at *; omega)).mono ?_
   rintro e wC ⟨rfl, hBC, hkC⟩
   have HBC := hid hBC
   have HKC := hid (HKB.out.trans hkC)
   have HUC := hid (HUB.out.keep HBB.out hkC)
   clear hBC hkC
   go_wp2_with fail
   refine (ws_any n0 b _ _ _ HBC.out (by have := HL.out; have := HT.out.2; show _ + 2 ≤ _; simp only [List.length_append, List.length_cons, List.length_nil] at *; omega)).mono ?_
   rintro e wD ⟨rfl, hBD, hkD⟩
   have HBD := hid hBD
   have HKD := hid (HKC.out.trans hkD)
   have HUD := hid (HUC.out.keep HBC.out hkD)
   clear hBD hkD
   go_wp2_with fail
   go_meet
   exact ⟨by rw [HT.out.1]; simpa using HBD.out, HKD.out, by rw [HAF.out]; exact HUD.out⟩
 case rest =>
  obtain ⟨hB1, hK1, hU1⟩ := hcut
  obtain ⟨w1, rfl⟩ : ∃ w1 : World, w1 = wc := ⟨_, rfl⟩
  have HB1 := hid hB1
  have HK1 := hid hK1
  have HU1 := hid hU1
  clear hB1 hK1 hU1
  rw [HAF.out] at HU1
  clear c0
  go_wp2_with fail
  refine (ws_any n0 b _ _ _ HB1.out (by have := HL.out; show _ + 1 ≤ _; simp only [List.length_append, List.length_cons, List.length_nil] at *; omega)).mono ?_
  rintro e w2 ⟨rfl, hB2, hk2⟩
  have HB2 := hid hB2
  have HK2 := hid (HK1.out.trans hk2)
  have HU2 := hid (HU1.out.keep HB1.out hk2)
  clear hB2 hk2
  go_wp2_with fail
  refine (urisw_any N n0 b _ g 1 u _ (HG.out.below HK2.out.1 hN) hN HB2.out HU2.out.uri HO.out.1 (by have := HL.out; simp only [List.length_append, List.length_cons, List.length_nil] at *; omega)).mono ?_
  rintro e w3 ⟨rfl, hB3, hk3⟩
  have HB3 := hid hB3
  have HK3 := hid (HK2.out.trans hk3)
  have HU3 := hid (HU2.out.keep HB2.out hk3)
  clear hB3 hk3
  go_wp2_with fail
  refine (ws_any n0 b _ _ _ HB3.out (by have := HL.out; show _ + 1 ≤ _; simp only [List.length_append, List.length_cons, List.length_nil] at *; omega)).mono ?_
  rintro e w4 ⟨rfl, hB4, hk4⟩
  have HB4 := hid hB4
  have HK4 := hid (HK3.out.trans hk4)
  have HU4 := hid (HU3.out.keep HB3.out hk4)
  clear hB4 hk4
  rw [← HAF.out] at HU4
  obtain ⟨_, _, vp, cp, p1⟩ := (by first | exact HU4.out.cells | (have h := HU4.out; rw [HAF.out] at h; exact h.cells) : _ ∧ _ ∧ ∃ vp, w4.cell? ⟨g, 11, none⟩ = some vp ∧ PRep w4 vp p)
  obtain ⟨A, c, hv, hn, hA⟩ := p1.slice
  rw [hv] at cp p1
  have HP := hid p1
  have HA := hid hA
  have HV := hid hv
  clear p1 hA hv
  go_upto_region 7 with fail
  go_cut [43] (fun s wx => s = .bool (decide (0 < p.length)) ∧ RS n0 b (bs ++ showT d ++ [60] ++ uriT u ++ [62]) wx w (FF wx))
  case first =>
   rcases A with _ | a
   ·have hl0 := HA.out rfl
    have hd : decide (0 < p.length) = false := by rw [hl0]; rfl
    have HD := hid hd
    clear hl0 hd
    go_wp2_with fail
    go_meet
    exact ⟨by rw [HD.out], HB4.out, HK4.out, HU4.out⟩
   ·go_wp2_with (go_at_call 86; refine (plen_any _ _ _ _ hn).mono ?_; rintro e w1 ⟨rfl, rfl⟩)
    go_meet
    exact ⟨rfl, HB4.out, HK4.out, HU4.out⟩
  case rest =>
   obtain ⟨rfl, hB4p, hK4p, hU4p⟩ := hcut
   obtain ⟨w4p, rfl⟩ : ∃ w4p : World, w4p = wc := ⟨_, rfl⟩
   have HB4p := hid hB4p
   have HK4p := hid hK4p
   have HU4p := hid hU4p
   clear hB4p hK4p hU4p cp
   go_upto_if 43 with fail
   by_cases hp : 0 < p.length
   ·rw [decide_eq_true hp]
    have hne : p ≠ [] := fun e => by rw [e] at hp; exact absurd hp (by decide)
    have hT : tailT 59 59 p = 59 :: paramsT 59 p := by unfold tailT; rw [if_neg hne]
    have hTl : (tailT 59 59 p).length = 1 + (paramsT 59 p).length := by rw [hT]; simp; omega
    have hps : (psepT 59 p).length = (paramsT 59 p).length + 1 := by
     unfold paramsT
     rw [List.length_drop]
     cases h : p with
     | nil => exact absurd h hne
     | cons p r => simp [psepT]
    have HT := hid (And.intro hT (And.intro hTl hps))
    clear hT hTl hps hne
    go_wp2_with fail
    refine (ws_any n0 b _ _ _ HB4p.out (by have := HL.out; have := HT.out.2; show _ + 1 ≤ _; simp only [List.length_append, List.length_cons, List.length_nil] at *; omega)).mono ?_
    rintro e wZ ⟨rfl, hBZ, hkZ⟩
    have HBZ := hid hBZ
    have HKZ := hid (HK4p.out.trans hkZ)
    have HUZ := hid ((show AddrAt 138 w4p g d u p by rw [← HAF.out]; exact HU4p.out).keep HB4p.out hkZ)
    clear hBZ hkZ
    obtain ⟨_, _, vp, cp, p1⟩ := (by first | exact HUZ.out.cells | (have h := HUZ.out; rw [HAF.out] at h; exact h.cells) : _ ∧ _ ∧ ∃ vp, wZ.cell? ⟨g, 11, none⟩ = some vp ∧ PRep wZ vp p)
    have HPZ := hid p1
    clear p1
    go_wp2_with fail
    refine (ptsw_any n0 b _ 59 sep59 _ p _ HBZ.out HPZ.out HO.out.2 (by have := HL.out; have := HT.out; simp only [List.length_append, List.length_cons, List.length_nil] at *; omega)).mono ?_
    rintro e w5 ⟨rfl, hB5, hk5⟩
    go_wp2_with fail
    go_end0
    exact ⟨rfl, by rw [HT.out.1]; simpa using hB5, HKZ.out.trans hk5⟩
   ·have hne : p = [] := List.eq_nil_of_length_eq_zero (by omega)
    have hT : tailT 59 59 p = [] := by unfold tailT; rw [if_pos hne]
    rw [decide_eq_false hp]
    have HT := hid hT
    clear hT hne
    go_wp2_with fail
    go_end0
    exact ⟨rfl, by rw [HT.out]; simpa using HB4p.out, HK4p.out⟩
theorem from_vsw (N n0 b : Nat) (bs : Bytes) (g : Nat) (d : ByteArray) (u : SUri) (p : KVs) (w : World) (hG : Gl N w) (hN : N ≤ n0) (hB : BW n0 b bs w) (hA : AddrAt 139 w g d u p) (ho : UOk u) (hp : KVok p) (hl : bs.length + (addrT d u p).length ≤ 70368744177664) :
  Calls Tryz.prog 240 #[.pointer (some ⟨g, 0, none⟩), bptr b] w (WrPost n0 b bs (addrT d u p) w) := by
 unfold addrT at hl ⊢
 obtain ⟨FF, hFF⟩ : ∃ FF : World → Prop, FF = fun wx => AddrAt 139 wx g d u p := ⟨_, rfl⟩
 have hAF : ∀ wx, FF wx = AddrAt 139 wx g d u p := fun wx => by rw [hFF]
 have HAF := hid hAF
 clear hFF hAF
 have hd := dl d
 have HL := hid (And.intro hl hd)
 have HO := hid (And.intro ho hp)
 have hna := ws_nilAhead
 have hme := ws_method
 have q1 := fun (w : World) (a : Option Addr) (n c : Nat) => run_neq_slice_nil_any (P := Tryz.prog) w 72 159 a n c 0 0 Tryz.underlying72
 obtain ⟨c0, c3, _⟩ := hA.cells
 clear c3
 have HU0 := hid hA
 have HB0 := hid hB
 have HK0 := hid (WK.refl n0 b w)
 have HG := hid hG
 clear hA hB ho hp hl hd hG
 go_enter Tryz.func240, Tryz.ntmps240
 go_upto_if 8 with fail
 go_cut [] (fun wx => RS n0 b (bs ++ showT d) wx w (FF wx))
 case first =>
  by_cases hd : d.data.toList = []
  ·have h1 := se_nil hd
   have hT : showT d = [] := by unfold showT; rw [if_pos hd]
   have HT := hid hT
   clear hd hT
   rw [h1]
   go_wp2_with fail
   go_meet
   exact ⟨by rw [HT.out, List.append_nil]; exact HB0.out, HK0.out, by rw [HAF.out]; exact HU0.out⟩
  ·have h1 := se_cons hd
   have hT : showT d = 34 :: d.data.toList ++ [34, 32] := by unfold showT; rw [if_neg hd]
   have hTl : (showT d).length = d.data.toList.length + 3 := by rw [hT]; simp
   have HT := hid (And.intro hT hTl)
   clear hd hT hTl
   rw [h1]
   go_wp2_with fail
   refine (ws_any n0 b _ _ _ HB0.out (by have := HL.out; have := HT.out.2; show _ + 1 ≤ _; simp only [List.length_append, List.length_cons, List.length_nil] at *; omega)).mono ?_
   rintro e wA ⟨rfl, hBA, hkA⟩
   have HBA := hid hBA
   have HKA := hid (HK0.out.trans hkA)
   have HUA := hid (HU0.out.keep HB0.out hkA)
   clear hBA hkA
   clear c0
   obtain ⟨c0, _⟩ := HUA.out.cells
   go_wp2_with fail
   refine stail 8 (by kernel_rfl) (by kernel_rfl) ?_
   simp only [List.take_succ_cons, List.take_zero, List.drop_succ_cons, List.drop_zero]
   repeat still_step
   refine wpStill_nil ?_
   have HBB := hid HBA.out.drew
   have HKB := hid HKA.out.drew
   have HUB := hid (HUA.out.below (Below.refl _ wA).drew)
   go_wp2_with fail
   refine (ws_any n0 b _ _ _ HBB.out (by have := HL.out; have := HT.out.2; simp only [List.length_append, List.length_cons, List.length_nil] at *; omega)).mono ?_
   rintro e wC ⟨rfl, hBC, hkC⟩
   have HBC := hid hBC
   have HKC := hid (HKB.out.trans hkC)
   have HUC := hid (HUB.out.keep HBB.out hkC)
   clear hBC hkC
   go_wp2_with fail
   refine (ws_any n0 b _ _ _ HBC.out (by have := HL.out; have := HT.out.2; show _ + 2 ≤ _; simp only [List.length_append, List.length_cons, List.length_nil] at *; omega)).mono ?_
   rintro e wD ⟨rfl, hBD, hkD⟩
   have HBD := hid hBD
   have HKD := hid (HKC.out.trans hkD)
   have HUD := hid (HUC.out.keep HBC.out hkD)
   clear hBD hkD
   go_wp2_with fail
   go_meet
   exact ⟨by rw [HT.out.1]; simpa using HBD.out, HKD.out, by rw [HAF.out]; exact HUD.out⟩
 case rest =>
  obtain ⟨hB1, hK1, hU1⟩ := hcut
  obtain ⟨w1, rfl⟩ : ∃ w1 : World, w1 = wc := ⟨_, rfl⟩
  have HB1 := hid hB1
  have HK1 := hid hK1
  have HU1 := hid hU1
  clear hB1 hK1 hU1
  rw [HAF.out] at HU1
  clear c0
  go_wp2_with fail
  refine (ws_any n0 b _ _ _ HB1.out (by have := HL.out; show _ + 1 ≤ _; simp only [List.length_append, List.length_cons, List.length_nil] at *; omega)).mono ?_
  rintro e w2 ⟨rfl, hB2, hk2⟩
  have HB2 := hid hB2
  have HK2 := hid (HK1.out.trans hk2)
  have HU2 := hid (HU1.out.keep HB1.out hk2)
  clear hB2 hk2
  go_wp2_with fail
  refine (urisw_any N n0 b _ g 1 u _ (HG.out.below HK2.out.1 hN) hN HB2.out HU2.out.uri HO.out.1 (by have := HL.out; simp only [List.length_append, List.length_cons, List.length_nil] at *; omega)).mono ?_
  rintro e w3 ⟨rfl, hB3, hk3⟩
  have HB3 := hid hB3
  have HK3 := hid (HK2.out.trans hk3)
  have HU3 := hid (HU2.out.keep HB2.out hk3)
  clear hB3 hk3
  go_wp2_with fail
  refine (ws_any n0 b _ _ _ HB3.out (by have := HL.out; show _ + 1 ≤ _; simp only [List.length_append, List.length_cons, List.length_nil] at *; omega)).mono ?_
  rintro e w4 ⟨rfl, hB4, hk4⟩
  have HB4 := hid hB4
  have HK4 := hid (HK3.out.trans hk4)
  have HU4 := hid (HU3.out.keep HB3.out hk4)
  clear hB4 hk4
  rw [← HAF.out] at HU4
  obtain ⟨_, _, vp, cp, p1⟩ := (by first | exact HU4.out.cells | (have h := HU4.out; rw [HAF.out] at h; exact h.cells) : _ ∧ _ ∧ ∃ vp, w4.cell? ⟨g, 11, none⟩ = some vp ∧ PRep w4 vp p)
  obtain ⟨A, c, hv, hn, hA⟩ := p1.slice
  rw [hv] at cp p1
  have HP := hid p1
  have HA := hid hA
  have HV := hid hv
  clear p1 hA hv
  go_upto_region 7 with fail
  go_cut [43] (fun s wx => s = .bool (decide (0 < p.length)) ∧ RS n0 b (bs ++ showT d ++ [60] ++ uriT u ++ [62]) wx w (FF wx))
  case first =>
   rcases A with _ | a
   ·have hl0 := HA.out rfl
    have hd : decide (0 < p.length) = false := by rw [hl0]; rfl
    have HD := hid hd
    clear hl0 hd
    go_wp2_with fail
    go_meet
    exact ⟨by rw [HD.out], HB4.out, HK4.out, HU4.out⟩
   ·go_wp2_with (go_at_call 86; refine (plen_any _ _ _ _ hn).mono ?_; rintro e w1 ⟨rfl, rfl⟩)
    go_meet
    exact ⟨rfl, HB4.out, HK4.out, HU4.out⟩
  case rest =>
   obtain ⟨rfl, hB4p, hK4p, hU4p⟩ := hcut
   obtain ⟨w4p, rfl⟩ : ∃ w4p : World, w4p = wc := ⟨_, rfl⟩
   have HB4p := hid hB4p
   have HK4p := hid hK4p
   have HU4p := hid hU4p
   clear hB4p hK4p hU4p cp
   go_upto_if 43 with fail
   by_cases hp : 0 < p.length
   ·rw [decide_eq_true hp]
    have hne : p ≠ [] := fun e => by rw [e] at hp; exact absurd hp (by decide)
    have hT : tailT 59 59 p = 59 :: paramsT 59 p := by unfold tailT; rw [if_neg hne]
    have hTl : (tailT 59 59 p).length = 1 + (paramsT 59 p).length := by rw [hT]; simp; omega
    have hps : (psepT 59 p).length = (paramsT 59 p).length + 1 := by
     unfold paramsT
     rw [List.length_drop]
     cases h : p with
     | nil => exact absurd h hne
     | cons p r => simp [psepT]
    have HT := hid (And.intro hT (And.intro hTl hps))
    clear hT hTl hps hne
    go_wp2_with fail
    refine (ws_any n0 b _ _ _ HB4p.out (by have := HL.out; have := HT.out.2; show _ + 1 ≤ _; simp only [List.length_append, List.length_cons, List.length_nil] at *; omega)).mono ?_
    rintro e wZ ⟨rfl, hBZ, hkZ⟩
    have HBZ := hid hBZ
    have HKZ := hid (HK4p.out.trans hkZ)
    have HUZ := hid ((show AddrAt 139 w4p g d u p by rw [← HAF.out]; exact HU4p.out).keep HB4p.out hkZ)
    clear hBZ hkZ
    obtain ⟨_, _, vp, cp, p1⟩ := (by first | exact HUZ.out.cells | (have h := HUZ.out; rw [HAF.out] at h; exact h.cells) : _ ∧ _ ∧ ∃ vp, wZ.cell? ⟨g, 11, none⟩ = some vp ∧ PRep wZ vp p)
    have HPZ := hid p1
    clear p1
    go_wp2_with fail
    refine (ptsw_any n0 b _ 59 sep59 _ p _ HBZ.out HPZ.out HO.out.2 (by have := HL.out; have := HT.out; simp only [List.length_append, List.length_cons, List.length_nil] at *; omega)).mono ?_
    rintro e w5 ⟨rfl, hB5, hk5⟩
    go_wp2_with fail
    go_end0
    exact ⟨rfl, by rw [HT.out.1]; simpa using hB5, HKZ.out.trans hk5⟩
   ·have hne : p = [] := List.eq_nil_of_length_eq_zero (by omega)
    have hT : tailT 59 59 p = [] := by unfold tailT; rw [if_pos hne]
    rw [decide_eq_false hp]
    have HT := hid hT
    clear hT hne
    go_wp2_with fail
    go_end0
    exact ⟨rfl, by rw [HT.out]; simpa using HB4p.out, HK4p.out⟩
theorem contact_vsw (N n0 b : Nat) (bs : Bytes) (g : Nat) (d : ByteArray) (u : SUri) (p : KVs) (w : World) (hG : Gl N w) (hN : N ≤ n0) (hB : BW n0 b bs w) (hA : AddrAt 140 w g d u p) (ho : UOk u) (hst : u.star = false) (hp : KVok p) (hl : bs.length + (addrT d u p).length ≤ 70368744177664) :
  Calls Tryz.prog 258 #[.pointer (some ⟨g, 0, none⟩), bptr b] w (WrPost n0 b bs (addrT d u p) w) := by
 unfold addrT at hl ⊢
 obtain ⟨FF, hFF⟩ : ∃ FF : World → Prop, FF = fun wx => AddrAt 140 wx g d u p := ⟨_, rfl⟩
 have hAF : ∀ wx, FF wx = AddrAt 140 wx g d u p := fun wx => by rw [hFF]
 have HAF := hid hAF
 clear hFF hAF
 have hd := dl d
 have HL := hid (And.intro hl hd)
 have HO := hid (And.intro ho hp)
 have hna := ws_nilAhead
 have hme := ws_method
 have q1 := fun (w : World) (a : Option Addr) (n c : Nat) => run_neq_slice_nil_any (P := Tryz.prog) w 72 159 a n c 0 0 Tryz.underlying72
 obtain ⟨c0, c3, _⟩ := hA.cells
 rw [hst] at c3
 have HU0 := hid hA
 have HB0 := hid hB
 have HK0 := hid (WK.refl n0 b w)
 have HG := hid hG
 clear hA hB ho hp hl hd hG
 go_enter Tryz.func258, Tryz.ntmps258
 go_upto_if 17 with fail
 go_cut [] (fun wx => RS n0 b (bs ++ showT d) wx w (FF wx))
 case first =>
  by_cases hd : d.data.toList = []
  ·have h1 := se_nil hd
   have hT : showT d = [] := by unfold showT; rw [if_pos hd]
   have HT := hid hT
   clear hd hT
   rw [h1]
   go_wp2_with fail
   go_meet
   exact ⟨by rw [HT.out, List.append_nil]; exact HB0.out, HK0.out, by rw [HAF.out]; exact HU0.out⟩
  ·have h1 := se_cons hd
   have hT : showT d = 34 :: d.data.toList ++ [34, 32] := by unfold showT; rw [if_neg hd]
   have hTl : (showT d).length = d.data.toList.length + 3 := by rw [hT]; simp
   have HT := hid (And.intro hT hTl)
   clear hd hT hTl
   rw [h1]
   go_wp2_with fail
   refine (ws_any n0 b _ _ _ HB0.out (by have := HL.out; have := HT.out.2; show _ + 1 ≤ _; simp only [List.length_append, List.length_cons, List.length_nil] at *; omega)).mono ?_
   rintro e wA ⟨rfl, hBA, hkA⟩
   have HBA := hid hBA
   have HKA := hid (HK0.out.trans hkA)
   have HUA := hid (HU0.out.keep HB0.out hkA)
   clear hBA hkA
   clear c0
   obtain ⟨c0, _⟩ := HUA.out.cells
   go_wp2_with fail
   refine stail 8 (by kernel_rfl) (by kernel_rfl) ?_
   simp only [List.take_succ_cons, List.take_zero, List.drop_succ_cons, List.drop_zero]
   repeat still_step
   refine wpStill_nil ?_
   have HBB := hid HBA.out.drew
   have HKB := hid HKA.out.drew
   have HUB := hid (HUA.out.below (Below.refl _ wA).drew)
   go_wp2_with fail
   refine (ws_any n0 b _ _ _ HBB.out (by have := HL.out; have := HT.out.2; simp only [List.length_append, List.length_cons, List.length_nil] at *; omega)).mono ?_
   rintro e wC ⟨rfl, hBC, hkC⟩
   have HBC := hid hBC
   have HKC := hid (HKB.out.trans hkC)
   have HUC := hid (HUB.out.keep HBB.out hkC)
   clear hBC hkC
   go_wp2_with fail
   refine (ws_any n0 b _ _ _ HBC.out (by have := HL.out; have := HT.out.2; show _ + 2 ≤ _; simp only [List.length_append, List.length_cons, List.length_nil] at *; omega)).mono ?_
   rintro e wD ⟨rfl, hBD, hkD⟩
   have HBD := hid hBD
   have HKD := hid (HKC.out.trans hkD)
   have HUD := hid (HUC.out.keep HBC.out hkD)
   clear hBD hkD
   go_wp2_with fail
   go_meet
   exact ⟨by rw [HT.out.1]; simpa using HBD.out, HKD.out, by rw [HAF.out]; exact HUD.out⟩
 case rest =>
  obtain ⟨hB1, hK1, hU1⟩ := hcut
  obtain ⟨w1, rfl⟩ : ∃ w1 : World, w1 = wc := ⟨_, rfl⟩
  have HB1 := hid hB1
  have HK1 := hid hK1
  have HU1 := hid hU1
  clear hB1 hK1 hU1
  rw [HAF.out] at HU1
  clear c0
  go_wp2_with fail
  refine (ws_any n0 b _ _ _ HB1.out (by have := HL.out; show _ + 1 ≤ _; simp only [List.length_append, List.length_cons, List.length_nil] at *; omega)).mono ?_
  rintro e w2 ⟨rfl, hB2, hk2⟩
  have HB2 := hid hB2
  have HK2 := hid (HK1.out.trans hk2)
  have HU2 := hid (HU1.out.keep HB1.out hk2)
  clear hB2 hk2
  go_wp2_with fail
  refine (urisw_any N n0 b _ g 1 u _ (HG.out.below HK2.out.1 hN) hN HB2.out HU2.out.uri HO.out.1 (by have := HL.out; simp only [List.length_append, List.length_cons, List.length_nil] at *; omega)).mono ?_
  rintro e w3 ⟨rfl, hB3, hk3⟩
  have HB3 := hid hB3
  have HK3 := hid (HK2.out.trans hk3)
  have HU3 := hid (HU2.out.keep HB2.out hk3)
  clear hB3 hk3
  go_wp2_with fail
  refine (ws_any n0 b _ _ _ HB3.out (by have := HL.out; show _ + 1 ≤ _; simp only [List.length_append, List.length_cons, List.length_nil] at *; omega)).mono ?_
  rintro e w4 ⟨rfl, hB4, hk4⟩
  have HB4 := hid hB4
  have HK4 := hid (HK3.out.trans hk4)
  have HU4 := hid (HU3.out.keep HB3.out hk4)
  clear hB4 hk4
  rw [← HAF.out] at HU4
  obtain ⟨_, _, vp, cp, p1⟩ := (by first | exact HU4.out.cells | (have h := HU4.out; rw [HAF.out] at h; exact h.cells) : _ ∧ _ ∧ ∃ vp, w4.cell? ⟨g, 11, none⟩ = some vp ∧ PRep w4 vp p)
  obtain ⟨A, c, hv, hn, hA⟩ := p1.slice
  rw [hv] at cp p1
  have HP := hid p1
  have HA := hid hA
  have HV := hid hv
  clear p1 hA hv
  go_upto_region 10 with fail
  go_cut [52] (fun s wx => s = .bool (decide (0 < p.length)) ∧ RS n0 b (bs ++ showT d ++ [60] ++ uriT u ++ [62]) wx w (FF wx))
  case first =>
   rcases A with _ | a
   ·have hl0 := HA.out rfl
    have hd : decide (0 < p.length) = false := by rw [hl0]; rfl
    have HD := hid hd
    clear hl0 hd
    go_wp2_with fail
    go_meet
    exact ⟨by rw [HD.out], HB4.out, HK4.out, HU4.out⟩
   ·go_wp2_with (go_at_call 86; refine (plen_any _ _ _ _ hn).mono ?_; rintro e w1 ⟨rfl, rfl⟩)
    go_meet
    exact ⟨rfl, HB4.out, HK4.out, HU4.out⟩
  case rest =>
   obtain ⟨rfl, hB4p, hK4p, hU4p⟩ := hcut
   obtain ⟨w4p, rfl⟩ : ∃ w4p : World, w4p = wc := ⟨_, rfl⟩
   have HB4p := hid hB4p
   have HK4p := hid hK4p
   have HU4p := hid hU4p
   clear hB4p hK4p hU4p cp
   go_upto_if 52 with fail
   by_cases hp : 0 < p.length
   ·rw [decide_eq_true hp]
    have hne : p ≠ [] := fun e => by rw [e] at hp; exact absurd hp (by decide)
    have hT : tailT 59 59 p = 59 :: paramsT 59 p := by unfold tailT; rw [if_neg hne]
    have hTl : (tailT 59 59 p).length = 1 + (paramsT 59 p).length := by rw [hT]; simp; omega
    have hps : (psepT 59 p).length = (paramsT 59 p).length + 1 := by
     unfold paramsT
     rw [List.length_drop]
     cases h : p with
     | nil => exact absurd h hne
     | cons p r => simp [psepT]
    have HT := hid (And.intro hT (And.intro hTl hps))
    clear hT hTl hps hne
    go_wp2_with fail
    refine (ws_any n0 b _ _ _ HB4p.out (by have := HL.out; have := HT.out.2; show _ + 1 ≤ _; simp only [List.length_append, List.length_cons, List.length_nil] at *; omega)).mono ?_
    rintro e wZ ⟨rfl, hBZ, hkZ⟩
    have HBZ := hid hBZ
    have HKZ := hid (HK4p.out.trans hkZ)
    have HUZ := hid ((show AddrAt 140 w4p g d u p by rw [← HAF.out]; exact HU4p.out).keep HB4p.out hkZ)
    clear hBZ hkZ
    obtain ⟨_, _, vp, cp, p1⟩ := (by first | exact HUZ.out.cells | (have h := HUZ.out; rw [HAF.out] at h; exact h.cells) : _ ∧ _ ∧ ∃ vp, wZ.cell? ⟨g, 11, none⟩ = some vp ∧ PRep wZ vp p)
    have HPZ := hid p1
    clear p1
    go_wp2_with fail
    refine (ptsw_any n0 b _ 59 sep59 _ p _ HBZ.out HPZ.out HO.out.2 (by have := HL.out; have := HT.out; simp only [List.length_append, List.length_cons, List.length_nil] at *; omega)).mono ?_
    rintro e w5 ⟨rfl, hB5, hk5⟩
    go_wp2_with fail
    go_end0
    exact ⟨rfl, by rw [HT.out.1]; simpa using hB5, HKZ.out.trans hk5⟩
   ·have hne : p = [] := List.eq_nil_of_length_eq_zero (by omega)
    have hT : tailT 59 59 p = [] := by unfold tailT; rw [if_pos hne]
    rw [decide_eq_false hp]
    have HT := hid hT
    clear hT hne
    go_wp2_with fail
    go_end0
    exact ⟨rfl, by rw [HT.out]; simpa using HB4p.out, HK4p.out⟩
theorem refby_vsw (N n0 b : Nat) (bs : Bytes) (g : Nat) (d : ByteArray) (u : SUri) (p : KVs) (w : World) (hG : Gl N w) (hN : N ≤ n0) (hB : BW n0 b bs w) (hA : AddrAt 149 w g d u p) (ho : UOk u) (hp : KVok p) (hl : bs.length + (addrT d u p).length ≤ 70368744177664) :
  Calls Tryz.prog 321 #[.pointer (some ⟨g, 0, none⟩), bptr b] w (WrPost n0 b bs (addrT d u p) w) := by
 unfold addrT at hl ⊢
 obtain ⟨FF, hFF⟩ : ∃ FF : World → Prop, FF = fun wx => AddrAt 149 wx g d u p := ⟨_, rfl⟩
 have hAF : ∀ wx, FF wx = AddrAt 149 wx g d u p := fun wx => by rw [hFF]
 have HAF := hid hAF
 clear hFF hAF
 have hd := dl d
 have HL := hid (And.intro hl hd)
 have HO := hid (And.intro ho hp)
 have hna := ws_nilAhead
 have hme := ws_method
 have q1 := fun (w : World) (a : Option Addr) (n c : Nat) => run_neq_slice_nil_any (P := Tryz.prog) w 72 159 a n c 0 0 Tryz.underlying72
 obtain ⟨c0, c3, _⟩ := hA.cells
 clear c3
 have HU0 := hid hA
 have HB0 := hid hB
 have HK0 := hid (WK.refl n0 b w)
 have HG := hid hG
 clear hA hB ho hp hl hd hG
 go_enter Tryz.func321, Tryz.ntmps321
 go_upto_if 8 with fail
 go_cut [] (fun wx => RS n0 b (bs ++ showT d) wx w (FF wx))
 case first =>
  by_cases hd : d.data.toList = []
  ·have h1 := se_nil hd
   have hT : showT d = [] := by unfold showT; rw [if_pos hd]
   have HT := hid hT
   clear hd hT
   rw [h1]
   go_wp2_with fail
   go_meet
   exact ⟨by rw [HT.out, List.append_nil]; exact HB0.out, HK0.out, by rw [HAF.out]; exact HU0.out⟩
  ·have h1 := se_cons hd
   have hT : showT d = 34 :: d.data.toList ++ [34, 32] := by unfold showT; rw [if_neg hd]
   have hTl : (showT d).length = d.data.toList.length + 3 := by rw [hT]; simp
   have HT := hid (And.intro hT hTl)
   clear hd hT hTl
   rw [h1]
   go_wp2_with fail
   refine (ws_any n0 b _ _ _ HB0.out (by have := HL.out; have := HT.out.2; show _ + 1 ≤ _; simp only [List.length_append, List.length_cons, List.length_nil] at *; omega)).mono ?_
   rintro e wA ⟨rfl, hBA, hkA⟩
   have HBA := hid hBA
   have HKA := hid (HK0.out.trans hkA)
   have HUA := hid (HU0.out.keep HB0.out hkA)
   clear hBA hkA
   clear c0
   obtain ⟨c0, _⟩ := HUA.out.cells
   go_wp2_with fail
   refine stail 8 (by kernel_rfl) (by kernel_rfl) ?_
   simp only [List.take_succ_cons, List.take_zero, List.drop_succ_cons, List.drop_zero]
   repeat still_step
   refine wpStill_nil ?_
   have HBB := hid HBA.out.drew
   have HKB := hid HKA.out.drew
   have HUB := hid (HUA.out.below (Below.refl _ wA).drew)
   go_wp2_with fail
   refine (ws_any n0 b _ _ _ HBB.out (by have := HL.out; have := HT.out.2; simp only [List.length_append, List.length_cons, List.length_nil] at *; omega)).mono ?_
   rintro e wC ⟨rfl, hBC, hkC⟩
   have HBC := hid hBC
   have HKC := hid (HKB.out.trans hkC)
   have HUC := hid (HUB.out.keep HBB.out hkC)
   clear hBC hkC
   go_wp2_with fail
   refine (ws_any n0 b _ _ _ HBC.out (by have := HL.out; have := HT.out.2; show _ + 2 ≤ _; simp only [List.length_append, List.length_cons, List.length_nil] at *; omega)).mono ?_
   rintro e wD ⟨rfl, hBD, hkD⟩
   have HBD := hid hBD
   have HKD := hid (HKC.out.trans hkD)
   have HUD := hid (HUC.out.keep HBC.out hkD)
   clear hBD hkD
   go_wp2_with fail
   go_meet
   exact ⟨by rw [HT.out.1]; simpa using HBD.out, HKD.out, by rw [HAF.out]; exact HUD.out⟩
 case rest =>
  obtain ⟨hB1, hK1, hU1⟩ := hcut
  obtain ⟨w1, rfl⟩ : ∃ w1 : World, w1 = wc := ⟨_, rfl⟩
  have HB1 := hid hB1
  have HK1 := hid hK1
  have HU1 := hid hU1
  clear hB1 hK1 hU1
  rw [HAF.out] at HU1
  clear c0
  go_wp2_with fail
  refine (ws_any n0 b _ _ _ HB1.out (by have := HL.out; show _ + 1 ≤ _; simp only [List.length_append, List.length_cons, List.length_nil] at *; omega)).mono ?_
  rintro e w2 ⟨rfl, hB2, hk2⟩
  have HB2 := hid hB2
  have HK2 := hid (HK1.out.trans hk2)
  have HU2 := hid (HU1.out.keep HB1.out hk2)
  clear hB2 hk2
  go_wp2_with fail
  refine (urisw_any N n0 b _ g 1 u _ (HG.out.below HK2.out.1 hN) hN HB2.out HU2.out.uri HO.out.1 (by have := HL.out; simp only [List.length_append, List.length_cons, List.length_nil] at *; omega)).mono ?_
  rintro e w3 ⟨rfl, hB3, hk3⟩
  have HB3 := hid hB3
  have HK3 := hid (HK2.out.trans hk3)
  have HU3 := hid (HU2.out.keep HB2.out hk3)
  clear hB3 hk3
  go_wp2_with fail
  refine (ws_any n0 b _ _ _ HB3.out (by have := HL.out; show _ + 1 ≤ _; simp only [List.length_append, List.length_cons, List.length_nil] at *; omega)).mono ?_
  rintro e w4 ⟨rfl, hB4, hk4⟩
  have HB4 := hid hB4
  have HK4 := hid (HK3.out.trans hk4)
  have HU4 := hid (HU3.out.keep HB3.out hk4)
  clear hB4 hk4
  rw [← HAF.out] at HU4
  obtain ⟨_, _, vp, cp, p1⟩ := (by first | exact HU4.out.cells | (have h := HU4.out; rw [HAF.out] at h; exact h.cells) : _ ∧ _ ∧ ∃ vp, w4.cell? ⟨g, 11, none⟩ = some vp ∧ PRep w4 vp p)
  obtain ⟨A, c, hv, hn, hA⟩ := p1.slice
  rw [hv] at cp p1
  have HP := hid p1
  have HA := hid hA
  have HV := hid hv
  clear p1 hA hv
  go_upto_region 7 with fail
  go_cut [43] (fun s wx => s = .bool (decide (0 < p.length)) ∧ RS n0 b (bs ++ showT d ++ [60] ++ uriT u ++ [62]) wx w (FF wx))
  case first =>
   rcases A with _ | a
   ·have hl0 := HA.out rfl
    have hd : decide (0 < p.length) = false := by rw [hl0]; rfl
    have HD := hid hd
    clear hl0 hd
    go_wp2_with fail
    go_meet
    exact ⟨by rw [HD.out], HB4.out, HK4.out, HU4.out⟩
   ·go_wp2_with (go_at_call 86; refine (plen_any _ _ _ _ hn).mono ?_; rintro e w1 ⟨rfl, rfl⟩)
    go_meet
    exact ⟨rfl, HB4.out, HK4.out, HU4.out⟩
  case rest =>
   obtain ⟨rfl, hB4p, hK4p, hU4p⟩ := hcut
   obtain ⟨w4p, rfl⟩ : ∃ w4p : World, w4p = wc := ⟨_, rfl⟩
   have HB4p := hid hB4p
   have HK4p := hid hK4p
   have HU4p := hid hU4p
   clear hB4p hK4p hU4p cp
   go_upto_if 43 with fail
   by_cases hp : 0 < p.length
   ·rw [decide_eq_true hp]
    have hne : p ≠ [] := fun e => by rw [e] at hp; exact absurd hp (by decide)
    have hT : tailT 59 59 p = 59 :: paramsT 59 p := by unfold tailT; rw [if_neg hne]
    have hTl : (tailT 59 59 p).length = 1 + (paramsT 59 p).length := by rw [hT]; simp; omega
    have hps : (psepT 59 p).length = (paramsT 59 p).length + 1 := by
     unfold paramsT
     rw [List.length_drop]
     cases h : p with
     | nil => exact absurd h hne
     | cons p r => simp [psepT]
    have HT := hid (And.intro hT (And.intro hTl hps))
    clear hT hTl hps hne
    go_wp2_with fail
    refine (ws_any n0 b _ _ _ HB4p.out (by have := HL.out; have := HT.out.2; show _ + 1 ≤ _; simp only [List.length_append, List.length_cons, List.length_nil] at *; omega)).mono ?_
    rintro e wZ ⟨rfl, hBZ, hkZ⟩
    have HBZ := hid hBZ
    have HKZ := hid (HK4p.out.trans hkZ)
    have HUZ := hid ((show AddrAt 149 w4p g d u p by rw [← HAF.out]; exact HU4p.out).keep HB4p.out hkZ)
    clear hBZ hkZ
    obtain ⟨_, _, vp, cp, p1⟩ := (by first | exact HUZ.out.cells | (have h := HUZ.out; rw [HAF.out] at h; exact h.cells) : _ ∧ _ ∧ ∃ vp, wZ.cell? ⟨g, 11, none⟩ = some vp ∧ PRep wZ vp p)
    have HPZ := hid p1
    clear p1
    go_wp2_with fail
    refine (ptsw_any n0 b _ 59 sep59 _ p _ HBZ.out HPZ.out HO.out.2 (by have := HL.out; have := HT.out; simp only [List.length_append, List.length_cons, List.length_nil] at *; omega)).mono ?_
    rintro e w5 ⟨rfl, hB5, hk5⟩
    go_wp2_with fail
    go_end0
    exact ⟨rfl, by rw [HT.out.1]; simpa using hB5, HKZ.out.trans hk5⟩
   ·have hne : p = [] := List.eq_nil_of_length_eq_zero (by omega)
    have hT : tailT 59 59 p = [] := by unfold tailT; rw [if_pos hne]
    rw [decide_eq_false hp]
    have HT := hid hT
    clear hT hne
    go_wp2_with fail
    go_end0
    exact ⟨rfl, by rw [HT.out]; simpa using HB4p.out, HK4p.out⟩
