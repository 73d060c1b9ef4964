import Derived.Test.YtglhcpmaiogdjaaGreatDoorP14
import Derived.Lib.AppendIntMem
set_option maxRecDepth 100000
set_option maxHeartbeats 16000000
set_option linter.all false
namespace Go.Proofs.YtglhcpmaiogdjaaGreatDoor
section
open Go.Lib (hid)
open Go.RowKit Go.Lib Go.Sort
structure SUri where
 scheme : ByteArray
 raw : ByteArray
 star : Bool
 slashes : Bool
 user : ByteArray
 pass : ByteArray
 host : ByteArray
 port : Int
 params : KVs
 hdrs : KVs
def portT (n : Int) : Bytes := if 0 < n then 58 :: Lib.itoa n else []
def userT (u : SUri) : Bytes := if u.user.data.toList = [] then [] else u.user.data.toList ++ (if u.pass.data.toList = [] then [] else 58 :: u.pass.data.toList) ++ [64]
def tailT (c sep : UInt8) (l : KVs) : Bytes := if l = [] then [] else c :: paramsT sep l
def uriT (u : SUri) : Bytes := u.scheme.data.toList ++ [58] ++
 (if u.raw.data.toList = [] then userT u ++ u.host.data.toList ++ portT u.port ++ tailT 59 59 u.params ++ tailT 63 38 u.hdrs else u.raw.data.toList)
structure UOk (u : SUri) : Prop where
 scheme : u.scheme.data.toList ≠ []
 slashes : u.slashes = false
 host : u.raw.data.toList = [] → HostB u.host
 port : -9223372036854775808 ≤ u.port ∧ u.port ≤ 9223372036854775807
 params : u.raw.data.toList = [] → KVok u.params
 hdrs : u.raw.data.toList = [] → KVok u.hdrs
def UCells (w : World) (cs : Nat → Option Value) (u : SUri) : Prop := cs 0 = some (.string u.scheme) ∧ cs 1 = some (.string u.raw) ∧ cs 2 = some (.bool u.star) ∧ cs 3 = some (.bool u.slashes) ∧ cs 4 = some (.string u.user) ∧
 cs 5 = some (.string u.pass) ∧ cs 6 = some (.string u.host) ∧ cs 7 = some (.int .i64 u.port) ∧ ∃ vp vh, cs 8 = some vp ∧ cs 9 = some vh ∧ PRep w vp u.params ∧ PRep w vh u.hdrs
def UriAt (w : World) (g o : Nat) (u : SUri) : Prop := ∃ cs t fz, w.heap[g]? = some (.cells cs t fz) ∧ t ≠ 5 ∧ t ≠ 148 ∧ UCells w (fun i => cs[o + i]?) u
theorem UriAt.keep {n0 b : Nat} {bs : Bytes} {w w' : World} {g o : Nat} {u : SUri} (h : UriAt w g o u) (hB : BW n0 b bs w) (hk : WK n0 b w w') : UriAt w' g o u := by
 obtain ⟨cs, t, fz, h1, h2, h3, c0, c1, c2, c3, c4, c5, c6, c7, vp, vh, c8, c9, p1, p2⟩ := h
 exact ⟨cs, t, fz, hk.blk h1 (hB.ne_blk h1 h3) h2, h2, h3, c0, c1, c2, c3, c4, c5, c6, c7, vp, vh, c8, c9, p1.keep hB hk, p2.keep hB hk⟩
theorem UriAt.below {w w' : World} {g o : Nat} {u : SUri} (h : UriAt w g o u) (hb : Below w.heap.size w w') : UriAt w' g o u := by
 obtain ⟨cs, t, fz, h1, h2, h3, c0, c1, c2, c3, c4, c5, c6, c7, vp, vh, c8, c9, p1, p2⟩ := h
 exact ⟨cs, t, fz, (hb.block g (heap_lt h1)).trans h1, h2, h3, c0, c1, c2, c3, c4, c5, c6, c7, vp, vh, c8, c9, p1.below hb, p2.below hb⟩
theorem UriAt.cells {w : World} {g o : Nat} {u : SUri} (h : UriAt w g o u) : w.cell? ⟨g, o, none⟩ = some (.string u.scheme) ∧ w.cell? ⟨g, o + 1, none⟩ = some (.string u.raw) ∧ w.cell? ⟨g, o + 2, none⟩ = some (.bool u.star) ∧
  w.cell? ⟨g, o + 3, none⟩ = some (.bool u.slashes) ∧ w.cell? ⟨g, o + 4, none⟩ = some (.string u.user) ∧ w.cell? ⟨g, o + 5, none⟩ = some (.string u.pass) ∧ w.cell? ⟨g, o + 6, none⟩ = some (.string u.host) ∧ w.cell? ⟨g, o + 7, none⟩ = some (.int .i64 u.port) ∧
  ∃ vp vh, w.cell? ⟨g, o + 8, none⟩ = some vp ∧ w.cell? ⟨g, o + 9, none⟩ = some vh ∧ PRep w vp u.params ∧ PRep w vh u.hdrs := by
 obtain ⟨cs, t, fz, h1, h2, h3, c0, c1, c2, c3, c4, c5, c6, c7, vp, vh, c8, c9, p1, p2⟩ := h
 have hc : ∀ j, w.cell? ⟨g, j, none⟩ = cs[j]? := fun j => by simp [World.cell?, h1]
 simp only [hc]
 exact ⟨c0, c1, c2, c3, c4, c5, c6, c7, vp, vh, c8, c9, p1, p2⟩
theorem UriAt.cellKeep {n0 b : Nat} {bs : Bytes} {w w' : World} {g o : Nat} {u : SUri} (h : UriAt w g o u) (hB : BW n0 b bs w) (hk : WK n0 b w w') {j : Nat} {v : Value} (hc : w.cell? ⟨g, j, none⟩ = some v) : w'.cell? ⟨g, j, none⟩ = some v := by
 obtain ⟨cs, t, fz, h1, h2, h3, _⟩ := h
 have h4 := hk.blk h1 (hB.ne_blk h1 h3) h2
 simp only [World.cell?, h1] at hc
 simp only [World.cell?, h4]
 exact hc
theorem itoa_any (n : Int) (h0 : -9223372036854775808 ≤ n) (h1 : n ≤ 9223372036854775807) (w : World) (hG : G0 w) :
  Calls Tryz.prog 98 #[.int .i64 n] w fun e w' => e = .returned (.string ⟨(Lib.itoa n).toArray⟩) ∧ Below w.heap.size w w' := by
 refine (Tryz.strconv_Itoa n h0 h1 w hG.pow10).mono ?_
 rintro e w' ⟨rfl, k, os, rfl⟩
 exact ⟨rfl, below_grow _ _ (Nat.le_refl _) _ _⟩
theorem PRep.slice {w : World} {v : Value} {l : KVs} (h : PRep w v l) : ∃ A c, v = .slice A l.length c ∧ l.length ≤ 9223372036854775807 ∧ (A = none → l = []) := by
 rcases h with ⟨rfl, rfl⟩ | ⟨g, cap, cs, rfl, h2, h2', h3, h4⟩
 ·exact ⟨none, 0, rfl, by simp, fun _ => rfl⟩
 ·exact ⟨_, cap, rfl, by omega, fun h => by cases h⟩
theorem urisw_raw (n0 b : Nat) (bs : Bytes) (g o : Nat) (u : SUri) (w : World) (hB : BW n0 b bs w) (hu : UriAt w g o u) (ho : UOk u) (hraw : u.raw.data.toList ≠ []) (hl : bs.length + (uriT u).length ≤ 140737488355328) :
  Calls Tryz.prog 83 #[.pointer (some ⟨g, o, none⟩), bptr b] w (WrPost n0 b bs (uriT u) w) := by
 have hT : uriT u = u.scheme.data.toList ++ [58] ++ u.raw.data.toList := by unfold uriT; rw [if_neg hraw]
 rw [hT] at hl ⊢
 have e0 : u.scheme.size = u.scheme.data.toList.length := (Array.length_toList).symm
 have e1 : u.raw.size = u.raw.data.toList.length := (Array.length_toList).symm
 simp only [List.length_append, List.length_singleton] at hl
 have HL := hid (And.intro hl (And.intro e0 e1))
 clear hl e0 e1 hT
 have hs1 := se_cons' ho.scheme
 have hr1 := se_cons hraw
 have hna := ws_nilAhead
 have hme := ws_method
 obtain ⟨c0, c1, _⟩ := hu.cells
 have HU := hid hu
 have HB := hid hB
 clear hu hB ho hraw
 go_enter Tryz.func83, Tryz.ntmps83
 go_wp2_with fail
 refine (ws_any n0 b _ _ _ HB.out (by have := HL.out; omega)).mono ?_
 rintro e w1 ⟨rfl, hB1, hk1⟩
 have HB1 := hid hB1
 have HK1 := hid hk1
 clear hB1 hk1 c0 c1
 go_wp2_with fail
 refine (ws_any n0 b _ _ _ HB1.out (by have := HL.out; show _ + 1 ≤ _; simp only [List.length_append]; omega)).mono ?_
 rintro e w2 ⟨rfl, hB2, hk2⟩
 have HB2 := hid hB2
 have HK2 := hid (HK1.out.trans hk2)
 have HU2 := hid (HU.out.keep HB.out HK2.out)
 obtain ⟨_, c1, _⟩ := HU2.out.cells
 clear hB2 hk2
 go_wp2_with fail
 refine stail 8 (by kernel_rfl) (by kernel_rfl) ?_
 simp only [List.take_succ_cons, List.take_zero, List.drop_succ_cons, List.drop_zero]
 repeat still_step
 refine wpStill_nil ?_
 go_wp2_with fail
 refine (ws_any n0 b _ _ _ HB2.out.drew (by have := HL.out; show _ ≤ _; simp only [List.length_append, List.length_cons, List.length_nil]; omega)).mono ?_
 rintro e w3 ⟨rfl, hB3, hk3⟩
 go_wp2_with fail
 go_end0
 exact ⟨rfl, by simpa using hB3, (HK2.out.drew).trans hk3⟩
end
section
open Go.Lib (hid)
open Go.RowKit
def US (n0 b : Nat) (t : Bytes) (g o : Nat) (u : SUri) (w wx : World) : Prop := BW n0 b t wx ∧ WK n0 b w wx ∧ UriAt wx g o u
theorem urisw_sip (N n0 b : Nat) (bs : Bytes) (g o : Nat) (u : SUri) (w : World) (hG : Gl N w) (hN : N ≤ n0) (hB : BW n0 b bs w) (hu : UriAt w g o u) (ho : UOk u) (hraw : u.raw.data.toList = []) (hl : bs.length + (uriT u).length ≤ 140737488355328) :
  Calls Tryz.prog 83 #[.pointer (some ⟨g, o, none⟩), bptr b] w (WrPost n0 b bs (uriT u) w) := by
 have hT : uriT u = u.scheme.data.toList ++ [58] ++ (userT u ++ u.host.data.toList ++ portT u.port ++ tailT 59 59 u.params ++ tailT 63 38 u.hdrs) := by unfold uriT; rw [if_pos hraw]
 rw [hT] at hl ⊢
 have e0 : u.scheme.size = u.scheme.data.toList.length := (Array.length_toList).symm
 have e1 : u.host.size = u.host.data.toList.length := (Array.length_toList).symm
 simp only [List.length_append, List.length_singleton] at hl
 have HL := hid (And.intro hl (And.intro e0 e1))
 clear hl e0 e1 hT
 have hs1 := se_cons' ho.scheme
 have hr1 := se_nil hraw
 have hsl := ho.slashes
 have hhost := ho.host hraw
 have hpar := ho.params hraw
 have hhd := ho.hdrs hraw
 have hpo := ho.port
 have HO := hid (And.intro hhost (And.intro hpar (And.intro hhd hpo)))
 have hna := ws_nilAhead
 have hme := ws_method
 obtain ⟨c0, c1, _⟩ := hu.cells
 have HU := hid hu
 have HB := hid hB
 have HSL := hid hsl
 have HGL := hid hG
 clear hu hB ho hraw hhost hpar hhd hpo hsl hG
 go_enter Tryz.func83, Tryz.ntmps83
 go_wp2_with fail
 refine (ws_any n0 b _ _ _ HB.out (by have := HL.out; omega)).mono ?_
 rintro e w1 ⟨rfl, hB1, hk1⟩
 have HB1 := hid hB1
 have HK1 := hid hk1
 clear hB1 hk1 c0 c1
 go_wp2_with fail
 refine (ws_any n0 b _ _ _ HB1.out (by have := HL.out; show _ + 1 ≤ _; simp only [List.length_append]; omega)).mono ?_
 rintro e w2 ⟨rfl, hB2, hk2⟩
 have HB2 := hid hB2
 have HK2 := hid (HK1.out.trans hk2)
 have HU2 := hid (HU.out.keep HB.out HK2.out)
 obtain ⟨_, c1, _, c3, c4, c5, _⟩ := HU2.out.cells
 rw [HSL.out] at c3
 clear hB2 hk2
 go_upto_if 43 with fail
 go_cut [] (fun wx => US n0 b (bs ++ u.scheme.data.toList ++ [58] ++ userT u) g o u w wx)
 case first =>
  by_cases hus : u.user.data.toList = []
  ·have h1 := se_nil hus
   have hT : userT u = [] := by unfold userT; rw [if_pos hus]
   have HT := hid hT
   clear hus hT
   rw [h1]
   go_wp2_with fail
   go_meet
   exact ⟨by rw [HT.out, List.append_nil]; exact HB2.out, HK2.out, HU2.out⟩
  ·have h1 := se_cons hus
   have hlu : u.user.size = u.user.data.toList.length := (Array.length_toList).symm
   have hlp : u.pass.size = u.pass.data.toList.length := (Array.length_toList).symm
   rw [h1]
   by_cases hps : u.pass.data.toList = []
   ·have h2 := se_nil hps
    have hT : userT u = u.user.data.toList ++ [64] := by unfold userT; rw [if_neg hus, if_pos hps]; simp
    have hTl : (userT u).length = u.user.data.toList.length + 1 := by rw [hT]; simp
    have HT := hid (And.intro hT (And.intro hTl (And.intro hlu hlp)))
    clear hus hps hT hTl hlu hlp
    go_wp2_with fail
    refine stail 8 (by kernel_rfl) (by kernel_rfl) ?_
    simp only [List.take_succ_cons, List.take_zero, List.drop_succ_cons, List.drop_zero]
    repeat still_step
    refine wpStill_nil ?_
    have HBA := hid HB2.out.drew
    have HKA := hid HK2.out.drew
    have HUA := hid (HU2.out.below (Below.refl _ w2).drew)
    go_wp2_with fail
    refine (ws_any n0 b _ _ _ HBA.out (by have := HL.out; have := HT.out; simp only [List.length_append, List.length_cons, List.length_nil] at *; omega)).mono ?_
    rintro e wB ⟨rfl, hBB, hkB⟩
    have HBB := hid hBB
    have HKB := hid (HKA.out.trans hkB)
    have HUB := hid (HUA.out.keep HBA.out hkB)
    clear hBB hkB
    obtain ⟨_, _, _, _, _, d5, _⟩ := HUB.out.cells
    go_wp2_with fail
    refine (ws_any n0 b _ _ _ HBB.out (by have := HL.out; have := HT.out; show _ + 1 ≤ _; simp only [List.length_append, List.length_cons, List.length_nil] at *; omega)).mono ?_
    rintro e wC ⟨rfl, hBC, hkC⟩
    have HBC := hid hBC
    have HKC := hid (HKB.out.trans hkC)
    have HUC := hid (HUB.out.keep HBB.out hkC)
    clear hBC hkC
    go_wp2_with fail
    go_meet
    exact ⟨by rw [HT.out.1]; simpa using HBC.out, HKC.out, HUC.out⟩
   ·have h2 := se_cons hps
    have hT : userT u = u.user.data.toList ++ 58 :: u.pass.data.toList ++ [64] := by unfold userT; rw [if_neg hus, if_neg hps]
    have hTl : (userT u).length = u.user.data.toList.length + 1 + u.pass.data.toList.length + 1 := by rw [hT]; simp; omega
    have HT := hid (And.intro hT (And.intro hTl (And.intro hlu hlp)))
    clear hus hps hT hTl hlu hlp
    go_wp2_with fail
    refine stail 8 (by kernel_rfl) (by kernel_rfl) ?_
    simp only [List.take_succ_cons, List.take_zero, List.drop_succ_cons, List.drop_zero]
    repeat still_step
    refine wpStill_nil ?_
    have HBA := hid HB2.out.drew
    have HKA := hid HK2.out.drew
    have HUA := hid (HU2.out.below (Below.refl _ w2).drew)
    go_wp2_with fail
    refine (ws_any n0 b _ _ _ HBA.out (by have := HL.out; have := HT.out; simp only [List.length_append, List.length_cons, List.length_nil] at *; omega)).mono ?_
    rintro e wB ⟨rfl, hBB, hkB⟩
    have HBB := hid hBB
    have HKB := hid (HKA.out.trans hkB)
    have HUB := hid (HUA.out.keep HBA.out hkB)
    clear hBB hkB
    obtain ⟨_, _, _, _, _, d5, _⟩ := HUB.out.cells
    go_wp2_with fail
    refine (ws_any n0 b _ _ _ HBB.out (by have := HL.out; have := HT.out; show _ + 1 ≤ _; simp only [List.length_append, List.length_cons, List.length_nil] at *; omega)).mono ?_
    rintro e wC ⟨rfl, hBC, hkC⟩
    have HBC := hid hBC
    have HKC := hid (HKB.out.trans hkC)
    have HUC := hid (HUB.out.keep HBB.out hkC)
    clear hBC hkC
    clear d5
    obtain ⟨_, _, _, _, _, d5, _⟩ := HUC.out.cells
    go_wp2_with fail
    refine stail 8 (by kernel_rfl) (by kernel_rfl) ?_
    simp only [List.take_succ_cons, List.take_zero, List.drop_succ_cons, List.drop_zero]
    repeat still_step
    refine wpStill_nil ?_
    have HBD := hid HBC.out.drew
    have HKD := hid HKC.out.drew
    have HUD := hid (HUC.out.below (Below.refl _ wC).drew)
    go_wp2_with fail
    refine (ws_any n0 b _ _ _ HBD.out (by have := HL.out; have := HT.out; simp only [List.length_append, List.length_cons, List.length_nil] at *; omega)).mono ?_
    rintro e wE ⟨rfl, hBE, hkE⟩
    have HBE := hid hBE
    have HKE := hid (HKD.out.trans hkE)
    have HUE := hid (HUD.out.keep HBD.out hkE)
    clear hBE hkE
    go_wp2_with fail
    refine (ws_any n0 b _ _ _ HBE.out (by have := HL.out; have := HT.out; show _ + 1 ≤ _; simp only [List.length_append, List.length_cons, List.length_nil] at *; omega)).mono ?_
    rintro e wF ⟨rfl, hBF, hkF⟩
    have HBF := hid hBF
    have HKF := hid (HKE.out.trans hkF)
    have HUF := hid (HUE.out.keep HBE.out hkF)
    clear hBF hkF
    go_wp2_with fail
    go_meet
    exact ⟨by rw [HT.out.1]; simpa using HBF.out, HKF.out, HUF.out⟩
 case rest =>
  obtain ⟨hB3, hK3, hU3⟩ := hcut
  have HB3 := hid hB3
  have HK3 := hid hK3
  have HU3 := hid hU3
  have hgl := HGL.out.below HK3.out.1 hN
  have HG3 := hid ((hgl.below (Below.refl N _).drew (Nat.le_refl _)).get)
  clear hgl hB3 hK3 hU3
  obtain ⟨w3, rfl⟩ : ∃ w3 : World, w3 = wc := ⟨_, rfl⟩
  clear c1 c3 c4 c5
  obtain ⟨_, _, _, _, _, _, c6, _⟩ := HU3.out.cells
  have HC := hid c6
  have HX := hid (show u.host.size ≤ 9223372036854775807 ∧ u.host.size = u.host.data.toList.length by have := HL.out; omega)
  go_upto_region 15 with fail
  go_cut [] (fun wx => US n0 b (bs ++ u.scheme.data.toList ++ [58] ++ userT u ++ u.host.data.toList) g o u w wx)
  case first =>
   go_region_held3 (fun w' => w'.cell? ⟨g, o + 6, none⟩ = some (.string u.host)) (first | exact HC.out | exact cell_below (w := w3.drew) hb4 HC.out | exact ((HU3.out.below (Below.refl _ w3).drew).below hb4).cellKeep (HB3.out.drew.below hb4) hk5 (cell_below (w := w3.drew) hb4 HC.out))
    (first
     | (go_at_call 97; refine (uriip_any u.host _ ?_ ?_ ?_).mono ?_; exact HG3.out; exact HX.out.1; exact HO.out.1; rintro e w4 ⟨rfl, hb4⟩)
     | (go_at_call 89; refine (ws_any n0 b _ _ _ (HB3.out.drew.below hb4) ?_).mono ?_; (have := HL.out; have := HX.out; simp only [List.length_append, List.length_cons, List.length_nil] at *; first | omega | (show _ + List.length _ ≤ _; omega)); rintro e w5 ⟨rfl, hB5, hk5⟩))
   all_goals (go_wp2_with fail; go_meet; exact ⟨by simpa using hB5, HK3.out.trans ((WK.refl _ _ _).drew.trans ((WK.of_below (w := w3.drew) hb4 (Nat.le_of_lt (Nat.lt_of_le_of_lt HB3.out.lt.1 HB3.out.lt.2))).trans hk5)), ((HU3.out.below (Below.refl _ w3).drew).below hb4).keep (HB3.out.drew.below hb4) hk5⟩)
  case rest =>
   obtain ⟨hB6, hK6, hU6⟩ := hcut
   have HB6 := hid hB6
   have HK6 := hid hK6
   have HU6 := hid hU6
   have hgl := HGL.out.below HK6.out.1 hN
   clear hgl hB6 hK6 hU6
   obtain ⟨w6, rfl⟩ : ∃ w6 : World, w6 = wc := ⟨_, rfl⟩
   clear c6
   obtain ⟨_, _, _, _, _, _, _, c7, _⟩ := HU6.out.cells
   have hpo := HO.out.2.2.2
   have hp1 := hpo.1
   have hp2 := hpo.2
   clear hpo
   go_upto_if 85 with fail
   go_cut [] (fun wx => US n0 b (bs ++ u.scheme.data.toList ++ [58] ++ userT u ++ u.host.data.toList ++ portT u.port) g o u w wx)
   case first =>
    by_cases hp : 0 < u.port
    ·rw [decide_eq_true hp]
     have hT : portT u.port = 58 :: Lib.itoa u.port := by unfold portT; rw [if_pos hp]
     have hTl : (portT u.port).length = 1 + (Lib.itoa u.port).length := by rw [hT]; simp; omega
     have hitl : ∀ l : Bytes, (⟨l.toArray⟩ : ByteArray).size = l.length := fun l => by show l.toArray.size = _; simp
     have HT := hid (And.intro hT hTl)
     have HX := hid (And.intro hTl (hitl (Lib.itoa u.port)))
     clear hT hTl hitl
     go_wp2_with fail
     refine (ws_any n0 b _ _ _ HB6.out (by have := HL.out; have := HT.out.2; show _ + 1 ≤ _; simp only [List.length_append, List.length_cons, List.length_nil] at *; omega)).mono ?_
     rintro e w7 ⟨rfl, hB7, hk7⟩
     have HB7 := hid hB7
     have HK7 := hid (HK6.out.trans hk7)
     have HU7 := hid (HU6.out.keep HB6.out hk7)
     clear hB7 hk7
     clear c7
     obtain ⟨_, _, _, _, _, _, _, c7, _⟩ := HU7.out.cells
     have HC := hid c7
     have hgl := HGL.out.below HK7.out.1 hN
     have HG7 := hid ((hgl.below (Below.refl N _).drew (Nat.le_refl _)).get)
     clear hgl
     go_wp2_with fail
     go_region_held3 (fun w' => w'.cell? ⟨g, o + 7, none⟩ = some (.int .i64 u.port)) (first | exact HC.out | exact cell_below (w := w7.drew) hb4 HC.out | exact ((HU7.out.below (Below.refl _ w7).drew).below hb4).cellKeep (HB7.out.drew.below hb4) hk5 (cell_below (w := w7.drew) hb4 HC.out))
      (first
       | (go_at_call 98; refine (itoa_any u.port ?_ ?_ _ ?_).mono ?_; exact HO.out.2.2.2.1; exact HO.out.2.2.2.2; exact HG7.out; rintro e w4 ⟨rfl, hb4⟩)
       | (go_at_call 89; refine (ws_any n0 b _ _ _ (HB7.out.drew.below hb4) ?_).mono ?_; (have := HL.out; have := HX.out; simp only [List.length_append, List.length_cons, List.length_nil] at *; first | omega | (show _ + List.length _ ≤ _; omega)); rintro e w5 ⟨rfl, hB5, hk5⟩))
     all_goals (go_wp2_with fail; go_meet; exact ⟨by rw [HT.out.1]; simpa using hB5, HK7.out.trans ((WK.refl _ _ _).drew.trans ((WK.of_below (w := w7.drew) hb4 (Nat.le_of_lt (Nat.lt_of_le_of_lt HB7.out.lt.1 HB7.out.lt.2))).trans hk5)), ((HU7.out.below (Below.refl _ w7).drew).below hb4).keep (HB7.out.drew.below hb4) hk5⟩)
    ·have hT : portT u.port = [] := by unfold portT; rw [if_neg hp]
     rw [decide_eq_false hp]
     have HT := hid hT
     clear hT
     go_wp2_with fail
     go_meet
     exact ⟨by rw [HT.out, List.append_nil]; exact HB6.out, HK6.out, HU6.out⟩
   case rest =>
    obtain ⟨hB8, hK8, hU8⟩ := hcut
    have HB8 := hid hB8
    have HK8 := hid hK8
    have HU8 := hid hU8
    have hgl := HGL.out.below HK8.out.1 hN
    clear hgl hB8 hK8 hU8
    clear c7
    obtain ⟨w8, rfl⟩ : ∃ w8 : World, w8 = wc := ⟨_, rfl⟩
    obtain ⟨_, _, _, _, _, _, _, _, vp, vh, c8, c9, p1, p2⟩ := HU8.out.cells
    obtain ⟨A, c, hv, hn, hA⟩ := p1.slice
    rw [hv] at c8 p1
    have HP := hid p1
    have HA := hid hA
    have HV := hid hv
    clear p1 p2 hA hv
    go_upto_region 19 with fail
    go_cut [110] (fun s wx => s = .bool (decide (0 < u.params.length)) ∧ US n0 b (bs ++ u.scheme.data.toList ++ [58] ++ userT u ++ u.host.data.toList ++ portT u.port) g o u w wx)
    case first =>
     rcases A with _ | a
     ·have hl0 := HA.out rfl
      have hd : decide (0 < u.params.length) = false := by rw [hl0]; rfl
      have HD := hid hd
      clear hl0 hd
      go_wp2_with fail
      go_meet
      exact ⟨by rw [HD.out], HB8.out, HK8.out, HU8.out⟩
     ·go_wp2_with (go_at_call 99; refine (plen_any _ _ _ _ hn).mono ?_; rintro e w1 ⟨rfl, rfl⟩)
      go_meet
      exact ⟨rfl, HB8.out, HK8.out, HU8.out⟩
    case rest =>
     obtain ⟨rfl, hB9, hK9, hU9⟩ := hcut
     obtain ⟨w9, rfl⟩ : ∃ w9 : World, w9 = wc := ⟨_, rfl⟩
     have HB9 := hid hB9
     have HK9 := hid hK9
     have HU9 := hid hU9
     have hgl := HGL.out.below HK9.out.1 hN
     clear hgl hB9 hK9 hU9
     clear c8 c9
     go_upto_if 110 with fail
     go_cut [] (fun wx => US n0 b (bs ++ u.scheme.data.toList ++ [58] ++ userT u ++ u.host.data.toList ++ portT u.port ++ tailT 59 59 u.params) g o u w wx)
     case first =>
      by_cases hp : 0 < u.params.length
      ·rw [decide_eq_true hp]
       have hne : u.params ≠ [] := fun e => by rw [e] at hp; exact absurd hp (by decide)
       have hT : tailT 59 59 u.params = 59 :: paramsT 59 u.params := by unfold tailT; rw [if_neg hne]
       have hTl : (tailT 59 59 u.params).length = 1 + (paramsT 59 u.params).length := by rw [hT]; simp; omega
       have hps : (psepT 59 u.params).length = (paramsT 59 u.params).length + 1 := by
        unfold paramsT
        rw [List.length_drop]
        cases h : u.params with
        | nil => exact absurd h hne
        | cons p r => simp [psepT]
       have hitl : ∀ l : Bytes, (⟨l.toArray⟩ : ByteArray).size = l.length := fun l => by show l.toArray.size = _; simp
       have HT := hid (And.intro hT (And.intro hTl hps))
       have HX := hid (And.intro hTl (And.intro hps (hitl (paramsT 59 u.params))))
       clear hT hTl hitl hps hne
       go_wp2_with fail
       refine (ws_any n0 b _ _ _ HB9.out (by have := HL.out; have := HT.out.2; show _ + 1 ≤ _; simp only [List.length_append, List.length_cons, List.length_nil] at *; omega)).mono ?_
       rintro e wZ ⟨rfl, hBZ, hkZ⟩
       have HBZ := hid hBZ
       have HKZ := hid (HK9.out.trans hkZ)
       have HUZ := hid (HU9.out.keep HB9.out hkZ)
       clear hBZ hkZ
       obtain ⟨_, _, _, _, _, _, _, _, vp2, vh2, c8, c9, p1, p2⟩ := HUZ.out.cells
       have HC := hid c8
       have HPZ := hid p1
       clear p1 p2
       go_wp2_with fail
       go_region_held3 (fun w' => w'.cell? ⟨g, o + 8, none⟩ = some (vp2)) (first | exact HC.out | exact cell_below (w := wZ.drew) hb4 HC.out | exact ((HUZ.out.below (Below.refl _ wZ).drew).below hb4).cellKeep (HBZ.out.drew.below hb4) hk5 (cell_below (w := wZ.drew) hb4 HC.out))
        (first
         | (go_at_call 100; refine (ptos_any 59 vp2 u.params _ ?_ ?_ ?_).mono ?_; exact HPZ.out.below (Below.refl _ wZ).drew; exact HO.out.2.1; (have := HL.out; have := HT.out; simp only [List.length_append, List.length_cons, List.length_nil] at *; omega); rintro e w4 ⟨rfl, hb4⟩)
         | (go_at_call 89; refine (ws_any n0 b _ _ _ (HBZ.out.drew.below hb4) ?_).mono ?_; (have := HL.out; have := HX.out; simp only [List.length_append, List.length_cons, List.length_nil] at *; first | omega | (show _ + List.length _ ≤ _; omega)); rintro e w5 ⟨rfl, hB5, hk5⟩))
       all_goals (go_wp2_with fail; go_meet; exact ⟨by rw [HT.out.1]; simpa using hB5, HKZ.out.trans ((WK.refl _ _ _).drew.trans ((WK.of_below (w := wZ.drew) hb4 (Nat.le_of_lt (Nat.lt_of_le_of_lt HBZ.out.lt.1 HBZ.out.lt.2))).trans hk5)), ((HUZ.out.below (Below.refl _ wZ).drew).below hb4).keep (HBZ.out.drew.below hb4) hk5⟩)
      ·have hne : u.params = [] := List.eq_nil_of_length_eq_zero (by omega)
       have hT : tailT 59 59 u.params = [] := by unfold tailT; rw [if_pos hne]
       rw [decide_eq_false hp]
       have HT := hid hT
       clear hT hne
       go_wp2_with fail
       go_meet
       exact ⟨by rw [HT.out, List.append_nil]; exact HB9.out, HK9.out, HU9.out⟩
     case rest =>
      obtain ⟨hB10, hK10, hU10⟩ := hcut
      have HB10 := hid hB10
      have HK10 := hid hK10
      have HU10 := hid hU10
      have hgl := HGL.out.below HK10.out.1 hN
      clear hgl hB10 hK10 hU10
      obtain ⟨w10, rfl⟩ : ∃ w10 : World, w10 = wc := ⟨_, rfl⟩
      obtain ⟨_, _, _, _, _, _, _, _, vp, vh, c8, c9, p1, p2⟩ := HU10.out.cells
      obtain ⟨A, c, hv, hn, hA⟩ := p2.slice
      rw [hv] at c9 p2
      have HP := hid p2
      have HA := hid hA
      have HV := hid hv
      clear p1 p2 hA hv
      go_upto_region 22 with fail
      go_cut [135] (fun s wx => s = .bool (decide (0 < u.hdrs.length)) ∧ US n0 b (bs ++ u.scheme.data.toList ++ [58] ++ userT u ++ u.host.data.toList ++ portT u.port ++ tailT 59 59 u.params) g o u w wx)
      case first =>
       rcases A with _ | a
       ·have hl0 := HA.out rfl
        have hd : decide (0 < u.hdrs.length) = false := by rw [hl0]; rfl
        have HD := hid hd
        clear hl0 hd
        go_wp2_with fail
        go_meet
        exact ⟨by rw [HD.out], HB10.out, HK10.out, HU10.out⟩
       ·go_wp2_with (go_at_call 99; refine (plen_any _ _ _ _ hn).mono ?_; rintro e w1 ⟨rfl, rfl⟩)
        go_meet
        exact ⟨rfl, HB10.out, HK10.out, HU10.out⟩
      case rest =>
       obtain ⟨rfl, hB11, hK11, hU11⟩ := hcut
       obtain ⟨w11, rfl⟩ : ∃ w11 : World, w11 = wc := ⟨_, rfl⟩
       have HB11 := hid hB11
       have HK11 := hid hK11
       have HU11 := hid hU11
       have hgl := HGL.out.below HK11.out.1 hN
       clear hgl hB11 hK11 hU11
       clear c8 c9
       go_upto_if 135 with fail
       by_cases hp : 0 < u.hdrs.length
       ·rw [decide_eq_true hp]
        have hne : u.hdrs ≠ [] := fun e => by rw [e] at hp; exact absurd hp (by decide)
        have hT : tailT 63 38 u.hdrs = 63 :: paramsT 38 u.hdrs := by unfold tailT; rw [if_neg hne]
        have hTl : (tailT 63 38 u.hdrs).length = 1 + (paramsT 38 u.hdrs).length := by rw [hT]; simp; omega
        have hps : (psepT 38 u.hdrs).length = (paramsT 38 u.hdrs).length + 1 := by
         unfold paramsT
         rw [List.length_drop]
         cases h : u.hdrs with
         | nil => exact absurd h hne
         | cons p r => simp [psepT]
        have hitl : ∀ l : Bytes, (⟨l.toArray⟩ : ByteArray).size = l.length := fun l => by show l.toArray.size = _; simp
        have HT := hid (And.intro hT (And.intro hTl hps))
        have HX := hid (And.intro hTl (And.intro hps (hitl (paramsT 38 u.hdrs))))
        clear hT hTl hitl hps hne
        go_wp2_with fail
        refine (ws_any n0 b _ _ _ HB11.out (by have := HL.out; have := HT.out.2; show _ + 1 ≤ _; simp only [List.length_append, List.length_cons, List.length_nil] at *; omega)).mono ?_
        rintro e wZ ⟨rfl, hBZ, hkZ⟩
        have HBZ := hid hBZ
        have HKZ := hid (HK11.out.trans hkZ)
        have HUZ := hid (HU11.out.keep HB11.out hkZ)
        clear hBZ hkZ
        obtain ⟨_, _, _, _, _, _, _, _, vp2, vh2, c8, c9, p1, p2⟩ := HUZ.out.cells
        have HC := hid c9
        have HPZ := hid p2
        clear p1 p2
        go_wp2_with fail
        go_region_held3 (fun w' => w'.cell? ⟨g, o + 9, none⟩ = some (vh2)) (first | exact HC.out | exact cell_below (w := wZ.drew) hb4 HC.out | exact ((HUZ.out.below (Below.refl _ wZ).drew).below hb4).cellKeep (HBZ.out.drew.below hb4) hk5 (cell_below (w := wZ.drew) hb4 HC.out))
         (first
          | (go_at_call 100; refine (ptos_any 38 vh2 u.hdrs _ ?_ ?_ ?_).mono ?_; exact HPZ.out.below (Below.refl _ wZ).drew; exact HO.out.2.2.1; (have := HL.out; have := HT.out; simp only [List.length_append, List.length_cons, List.length_nil] at *; omega); rintro e w4 ⟨rfl, hb4⟩)
          | (go_at_call 89; refine (ws_any n0 b _ _ _ (HBZ.out.drew.below hb4) ?_).mono ?_; (have := HL.out; have := HX.out; simp only [List.length_append, List.length_cons, List.length_nil] at *; first | omega | (show _ + List.length _ ≤ _; omega)); rintro e w5 ⟨rfl, hB5, hk5⟩))
        all_goals (go_wp2_with fail; go_end0; exact ⟨rfl, by rw [HT.out.1]; simpa using hB5, HKZ.out.trans ((WK.refl _ _ _).drew.trans ((WK.of_below (w := wZ.drew) hb4 (Nat.le_of_lt (Nat.lt_of_le_of_lt HBZ.out.lt.1 HBZ.out.lt.2))).trans hk5))⟩)
       ·have hne : u.hdrs = [] := List.eq_nil_of_length_eq_zero (by omega)
        have hT : tailT 63 38 u.hdrs = [] := by unfold tailT; rw [if_pos hne]
        rw [decide_eq_false hp]
        have HT := hid hT
        clear hT hne
        go_wp2_with fail
        go_end0
        exact ⟨rfl, by rw [HT.out]; simpa using HB11.out, HK11.out⟩
theorem urisw_any (N n0 b : Nat) (bs : Bytes) (g o : Nat) (u : SUri) (w : World) (hG : Gl N w) (hN : N ≤ n0) (hB : BW n0 b bs w) (hu : UriAt w g o u) (ho : UOk u) (hl : bs.length + (uriT u).length ≤ 140737488355328) :
  Calls Tryz.prog 83 #[.pointer (some ⟨g, o, none⟩), bptr b] w (WrPost n0 b bs (uriT u) w) := by
 by_cases hr : u.raw.data.toList = []
 ·exact urisw_sip N n0 b bs g o u w hG hN hB hu ho hr hl
 ·exact urisw_raw n0 b bs g o u w hB hu ho hr hl
theorem uristr_any (N : Nat) (g o : Nat) (u : SUri) (w : World) (hG : Gl N w) (hu : UriAt w g o u) (ho : UOk u) (hl : (uriT u).length ≤ 140737488355328) :
  Calls Tryz.prog 56 #[.pointer (some ⟨g, o, none⟩)] w (StrPost (uriT u) w) := by
 have HG := hid hG
 have HU := hid hu
 have HO := hid ho
 clear hG hu ho
 have hb0 : Below w.heap.size w (w.alloc (.cells #[.pointer none, .slice none 0 0] 148)) := (Below.refl _ _).alloc (Nat.le_refl _) _
 have HB0 := hid hb0
 clear hb0
 go_enter Tryz.func56, Tryz.ntmps56
 go_wp2_with fail
 refine (urisw_any N w.heap.size w.heap.size [] g o u _ (HG.out.step HB0.out) HG.out.le (BW.fresh w) (HU.out.below HB0.out) HO.out (by simpa using hl)).mono ?_
 rintro e w1 ⟨rfl, hB1, hk1⟩
 have HB1 := hid hB1
 have HK1 := hid hk1
 clear hB1 hk1
 go_wp2_with fail
 refine (bstr_any w.heap.size w.heap.size _ _ HB1.out).mono ?_
 rintro e w2 ⟨rfl, hB2, hk2⟩
 go_wp2_with fail
 go_ret
 exact ⟨rets (by simp), (HB0.out.trans HK1.out.1).trans hk2.1⟩
def HB (w : World) (g : Nat) (t : TypeId) (cs : Array Value) : Prop := w.heap[g]? = some (.cells cs t (0, 0)) ∧ t ≠ 5 ∧ t ≠ 148
theorem HB.keep {n0 b : Nat} {bs : Bytes} {w w' : World} {g : Nat} {t : TypeId} {cs : Array Value} (h : HB w g t cs) (hB : BW n0 b bs w) (hk : WK n0 b w w') : HB w' g t cs := ⟨hk.blk h.1 (hB.ne_blk h.1 h.2.2) h.2.1, h.2⟩
theorem HB.below {w w' : World} {g : Nat} {t : TypeId} {cs : Array Value} (h : HB w g t cs) (hb : Below w.heap.size w w') : HB w' g t cs := ⟨(hb.block g (heap_lt h.1)).trans h.1, h.2⟩
theorem HB.cell {w : World} {g : Nat} {t : TypeId} {cs : Array Value} (h : HB w g t cs) (j : Nat) : w.cell? ⟨g, j, none⟩ = cs[j]? := by simp [World.cell?, h.1]
theorem HB.cellKeep {n0 b : Nat} {bs : Bytes} {w w' : World} {g : Nat} {t : TypeId} {cs : Array Value} (h : HB w g t cs) (hB : BW n0 b bs w) (hk : WK n0 b w w') {j : Nat} {v : Value} (hc : w.cell? ⟨g, j, none⟩ = some v) : w'.cell? ⟨g, j, none⟩ = some v := by
 rw [(h.keep hB hk).cell, ← h.cell]; exact hc
def AddrAt (t : TypeId) (w : World) (g : Nat) (d : ByteArray) (u : SUri) (p : KVs) : Prop := ∃ cs, HB w g t cs ∧ cs[0]? = some (.string d) ∧ UCells w (fun i => cs[1 + i]?) u ∧ ∃ vp, cs[11]? = some vp ∧ PRep w vp p
theorem UCells.keep {n0 b : Nat} {bs : Bytes} {w w' : World} {cs : Nat → Option Value} {u : SUri} (h : UCells w cs u) (hB : BW n0 b bs w) (hk : WK n0 b w w') : UCells w' cs u := by
 obtain ⟨c0, c1, c2, c3, c4, c5, c6, c7, vp, vh, c8, c9, p1, p2⟩ := h
 exact ⟨c0, c1, c2, c3, c4, c5, c6, c7, vp, vh, c8, c9, p1.keep hB hk, p2.keep hB hk⟩
theorem UCells.below {w w' : World} {cs : Nat → Option Value} {u : SUri} (h : UCells w cs u) (hb : Below w.heap.size w w') : UCells w' cs u := by
 obtain ⟨c0, c1, c2, c3, c4, c5, c6, c7, vp, vh, c8, c9, p1, p2⟩ := h
 exact ⟨c0, c1, c2, c3, c4, c5, c6, c7, vp, vh, c8, c9, p1.below hb, p2.below hb⟩
section
variable {t : TypeId} {n0 b : Nat} {bs : Bytes} {w w' : World} {g : Nat} {d : ByteArray} {u : SUri} {p : KVs}
theorem AddrAt.keep (h : AddrAt t w g d u p) (hB : BW n0 b bs w) (hk : WK n0 b w w') : AddrAt t w' g d u p := by
 obtain ⟨cs, h1, h2, h3, vp, h4, h5⟩ := h
 exact ⟨cs, h1.keep hB hk, h2, h3.keep hB hk, vp, h4, h5.keep hB hk⟩
theorem AddrAt.below (h : AddrAt t w g d u p) (hb : Below w.heap.size w w') : AddrAt t w' g d u p := by
 obtain ⟨cs, h1, h2, h3, vp, h4, h5⟩ := h
 exact ⟨cs, h1.below hb, h2, h3.below hb, vp, h4, h5.below hb⟩
theorem AddrAt.uri (h : AddrAt t w g d u p) : UriAt w g 1 u := by
 obtain ⟨cs, h1, h2, h3, vp, h4, h5⟩ := h
 exact ⟨cs, t, (0, 0), h1.1, h1.2.1, h1.2.2, h3⟩
theorem AddrAt.cells (h : AddrAt t w g d u p) : w.cell? ⟨g, 0, none⟩ = some (.string d) ∧ w.cell? ⟨g, 3, none⟩ = some (.bool u.star) ∧ ∃ vp, w.cell? ⟨g, 11, none⟩ = some vp ∧ PRep w vp p := by
 obtain ⟨cs, h1, h2, h3, vp, h4, h5⟩ := h
 exact ⟨(h1.cell 0).trans h2, (h1.cell 3).trans h3.2.2.1, vp, (h1.cell 11).trans h4, h5⟩
theorem AddrAt.cellKeep (h : AddrAt t w g d u p) (hB : BW n0 b bs w) (hk : WK n0 b w w') {j : Nat} {v : Value} (hc : w.cell? ⟨g, j, none⟩ = some v) : w'.cell? ⟨g, j, none⟩ = some v := by
 obtain ⟨cs, h1, _⟩ := h
 exact h1.cellKeep hB hk hc
end
def showT (d : ByteArray) : Bytes := if d.data.toList = [] then [] else 34 :: d.data.toList ++ [34, 32]
def addrT (d : ByteArray) (u : SUri) (p : KVs) : Bytes := showT d ++ [60] ++ uriT u ++ [62] ++ tailT 59 59 p
structure SVia where
 pn : ByteArray
 pv : ByteArray
 tr : ByteArray
 host : ByteArray
 port : Int
 params : KVs
def ViaAt (w : World) (g : Nat) (v : SVia) : Prop := ∃ cs, HB w g 154 cs ∧ cs[0]? = some (.string v.pn) ∧ cs[1]? = some (.string v.pv) ∧ cs[2]? = some (.string v.tr) ∧ cs[3]? = some (.string v.host) ∧ cs[4]? = some (.int .i64 v.port) ∧ ∃ vp, cs[5]? = some vp ∧ PRep w vp v.params
section
variable {n0 b : Nat} {bs : Bytes} {w w' : World} {g : Nat} {v : SVia}
theorem ViaAt.keep (h : ViaAt w g v) (hB : BW n0 b bs w) (hk : WK n0 b w w') : ViaAt w' g v := by
 obtain ⟨cs, h1, c0, c1, c2, c3, c4, vp, c5, h5⟩ := h
 exact ⟨cs, h1.keep hB hk, c0, c1, c2, c3, c4, vp, c5, h5.keep hB hk⟩
theorem ViaAt.below (h : ViaAt w g v) (hb : Below w.heap.size w w') : ViaAt w' g v := by
 obtain ⟨cs, h1, c0, c1, c2, c3, c4, vp, c5, h5⟩ := h
 exact ⟨cs, h1.below hb, c0, c1, c2, c3, c4, vp, c5, h5.below hb⟩
theorem ViaAt.cells (h : ViaAt w g v) : w.cell? ⟨g, 0, none⟩ = some (.string v.pn) ∧ w.cell? ⟨g, 1, none⟩ = some (.string v.pv) ∧ w.cell? ⟨g, 2, none⟩ = some (.string v.tr) ∧ w.cell? ⟨g, 3, none⟩ = some (.string v.host) ∧ w.cell? ⟨g, 4, none⟩ = some (.int .i64 v.port) ∧ ∃ vp, w.cell? ⟨g, 5, none⟩ = some vp ∧ PRep w vp v.params := by
 obtain ⟨cs, h1, c0, c1, c2, c3, c4, vp, c5, h5⟩ := h
 simp only [h1.cell]
 exact ⟨c0, c1, c2, c3, c4, vp, c5, h5⟩
theorem ViaAt.cellKeep (h : ViaAt w g v) (hB : BW n0 b bs w) (hk : WK n0 b w w') {j : Nat} {x : Value} (hc : w.cell? ⟨g, j, none⟩ = some x) : w'.cell? ⟨g, j, none⟩ = some x := by
 obtain ⟨cs, h1, _⟩ := h
 exact h1.cellKeep hB hk hc
end
def viaT (v : SVia) : Bytes := v.pn.data.toList ++ [47] ++ v.pv.data.toList ++ [47] ++ v.tr.data.toList ++ [32] ++ v.host.data.toList ++ portT v.port ++ tailT 59 59 v.params
structure VOk (v : SVia) : Prop where
 host : HostB v.host
 port : -9223372036854775808 ≤ v.port ∧ v.port ≤ 9223372036854775807
 params : KVok v.params
end
