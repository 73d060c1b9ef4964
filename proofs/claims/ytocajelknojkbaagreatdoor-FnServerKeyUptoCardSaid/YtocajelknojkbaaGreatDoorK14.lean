import Derived.Test.YtocajelknojkbaaGreatDoorK13
set_option maxRecDepth 100000
set_option maxHeartbeats 16000000
set_option linter.all false
namespace Go.Proofs.YtocajelknojkbaaGreatDoor
open Go.Lib (hid)
open Go.RowKit
theorem isonce_any (v : Value) (l : BKVs) (w : World) (hS : SK w v l) : Calls Tryz.prog 91 #[v] w (SomeB w) := by
 have HS := hid hS
 obtain ⟨A, c, rfl, hlen⟩ := hS.form
 clear hS
 go_enter Tryz.func91, Tryz.ntmps91
 go_wp2_with fail
 go_loopw [3, 4] (fun i _ wr => ∃ k : Nat, k ≤ l.length ∧ i = .int .i64 k ∧ Below w.heap.size w wr) (fun i _ _ => l.length - (intOf i).toNat)
 case atStart => exact ⟨0, Nat.zero_le _, rfl, Below.refl _ _⟩
 case round =>
  obtain ⟨k, hk, rfl, hb⟩ := hrel
  have HB := hid hb
  obtain ⟨wo, rfl⟩ : ∃ wo : World, wo = wr := ⟨_, rfl⟩
  clear hb
  by_cases hlt : k < l.length
  ·obtain ⟨a, c', vk, vv, p, e1, hc0, hc1, hk1, hv1, hp⟩ := HS.out.at_ k hlt
   cases e1
   have HLT := hid (Nat.succ_le_of_lt hlt)
   have C := hid (And.intro hc0 hk1)
   obtain ⟨Ak, ck, rfl, nk⟩ := hk1.form
   clear hc0 hc1 hk1 hv1 hp
   go_wp2_with fail
   go_loopw [4] (fun j wr => ∃ m : Nat, m ≤ k ∧ j = .int .i64 m ∧ Below w.heap.size w wr) (fun j _ => k - (intOf j).toNat)
   case atStart => exact ⟨0, Nat.zero_le _, rfl, HB.out⟩
   case round =>
    obtain ⟨m, hm, rfl, hb⟩ := hrel
    have HB2 := hid hb
    obtain ⟨wi, rfl⟩ : ∃ wi : World, wi = wr := ⟨_, rfl⟩
    clear hb
    by_cases hmk : m < k
    ·obtain ⟨a2, c2, vk2, vv2, q, e2, hd0, hd1, hk2, hv2, hq⟩ := HS.out.at_ m (by omega)
     cases e2
     have D := hid (And.intro hd0 hk2)
     obtain ⟨Aq, cq, rfl, nq⟩ := hk2.form
     clear hd0 hd1 hk2 hv2 hq
     have HMK := hid (Nat.succ_le_of_lt hmk)
     have x0 := cell_at_below C.out.1 HB2.out
     have x1 := cell_at_below D.out.1 HB2.out
     have b1 : (m : Int) < l.length := by omega
     have b2 : (0 : Int) ≤ m := by omega
     have b3 : (k : Int) < l.length := by omega
     have b4 : (0 : Int) ≤ k := by omega
     have b5 : m < l.length := by omega
     have HAL := hid (show ∀ wx, Below w.heap.size w wx → Calls Tryz.prog 24 #[.slice Ak p.1.length ck, .slice Aq q.1.length cq] wx (SomeB wx) from fun wx h => alike_any _ _ p.1 q.1 wx (C.out.2.below h) (D.out.2.below h))
     go_wp2_with fail
     go_region_held3 (fun w' => w'.cell? (a.add (k * 2)) = some (.slice Ak p.1.length ck) ∧ w'.cell? (a.add (m * 2)) = some (.slice Aq q.1.length cq)) (first | exact ⟨x0, x1⟩ | exact ⟨cell_at_below C.out.1 HB3.out, cell_at_below D.out.1 HB3.out⟩)
      (first
       | (go_at_call 24; refine (HAL.out _ HB2.out.drew).mono ?_; rintro e w3 ⟨⟨b, rfl⟩, hb3⟩; have HB3 := hid (HB2.out.drew.trans (hb3.mono HB2.out.drew.size)); clear hb3)
       | fail)
     cases b
     ·go_wp2
      go_roundw
      case rel => exact ⟨m + 1, HMK.out, by simp, HB3.out⟩
      case measure => exact meas_step HMK.out (by simp)
     ·go_wp2
      go_ret
      exact ⟨⟨_, rfl⟩, HB3.out⟩
    ·go_wp2
     go_roundw
     case rel => exact ⟨k + 1, HLT.out, by simp, HB2.out⟩
     case measure => exact meas_step HLT.out (by simp)
  ·go_wp2
   go_ret
   exact ⟨⟨_, rfl⟩, HB.out⟩
def parB (f : Bool) (p : Bytes × Bytes) : Bool := wordS p.1 && (wordS p.2 || (!f && decide (p.2 = [])))
def ParOK (f : Bool) (l : BKVs) : Prop := l.length ≤ 64 ∧ ∀ p ∈ l, parB f p = true
theorem all_moreK {p : Bytes × Bytes → Bool} {l : BKVs} {k : Nat} {d : Bytes × Bytes} (h : l[k]? = some d) (ha : (l.take k).all p = true) (hp : p d = true) : (l.take (k + 1)).all p = true := by
 rw [List.take_add_one, h, List.all_append, ha]
 simp [hp]
def Says (P : Prop) (w : World) (e : Ending) (w' : World) : Prop := (∃ b, e = .returned (.bool b) ∧ (b = true → P)) ∧ Below w.heap.size w w'
theorem isparams_any (v : Value) (l : BKVs) (f : Bool) (w : World) (hS : SK w v l) : Calls Tryz.prog 68 #[v, .bool f] w (Says (ParOK f l) w) := by
 have HS := hid hS
 obtain ⟨A, c, rfl, hlen⟩ := hS.form
 clear hS
 by_cases h64 : l.length ≤ 64
 ·have h64i : ¬ (64 : Int) < l.length := by omega
  have H64 := hid h64
  clear h64
  go_enter Tryz.func68, Tryz.ntmps68
  go_wp2_with fail
  go_loopw [5] (fun i wr => ∃ k : Nat, k ≤ l.length ∧ i = .int .i64 k ∧ (l.take k).all (parB f) = true ∧ wr = w) (fun i _ => l.length - (intOf i).toNat)
  case atStart => exact ⟨0, Nat.zero_le _, rfl, by simp, rfl⟩
  case round =>
   obtain ⟨k, hk, rfl, hall, rfl⟩ := hrel
   have HA := hid hall
   clear hall
   by_cases hlt : k < l.length
   ·obtain ⟨a, c', vk, vv, p, e1, hc0, hc1, hk1, hv1, hp⟩ := HS.out.at_ k hlt
    cases e1
    have HLT := hid (And.intro (Nat.succ_le_of_lt hlt) hp)
    have HK := hid (isword_any _ p.1 wr hk1)
    have HV := hid (isword_any _ p.2 wr hv1)
    obtain ⟨Ak, ck, rfl, nk⟩ := hk1.form
    obtain ⟨Av, cv, rfl, nv⟩ := hv1.form
    clear hk1 hv1 hp
    cases hwk : wordS p.1
    ·go_wp2_with (go_at_call_of 10 (Value.slice Ak p.1.length ck); refine HK.out.mono ?_; rintro e w1 ⟨rfl, rfl⟩; rw [hwk])
     go_ret
     exact ⟨⟨false, rfl, fun h => by simp at h⟩, Below.refl _ _⟩
    ·cases hwv : wordS p.2
     ·cases f
      ·by_cases hpe : p.2 = []
       ·have HP := hid (show parB false p = true by simp [parB, hwk, hpe])
        have hpl : p.2.length = 0 := by rw [hpe]; rfl
        have hpl2 : ¬ (0 : Int) < p.2.length := by omega
        clear hpe hpl
        go_wp2_with (first | (go_at_call_of 10 (Value.slice Ak p.1.length ck); refine HK.out.mono ?_; rintro e w1 ⟨rfl, rfl⟩; rw [hwk]) | (go_at_call_of 10 (Value.slice Av p.2.length cv); refine HV.out.mono ?_; rintro e w2 ⟨rfl, rfl⟩; rw [hwv]) | fail)
        go_roundw
        case rel => exact ⟨k + 1, HLT.out.1, by simp, all_moreK HLT.out.2 HA.out HP.out, trivial⟩
        case measure => exact meas_step HLT.out.1 (by simp)
       ·have hpl2 : (0 : Int) < p.2.length := by have := List.length_pos_iff.2 hpe; omega
        clear hpe
        go_wp2_with (first | (go_at_call_of 10 (Value.slice Ak p.1.length ck); refine HK.out.mono ?_; rintro e w1 ⟨rfl, rfl⟩; rw [hwk]) | (go_at_call_of 10 (Value.slice Av p.2.length cv); refine HV.out.mono ?_; rintro e w2 ⟨rfl, rfl⟩; rw [hwv]) | fail)
        go_ret
        exact ⟨⟨false, rfl, fun h => by simp at h⟩, Below.refl _ _⟩
      ·go_wp2_with (first | (go_at_call_of 10 (Value.slice Ak p.1.length ck); refine HK.out.mono ?_; rintro e w1 ⟨rfl, rfl⟩; rw [hwk]) | (go_at_call_of 10 (Value.slice Av p.2.length cv); refine HV.out.mono ?_; rintro e w2 ⟨rfl, rfl⟩; rw [hwv]) | fail)
       go_ret
       exact ⟨⟨false, rfl, fun h => by simp at h⟩, Below.refl _ _⟩
     ·have HP := hid (show parB f p = true by simp [parB, hwk, hwv])
      go_wp2_with (first | (go_at_call_of 10 (Value.slice Ak p.1.length ck); refine HK.out.mono ?_; rintro e w1 ⟨rfl, rfl⟩; rw [hwk]) | (go_at_call_of 10 (Value.slice Av p.2.length cv); refine HV.out.mono ?_; rintro e w2 ⟨rfl, rfl⟩; rw [hwv]) | fail)
      go_roundw
      case rel => exact ⟨k + 1, HLT.out.1, by simp, all_moreK HLT.out.2 HA.out HP.out, trivial⟩
      case measure => exact meas_step HLT.out.1 (by simp)
   ·have HD := hid (show l.all (parB f) = true by have := HA.out; rwa [List.take_of_length_le (by omega)] at this)
    have HO := hid (isonce_any _ l wr HS.out)
    go_wp2_with (go_at_call 91; refine HO.out.mono ?_; rintro e w1 ⟨⟨b, rfl⟩, hb⟩)
    go_ret
    exact ⟨⟨_, rfl, fun _ => ⟨H64.out, fun p hp => List.all_eq_true.1 HD.out p hp⟩⟩, hb⟩
 ·have h64i : (64 : Int) < l.length := by omega
  go_enter Tryz.func68, Tryz.ntmps68
  go_wp2
  go_ret
  exact ⟨⟨false, rfl, fun h => by simp at h⟩, Below.refl _ _⟩
def sipB : Bytes := [115, 105, 112]
def sipsB : Bytes := [115, 105, 112, 115]
structure RUri (u : LUri) : Prop where
 scheme : u.scheme = sipB ∨ u.scheme = sipsB
 raw : u.raw = []
 star : u.star = false
 slashes : u.slashes = false
 port : 0 ≤ u.port ∧ u.port ≤ 65535
 host : textS hostB u.host = true
 user : u.user = [] ∨ textS userB u.user = true
 pass : u.pass = [] ∨ u.user ≠ [] ∧ textS userB u.pass = true
 params : ParOK false u.params
 hdrs : ParOK true u.hdrs
 last : u.hdrs = [] ∨ u.params = [] ∨ ∃ p, u.params[u.params.length - 1]? = some p ∧ p.2 ≠ []
def RU1 (u : LUri) : Prop := (u.scheme = sipB ∨ u.scheme = sipsB) ∧ u.raw = [] ∧ u.star = false ∧ u.slashes = false ∧ (0 ≤ u.port ∧ u.port ≤ 65535) ∧ textS hostB u.host = true
def RU2 (u : LUri) : Prop := (u.user = [] ∨ textS userB u.user = true) ∧ (u.pass = [] ∨ u.user ≠ [] ∧ textS userB u.pass = true)
theorem isuri_any (u : LUri) (cs : List Value) (w : World) (hU : LU w u cs) : Calls Tryz.prog 63 #[.agg cs.toArray] w (Says (RUri u) w) := by
 obtain ⟨va, vb, vc, vd, ve, vp, vq, rfl, ha, hb, hc, hd, he, hp, hq, h64⟩ := hU
 have HA := hid (And.intro ha (And.intro hc (And.intro hd (And.intro he (And.intro hp hq)))))
 have H64 := hid h64
 obtain ⟨A0, c0, rfl, n0⟩ := ha.form
 obtain ⟨A1, c1, rfl, n1⟩ := hb.form
 obtain ⟨A4, c4, rfl, n4⟩ := hc.form
 obtain ⟨A5, c5, rfl, n5⟩ := hd.form
 obtain ⟨A6, c6, rfl, n6⟩ := he.form
 obtain ⟨A8, c8, rfl, n8⟩ := hp.form
 obtain ⟨A9, c9, rfl, n9⟩ := hq.form
 obtain ⟨wb, hwb⟩ : ∃ wb, wb = w.alloc (.cells #[.slice A0 u.scheme.length c0, .slice A1 u.raw.length c1, .bool u.star, .bool u.slashes, .slice A4 u.user.length c4, .slice A5 u.pass.length c5, .slice A6 u.host.length c6, .int .i64 u.port, .slice A8 u.params.length c8, .slice A9 u.hdrs.length c9] 25) := ⟨_, rfl⟩
 have HWB := hid (show wb.heap[w.heap.size]? = some (.cells #[.slice A0 u.scheme.length c0, .slice A1 u.raw.length c1, .bool u.star, .bool u.slashes, .slice A4 u.user.length c4, .slice A5 u.pass.length c5, .slice A6 u.host.length c6, .int .i64 u.port, .slice A8 u.params.length c8, .slice A9 u.hdrs.length c9] 25 (0, 0)) by rw [hwb]; exact heap_alloc_new w _)
 have HB0 := hid (show Below w.heap.size w wb by rw [hwb]; exact (Below.refl _ w).alloc (Nat.le_refl _) _)
 have hsz : wb.heap.size = w.heap.size + 1 := by rw [hwb]; simp
 have HSZ := hid hsz
 have HBX := hid (show ∀ wx, Below wb.heap.size wb wx → wx.heap[w.heap.size]? = some (.cells #[.slice A0 u.scheme.length c0, .slice A1 u.raw.length c1, .bool u.star, .bool u.slashes, .slice A4 u.user.length c4, .slice A5 u.pass.length c5, .slice A6 u.host.length c6, .int .i64 u.port, .slice A8 u.params.length c8, .slice A9 u.hdrs.length c9] 25 (0, 0)) from fun wx h => (h.block w.heap.size (by rw [HSZ.out]; omega)).trans HWB.out)
 have HW := hid (show ∀ wx, Below wb.heap.size wb wx → Below w.heap.size w wx from fun wx h => HB0.out.trans (h.mono (by rw [HSZ.out]; omega)))
 have HST := hid (show ∀ wx wy, Below wb.heap.size wb wx → Below wx.heap.size wx wy → Below wb.heap.size wb wy from fun wx wy h k => h.trans (k.mono h.size))
 have HBb := hid (Below.refl wb.heap.size wb)
 have HI1 := hid (show ∀ wx, Below wb.heap.size wb wx → Calls Tryz.prog 35 #[.slice A0 u.scheme.length c0, .string ⟨#[115, 105, 112]⟩] wx fun e w' => e = .returned (.bool (decide (u.scheme = sipB))) ∧ Below wx.heap.size wx w' from fun wx h => is_any _ u.scheme ⟨#[115, 105, 112]⟩ wx (HA.out.1.below (HW.out wx h)) (by decide))
 have HI2 := hid (show ∀ wx, Below wb.heap.size wb wx → Calls Tryz.prog 35 #[.slice A0 u.scheme.length c0, .string ⟨#[115, 105, 112, 115]⟩] wx fun e w' => e = .returned (.bool (decide (u.scheme = sipsB))) ∧ Below wx.heap.size wx w' from fun wx h => is_any _ u.scheme ⟨#[115, 105, 112, 115]⟩ wx (HA.out.1.below (HW.out wx h)) (by decide))
 have HH := hid (show ∀ wx, Below wb.heap.size wb wx → Calls Tryz.prog 69 #[.slice A6 u.host.length c6] wx fun e w' => e = .returned (.bool (textS hostB u.host)) ∧ w' = wx from fun wx h => ishost_any _ u.host wx (HA.out.2.2.2.1.below (HW.out wx h)))
 have HU4 := hid (show ∀ wx, Below wb.heap.size wb wx → Calls Tryz.prog 88 #[.slice A4 u.user.length c4] wx fun e w' => e = .returned (.bool (textS userB u.user)) ∧ w' = wx from fun wx h => isuser_any _ u.user wx (HA.out.2.1.below (HW.out wx h)))
 have HU5 := hid (show ∀ wx, Below wb.heap.size wb wx → Calls Tryz.prog 88 #[.slice A5 u.pass.length c5] wx fun e w' => e = .returned (.bool (textS userB u.pass)) ∧ w' = wx from fun wx h => isuser_any _ u.pass wx (HA.out.2.2.1.below (HW.out wx h)))
 have HP8 := hid (show ∀ wx, Below wb.heap.size wb wx → Calls Tryz.prog 68 #[.slice A8 u.params.length c8, .bool false] wx (Says (ParOK false u.params) wx) from fun wx h => isparams_any _ u.params false wx (HA.out.2.2.2.2.1.below (HW.out wx h)))
 have HP9 := hid (show ∀ wx, Below wb.heap.size wb wx → Calls Tryz.prog 68 #[.slice A9 u.hdrs.length c9, .bool true] wx (Says (ParOK true u.hdrs) wx) from fun wx h => isparams_any _ u.hdrs true wx (HA.out.2.2.2.2.2.below (HW.out wx h)))
 have hlt : w.heap.size < wb.heap.size := by omega
 clear ha hb hc hd he hp hq h64 hsz
 go_enter Tryz.func63, Tryz.ntmps63
 go_upto_region 1 with fail
 rw [← hwb]
 generalize Value.agg #[.slice A0 u.scheme.length c0, .slice A1 u.raw.length c1, .bool u.star, .bool u.slashes, .slice A4 u.user.length c4, .slice A5 u.pass.length c5, .slice A6 u.host.length c6, .int .i64 u.port, .slice A8 u.params.length c8, .slice A9 u.hdrs.length c9] = arg0
 go_cut [43] (fun s wx => ∃ b, s = .bool b ∧ (b = false → RU1 u) ∧ Below wb.heap.size wb wx)
 case first =>
  have d0 := (blk10 HWB.out).1
  go_wp2_with fail
  try rw [← hwb]
  refine (HI1.out wb HBb.out).mono ?_
  rintro e w1 ⟨rfl, hb1⟩
  have HB1 := hid (HST.out _ _ HBb.out hb1)
  clear hb1 d0
  by_cases hs1 : u.scheme = sipB
  ·have HS1 := hid hs1
   rw [decide_eq_true hs1]
   clear hs1
   obtain ⟨_, d1, d2, d3, _, _, d6, d7, _⟩ := blk10 (HBX.out w1 HB1.out)
   by_cases hraw : u.raw = []
   ·have hrl : ¬ (0 : Int) < u.raw.length := by rw [hraw]; simp
    have HRAW := hid hraw
    clear hraw
    cases hst : u.star
    ·rw [hst] at d2
     have HSTR := hid hst
     clear hst
     cases hsl : u.slashes
     ·rw [hsl] at d3
      have HSLA := hid hsl
      clear hsl
      by_cases hp0 : u.port < 0
      ·go_wp2_with fail
       all_goals
        (go_meet
         exact ⟨true, rfl, fun h => by simp at h, HB1.out⟩)
      ·by_cases hp1 : 65535 < u.port
       ·go_wp2_with fail
        all_goals
         (go_meet
          exact ⟨true, rfl, fun h => by simp at h, HB1.out⟩)
       ·cases hho : textS hostB u.host
        ·go_wp2_with (first | (go_at_call 69; refine (HH.out _ HB1.out).mono ?_; rintro e wh ⟨rfl, rfl⟩; rw [hho]) | fail)
         go_meet
         exact ⟨true, rfl, fun h => by simp at h, HB1.out⟩
        ·have HF := hid (show RU1 u from ⟨.inl HS1.out, HRAW.out, HSTR.out, HSLA.out, ⟨by omega, by omega⟩, hho⟩)
         go_wp2_with (first | (go_at_call 69; refine (HH.out _ HB1.out).mono ?_; rintro e wh ⟨rfl, rfl⟩; rw [hho]) | fail)
         go_meet
         exact ⟨false, by first | rfl | (simp; omega), fun _ => HF.out, HB1.out⟩
     ·rw [hsl] at d3
      clear hsl
      go_wp2_with fail
      all_goals
       (go_meet
        exact ⟨true, rfl, fun h => by simp at h, HB1.out⟩)
    ·rw [hst] at d2
     clear hst
     go_wp2_with fail
     all_goals
      (go_meet
       exact ⟨true, rfl, fun h => by simp at h, HB1.out⟩)
   ·have hrl : (0 : Int) < u.raw.length := by have := List.length_pos_iff.2 hraw; omega
    have hrd : decide ((0 : Int) < (u.raw.length : Int)) = true := decide_eq_true hrl
    have hre : (u.raw = []) = False := eq_false hraw
    clear hraw
    go_wp2_with fail
    all_goals
     (go_meet
      exact ⟨true, rfl, fun h => by simp at h, HB1.out⟩)
  ·rw [decide_eq_false hs1]
   clear hs1
   have d0 := (blk10 (HBX.out w1 HB1.out)).1
   go_wp2_with fail
   refine (HI2.out w1 HB1.out).mono ?_
   rintro e w2 ⟨rfl, hb2⟩
   have HB2 := hid (HST.out _ _ HB1.out hb2)
   clear hb2 d0
   by_cases hs2 : u.scheme = sipsB
   ·have HS2 := hid hs2
    rw [decide_eq_true hs2]
    clear hs2
    obtain ⟨_, d1, d2, d3, _, _, d6, d7, _⟩ := blk10 (HBX.out w2 HB2.out)
    by_cases hraw : u.raw = []
    ·have hrl : ¬ (0 : Int) < u.raw.length := by rw [hraw]; simp
     have HRAW := hid hraw
     clear hraw
     cases hst : u.star
     ·rw [hst] at d2
      have HSTR := hid hst
      clear hst
      cases hsl : u.slashes
      ·rw [hsl] at d3
       have HSLA := hid hsl
       clear hsl
       by_cases hp0 : u.port < 0
       ·go_wp2_with fail
        all_goals
         (go_meet
          exact ⟨true, rfl, fun h => by simp at h, HB2.out⟩)
       ·by_cases hp1 : 65535 < u.port
        ·go_wp2_with fail
         all_goals
          (go_meet
           exact ⟨true, rfl, fun h => by simp at h, HB2.out⟩)
        ·cases hho : textS hostB u.host
         ·go_wp2_with (first | (go_at_call 69; refine (HH.out _ HB2.out).mono ?_; rintro e wh ⟨rfl, rfl⟩; rw [hho]) | fail)
          go_meet
          exact ⟨true, rfl, fun h => by simp at h, HB2.out⟩
         ·have HF := hid (show RU1 u from ⟨.inr HS2.out, HRAW.out, HSTR.out, HSLA.out, ⟨by omega, by omega⟩, hho⟩)
          go_wp2_with (first | (go_at_call 69; refine (HH.out _ HB2.out).mono ?_; rintro e wh ⟨rfl, rfl⟩; rw [hho]) | fail)
          go_meet
          exact ⟨false, by first | rfl | (simp; omega), fun _ => HF.out, HB2.out⟩
      ·rw [hsl] at d3
       clear hsl
       go_wp2_with fail
       all_goals
        (go_meet
         exact ⟨true, rfl, fun h => by simp at h, HB2.out⟩)
     ·rw [hst] at d2
      clear hst
      go_wp2_with fail
      all_goals
       (go_meet
        exact ⟨true, rfl, fun h => by simp at h, HB2.out⟩)
    ·have hrl : (0 : Int) < u.raw.length := by have := List.length_pos_iff.2 hraw; omega
     have hrd : decide ((0 : Int) < (u.raw.length : Int)) = true := decide_eq_true hrl
     have hre : (u.raw = []) = False := eq_false hraw
     clear hraw
     go_wp2_with fail
     all_goals
      (go_meet
       exact ⟨true, rfl, fun h => by simp at h, HB2.out⟩)
   ·rw [decide_eq_false hs2]
    clear hs2
    go_wp2_with fail
    go_meet
    exact ⟨true, rfl, fun h => by simp at h, HB2.out⟩
 case rest =>
  obtain ⟨b, rfl, hR, hB⟩ := hcut
  obtain ⟨wy, rfl⟩ : ∃ wy : World, wy = wc := ⟨_, rfl⟩
  have HBy := hid hB
  clear hB hwb
  cases b
  ·have HR1 := hid (hR rfl)
   clear hR
   go_upto_region 3 with fail
   go_cut [71] (fun s wx => ∃ b, s = .bool b ∧ (b = false → RU2 u) ∧ Below wb.heap.size wb wx)
   case first =>
    obtain ⟨_, _, _, _, d4, d5, _⟩ := blk10 (HBX.out wy HBy.out)
    by_cases hus : u.user = []
    ·have hul : ¬ (0 : Int) < u.user.length := by rw [hus]; simp
     have hul2 : (u.user.length : Int) = 0 := by rw [hus]; simp
     have hul3 : ((u.user.length : Int) == 0) = true := by rw [hul2]; rfl
     by_cases hpa : u.pass = []
     ·have hpl : ¬ (0 : Int) < u.pass.length := by rw [hpa]; simp
      have HF := hid (show RU2 u from ⟨.inl hus, .inl hpa⟩)
      clear hus hpa
      go_wp2_with fail
      go_meet
      exact ⟨false, rfl, fun _ => HF.out, HBy.out⟩
     ·have hpl : (0 : Int) < u.pass.length := by have := List.length_pos_iff.2 hpa; omega
      clear hus hpa
      go_wp2_with fail
      go_meet
      exact ⟨true, rfl, fun h => by simp at h, HBy.out⟩
    ·have hul : (0 : Int) < u.user.length := by have := List.length_pos_iff.2 hus; omega
     have hul2 : ¬ (u.user.length : Int) = 0 := by omega
     have hul3 : ((u.user.length : Int) == 0) = false := by rw [beq_eq_false_iff_ne]; exact hul2
     cases hu4 : textS userB u.user
     ·clear hus
      go_wp2_with (first | (go_at_call_of 88 (Value.slice A4 u.user.length c4); refine (HU4.out _ HBy.out).mono ?_; rintro e wu ⟨rfl, rfl⟩; rw [hu4]) | fail)
      go_meet
      exact ⟨true, rfl, fun h => by simp at h, HBy.out⟩
     ·by_cases hpa : u.pass = []
      ·have hpl : ¬ (0 : Int) < u.pass.length := by rw [hpa]; simp
       have HF := hid (show RU2 u from ⟨.inr hu4, .inl hpa⟩)
       clear hus hpa
       go_wp2_with (first | (go_at_call_of 88 (Value.slice A4 u.user.length c4); refine (HU4.out _ HBy.out).mono ?_; rintro e wu ⟨rfl, rfl⟩; rw [hu4]) | fail)
       go_meet
       exact ⟨false, rfl, fun _ => HF.out, HBy.out⟩
      ·have hpl : (0 : Int) < u.pass.length := by have := List.length_pos_iff.2 hpa; omega
       cases hu5 : textS userB u.pass
       ·clear hus hpa
        go_wp2_with (first | (go_at_call_of 88 (Value.slice A4 u.user.length c4); refine (HU4.out _ HBy.out).mono ?_; rintro e wu ⟨rfl, rfl⟩; rw [hu4]) | (go_at_call_of 88 (Value.slice A5 u.pass.length c5); refine (HU5.out _ HBy.out).mono ?_; rintro e wu ⟨rfl, rfl⟩; rw [hu5]) | fail)
        go_meet
        exact ⟨true, rfl, fun h => by simp at h, HBy.out⟩
       ·have HF := hid (show RU2 u from ⟨.inr hu4, .inr ⟨hus, hu5⟩⟩)
        clear hus hpa
        go_wp2_with (first | (go_at_call_of 88 (Value.slice A4 u.user.length c4); refine (HU4.out _ HBy.out).mono ?_; rintro e wu ⟨rfl, rfl⟩; rw [hu4]) | (go_at_call_of 88 (Value.slice A5 u.pass.length c5); refine (HU5.out _ HBy.out).mono ?_; rintro e wu ⟨rfl, rfl⟩; rw [hu5]) | fail)
        go_meet
        exact ⟨false, rfl, fun _ => HF.out, HBy.out⟩
   case rest =>
    obtain ⟨b, rfl, hR, hB⟩ := hcut
    obtain ⟨wz, rfl⟩ : ∃ wz : World, wz = wc := ⟨_, rfl⟩
    have HBz := hid hB
    clear hB
    cases b
    ·have HR2 := hid (hR rfl)
     clear hR
     have d8 := (blk10 (HBX.out wz HBz.out)).2.2.2.2.2.2.2.2.1
     have d9 := (blk10 (HBX.out wz HBz.out)).2.2.2.2.2.2.2.2.2
     go_wp2_with fail
     refine (HP8.out wz HBz.out).mono ?_
     rintro e w6 ⟨⟨b8, rfl, hb8⟩, hbb⟩
     have HB6 := hid (HST.out _ _ HBz.out hbb)
     clear hbb d8 d9
     have d8 := (blk10 (HBX.out w6 HB6.out)).2.2.2.2.2.2.2.2.1
     have d9 := (blk10 (HBX.out w6 HB6.out)).2.2.2.2.2.2.2.2.2
     cases b8
     ·clear hb8
      go_wp2_with fail
      go_ret
      exact ⟨⟨false, rfl, fun h => by simp at h⟩, HW.out _ HB6.out⟩
     ·have HX8 := hid (hb8 rfl)
      clear hb8
      go_wp2_with fail
      refine (HP9.out w6 HB6.out).mono ?_
      rintro e w7 ⟨⟨b9, rfl, hb9⟩, hbb⟩
      have HB7 := hid (HST.out _ _ HB6.out hbb)
      clear hbb d8 d9
      have d8 := (blk10 (HBX.out w7 HB7.out)).2.2.2.2.2.2.2.2.1
      have d9 := (blk10 (HBX.out w7 HB7.out)).2.2.2.2.2.2.2.2.2
      cases b9
      ·clear hb9
       go_wp2_with fail
       go_ret
       exact ⟨⟨false, rfl, fun h => by simp at h⟩, HW.out _ HB7.out⟩
      ·have HX9 := hid (hb9 rfl)
       clear hb9
       have HFIN := hid (show (u.hdrs = [] ∨ u.params = [] ∨ ∃ p, u.params[u.params.length - 1]? = some p ∧ p.2 ≠ []) → RUri u from fun hl => by
        obtain ⟨a1, a2, a3, a4, a5, a6⟩ := HR1.out
        obtain ⟨a7, a8⟩ := HR2.out
        exact ⟨a1, a2, a3, a4, a5, a6, a7, a8, HX8.out, HX9.out, hl⟩)
       by_cases hh : u.hdrs = []
       ·have hl0 : (u.hdrs.length : Int) = 0 := by rw [hh]; rfl
        have hl1 : u.hdrs.length = 0 := by rw [hh]; rfl
        have hl2 : ((u.hdrs.length : Int) == 0) = true := by rw [hl0]; rfl
        have HE := hid (HFIN.out (.inl hh))
        clear hh
        go_wp2_with fail
        go_ret
        exact ⟨⟨_, rfl, fun _ => HE.out⟩, HW.out _ HB7.out⟩
       ·have hl0 : ¬ (u.hdrs.length : Int) = 0 := by have := List.length_pos_iff.2 hh; omega
        have hl1 : ¬ u.hdrs.length = 0 := by omega
        have hl2 : ((u.hdrs.length : Int) == 0) = false := by rw [beq_eq_false_iff_ne]; exact hl0
        clear hh
        by_cases hpe : u.params = []
        ·have hn0 : (u.params.length : Int) = 0 := by rw [hpe]; rfl
         have hn3 : ((u.params.length : Int) == 0) = true := by rw [hn0]; rfl
         have HE := hid (HFIN.out (.inr (.inl hpe)))
         clear hpe
         go_wp2_with fail
         go_ret
         exact ⟨⟨_, rfl, fun _ => HE.out⟩, HW.out _ HB7.out⟩
        ·have hpos := List.length_pos_iff.2 hpe
         have hn0 : ¬ (u.params.length : Int) = 0 := by omega
         have hn1 : ¬ u.params.length = 0 := by omega
         have hn3 : ((u.params.length : Int) == 0) = false := by rw [beq_eq_false_iff_ne]; exact hn0
         obtain ⟨a, c', vk, vv, p, e1, hc0, hc1, hk1, hv1, hp⟩ := (HA.out.2.2.2.2.1.below (HW.out _ HB7.out)).at_ (u.params.length - 1) (by omega)
         cases e1
         obtain ⟨Av, cv, rfl, nv⟩ := hv1.form
         have HPP := hid hp
         obtain ⟨n1, hn2⟩ : ∃ n1, n1 = u.params.length - 1 := ⟨_, rfl⟩
         rw [← hn2] at hc1
         have hw1 : wrap64 ((u.params.length : Int) - 1) = (n1 : Int) := by unfold wrap64; omega
         have hw2 : (u.params.length : Int) - 1 = (n1 : Int) := by omega
         have hw3 : (n1 : Int) < u.params.length := by omega
         have hw4 : (0 : Int) ≤ n1 := by omega
         have hw5 : n1 < u.params.length := by omega
         clear hpe hpos hc0 hk1 hv1 hp hn2
         by_cases hve : p.2 = []
         ·have hvl : ¬ (0 : Int) < p.2.length := by rw [hve]; simp
          clear hve
          go_wp2_with fail
          go_ret
          first | exact ⟨⟨false, rfl, fun h => by simp at h⟩, HW.out _ HB7.out⟩ | exact ⟨⟨_, rfl, fun h => by simp at h; omega⟩, HW.out _ HB7.out⟩
         ·have hvl : (0 : Int) < p.2.length := by have := List.length_pos_iff.2 hve; omega
          have HE := hid (HFIN.out (.inr (.inr ⟨p, HPP.out, hve⟩)))
          clear hve
          go_wp2_with fail
          go_ret
          exact ⟨⟨_, rfl, fun _ => HE.out⟩, HW.out _ HB7.out⟩
    ·go_wp2
     go_ret
     exact ⟨⟨false, rfl, fun h => by simp at h⟩, HW.out _ HBz.out⟩
  ·go_wp2
   go_ret
   exact ⟨⟨false, rfl, fun h => by simp at h⟩, HW.out _ HBy.out⟩
