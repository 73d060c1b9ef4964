import Derived.Test.YtpjhmfoegmaodaaGreatDoorA05
set_option maxRecDepth 100000
set_option maxHeartbeats 16000000
set_option linter.all false
namespace Go.Proofs.YtpjhmfoegmaodaaGreatDoor
open Go.Lib (hid)
open Go.RowKit
theorem via_vsw (N n0 b : Nat) (bs : Bytes) (g : Nat) (v : SVia) (w : World) (hG : Gl N w) (hN : N ≤ n0) (hB : BW n0 b bs w) (hA : ViaAt w g v) (ho : VOk v) (hl : bs.length + (viaT v).length ≤ 70368744177664) :
  Calls Tryz.prog 233 #[.pointer (some ⟨g, 0, none⟩), bptr b] w (WrPost n0 b bs (viaT v) w) := by
 unfold viaT at hl ⊢
 obtain ⟨FF, hFF⟩ : ∃ FF : World → Prop, FF = fun wx => ViaAt wx g v := ⟨_, rfl⟩
 have hAF : ∀ wx, FF wx = ViaAt wx g v := fun wx => by rw [hFF]
 have HAF := hid hAF
 clear hFF hAF
 have HL := hid (And.intro hl (And.intro (dl v.pn) (And.intro (dl v.pv) (And.intro (dl v.tr) (dl v.host)))))
 have HO := hid ho
 have hna := ws_nilAhead
 have hme := ws_method
 have q1 := fun (w : World) (a : Option Addr) (n c : Nat) => run_neq_slice_nil_any (P := Tryz.prog) w 72 159 a n c 0 0 Tryz.underlying72
 obtain ⟨c0, _⟩ := hA.cells
 have HU0 := hid hA
 have HB0 := hid hB
 have HK0 := hid (WK.refl n0 b w)
 have HG := hid hG
 clear hA hB ho hl hG
 go_enter Tryz.func233, Tryz.ntmps233
 go_wp2_with fail
 refine stail 8 (by kernel_rfl) (by kernel_rfl) ?_
 simp only [List.take_succ_cons, List.take_zero, List.drop_succ_cons, List.drop_zero]
 repeat still_step
 refine wpStill_nil ?_
 have HBA := hid HB0.out.drew
 have HKA := hid HK0.out.drew
 have HUA := hid (HU0.out.below (Below.refl _ w).drew)
 go_wp2_with fail
 refine (ws_any n0 b _ _ _ HBA.out (by have := HL.out; simp only [List.length_append, List.length_cons, List.length_nil] at *; omega)).mono ?_
 rintro e wB ⟨rfl, hBB, hkB⟩
 have HBB := hid hBB
 have HKB := hid (HKA.out.trans hkB)
 have HUB := hid (HUA.out.keep HBA.out hkB)
 clear hBB hkB
 go_wp2_with fail
 refine (ws_any n0 b _ _ _ HBB.out (by have := HL.out; show _ + 1 ≤ _; simp only [List.length_append, List.length_cons, List.length_nil] at *; omega)).mono ?_
 rintro e wC ⟨rfl, hBC, hkC⟩
 have HBC := hid hBC
 have HKC := hid (HKB.out.trans hkC)
 have HUC := hid (HUB.out.keep HBB.out hkC)
 clear hBC hkC
 clear c0
 obtain ⟨_, c0, _⟩ := HUC.out.cells
 go_wp2_with fail
 refine stail 8 (by kernel_rfl) (by kernel_rfl) ?_
 simp only [List.take_succ_cons, List.take_zero, List.drop_succ_cons, List.drop_zero]
 repeat still_step
 refine wpStill_nil ?_
 have HBD := hid HBC.out.drew
 have HKD := hid HKC.out.drew
 have HUD := hid (HUC.out.below (Below.refl _ wC).drew)
 go_wp2_with fail
 refine (ws_any n0 b _ _ _ HBD.out (by have := HL.out; simp only [List.length_append, List.length_cons, List.length_nil] at *; omega)).mono ?_
 rintro e wE ⟨rfl, hBE, hkE⟩
 have HBE := hid hBE
 have HKE := hid (HKD.out.trans hkE)
 have HUE := hid (HUD.out.keep HBD.out hkE)
 clear hBE hkE
 go_wp2_with fail
 refine (ws_any n0 b _ _ _ HBE.out (by have := HL.out; show _ + 1 ≤ _; simp only [List.length_append, List.length_cons, List.length_nil] at *; omega)).mono ?_
 rintro e wF ⟨rfl, hBF, hkF⟩
 have HBF := hid hBF
 have HKF := hid (HKE.out.trans hkF)
 have HUF := hid (HUE.out.keep HBE.out hkF)
 clear hBF hkF
 clear c0
 obtain ⟨_, _, c0, _⟩ := HUF.out.cells
 go_wp2_with fail
 refine stail 8 (by kernel_rfl) (by kernel_rfl) ?_
 simp only [List.take_succ_cons, List.take_zero, List.drop_succ_cons, List.drop_zero]
 repeat still_step
 refine wpStill_nil ?_
 have HBH := hid HBF.out.drew
 have HKH := hid HKF.out.drew
 have HUH := hid (HUF.out.below (Below.refl _ wF).drew)
 go_wp2_with fail
 refine (ws_any n0 b _ _ _ HBH.out (by have := HL.out; simp only [List.length_append, List.length_cons, List.length_nil] at *; omega)).mono ?_
 rintro e wI ⟨rfl, hBI, hkI⟩
 have HBI := hid hBI
 have HKI := hid (HKH.out.trans hkI)
 have HUI := hid (HUH.out.keep HBH.out hkI)
 clear hBI hkI
 go_wp2_with fail
 refine (ws_any n0 b _ _ _ HBI.out (by have := HL.out; show _ + 1 ≤ _; simp only [List.length_append, List.length_cons, List.length_nil] at *; omega)).mono ?_
 rintro e w3 ⟨rfl, hB3, hk3⟩
 have HB3 := hid hB3
 have HK3 := hid (HKI.out.trans hk3)
 have HU3 := hid (HUI.out.keep HBI.out hk3)
 clear hB3 hk3
 clear c0
 obtain ⟨_, _, _, c6, _⟩ := HU3.out.cells
 have HC := hid c6
 have hgl := HG.out.below HK3.out.1 hN
 have HG3 := hid ((hgl.below (Below.refl N _).drew (Nat.le_refl _)).get)
 clear hgl
 have HX := hid (show v.host.size ≤ 9223372036854775807 ∧ v.host.size = v.host.data.toList.length by have := HL.out; simp only [List.length_append] at this; omega)
 go_upto_region 6 with fail
 go_cut [] (fun wx => RS n0 b (bs ++ v.pn.data.toList ++ [47] ++ v.pv.data.toList ++ [47] ++ v.tr.data.toList ++ [32] ++ v.host.data.toList) wx w (FF wx))
 case first =>
  go_region_held3 (fun w' => w'.cell? ⟨g, 3, none⟩ = some (.string v.host)) (first | exact HC.out | exact cell_below (w := w3.drew) hb4 HC.out | exact (HU3.out.below (Below.refl _ w3).drew |>.below hb4).cellKeep (HB3.out.drew.below hb4) hk5 (cell_below (w := w3.drew) hb4 HC.out))
   (first
    | (go_at_call 84; refine (uriip_any v.host _ ?_ ?_ ?_).mono ?_; exact HG3.out; exact HX.out.1; exact HO.out.host; rintro e w4 ⟨rfl, hb4⟩)
    | (go_at_call 90; refine (ws_any n0 b _ _ _ (HB3.out.drew.below hb4) ?_).mono ?_; (have := HL.out; have := HX.out; simp only [List.length_append, List.length_cons, List.length_nil] at *; first | omega | (show _ + List.length _ ≤ _; omega)); rintro e w5 ⟨rfl, hB5, hk5⟩))
  all_goals (go_wp2_with fail; go_meet; exact ⟨by simpa using hB5, HK3.out.trans ((WK.refl _ _ _).drew.trans ((WK.of_below (w := w3.drew) hb4 (Nat.le_of_lt (Nat.lt_of_le_of_lt HB3.out.lt.1 HB3.out.lt.2))).trans hk5)), by rw [HAF.out]; exact ((HU3.out.below (Below.refl _ w3).drew).below hb4).keep (HB3.out.drew.below hb4) hk5⟩)
 case rest =>
  obtain ⟨hB6, hK6, hU6⟩ := hcut
  obtain ⟨w6, rfl⟩ : ∃ w6 : World, w6 = wc := ⟨_, rfl⟩
  have HB6 := hid hB6
  have HK6 := hid hK6
  have HU6 := hid hU6
  clear hB6 hK6 hU6
  rw [HAF.out] at HU6
  clear c6
  obtain ⟨_, _, _, _, c7, _⟩ := HU6.out.cells
  have hp1 := HO.out.port.1
  have hp2 := HO.out.port.2
  go_upto_if 51 with fail
  go_cut [] (fun wx => RS n0 b (bs ++ v.pn.data.toList ++ [47] ++ v.pv.data.toList ++ [47] ++ v.tr.data.toList ++ [32] ++ v.host.data.toList ++ portT v.port) wx w (FF wx))
  case first =>
   by_cases hp : 0 < v.port
   ·rw [decide_eq_true hp]
    have hT : portT v.port = 58 :: Lib.itoa v.port := by unfold portT; rw [if_pos hp]
    have hTl : (portT v.port).length = 1 + (Lib.itoa v.port).length := by rw [hT]; simp; omega
    have HT := hid (And.intro hT hTl)
    have HX := hid (And.intro hTl (sz (Lib.itoa v.port)))
    clear hT hTl
    go_wp2_with fail
    refine (ws_any n0 b _ _ _ HB6.out (by have := HL.out; have := HT.out.2; show _ + 1 ≤ _; simp only [List.length_append, List.length_cons, List.length_nil] at *; omega)).mono ?_
    rintro e w7 ⟨rfl, hB7, hk7⟩
    have HB7 := hid hB7
    have HK7 := hid (HK6.out.trans hk7)
    have HU7 := hid (HU6.out.keep HB6.out hk7)
    clear hB7 hk7
    clear c7
    obtain ⟨_, _, _, _, c7, _⟩ := HU7.out.cells
    have HC := hid c7
    have hgl := HG.out.below HK7.out.1 hN
    have HG7 := hid ((hgl.below (Below.refl N _).drew (Nat.le_refl _)).get)
    clear hgl
    go_wp2_with fail
    go_region_held3 (fun w' => w'.cell? ⟨g, 4, none⟩ = some (.int .i64 v.port)) (first | exact HC.out | exact cell_below (w := w7.drew) hb4 HC.out | exact (HU7.out.below (Below.refl _ w7).drew |>.below hb4).cellKeep (HB7.out.drew.below hb4) hk5 (cell_below (w := w7.drew) hb4 HC.out))
     (first
      | (go_at_call 85; refine (itoa_any v.port ?_ ?_ _ ?_).mono ?_; exact HO.out.port.1; exact HO.out.port.2; exact HG7.out; rintro e w4 ⟨rfl, hb4⟩)
      | (go_at_call 90; refine (ws_any n0 b _ _ _ (HB7.out.drew.below hb4) ?_).mono ?_; (have := HL.out; have := HX.out; simp only [List.length_append, List.length_cons, List.length_nil] at *; first | omega | (show _ + List.length _ ≤ _; omega)); rintro e w5 ⟨rfl, hB5, hk5⟩))
    all_goals (go_wp2_with fail; go_meet; exact ⟨by rw [HT.out.1]; simpa using hB5, HK7.out.trans ((WK.refl _ _ _).drew.trans ((WK.of_below (w := w7.drew) hb4 (Nat.le_of_lt (Nat.lt_of_le_of_lt HB7.out.lt.1 HB7.out.lt.2))).trans hk5)), by rw [HAF.out]; exact ((HU7.out.below (Below.refl _ w7).drew).below hb4).keep (HB7.out.drew.below hb4) hk5⟩)
   ·have hT : portT v.port = [] := by unfold portT; rw [if_neg hp]
    rw [decide_eq_false hp]
    have HT := hid hT
    clear hT
    go_wp2_with fail
    go_meet
    exact ⟨by rw [HT.out, List.append_nil]; exact HB6.out, HK6.out, by rw [HAF.out]; exact HU6.out⟩
  case rest =>
   obtain ⟨hB4, hK4, hU4⟩ := hcut
   obtain ⟨w4, rfl⟩ : ∃ w4 : World, w4 = wc := ⟨_, rfl⟩
   have HB4 := hid hB4
   have HK4 := hid hK4
   have HU4 := hid hU4
   clear hB4 hK4 hU4
   clear c7
   obtain ⟨_, _, _, _, _, vp, cp, p1⟩ := (by first | exact HU4.out.cells | (have h := HU4.out; rw [HAF.out] at h; exact h.cells) : _ ∧ _ ∧ _ ∧ _ ∧ _ ∧ ∃ vp, w4.cell? ⟨g, 5, none⟩ = some vp ∧ PRep w4 vp v.params)
   obtain ⟨A, c, hv, hn, hA⟩ := p1.slice
   rw [hv] at cp p1
   have HP := hid p1
   have HA := hid hA
   have HV := hid hv
   clear p1 hA hv
   go_upto_region 10 with fail
   go_cut [76] (fun s wx => s = .bool (decide (0 < v.params.length)) ∧ RS n0 b (bs ++ v.pn.data.toList ++ [47] ++ v.pv.data.toList ++ [47] ++ v.tr.data.toList ++ [32] ++ v.host.data.toList ++ portT v.port) wx w (FF wx))
   case first =>
    rcases A with _ | a
    ·have hl0 := HA.out rfl
     have hd : decide (0 < v.params.length) = false := by rw [hl0]; rfl
     have HD := hid hd
     clear hl0 hd
     go_wp2_with fail
     go_meet
     exact ⟨by rw [HD.out], HB4.out, HK4.out, HU4.out⟩
    ·go_wp2_with (go_at_call 86; refine (plen_any _ _ _ _ hn).mono ?_; rintro e w1 ⟨rfl, rfl⟩)
     go_meet
     exact ⟨rfl, HB4.out, HK4.out, HU4.out⟩
   case rest =>
    obtain ⟨rfl, hB4p, hK4p, hU4p⟩ := hcut
    obtain ⟨w4p, rfl⟩ : ∃ w4p : World, w4p = wc := ⟨_, rfl⟩
    have HB4p := hid hB4p
    have HK4p := hid hK4p
    have HU4p := hid hU4p
    clear hB4p hK4p hU4p cp
    go_upto_if 76 with fail
    by_cases hp : 0 < v.params.length
    ·rw [decide_eq_true hp]
     have hne : v.params ≠ [] := fun e => by rw [e] at hp; exact absurd hp (by decide)
     have hT : tailT 59 59 v.params = 59 :: paramsT 59 v.params := by unfold tailT; rw [if_neg hne]
     have hTl : (tailT 59 59 v.params).length = 1 + (paramsT 59 v.params).length := by rw [hT]; simp; omega
     have hps : (psepT 59 v.params).length = (paramsT 59 v.params).length + 1 := by
      unfold paramsT
      rw [List.length_drop]
      cases h : v.params with
      | nil => exact absurd h hne
      | cons p r => simp [psepT]
     have HT := hid (And.intro hT (And.intro hTl hps))
     clear hT hTl hps hne
     go_wp2_with fail
     refine (ws_any n0 b _ _ _ HB4p.out (by have := HL.out; have := HT.out.2; show _ + 1 ≤ _; simp only [List.length_append, List.length_cons, List.length_nil] at *; omega)).mono ?_
     rintro e wZ ⟨rfl, hBZ, hkZ⟩
     have HBZ := hid hBZ
     have HKZ := hid (HK4p.out.trans hkZ)
     have HUZ := hid ((show ViaAt w4p g v by rw [← HAF.out]; exact HU4p.out).keep HB4p.out hkZ)
     clear hBZ hkZ
     obtain ⟨_, _, _, _, _, vp, cp, p1⟩ := (by first | exact HUZ.out.cells | (have h := HUZ.out; rw [HAF.out] at h; exact h.cells) : _ ∧ _ ∧ _ ∧ _ ∧ _ ∧ ∃ vp, wZ.cell? ⟨g, 5, none⟩ = some vp ∧ PRep wZ vp v.params)
     have HPZ := hid p1
     clear p1
     go_wp2_with fail
     refine (ptsw_any n0 b _ 59 sep59 _ v.params _ HBZ.out HPZ.out HO.out.params (by have := HL.out; have := HT.out; simp only [List.length_append, List.length_cons, List.length_nil] at *; omega)).mono ?_
     rintro e w5 ⟨rfl, hB5, hk5⟩
     go_wp2_with fail
     go_end0
     exact ⟨rfl, by rw [HT.out.1]; simpa using hB5, HKZ.out.trans hk5⟩
    ·have hne : v.params = [] := List.eq_nil_of_length_eq_zero (by omega)
     have hT : tailT 59 59 v.params = [] := by unfold tailT; rw [if_pos hne]
     rw [decide_eq_false hp]
     have HT := hid hT
     clear hT hne
     go_wp2_with fail
     go_end0
     exact ⟨rfl, by rw [HT.out]; simpa using HB4p.out, HK4p.out⟩
def BareAt (t : TypeId) (w : World) (g : Nat) (u : SUri) : Prop := ∃ cs, HB w g t cs ∧ UCells w (fun i => cs[0 + i]?) u
section
variable {t : TypeId} {n0 b : Nat} {bs : Bytes} {w w' : World} {g : Nat} {u : SUri}
theorem BareAt.keep (h : BareAt t w g u) (hB : BW n0 b bs w) (hk : WK n0 b w w') : BareAt t w' g u := by
 obtain ⟨cs, h1, h3⟩ := h
 exact ⟨cs, h1.keep hB hk, h3.keep hB hk⟩
theorem BareAt.below (h : BareAt t w g u) (hb : Below w.heap.size w w') : BareAt t w' g u := by
 obtain ⟨cs, h1, h3⟩ := h
 exact ⟨cs, h1.below hb, h3.below hb⟩
theorem BareAt.uri (h : BareAt t w g u) : UriAt w g 0 u := by
 obtain ⟨cs, h1, h3⟩ := h
 exact ⟨cs, t, (0, 0), h1.1, h1.2.1, h1.2.2, h3⟩
end
theorem to_name (x : Value) (w : World) :
  Calls Tryz.prog 241 #[x] w fun e w' => e = .returned (.string ⟨#[84, 111]⟩) ∧ w' = w := by
 go_enter Tryz.func241, Tryz.ntmps241
 go_wp2
 go_ret
 exact ⟨rfl, rfl⟩
theorem from_name (x : Value) (w : World) :
  Calls Tryz.prog 235 #[x] w fun e w' => e = .returned (.string ⟨#[70, 114, 111, 109]⟩) ∧ w' = w := by
 go_enter Tryz.func235, Tryz.ntmps235
 go_wp2
 go_ret
 exact ⟨rfl, rfl⟩
theorem refby_name (x : Value) (w : World) :
  Calls Tryz.prog 316 #[x] w fun e w' => e = .returned (.string ⟨#[82, 101, 102, 101, 114, 114, 101, 100, 45, 66, 121]⟩) ∧ w' = w := by
 go_enter Tryz.func316, Tryz.ntmps316
 go_wp2
 go_ret
 exact ⟨rfl, rfl⟩
theorem contact_name (x : Value) (w : World) :
  Calls Tryz.prog 253 #[x] w fun e w' => e = .returned (.string ⟨#[67, 111, 110, 116, 97, 99, 116]⟩) ∧ w' = w := by
 go_enter Tryz.func253, Tryz.ntmps253
 go_wp2
 go_ret
 exact ⟨rfl, rfl⟩
theorem via_name (x : Value) (w : World) :
  Calls Tryz.prog 228 #[x] w fun e w' => e = .returned (.string ⟨#[86, 105, 97]⟩) ∧ w' = w := by
 go_enter Tryz.func228, Tryz.ntmps228
 go_wp2
 go_ret
 exact ⟨rfl, rfl⟩
theorem callid_name (x : Value) (w : World) :
  Calls Tryz.prog 247 #[x] w fun e w' => e = .returned (.string ⟨#[67, 97, 108, 108, 45, 73, 68]⟩) ∧ w' = w := by
 go_enter Tryz.func247, Tryz.ntmps247
 go_wp2
 go_ret
 exact ⟨rfl, rfl⟩
theorem ctype_name (x : Value) (w : World) :
  Calls Tryz.prog 271 #[x] w fun e w' => e = .returned (.string ⟨#[67, 111, 110, 116, 101, 110, 116, 45, 84, 121, 112, 101]⟩) ∧ w' = w := by
 go_enter Tryz.func271, Tryz.ntmps271
 go_wp2
 go_ret
 exact ⟨rfl, rfl⟩
theorem maxf_name (x : Value) (w : World) :
  Calls Tryz.prog 290 #[x] w fun e w' => e = .returned (.string ⟨#[77, 97, 120, 45, 70, 111, 114, 119, 97, 114, 100, 115]⟩) ∧ w' = w := by
 go_enter Tryz.func290, Tryz.ntmps290
 go_wp2
 go_ret
 exact ⟨rfl, rfl⟩
theorem expires_name (x : Value) (w : World) :
  Calls Tryz.prog 304 #[x] w fun e w' => e = .returned (.string ⟨#[69, 120, 112, 105, 114, 101, 115]⟩) ∧ w' = w := by
 go_enter Tryz.func304, Tryz.ntmps304
 go_wp2
 go_ret
 exact ⟨rfl, rfl⟩
theorem clen_name (x : Value) (w : World) :
  Calls Tryz.prog 265 #[x] w fun e w' => e = .returned (.string ⟨#[67, 111, 110, 116, 101, 110, 116, 45, 76, 101, 110, 103, 116, 104]⟩) ∧ w' = w := by
 go_enter Tryz.func265, Tryz.ntmps265
 go_wp2
 go_ret
 exact ⟨rfl, rfl⟩
theorem cseq_name (x : Value) (w : World) :
  Calls Tryz.prog 259 #[x] w fun e w' => e = .returned (.string ⟨#[67, 83, 101, 113]⟩) ∧ w' = w := by
 go_enter Tryz.func259, Tryz.ntmps259
 go_wp2
 go_ret
 exact ⟨rfl, rfl⟩
theorem route_name (x : Value) (w : World) :
  Calls Tryz.prog 277 #[x] w fun e w' => e = .returned (.string ⟨#[82, 111, 117, 116, 101]⟩) ∧ w' = w := by
 go_enter Tryz.func277, Tryz.ntmps277
 go_wp2
 go_ret
 exact ⟨rfl, rfl⟩
theorem rroute_name (x : Value) (w : World) :
  Calls Tryz.prog 283 #[x] w fun e w' => e = .returned (.string ⟨#[82, 101, 99, 111, 114, 100, 45, 82, 111, 117, 116, 101]⟩) ∧ w' = w := by
 go_enter Tryz.func283, Tryz.ntmps283
 go_wp2
 go_ret
 exact ⟨rfl, rfl⟩
theorem referto_name (x : Value) (w : World) :
  Calls Tryz.prog 310 #[x] w fun e w' => e = .returned (.string ⟨#[82, 101, 102, 101, 114, 45, 84, 111]⟩) ∧ w' = w := by
 go_enter Tryz.func310, Tryz.ntmps310
 go_wp2
 go_ret
 exact ⟨rfl, rfl⟩
theorem generic_name (g : Nat) (n v : ByteArray) (w : World) (hA : HB w g 152 #[.string n, .string v]) :
  Calls Tryz.prog 322 #[.pointer (some ⟨g, 0, none⟩)] w fun e w' => e = .returned (.string n) ∧ w' = w := by
 have c0 : w.cell? ⟨g, 0, none⟩ = some (.string n) := hA.cell 0
 clear hA
 go_enter Tryz.func322, Tryz.ntmps322
 go_wp2
 go_ret
 exact ⟨rfl, rfl⟩
theorem callid_still (g : Nat) (s : ByteArray) (w : World) (hA : HB w g 114 #[.string s]) :
  Calls Tryz.prog 250 #[.pointer (some ⟨g, 0, none⟩)] w fun e w' => e = .returned (.string s) ∧ w' = w := by
 have c0 : w.cell? ⟨g, 0, none⟩ = some (.string s) := hA.cell 0
 clear hA
 go_enter Tryz.func250, Tryz.ntmps250
 go_wp2
 go_ret
 exact ⟨rfl, rfl⟩
theorem callid_val (N : Nat) (g : Nat) (s : ByteArray) (w : World) (hG : Gl N w) (hA : HB w g 114 #[.string s])  (hl : (s.data.toList).length ≤ 70368744177664) :
  Calls Tryz.prog 250 #[.pointer (some ⟨g, 0, none⟩)] w (StrPost (s.data.toList) w) := by
 refine (callid_still g s w hA).mono ?_
 rintro e w' ⟨rfl, rfl⟩
 exact ⟨rfl, Below.refl _ _⟩
theorem ctype_still (g : Nat) (s : ByteArray) (w : World) (hA : HB w g 121 #[.string s]) :
  Calls Tryz.prog 274 #[.pointer (some ⟨g, 0, none⟩)] w fun e w' => e = .returned (.string s) ∧ w' = w := by
 have c0 : w.cell? ⟨g, 0, none⟩ = some (.string s) := hA.cell 0
 clear hA
 go_enter Tryz.func274, Tryz.ntmps274
 go_wp2
 go_ret
 exact ⟨rfl, rfl⟩
theorem ctype_val (N : Nat) (g : Nat) (s : ByteArray) (w : World) (hG : Gl N w) (hA : HB w g 121 #[.string s])  (hl : (s.data.toList).length ≤ 70368744177664) :
  Calls Tryz.prog 274 #[.pointer (some ⟨g, 0, none⟩)] w (StrPost (s.data.toList) w) := by
 refine (ctype_still g s w hA).mono ?_
 rintro e w' ⟨rfl, rfl⟩
 exact ⟨rfl, Below.refl _ _⟩
theorem generic_still (g : Nat) (n v : ByteArray) (w : World) (hA : HB w g 152 #[.string n, .string v]) :
  Calls Tryz.prog 325 #[.pointer (some ⟨g, 0, none⟩)] w fun e w' => e = .returned (.string v) ∧ w' = w := by
 have c0 : w.cell? ⟨g, 1, none⟩ = some (.string v) := hA.cell 1
 clear hA
 go_enter Tryz.func325, Tryz.ntmps325
 go_wp2
 go_ret
 exact ⟨rfl, rfl⟩
theorem generic_val (N : Nat) (g : Nat) (n v : ByteArray) (w : World) (hG : Gl N w) (hA : HB w g 152 #[.string n, .string v])  (hl : (v.data.toList).length ≤ 70368744177664) :
  Calls Tryz.prog 325 #[.pointer (some ⟨g, 0, none⟩)] w (StrPost (v.data.toList) w) := by
 refine (generic_still g n v w hA).mono ?_
 rintro e w' ⟨rfl, rfl⟩
 exact ⟨rfl, Below.refl _ _⟩
theorem maxf_val (N : Nat) (g : Nat) (n : Int) (w : World) (hG : Gl N w) (hA : HB w g 117 #[.int .u32 n]) (hn : 0 ≤ n ∧ n < 4294967296) (hl : (Lib.itoa n).length ≤ 70368744177664) :
  Calls Tryz.prog 293 #[.pointer (some ⟨g, 0, none⟩)] w (StrPost (Lib.itoa n) w) := by
 have c0 : w.cell? ⟨g, 0, none⟩ = some (.int .u32 n) := hA.cell 0
 have h1 := hn.1
 have h2 := hn.2
 have HG := hid hG
 clear hA hn hG
 go_enter Tryz.func293, Tryz.ntmps293
 go_wp2_with (go_at_call 85; refine (itoa_any n (by omega) (by omega) _ HG.out.get).mono ?_; rintro e w1 ⟨rfl, hb⟩)
 go_ret
 exact ⟨rfl, hb⟩
theorem expires_val0 (N : Nat) (n : Int) (w : World) (hG : Gl N w) (hn : 0 ≤ n ∧ n < 4294967296) :
  Calls Tryz.prog 303 #[.int .u32 n] w (StrPost (Lib.itoa n) w) := by
 have h1 := hn.1
 have h2 := hn.2
 have HG := hid hG
 clear hn hG
 go_enter Tryz.func303, Tryz.ntmps303
 go_wp2_with (go_at_call 85; refine (itoa_any n (by omega) (by omega) _ HG.out.get).mono ?_; rintro e w1 ⟨rfl, hb⟩)
 go_ret
 exact ⟨rfl, hb⟩
theorem expires_val (N : Nat) (g : Nat) (n : Int) (w : World) (hG : Gl N w) (hA : HB w g 118 #[.int .u32 n]) (hn : 0 ≤ n ∧ n < 4294967296) (hl : (Lib.itoa n).length ≤ 70368744177664) :
  Calls Tryz.prog 303 #[.int .u32 n] w (StrPost (Lib.itoa n) w) := expires_val0 N n w hG hn
theorem clen_val0 (N : Nat) (n : Int) (w : World) (hG : Gl N w) (hn : 0 ≤ n ∧ n < 4294967296) :
  Calls Tryz.prog 268 #[.int .u32 n] w (StrPost (Lib.itoa n) w) := by
 have h1 := hn.1
 have h2 := hn.2
 have HG := hid hG
 clear hn hG
 go_enter Tryz.func268, Tryz.ntmps268
 go_wp2_with (go_at_call 85; refine (itoa_any n (by omega) (by omega) _ HG.out.get).mono ?_; rintro e w1 ⟨rfl, hb⟩)
 go_ret
 exact ⟨rfl, hb⟩
theorem clen_val (N : Nat) (g : Nat) (n : Int) (w : World) (hG : Gl N w) (hA : HB w g 120 #[.int .u32 n]) (hn : 0 ≤ n ∧ n < 4294967296) (hl : (Lib.itoa n).length ≤ 70368744177664) :
  Calls Tryz.prog 268 #[.int .u32 n] w (StrPost (Lib.itoa n) w) := clen_val0 N n w hG hn
theorem cseq_val (N : Nat) (g : Nat) (n : Int) (m : ByteArray) (w : World) (hG : Gl N w) (hA : HB w g 116 #[.int .u32 n, .string m]) (hn : 0 ≤ n ∧ n < 4294967296) (hl : (Lib.itoa n ++ [32] ++ m.data.toList).length ≤ 70368744177664) :
  Calls Tryz.prog 262 #[.pointer (some ⟨g, 0, none⟩)] w (StrPost (Lib.itoa n ++ [32] ++ m.data.toList) w) := by
 have c0 : w.cell? ⟨g, 0, none⟩ = some (.int .u32 n) := hA.cell 0
 have c1 : w.cell? ⟨g, 1, none⟩ = some (.string m) := hA.cell 1
 have h1 := hn.1
 have h2 := hn.2
 have HG := hid ((hG.below (Below.refl N w).drew (Nat.le_refl _)).get)
 have HC := hid (And.intro c0 c1)
 have hw : IntKind.i64.wrap n = n := IntWalk.i64_in _ (by omega)
 have hz1 := sz (Lib.itoa n)
 have hz2 := dl m
 have hz3 : (⟨(Lib.itoa n).toArray⟩ ++ ⟨#[32]⟩ : ByteArray).size = (Lib.itoa n).length + 1 := by rw [ByteArray.size_append, hz1]; rfl
 simp only [List.length_append, List.length_singleton] at hl
 have p1 : ∀ W, (Op.stringOp .add ⟨(Lib.itoa n).toArray⟩ ⟨#[32]⟩).run Tryz.prog W = .ok (.string (⟨(Lib.itoa n).toArray⟩ ++ ⟨#[32]⟩)) W := fun W => run_string_add_sum _ _ _ (by rw [hz1]; show _ + 1 ≤ _; omega)
 have p2 : ∀ W, (Op.stringOp .add (⟨(Lib.itoa n).toArray⟩ ++ ⟨#[32]⟩) m).run Tryz.prog W = .ok (.string ((⟨(Lib.itoa n).toArray⟩ ++ ⟨#[32]⟩) ++ m)) W := fun W => run_string_add_sum _ _ _ (by omega)
 clear hz1 hz2 hz3 hl
 clear hA hn hG c0 c1
 go_enter Tryz.func262, Tryz.ntmps262
 go_wp2_with fail
 go_region_held3 (fun w' => w'.cell? ⟨g, 0, none⟩ = some (.int .u32 n) ∧ w'.cell? ⟨g, 1, none⟩ = some (.string m)) (first | exact HC.out | exact ⟨cell_below (w := w.drew) hb4 HC.out.1, cell_below (w := w.drew) hb4 HC.out.2⟩)
  (first | (go_at_call 85; refine (itoa_any n (by omega) (by omega) _ HG.out).mono ?_; rintro e w4 ⟨rfl, hb4⟩))
 all_goals (go_wp2; go_ret; exact ⟨rets (by apply Go.WideShapes.bytes_inj; simp), (Below.refl _ _).drew.trans hb4⟩)
theorem callid_vsw (N n0 b : Nat) (bs : Bytes) (g : Nat) (s : ByteArray) (w : World) (hG : Gl N w) (hN : N ≤ n0) (hB : BW n0 b bs w) (hA : HB w g 114 #[.string s])  (hl : bs.length + (s.data.toList).length ≤ 70368744177664) :
  Calls Tryz.prog 252 #[.pointer (some ⟨g, 0, none⟩), bptr b] w (WrPost n0 b bs (s.data.toList) w) := by
 have HG := hid hG
 have HU0 := hid hA
 have HB0 := hid hB
 have HK0 := hid (WK.refl n0 b w)
 have hna := ws_nilAhead
 have hme := ws_method
 have HL := hid (And.intro hl (dl s))
 clear hG hA hB hl
 go_enter Tryz.func252, Tryz.ntmps252
 go_wp2_with fail
 refine stail 6 (by kernel_rfl) (by kernel_rfl) ?_
 simp only [List.take_succ_cons, List.take_zero, List.drop_succ_cons, List.drop_zero]
 repeat still_step
 still_call (callid_still g s _ (HU0.out.below (Below.refl _ w).drew))
 repeat still_step
 refine wpStill_nil ?_
 go_wp2_with fail
 refine (ws_any n0 b _ _ _ HB0.out.drew (by have := HL.out; omega)).mono ?_
 rintro e w1 ⟨rfl, hB1, hk1⟩
 go_wp2_with fail
 go_end0
 exact ⟨rfl, hB1, HK0.out.drew.trans hk1⟩
theorem ctype_vsw (N n0 b : Nat) (bs : Bytes) (g : Nat) (s : ByteArray) (w : World) (hG : Gl N w) (hN : N ≤ n0) (hB : BW n0 b bs w) (hA : HB w g 121 #[.string s])  (hl : bs.length + (s.data.toList).length ≤ 70368744177664) :
  Calls Tryz.prog 276 #[.pointer (some ⟨g, 0, none⟩), bptr b] w (WrPost n0 b bs (s.data.toList) w) := by
 have HG := hid hG
 have HU0 := hid hA
 have HB0 := hid hB
 have HK0 := hid (WK.refl n0 b w)
 have hna := ws_nilAhead
 have hme := ws_method
 have HL := hid (And.intro hl (dl s))
 clear hG hA hB hl
 go_enter Tryz.func276, Tryz.ntmps276
 go_wp2_with fail
 refine stail 6 (by kernel_rfl) (by kernel_rfl) ?_
 simp only [List.take_succ_cons, List.take_zero, List.drop_succ_cons, List.drop_zero]
 repeat still_step
 still_call (ctype_still g s _ (HU0.out.below (Below.refl _ w).drew))
 repeat still_step
 refine wpStill_nil ?_
 go_wp2_with fail
 refine (ws_any n0 b _ _ _ HB0.out.drew (by have := HL.out; omega)).mono ?_
 rintro e w1 ⟨rfl, hB1, hk1⟩
 go_wp2_with fail
 go_end0
 exact ⟨rfl, hB1, HK0.out.drew.trans hk1⟩
theorem generic_vsw (N n0 b : Nat) (bs : Bytes) (g : Nat) (n v : ByteArray) (w : World) (hG : Gl N w) (hN : N ≤ n0) (hB : BW n0 b bs w) (hA : HB w g 152 #[.string n, .string v])  (hl : bs.length + (v.data.toList).length ≤ 70368744177664) :
  Calls Tryz.prog 327 #[.pointer (some ⟨g, 0, none⟩), bptr b] w (WrPost n0 b bs (v.data.toList) w) := by
 have HG := hid hG
 have HU0 := hid hA
 have HB0 := hid hB
 have HK0 := hid (WK.refl n0 b w)
 have hna := ws_nilAhead
 have hme := ws_method
 have HL := hid (And.intro hl (dl v))
 clear hG hA hB hl
 go_enter Tryz.func327, Tryz.ntmps327
 go_wp2_with fail
 refine stail 6 (by kernel_rfl) (by kernel_rfl) ?_
 simp only [List.take_succ_cons, List.take_zero, List.drop_succ_cons, List.drop_zero]
 repeat still_step
 still_call (generic_still g n v _ (HU0.out.below (Below.refl _ w).drew))
 repeat still_step
 refine wpStill_nil ?_
 go_wp2_with fail
 refine (ws_any n0 b _ _ _ HB0.out.drew (by have := HL.out; omega)).mono ?_
 rintro e w1 ⟨rfl, hB1, hk1⟩
 go_wp2_with fail
 go_end0
 exact ⟨rfl, hB1, HK0.out.drew.trans hk1⟩
theorem route_vsw (N n0 b : Nat) (bs : Bytes) (g : Nat) (u : SUri) (w : World) (hG : Gl N w) (hN : N ≤ n0) (hB : BW n0 b bs w) (hA : BareAt 144 w g u) (ho : UOk u) (hl : bs.length + ([60] ++ uriT u ++ [62]).length ≤ 70368744177664) :
  Calls Tryz.prog 282 #[.pointer (some ⟨g, 0, none⟩), bptr b] w (WrPost n0 b bs ([60] ++ uriT u ++ [62]) w) := by
 have HG := hid hG
 have HU0 := hid hA
 have HB0 := hid hB
 have hna := ws_nilAhead
 have hme := ws_method
 have HL := hid hl
 have HO := hid ho
 clear hG hA hB hl ho
 go_enter Tryz.func282, Tryz.ntmps282
 go_wp2_with fail
 refine (ws_any n0 b _ _ _ HB0.out (by have := HL.out; show _ + 1 ≤ _; simp only [List.length_append, List.length_cons, List.length_nil] at *; omega)).mono ?_
 rintro e w1 ⟨rfl, hB1, hk1⟩
 have HB1 := hid hB1
 have HK1 := hid hk1
 have HU1 := hid (HU0.out.keep HB0.out hk1)
 clear hB1 hk1
 go_wp2_with fail
 refine (urisw_any N n0 b _ g 0 u _ (HG.out.below HK1.out.1 hN) hN HB1.out HU1.out.uri HO.out (by have := HL.out; simp only [List.length_append, List.length_cons, List.length_nil] at *; omega)).mono ?_
 rintro e w2 ⟨rfl, hB2, hk2⟩
 have HB2 := hid hB2
 have HK2 := hid (HK1.out.trans hk2)
 clear hB2 hk2
 go_wp2_with fail
 refine (ws_any n0 b _ _ _ HB2.out (by have := HL.out; show _ + 1 ≤ _; simp only [List.length_append, List.length_cons, List.length_nil] at *; omega)).mono ?_
 rintro e w3 ⟨rfl, hB3, hk3⟩
 go_wp2_with fail
 go_end0
 exact ⟨rfl, by simpa using hB3, HK2.out.trans hk3⟩
theorem rroute_vsw (N n0 b : Nat) (bs : Bytes) (g : Nat) (u : SUri) (w : World) (hG : Gl N w) (hN : N ≤ n0) (hB : BW n0 b bs w) (hA : BareAt 145 w g u) (ho : UOk u) (hl : bs.length + ([60] ++ uriT u ++ [62]).length ≤ 70368744177664) :
  Calls Tryz.prog 288 #[.pointer (some ⟨g, 0, none⟩), bptr b] w (WrPost n0 b bs ([60] ++ uriT u ++ [62]) w) := by
 have HG := hid hG
 have HU0 := hid hA
 have HB0 := hid hB
 have hna := ws_nilAhead
 have hme := ws_method
 have HL := hid hl
 have HO := hid ho
 clear hG hA hB hl ho
 go_enter Tryz.func288, Tryz.ntmps288
 go_wp2_with fail
 refine (ws_any n0 b _ _ _ HB0.out (by have := HL.out; show _ + 1 ≤ _; simp only [List.length_append, List.length_cons, List.length_nil] at *; omega)).mono ?_
 rintro e w1 ⟨rfl, hB1, hk1⟩
 have HB1 := hid hB1
 have HK1 := hid hk1
 have HU1 := hid (HU0.out.keep HB0.out hk1)
 clear hB1 hk1
 go_wp2_with fail
 refine (urisw_any N n0 b _ g 0 u _ (HG.out.below HK1.out.1 hN) hN HB1.out HU1.out.uri HO.out (by have := HL.out; simp only [List.length_append, List.length_cons, List.length_nil] at *; omega)).mono ?_
 rintro e w2 ⟨rfl, hB2, hk2⟩
 have HB2 := hid hB2
 have HK2 := hid (HK1.out.trans hk2)
 clear hB2 hk2
 go_wp2_with fail
 refine (ws_any n0 b _ _ _ HB2.out (by have := HL.out; show _ + 1 ≤ _; simp only [List.length_append, List.length_cons, List.length_nil] at *; omega)).mono ?_
 rintro e w3 ⟨rfl, hB3, hk3⟩
 go_wp2_with fail
 go_end0
 exact ⟨rfl, by simpa using hB3, HK2.out.trans hk3⟩
theorem referto_vsw (N n0 b : Nat) (bs : Bytes) (g : Nat) (u : SUri) (w : World) (hG : Gl N w) (hN : N ≤ n0) (hB : BW n0 b bs w) (hA : BareAt 147 w g u) (ho : UOk u) (hl : bs.length + ([60] ++ uriT u ++ [62]).length ≤ 70368744177664) :
  Calls Tryz.prog 315 #[.pointer (some ⟨g, 0, none⟩), bptr b] w (WrPost n0 b bs ([60] ++ uriT u ++ [62]) w) := by
 have HG := hid hG
 have HU0 := hid hA
 have HB0 := hid hB
 have hna := ws_nilAhead
 have hme := ws_method
 have HL := hid hl
 have HO := hid ho
 clear hG hA hB hl ho
 go_enter Tryz.func315, Tryz.ntmps315
 go_wp2_with fail
 refine (ws_any n0 b _ _ _ HB0.out (by have := HL.out; show _ + 1 ≤ _; simp only [List.length_append, List.length_cons, List.length_nil] at *; omega)).mono ?_
 rintro e w1 ⟨rfl, hB1, hk1⟩
 have HB1 := hid hB1
 have HK1 := hid hk1
 have HU1 := hid (HU0.out.keep HB0.out hk1)
 clear hB1 hk1
 go_wp2_with fail
 refine (urisw_any N n0 b _ g 0 u _ (HG.out.below HK1.out.1 hN) hN HB1.out HU1.out.uri HO.out (by have := HL.out; simp only [List.length_append, List.length_cons, List.length_nil] at *; omega)).mono ?_
 rintro e w2 ⟨rfl, hB2, hk2⟩
 have HB2 := hid hB2
 have HK2 := hid (HK1.out.trans hk2)
 clear hB2 hk2
 go_wp2_with fail
 refine (ws_any n0 b _ _ _ HB2.out (by have := HL.out; show _ + 1 ≤ _; simp only [List.length_append, List.length_cons, List.length_nil] at *; omega)).mono ?_
 rintro e w3 ⟨rfl, hB3, hk3⟩
 go_wp2_with fail
 go_end0
 exact ⟨rfl, by simpa using hB3, HK2.out.trans hk3⟩
theorem maxf_vsw (N n0 b : Nat) (bs : Bytes) (g : Nat) (n : Int) (w : World) (hG : Gl N w) (hN : N ≤ n0) (hB : BW n0 b bs w) (hA : HB w g 117 #[.int .u32 n]) (hn : 0 ≤ n ∧ n < 4294967296) (hl : bs.length + (Lib.itoa n).length ≤ 70368744177664) :
  Calls Tryz.prog 295 #[.pointer (some ⟨g, 0, none⟩), bptr b] w (WrPost n0 b bs (Lib.itoa n) w) := by
 have HG := hid hG
 have HU0 := hid hA
 have HB0 := hid hB
 have HK0 := hid (WK.refl n0 b w)
 have hna := ws_nilAhead
 have hme := ws_method
 have HL := hid (And.intro hl (sz (Lib.itoa n)))
 have HC : Hid (w.cell? ⟨g, 0, none⟩ = some (.int .u32 n)) := hid (hA.cell 0)
 have HGd := hid (hG.below (Below.refl N w).drew (Nat.le_refl _))
 have HN := hid hn
 clear hG hA hB hl hn
 go_enter Tryz.func295, Tryz.ntmps295
 go_wp2_with fail
 go_region_held3 (fun w' => True) (trivial)
  (first
   | (go_at_call 293; refine (maxf_val N g n _ HGd.out (HU0.out.below (Below.refl _ w).drew) HN.out (by have := HL.out; omega)).mono ?_; rintro e w4 ⟨rfl, hb4⟩)
   | (go_at_call 90; refine (ws_any n0 b _ _ _ (HB0.out.drew.below hb4) ?_).mono ?_; (have := HL.out; omega); rintro e w5 ⟨rfl, hB5, hk5⟩))
 all_goals (go_wp2_with fail; go_end0; exact ⟨rfl, by simpa using hB5, HK0.out.drew.trans ((WK.of_below (w := w.drew) hb4 (Nat.le_of_lt (Nat.lt_of_le_of_lt HB0.out.lt.1 HB0.out.lt.2))).trans hk5)⟩)
theorem expires_vsw (N n0 b : Nat) (bs : Bytes) (g : Nat) (n : Int) (w : World) (hG : Gl N w) (hN : N ≤ n0) (hB : BW n0 b bs w) (hA : HB w g 118 #[.int .u32 n]) (hn : 0 ≤ n ∧ n < 4294967296) (hl : bs.length + (Lib.itoa n).length ≤ 70368744177664) :
  Calls Tryz.prog 308 #[.pointer (some ⟨g, 0, none⟩), bptr b] w (WrPost n0 b bs (Lib.itoa n) w) := by
 have HG := hid hG
 have HU0 := hid hA
 have HB0 := hid hB
 have HK0 := hid (WK.refl n0 b w)
 have hna := ws_nilAhead
 have hme := ws_method
 have HL := hid (And.intro hl (sz (Lib.itoa n)))
 have HC : Hid (w.cell? ⟨g, 0, none⟩ = some (.int .u32 n)) := hid (hA.cell 0)
 have HGd := hid (hG.below (Below.refl N w).drew (Nat.le_refl _))
 have HN := hid hn
 clear hG hA hB hl hn
 go_enter Tryz.func308, Tryz.ntmps308
 go_wp2_with fail
 go_region_held3 (fun w' => w'.cell? ⟨g, 0, none⟩ = some (.int .u32 n)) (first | exact HC.out | exact cell_below (w := w.drew) hb4 HC.out | exact (HU0.out.below (Below.refl _ w).drew |>.below hb4).cellKeep (HB0.out.drew.below hb4) hk5 (cell_below (w := w.drew) hb4 HC.out))
  (first
   | (go_at_call 303; refine (expires_val0 N n _ HGd.out HN.out).mono ?_; rintro e w4 ⟨rfl, hb4⟩)
   | (go_at_call 90; refine (ws_any n0 b _ _ _ (HB0.out.drew.below hb4) ?_).mono ?_; (have := HL.out; omega); rintro e w5 ⟨rfl, hB5, hk5⟩))
 all_goals (go_wp2_with fail; go_end0; exact ⟨rfl, by simpa using hB5, HK0.out.drew.trans ((WK.of_below (w := w.drew) hb4 (Nat.le_of_lt (Nat.lt_of_le_of_lt HB0.out.lt.1 HB0.out.lt.2))).trans hk5)⟩)
theorem clen_vsw (N n0 b : Nat) (bs : Bytes) (g : Nat) (n : Int) (w : World) (hG : Gl N w) (hN : N ≤ n0) (hB : BW n0 b bs w) (hA : HB w g 120 #[.int .u32 n]) (hn : 0 ≤ n ∧ n < 4294967296) (hl : bs.length + (Lib.itoa n).length ≤ 70368744177664) :
  Calls Tryz.prog 270 #[.pointer (some ⟨g, 0, none⟩), bptr b] w (WrPost n0 b bs (Lib.itoa n) w) := by
 have HG := hid hG
 have HU0 := hid hA
 have HB0 := hid hB
 have HK0 := hid (WK.refl n0 b w)
 have hna := ws_nilAhead
 have hme := ws_method
 have HL := hid (And.intro hl (sz (Lib.itoa n)))
 have HC : Hid (w.cell? ⟨g, 0, none⟩ = some (.int .u32 n)) := hid (hA.cell 0)
 have HGd := hid (hG.below (Below.refl N w).drew (Nat.le_refl _))
 have HN := hid hn
 clear hG hA hB hl hn
 go_enter Tryz.func270, Tryz.ntmps270
 go_wp2_with fail
 go_region_held3 (fun w' => w'.cell? ⟨g, 0, none⟩ = some (.int .u32 n)) (first | exact HC.out | exact cell_below (w := w.drew) hb4 HC.out | exact (HU0.out.below (Below.refl _ w).drew |>.below hb4).cellKeep (HB0.out.drew.below hb4) hk5 (cell_below (w := w.drew) hb4 HC.out))
  (first
   | (go_at_call 268; refine (clen_val0 N n _ HGd.out HN.out).mono ?_; rintro e w4 ⟨rfl, hb4⟩)
   | (go_at_call 90; refine (ws_any n0 b _ _ _ (HB0.out.drew.below hb4) ?_).mono ?_; (have := HL.out; omega); rintro e w5 ⟨rfl, hB5, hk5⟩))
 all_goals (go_wp2_with fail; go_end0; exact ⟨rfl, by simpa using hB5, HK0.out.drew.trans ((WK.of_below (w := w.drew) hb4 (Nat.le_of_lt (Nat.lt_of_le_of_lt HB0.out.lt.1 HB0.out.lt.2))).trans hk5)⟩)
theorem cseq_vsw (N n0 b : Nat) (bs : Bytes) (g : Nat) (n : Int) (m : ByteArray) (w : World) (hG : Gl N w) (hN : N ≤ n0) (hB : BW n0 b bs w) (hA : HB w g 116 #[.int .u32 n, .string m]) (hn : 0 ≤ n ∧ n < 4294967296) (hl : bs.length + (Lib.itoa n ++ [32] ++ m.data.toList).length ≤ 70368744177664) :
  Calls Tryz.prog 264 #[.pointer (some ⟨g, 0, none⟩), bptr b] w (WrPost n0 b bs (Lib.itoa n ++ [32] ++ m.data.toList) w) := by
 have HG := hid hG
 have HU0 := hid hA
 have HB0 := hid hB
 have HK0 := hid (WK.refl n0 b w)
 have hna := ws_nilAhead
 have hme := ws_method
 have HL := hid (And.intro hl (And.intro (sz (Lib.itoa n)) (dl m)))
 have c0 : w.cell? ⟨g, 0, none⟩ = some (.int .u32 n) := hA.cell 0
 have HC := hid c0
 have HGd := hid ((hG.below (Below.refl N w).drew (Nat.le_refl _)).get)
 have h1 := hn.1
 have h2 := hn.2
 have hw : IntKind.i64.wrap n = n := IntWalk.i64_in _ (by omega)
 clear hG hA hB hl hn c0
 go_enter Tryz.func264, Tryz.ntmps264
 go_upto_region 0 with fail
 go_cut [] (fun wx => BW n0 b (bs ++ Lib.itoa n) wx ∧ WK n0 b w wx)
 case first =>
  go_region_held3 (fun w' => w'.cell? ⟨g, 0, none⟩ = some (.int .u32 n)) (first | exact HC.out | exact cell_below (w := w.drew) hb4 HC.out | exact (HU0.out.below (Below.refl _ w).drew |>.below hb4).cellKeep (HB0.out.drew.below hb4) hk5 (cell_below (w := w.drew) hb4 HC.out))
   (first
    | (go_at_call 85; refine (itoa_any n (by omega) (by omega) _ HGd.out).mono ?_; rintro e w4 ⟨rfl, hb4⟩)
    | (go_at_call 90; refine (ws_any n0 b _ _ _ (HB0.out.drew.below hb4) ?_).mono ?_; (have := HL.out; simp only [List.length_append, List.length_cons, List.length_nil] at *; omega); rintro e w5 ⟨rfl, hB5, hk5⟩))
  all_goals (go_wp2_with fail; go_meet; exact ⟨by simpa using hB5, HK0.out.drew.trans ((WK.of_below (w := w.drew) hb4 (Nat.le_of_lt (Nat.lt_of_le_of_lt HB0.out.lt.1 HB0.out.lt.2))).trans hk5)⟩)
 case rest =>
  obtain ⟨hB1, hK1⟩ := hcut
  obtain ⟨w1, rfl⟩ : ∃ w1 : World, w1 = wc := ⟨_, rfl⟩
  have HB1 := hid hB1
  have HK1 := hid hK1
  have HU1 := hid (HU0.out.keep HB0.out hK1)
  clear hB1 hK1
  go_wp2_with fail
  refine (ws_any n0 b _ _ _ HB1.out (by have := HL.out; show _ + 1 ≤ _; simp only [List.length_append, List.length_cons, List.length_nil] at *; omega)).mono ?_
  rintro e w2 ⟨rfl, hB2, hk2⟩
  have HB2 := hid hB2
  have HK2 := hid (HK1.out.trans hk2)
  have HU2 := hid (HU1.out.keep HB1.out hk2)
  have c1 : w2.cell? ⟨g, 1, none⟩ = some (.string m) := HU2.out.cell 1
  clear hB2 hk2
  go_wp2_with fail
  refine stail 8 (by kernel_rfl) (by kernel_rfl) ?_
  simp only [List.take_succ_cons, List.take_zero, List.drop_succ_cons, List.drop_zero]
  repeat still_step
  refine wpStill_nil ?_
  go_wp2_with fail
  refine (ws_any n0 b _ _ _ HB2.out.drew (by have := HL.out; simp only [List.length_append, List.length_cons, List.length_nil] at *; omega)).mono ?_
  rintro e w3 ⟨rfl, hB3, hk3⟩
  go_wp2_with fail
  go_end0
  exact ⟨rfl, by simpa using hB3, HK2.out.drew.trans hk3⟩
theorem to_val (N : Nat) (g : Nat) (d : ByteArray) (u : SUri) (p : KVs) (w : World) (hG : Gl N w) (hA : AddrAt 138 w g d u p) (ho : UOk u) (hp : KVok p) (hl : (addrT d u p).length ≤ 70368744177664) :
  Calls Tryz.prog 244 #[.pointer (some ⟨g, 0, none⟩)] w (StrPost (addrT d u p) w) := by
 have HG := hid hG
 have HA := hid hA
 have hb0 : Below w.heap.size w (w.alloc (.cells #[.pointer none, .slice none 0 0] 134)) := (Below.refl _ _).alloc (Nat.le_refl _) _
 have HB0 := hid hb0
 have HL := hid hl
 have HE := hid (fun N n0 b bs g w h1 h2 h3 h4 h5 => to_vsw N n0 b bs g d u p w h1 h2 h3 h4 ho hp h5)
 clear hb0 hG hA hl
 go_enter Tryz.func244, Tryz.ntmps244
 go_wp2_with fail
 refine (HE.out N w.heap.size w.heap.size [] g _ (HG.out.step HB0.out) HG.out.le (BW.fresh w) (HA.out.below HB0.out) (by have := HL.out; simpa using this)).mono ?_
 rintro e w1 ⟨rfl, hB1, hk1⟩
 have HB1 := hid hB1
 have HK1 := hid hk1
 clear hB1 hk1
 go_wp2_with fail
 refine (bstr_any w.heap.size w.heap.size _ _ HB1.out).mono ?_
 rintro e w2 ⟨rfl, hB2, hk2⟩
 go_wp2_with fail
 go_ret
 exact ⟨rets (by simp), (HB0.out.trans HK1.out.1).trans hk2.1⟩
theorem from_val (N : Nat) (g : Nat) (d : ByteArray) (u : SUri) (p : KVs) (w : World) (hG : Gl N w) (hA : AddrAt 139 w g d u p) (ho : UOk u) (hp : KVok p) (hl : (addrT d u p).length ≤ 70368744177664) :
  Calls Tryz.prog 238 #[.pointer (some ⟨g, 0, none⟩)] w (StrPost (addrT d u p) w) := by
 have HG := hid hG
 have HA := hid hA
 have hb0 : Below w.heap.size w (w.alloc (.cells #[.pointer none, .slice none 0 0] 134)) := (Below.refl _ _).alloc (Nat.le_refl _) _
 have HB0 := hid hb0
 have HL := hid hl
 have HE := hid (fun N n0 b bs g w h1 h2 h3 h4 h5 => from_vsw N n0 b bs g d u p w h1 h2 h3 h4 ho hp h5)
 clear hb0 hG hA hl
 go_enter Tryz.func238, Tryz.ntmps238
 go_wp2_with fail
 refine (HE.out N w.heap.size w.heap.size [] g _ (HG.out.step HB0.out) HG.out.le (BW.fresh w) (HA.out.below HB0.out) (by have := HL.out; simpa using this)).mono ?_
 rintro e w1 ⟨rfl, hB1, hk1⟩
 have HB1 := hid hB1
 have HK1 := hid hk1
 clear hB1 hk1
 go_wp2_with fail
 refine (bstr_any w.heap.size w.heap.size _ _ HB1.out).mono ?_
 rintro e w2 ⟨rfl, hB2, hk2⟩
 go_wp2_with fail
 go_ret
 exact ⟨rets (by simp), (HB0.out.trans HK1.out.1).trans hk2.1⟩
theorem refby_val (N : Nat) (g : Nat) (d : ByteArray) (u : SUri) (p : KVs) (w : World) (hG : Gl N w) (hA : AddrAt 149 w g d u p) (ho : UOk u) (hp : KVok p) (hl : (addrT d u p).length ≤ 70368744177664) :
  Calls Tryz.prog 319 #[.pointer (some ⟨g, 0, none⟩)] w (StrPost (addrT d u p) w) := by
 have HG := hid hG
 have HA := hid hA
 have hb0 : Below w.heap.size w (w.alloc (.cells #[.pointer none, .slice none 0 0] 134)) := (Below.refl _ _).alloc (Nat.le_refl _) _
 have HB0 := hid hb0
 have HL := hid hl
 have HE := hid (fun N n0 b bs g w h1 h2 h3 h4 h5 => refby_vsw N n0 b bs g d u p w h1 h2 h3 h4 ho hp h5)
 clear hb0 hG hA hl
 go_enter Tryz.func319, Tryz.ntmps319
 go_wp2_with fail
 refine (HE.out N w.heap.size w.heap.size [] g _ (HG.out.step HB0.out) HG.out.le (BW.fresh w) (HA.out.below HB0.out) (by have := HL.out; simpa using this)).mono ?_
 rintro e w1 ⟨rfl, hB1, hk1⟩
 have HB1 := hid hB1
 have HK1 := hid hk1
 clear hB1 hk1
 go_wp2_with fail
 refine (bstr_any w.heap.size w.heap.size _ _ HB1.out).mono ?_
 rintro e w2 ⟨rfl, hB2, hk2⟩
 go_wp2_with fail
 go_ret
 exact ⟨rets (by simp), (HB0.out.trans HK1.out.1).trans hk2.1⟩
theorem contact_val (N : Nat) (g : Nat) (d : ByteArray) (u : SUri) (p : KVs) (w : World) (hG : Gl N w) (hA : AddrAt 140 w g d u p) (ho : UOk u) (hst : u.star = false) (hp : KVok p) (hl : (addrT d u p).length ≤ 70368744177664) :
  Calls Tryz.prog 256 #[.pointer (some ⟨g, 0, none⟩)] w (StrPost (addrT d u p) w) := by
 have HG := hid hG
 have HA := hid hA
 have hb0 : Below w.heap.size w (w.alloc (.cells #[.pointer none, .slice none 0 0] 134)) := (Below.refl _ _).alloc (Nat.le_refl _) _
 have HB0 := hid hb0
 have HL := hid hl
 have HE := hid (fun N n0 b bs g w h1 h2 h3 h4 h5 => contact_vsw N n0 b bs g d u p w h1 h2 h3 h4 ho hst hp h5)
 clear hb0 hG hA hl
 go_enter Tryz.func256, Tryz.ntmps256
 go_wp2_with fail
 refine (HE.out N w.heap.size w.heap.size [] g _ (HG.out.step HB0.out) HG.out.le (BW.fresh w) (HA.out.below HB0.out) (by have := HL.out; simpa using this)).mono ?_
 rintro e w1 ⟨rfl, hB1, hk1⟩
 have HB1 := hid hB1
 have HK1 := hid hk1
 clear hB1 hk1
 go_wp2_with fail
 refine (bstr_any w.heap.size w.heap.size _ _ HB1.out).mono ?_
 rintro e w2 ⟨rfl, hB2, hk2⟩
 go_wp2_with fail
 go_ret
 exact ⟨rets (by simp), (HB0.out.trans HK1.out.1).trans hk2.1⟩
theorem via_val (N : Nat) (g : Nat) (v : SVia) (w : World) (hG : Gl N w) (hA : ViaAt w g v) (ho : VOk v) (hl : (viaT v).length ≤ 70368744177664) :
  Calls Tryz.prog 231 #[.pointer (some ⟨g, 0, none⟩)] w (StrPost (viaT v) w) := by
 have HG := hid hG
 have HA := hid hA
 have hb0 : Below w.heap.size w (w.alloc (.cells #[.pointer none, .slice none 0 0] 134)) := (Below.refl _ _).alloc (Nat.le_refl _) _
 have HB0 := hid hb0
 have HL := hid hl
 have HE := hid (fun N n0 b bs g w h1 h2 h3 h4 h5 => via_vsw N n0 b bs g v w h1 h2 h3 h4 ho h5)
 clear hb0 hG hA hl
 go_enter Tryz.func231, Tryz.ntmps231
 go_wp2_with fail
 refine (HE.out N w.heap.size w.heap.size [] g _ (HG.out.step HB0.out) HG.out.le (BW.fresh w) (HA.out.below HB0.out) (by have := HL.out; simpa using this)).mono ?_
 rintro e w1 ⟨rfl, hB1, hk1⟩
 have HB1 := hid hB1
 have HK1 := hid hk1
 clear hB1 hk1
 go_wp2_with fail
 refine (bstr_any w.heap.size w.heap.size _ _ HB1.out).mono ?_
 rintro e w2 ⟨rfl, hB2, hk2⟩
 go_wp2_with fail
 go_ret
 exact ⟨rets (by simp), (HB0.out.trans HK1.out.1).trans hk2.1⟩
theorem route_val (N : Nat) (g : Nat) (u : SUri) (w : World) (hG : Gl N w) (hA : BareAt 144 w g u) (ho : UOk u) (hl : ([60] ++ uriT u ++ [62]).length ≤ 70368744177664) :
  Calls Tryz.prog 280 #[.pointer (some ⟨g, 0, none⟩)] w (StrPost ([60] ++ uriT u ++ [62]) w) := by
 have HG := hid hG
 have HA := hid hA
 have hb0 : Below w.heap.size w (w.alloc (.cells #[.pointer none, .slice none 0 0] 134)) := (Below.refl _ _).alloc (Nat.le_refl _) _
 have HB0 := hid hb0
 have HL := hid hl
 have HE := hid (fun N n0 b bs g w h1 h2 h3 h4 h5 => route_vsw N n0 b bs g u w h1 h2 h3 h4 ho h5)
 clear hb0 hG hA hl
 go_enter Tryz.func280, Tryz.ntmps280
 go_wp2_with fail
 refine (HE.out N w.heap.size w.heap.size [] g _ (HG.out.step HB0.out) HG.out.le (BW.fresh w) (HA.out.below HB0.out) (by have := HL.out; simpa using this)).mono ?_
 rintro e w1 ⟨rfl, hB1, hk1⟩
 have HB1 := hid hB1
 have HK1 := hid hk1
 clear hB1 hk1
 go_wp2_with fail
 refine (bstr_any w.heap.size w.heap.size _ _ HB1.out).mono ?_
 rintro e w2 ⟨rfl, hB2, hk2⟩
 go_wp2_with fail
 go_ret
 exact ⟨rets (by simp), (HB0.out.trans HK1.out.1).trans hk2.1⟩
theorem rroute_val (N : Nat) (g : Nat) (u : SUri) (w : World) (hG : Gl N w) (hA : BareAt 145 w g u) (ho : UOk u) (hl : ([60] ++ uriT u ++ [62]).length ≤ 70368744177664) :
  Calls Tryz.prog 286 #[.pointer (some ⟨g, 0, none⟩)] w (StrPost ([60] ++ uriT u ++ [62]) w) := by
 have HG := hid hG
 have HA := hid hA
 have hb0 : Below w.heap.size w (w.alloc (.cells #[.pointer none, .slice none 0 0] 134)) := (Below.refl _ _).alloc (Nat.le_refl _) _
 have HB0 := hid hb0
 have HL := hid hl
 have HE := hid (fun N n0 b bs g w h1 h2 h3 h4 h5 => rroute_vsw N n0 b bs g u w h1 h2 h3 h4 ho h5)
 clear hb0 hG hA hl
 go_enter Tryz.func286, Tryz.ntmps286
 go_wp2_with fail
 refine (HE.out N w.heap.size w.heap.size [] g _ (HG.out.step HB0.out) HG.out.le (BW.fresh w) (HA.out.below HB0.out) (by have := HL.out; simpa using this)).mono ?_
 rintro e w1 ⟨rfl, hB1, hk1⟩
 have HB1 := hid hB1
 have HK1 := hid hk1
 clear hB1 hk1
 go_wp2_with fail
 refine (bstr_any w.heap.size w.heap.size _ _ HB1.out).mono ?_
 rintro e w2 ⟨rfl, hB2, hk2⟩
 go_wp2_with fail
 go_ret
 exact ⟨rets (by simp), (HB0.out.trans HK1.out.1).trans hk2.1⟩
theorem referto_val (N : Nat) (g : Nat) (u : SUri) (w : World) (hG : Gl N w) (hA : BareAt 147 w g u) (ho : UOk u) (hl : ([60] ++ uriT u ++ [62]).length ≤ 70368744177664) :
  Calls Tryz.prog 313 #[.pointer (some ⟨g, 0, none⟩)] w (StrPost ([60] ++ uriT u ++ [62]) w) := by
 have HG := hid hG
 have HA := hid hA
 have hb0 : Below w.heap.size w (w.alloc (.cells #[.pointer none, .slice none 0 0] 134)) := (Below.refl _ _).alloc (Nat.le_refl _) _
 have HB0 := hid hb0
 have HL := hid hl
 have HE := hid (fun N n0 b bs g w h1 h2 h3 h4 h5 => referto_vsw N n0 b bs g u w h1 h2 h3 h4 ho h5)
 clear hb0 hG hA hl
 go_enter Tryz.func313, Tryz.ntmps313
 go_wp2_with fail
 refine (HE.out N w.heap.size w.heap.size [] g _ (HG.out.step HB0.out) HG.out.le (BW.fresh w) (HA.out.below HB0.out) (by have := HL.out; simpa using this)).mono ?_
 rintro e w1 ⟨rfl, hB1, hk1⟩
 have HB1 := hid hB1
 have HK1 := hid hk1
 clear hB1 hk1
 go_wp2_with fail
 refine (bstr_any w.heap.size w.heap.size _ _ HB1.out).mono ?_
 rintro e w2 ⟨rfl, hB2, hk2⟩
 go_wp2_with fail
 go_ret
 exact ⟨rets (by simp), (HB0.out.trans HK1.out.1).trans hk2.1⟩
