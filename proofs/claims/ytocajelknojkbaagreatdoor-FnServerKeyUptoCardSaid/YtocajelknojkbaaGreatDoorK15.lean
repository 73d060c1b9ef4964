import Derived.Test.YtocajelknojkbaaGreatDoorK14
set_option maxRecDepth 100000
set_option maxHeartbeats 16000000
set_option linter.all false
namespace Go.Proofs.YtocajelknojkbaaGreatDoor
section
open Go.Lib (hid)
open Go.RowKit
def addrB (t : Int) : Bool := decide (t = 1) || decide (t = 2) || decide (t = 3) || decide (t = 14)
def routB (t : Int) : Bool := decide (t = 11) || decide (t = 12) || decide (t = 13)
def numbB (t : Int) : Bool := decide (t = 6) || decide (t = 7) || decide (t = 8)
theorem isaddressed_any (t : Int) (w : World) : Calls Tryz.prog 51 #[.int .i64 t] w fun e w' => e = .returned (.bool (addrB t)) ∧ w' = w := by
 obtain ⟨r, hr⟩ : ∃ r, r = addrB t := ⟨_, rfl⟩
 have HR := hid hr
 rw [← hr]
 clear hr
 go_enter Tryz.func51, Tryz.ntmps51
 go_wp2
 all_goals
  (go_ret
   refine ⟨ret_bool ?_, rfl⟩
   rw [HR.out, addrB, Bool.eq_iff_iff]
   simp
   try omega)
theorem isrouted_any (t : Int) (w : World) : Calls Tryz.prog 52 #[.int .i64 t] w fun e w' => e = .returned (.bool (routB t)) ∧ w' = w := by
 obtain ⟨r, hr⟩ : ∃ r, r = routB t := ⟨_, rfl⟩
 have HR := hid hr
 rw [← hr]
 clear hr
 go_enter Tryz.func52, Tryz.ntmps52
 go_wp2
 all_goals
  (go_ret
   refine ⟨ret_bool ?_, rfl⟩
   rw [HR.out, routB, Bool.eq_iff_iff]
   simp
   try omega)
theorem isnumbered_any (t : Int) (w : World) : Calls Tryz.prog 53 #[.int .i64 t] w fun e w' => e = .returned (.bool (numbB t)) ∧ w' = w := by
 obtain ⟨r, hr⟩ : ∃ r, r = numbB t := ⟨_, rfl⟩
 have HR := hid hr
 rw [← hr]
 clear hr
 go_enter Tryz.func53, Tryz.ntmps53
 go_wp2
 all_goals
  (go_ret
   refine ⟨ret_bool ?_, rfl⟩
   rw [HR.out, numbB, Bool.eq_iff_iff]
   simp
   try omega)
theorem blk21 {w : World} {g : Nat} {t : TypeId} {fz : Nat × Nat} {v0 v1 v2 v3 v4 v5 v6 v7 v8 v9 v10 v11 v12 v13 v14 v15 v16 v17 v18 v19 v20 : Value} (h : w.heap[g]? = some (.cells #[v0, v1, v2, v3, v4, v5, v6, v7, v8, v9, v10, v11, v12, v13, v14, v15, v16, v17, v18, v19, v20] t fz)) :
  w.cell? ⟨g, 0, none⟩ = some v0 ∧ w.cell? ⟨g, 1, none⟩ = some v1 ∧ w.cell? ⟨g, 2, none⟩ = some v2 ∧ w.cell? ⟨g, 3, none⟩ = some v3 ∧ w.cell? ⟨g, 4, none⟩ = some v4 ∧ w.cell? ⟨g, 5, none⟩ = some v5 ∧ w.cell? ⟨g, 6, none⟩ = some v6 ∧ w.cell? ⟨g, 7, none⟩ = some v7 ∧ w.cell? ⟨g, 8, none⟩ = some v8 ∧ w.cell? ⟨g, 9, none⟩ = some v9 ∧ w.cell? ⟨g, 10, none⟩ = some v10 ∧ w.cell? ⟨g, 11, none⟩ = some v11 ∧ w.cell? ⟨g, 12, none⟩ = some v12 ∧ w.cell? ⟨g, 13, none⟩ = some v13 ∧ w.cell? ⟨g, 14, none⟩ = some v14 ∧ w.cell? ⟨g, 15, none⟩ = some v15 ∧ w.cell? ⟨g, 16, none⟩ = some v16 ∧ w.cell? ⟨g, 17, none⟩ = some v17 ∧ w.cell? ⟨g, 18, none⟩ = some v18 ∧ w.cell? ⟨g, 19, none⟩ = some v19 ∧ w.cell? ⟨g, 20, none⟩ = some v20 := by
 refine ⟨?_, ?_, ?_, ?_, ?_, ?_, ?_, ?_, ?_, ?_, ?_, ?_, ?_, ?_, ?_, ?_, ?_, ?_, ?_, ?_, ?_⟩ <;> rw [blk_cell h] <;> rfl
structure RHead (h : LHead) : Prop where
 sort : 0 ≤ h.t ∧ h.t ≤ 14
 generic : h.t = 0 → (2 < h.name.length ∧ h.name[0]? = some 88 ∧ h.name[1]? = some 45 ∧ wordS h.name = true) ∧ lineS h.text = true
 addr : addrB h.t = true → shownS h.display = true ∧ RUri h.uri ∧ ParOK false h.params
 rout : routB h.t = true → RUri h.uri
 maxf : h.t = 6 → h.num < 256
 numb : h.t = 7 ∨ h.t = 8 → h.num ≤ 2147483647
 callid : h.t = 4 → wordS h.text = true
 ctype : h.t = 10 → lineS h.text = true
 cseq : h.t = 5 → wordS h.text = true ∧ h.num ≤ 2147483647
 via : h.t = 9 → h.proto = [83, 73, 80] ∧ h.version = [50, 46, 48] ∧ wordS h.transport = true ∧ textS hostB h.host = true ∧ (0 ≤ h.port ∧ h.port ≤ 65535) ∧ ParOK false h.params
theorem RHead.k_generic {h : LHead} (e : h.t = 0) (k : (2 < h.name.length ∧ h.name[0]? = some 88 ∧ h.name[1]? = some 45 ∧ wordS h.name = true) ∧ lineS h.text = true) : RHead h := by
 rcases e with e <;>
  (refine ⟨by omega, fun _ => k, ?_, ?_, ?_, ?_, ?_, ?_, ?_, ?_⟩ <;> (rw [e]; intro q; exact absurd q (by decide)))
theorem RHead.k_addr {h : LHead} (e : h.t = 1 ∨ h.t = 2 ∨ h.t = 3 ∨ h.t = 14) (k : shownS h.display = true ∧ RUri h.uri ∧ ParOK false h.params) : RHead h := by
 rcases e with e | e | e | e <;>
  (refine ⟨by omega, ?_, fun _ => k, ?_, ?_, ?_, ?_, ?_, ?_, ?_⟩ <;> (rw [e]; intro q; exact absurd q (by decide)))
theorem RHead.k_rout {h : LHead} (e : h.t = 11 ∨ h.t = 12 ∨ h.t = 13) (k : RUri h.uri) : RHead h := by
 rcases e with e | e | e <;>
  (refine ⟨by omega, ?_, ?_, fun _ => k, ?_, ?_, ?_, ?_, ?_, ?_⟩ <;> (rw [e]; intro q; exact absurd q (by decide)))
theorem RHead.k_maxf {h : LHead} (e : h.t = 6) (k : h.num < 256) : RHead h := by
 rcases e with e <;>
  (refine ⟨by omega, ?_, ?_, ?_, fun _ => k, ?_, ?_, ?_, ?_, ?_⟩ <;> (rw [e]; intro q; exact absurd q (by decide)))
theorem RHead.k_numb {h : LHead} (e : h.t = 7 ∨ h.t = 8) (k : h.num ≤ 2147483647) : RHead h := by
 rcases e with e | e <;>
  (refine ⟨by omega, ?_, ?_, ?_, ?_, fun _ => k, ?_, ?_, ?_, ?_⟩ <;> (rw [e]; intro q; exact absurd q (by decide)))
theorem RHead.k_callid {h : LHead} (e : h.t = 4) (k : wordS h.text = true) : RHead h := by
 rcases e with e <;>
  (refine ⟨by omega, ?_, ?_, ?_, ?_, ?_, fun _ => k, ?_, ?_, ?_⟩ <;> (rw [e]; intro q; exact absurd q (by decide)))
theorem RHead.k_ctype {h : LHead} (e : h.t = 10) (k : lineS h.text = true) : RHead h := by
 rcases e with e <;>
  (refine ⟨by omega, ?_, ?_, ?_, ?_, ?_, ?_, fun _ => k, ?_, ?_⟩ <;> (rw [e]; intro q; exact absurd q (by decide)))
theorem RHead.k_cseq {h : LHead} (e : h.t = 5) (k : wordS h.text = true ∧ h.num ≤ 2147483647) : RHead h := by
 rcases e with e <;>
  (refine ⟨by omega, ?_, ?_, ?_, ?_, ?_, ?_, ?_, fun _ => k, ?_⟩ <;> (rw [e]; intro q; exact absurd q (by decide)))
theorem RHead.k_via {h : LHead} (e : h.t = 9) (k : h.proto = [83, 73, 80] ∧ h.version = [50, 46, 48] ∧ wordS h.transport = true ∧ textS hostB h.host = true ∧ (0 ≤ h.port ∧ h.port ≤ 65535) ∧ ParOK false h.params) : RHead h := by
 rcases e with e <;>
  (refine ⟨by omega, ?_, ?_, ?_, ?_, ?_, ?_, ?_, ?_, fun _ => k⟩ <;> (rw [e]; intro q; exact absurd q (by decide)))
theorem ishead_raw (t : Int) (name text display : Bytes) (u : LUri) (params : BKVs) (num : Int) (proto version transport host : Bytes) (port : Int) (cs : List Value) (w : World) (hH : LH w ⟨t, name, text, display, u, params, num, proto, version, transport, host, port⟩ cs) : Calls Tryz.prog 36 #[.agg cs.toArray] w (Says (RHead ⟨t, name, text, display, u, params, num, proto, version, transport, host, port⟩) w) := by
 obtain ⟨va, vb, vc, ul, vp, vd, ve, vf, vg, rfl, hn, ht, hd, hu, hp, ho, hv, hr, hh, hst, hnum, hport⟩ := hH
 have HLU := hid hu
 obtain ⟨ua, ub, uc, ud, ue, up, uq, rfl, k1, k2, k3, k4, k5, k6, k7, k8⟩ := hu
 have HX := hid (And.intro hn (And.intro ht (And.intro hd (And.intro hp (And.intro ho (And.intro hv (And.intro hr hh)))))))
 simp only [List.cons_append, List.nil_append]
 obtain ⟨wb, hwb⟩ : ∃ wb, wb = w.alloc (.cells #[.int .i64 t, va, vb, vc, ua, ub, .bool u.star, .bool u.slashes, uc, ud, ue, .int .i64 u.port, up, uq, vp, .int .u32 num, vd, ve, vf, vg, .int .i64 port] 35) := ⟨_, rfl⟩
 have HWB := hid (show wb.heap[w.heap.size]? = some (.cells #[.int .i64 t, va, vb, vc, ua, ub, .bool u.star, .bool u.slashes, uc, ud, ue, .int .i64 u.port, up, uq, vp, .int .u32 num, vd, ve, vf, vg, .int .i64 port] 35 (0, 0)) by rw [hwb]; exact heap_alloc_new w _)
 have HB0 := hid (show Below w.heap.size w wb by rw [hwb]; exact (Below.refl _ w).alloc (Nat.le_refl _) _)
 have hsz : wb.heap.size = w.heap.size + 1 := by rw [hwb]; simp
 have HSZ := hid hsz
 have HBX := hid (show ∀ wx, Below wb.heap.size wb wx → wx.heap[w.heap.size]? = some (.cells #[.int .i64 t, va, vb, vc, ua, ub, .bool u.star, .bool u.slashes, uc, ud, ue, .int .i64 u.port, up, uq, vp, .int .u32 num, vd, ve, vf, vg, .int .i64 port] 35 (0, 0)) from fun wx h => (h.block w.heap.size (by rw [HSZ.out]; omega)).trans HWB.out)
 have HW := hid (show ∀ wx, Below wb.heap.size wb wx → Below w.heap.size w wx from fun wx h => HB0.out.trans (h.mono (by rw [HSZ.out]; omega)))
 have HST := hid (show ∀ wx wy, Below wb.heap.size wb wx → Below wx.heap.size wx wy → Below wb.heap.size wb wy from fun wx wy h k => h.trans (k.mono h.size))
 have HBb := hid (Below.refl wb.heap.size wb)
 have HUR := hid (show ∀ wx, Below wb.heap.size wb wx → Calls Tryz.prog 63 #[.agg #[ua, ub, .bool u.star, .bool u.slashes, uc, ud, ue, .int .i64 u.port, up, uq]] wx (Says (RUri u) wx) from fun wx h => isuri_any u _ wx (HLU.out.below (HW.out wx h)))
 have HPR := hid (show ∀ wx, Below wb.heap.size wb wx → Calls Tryz.prog 68 #[vp, .bool false] wx (Says (ParOK false params) wx) from fun wx h => isparams_any _ params false wx (HX.out.2.2.2.1.below (HW.out wx h)))
 have HLI := hid (show ∀ wx, Below wb.heap.size wb wx → Calls Tryz.prog 66 #[vb] wx fun e w' => e = .returned (.bool (lineS text)) ∧ w' = wx from fun wx h => isline_any _ text wx (HX.out.2.1.below (HW.out wx h)))
 have HWO := hid (show ∀ wx, Below wb.heap.size wb wx → Calls Tryz.prog 10 #[vb] wx fun e w' => e = .returned (.bool (wordS text)) ∧ w' = wx from fun wx h => isword_any _ text wx (HX.out.2.1.below (HW.out wx h)))
 have HWT := hid (show ∀ wx, Below wb.heap.size wb wx → Calls Tryz.prog 10 #[vf] wx fun e w' => e = .returned (.bool (wordS transport)) ∧ w' = wx from fun wx h => isword_any _ transport wx (HX.out.2.2.2.2.2.2.1.below (HW.out wx h)))
 have HHO := hid (show ∀ wx, Below wb.heap.size wb wx → Calls Tryz.prog 69 #[vg] wx fun e w' => e = .returned (.bool (textS hostB host)) ∧ w' = wx from fun wx h => ishost_any _ host wx (HX.out.2.2.2.2.2.2.2.below (HW.out wx h)))
 have HSH := hid (show ∀ wx, Below wb.heap.size wb wx → Calls Tryz.prog 67 #[vc] wx fun e w' => e = .returned (.bool (shownS display)) ∧ w' = wx from fun wx h => isshown_any _ display wx (HX.out.2.2.1.below (HW.out wx h)))
 have HOW := hid (show ∀ wx, Below wb.heap.size wb wx → Calls Tryz.prog 65 #[va] wx fun e w' => e = .returned (.bool (decide (2 < name.length) && decide (name[0]? = some 88) && decide (name[1]? = some 45) && wordS name)) ∧ w' = wx from fun wx h => isown_any _ name wx (HX.out.1.below (HW.out wx h)))
 have HI1 := hid (show ∀ wx, Below wb.heap.size wb wx → Calls Tryz.prog 35 #[vd, .string ⟨#[83, 73, 80]⟩] wx fun e w' => e = .returned (.bool (decide (proto = [83, 73, 80]))) ∧ Below wx.heap.size wx w' from fun wx h => is_any _ proto ⟨#[83, 73, 80]⟩ wx (HX.out.2.2.2.2.1.below (HW.out wx h)) (by decide))
 have HI2 := hid (show ∀ wx, Below wb.heap.size wb wx → Calls Tryz.prog 35 #[ve, .string ⟨#[50, 46, 48]⟩] wx fun e w' => e = .returned (.bool (decide (version = [50, 46, 48]))) ∧ Below wx.heap.size wx w' from fun wx h => is_any _ version ⟨#[50, 46, 48]⟩ wx (HX.out.2.2.2.2.2.1.below (HW.out wx h)) (by decide))
 obtain ⟨d0, d1, d2, d3, d4, d5, d6, d7, d8, d9, d10, d11, d12, d13, d14, d15, d16, d17, d18, d19, d20⟩ := blk21 HWB.out
 have hlt : w.heap.size < wb.heap.size := by omega
 clear hn ht hd hp ho hv hr hh k1 k2 k3 k4 k5 k6 k7 k8 hst hsz hport
 go_enter Tryz.func36, Tryz.ntmps36
 go_upto_region 1 with fail
 rw [← hwb]
 generalize Value.agg #[.int .i64 t, va, vb, vc, ua, ub, .bool u.star, .bool u.slashes, uc, ud, ue, .int .i64 u.port, up, uq, vp, .int .u32 num, vd, ve, vf, vg, .int .i64 port] = arg0
 clear hwb
 rcases (show ¬ (0 ≤ t ∧ t ≤ 14) ∨ t = 0 ∨ t = 1 ∨ t = 2 ∨ t = 3 ∨ t = 4 ∨ t = 5 ∨ t = 6 ∨ t = 7 ∨ t = 8 ∨ t = 9 ∨ t = 10 ∨ t = 11 ∨ t = 12 ∨ t = 13 ∨ t = 14 by omega) with hx | rfl | rfl | rfl | rfl | rfl | rfl | rfl | rfl | rfl | rfl | rfl | rfl | rfl | rfl | rfl
 ·have e0 : (t == 0) = false := by rw [beq_eq_false_iff_ne]; omega
  have e1 : (t == 1) = false := by rw [beq_eq_false_iff_ne]; omega
  have e2 : (t == 2) = false := by rw [beq_eq_false_iff_ne]; omega
  have e3 : (t == 3) = false := by rw [beq_eq_false_iff_ne]; omega
  have e4 : (t == 4) = false := by rw [beq_eq_false_iff_ne]; omega
  have e5 : (t == 5) = false := by rw [beq_eq_false_iff_ne]; omega
  have e6 : (t == 6) = false := by rw [beq_eq_false_iff_ne]; omega
  have e7 : (t == 7) = false := by rw [beq_eq_false_iff_ne]; omega
  have e8 : (t == 8) = false := by rw [beq_eq_false_iff_ne]; omega
  have e9 : (t == 9) = false := by rw [beq_eq_false_iff_ne]; omega
  have e10 : (t == 10) = false := by rw [beq_eq_false_iff_ne]; omega
  have e11 : (t == 11) = false := by rw [beq_eq_false_iff_ne]; omega
  have e12 : (t == 12) = false := by rw [beq_eq_false_iff_ne]; omega
  have e13 : (t == 13) = false := by rw [beq_eq_false_iff_ne]; omega
  have e14 : (t == 14) = false := by rw [beq_eq_false_iff_ne]; omega
  have saddrB : addrB t = false := by unfold addrB; simp; omega
  have sroutB : routB t = false := by unfold routB; simp; omega
  have snumbB : numbB t = false := by unfold numbB; simp; omega
  clear hx
  go_wp2_with (first | (go_at_call 51; refine (isaddressed_any _ _).mono ?_; rintro e wq ⟨rfl, rfl⟩; rw [saddrB]) | (go_at_call 52; refine (isrouted_any _ _).mono ?_; rintro e wq ⟨rfl, rfl⟩; rw [sroutB]) | (go_at_call 53; refine (isnumbered_any _ _).mono ?_; rintro e wq ⟨rfl, rfl⟩; rw [snumbB]) | fail)
  go_ret
  exact ⟨⟨false, rfl, fun h => by simp at h⟩, HW.out _ HBb.out⟩
 ·cases hli : lineS text
  ·cases how : (decide (2 < name.length) && decide (name[0]? = some 88) && decide (name[1]? = some 45) && wordS name)
   all_goals
    (go_wp2_with (first | (go_at_call 51; refine (isaddressed_any _ _).mono ?_; rintro e wq ⟨rfl, rfl⟩; rw [show addrB 0 = false from rfl]) | (go_at_call 52; refine (isrouted_any _ _).mono ?_; rintro e wq ⟨rfl, rfl⟩; rw [show routB 0 = false from rfl]) | (go_at_call 53; refine (isnumbered_any _ _).mono ?_; rintro e wq ⟨rfl, rfl⟩; rw [show numbB 0 = false from rfl]) | (go_at_call 65; refine (HOW.out _ HBb.out).mono ?_; rintro e wq ⟨rfl, rfl⟩; rw [how]) | (go_at_call 66; refine (HLI.out _ HBb.out).mono ?_; rintro e wq ⟨rfl, rfl⟩; rw [hli]) | fail)
     go_ret
     exact ⟨⟨false, rfl, fun h => by simp at h⟩, HW.out _ HBb.out⟩)
  ·cases how : (decide (2 < name.length) && decide (name[0]? = some 88) && decide (name[1]? = some 45) && wordS name)
   ·go_wp2_with (first | (go_at_call 51; refine (isaddressed_any _ _).mono ?_; rintro e wq ⟨rfl, rfl⟩; rw [show addrB 0 = false from rfl]) | (go_at_call 52; refine (isrouted_any _ _).mono ?_; rintro e wq ⟨rfl, rfl⟩; rw [show routB 0 = false from rfl]) | (go_at_call 53; refine (isnumbered_any _ _).mono ?_; rintro e wq ⟨rfl, rfl⟩; rw [show numbB 0 = false from rfl]) | (go_at_call 65; refine (HOW.out _ HBb.out).mono ?_; rintro e wq ⟨rfl, rfl⟩; rw [how]) | (go_at_call 66; refine (HLI.out _ HBb.out).mono ?_; rintro e wq ⟨rfl, rfl⟩; rw [hli]) | fail)
    go_ret
    exact ⟨⟨false, rfl, fun h => by simp at h⟩, HW.out _ HBb.out⟩
   ·have HF := hid (show RHead ⟨0, name, text, display, u, params, num, proto, version, transport, host, port⟩ from RHead.k_generic (h := ⟨0, name, text, display, u, params, num, proto, version, transport, host, port⟩) (by simp) ⟨by simpa [and_assoc] using how, hli⟩)
    go_wp2_with (first | (go_at_call 51; refine (isaddressed_any _ _).mono ?_; rintro e wq ⟨rfl, rfl⟩; rw [show addrB 0 = false from rfl]) | (go_at_call 52; refine (isrouted_any _ _).mono ?_; rintro e wq ⟨rfl, rfl⟩; rw [show routB 0 = false from rfl]) | (go_at_call 53; refine (isnumbered_any _ _).mono ?_; rintro e wq ⟨rfl, rfl⟩; rw [show numbB 0 = false from rfl]) | (go_at_call 65; refine (HOW.out _ HBb.out).mono ?_; rintro e wq ⟨rfl, rfl⟩; rw [how]) | (go_at_call 66; refine (HLI.out _ HBb.out).mono ?_; rintro e wq ⟨rfl, rfl⟩; rw [hli]) | fail)
    go_ret
    exact ⟨⟨true, rfl, fun _ => HF.out⟩, HW.out _ HBb.out⟩
 ·cases hsh : shownS display
  ·go_wp2_with (first | (go_at_call 51; refine (isaddressed_any _ _).mono ?_; rintro e wq ⟨rfl, rfl⟩; rw [show addrB 1 = true from rfl]) | (go_at_call 52; refine (isrouted_any _ _).mono ?_; rintro e wq ⟨rfl, rfl⟩; rw [show routB 1 = false from rfl]) | (go_at_call 53; refine (isnumbered_any _ _).mono ?_; rintro e wq ⟨rfl, rfl⟩; rw [show numbB 1 = false from rfl]) | (go_at_call 67; refine (HSH.out _ HBb.out).mono ?_; rintro e wq ⟨rfl, rfl⟩; rw [hsh]) | fail)
   go_ret
   exact ⟨⟨false, rfl, fun h => by simp at h⟩, HW.out _ HBb.out⟩
  ·go_wp2_with (first | (go_at_call 51; refine (isaddressed_any _ _).mono ?_; rintro e wq ⟨rfl, rfl⟩; rw [show addrB 1 = true from rfl]) | (go_at_call 52; refine (isrouted_any _ _).mono ?_; rintro e wq ⟨rfl, rfl⟩; rw [show routB 1 = false from rfl]) | (go_at_call 53; refine (isnumbered_any _ _).mono ?_; rintro e wq ⟨rfl, rfl⟩; rw [show numbB 1 = false from rfl]) | (go_at_call 67; refine (HSH.out _ HBb.out).mono ?_; rintro e wq ⟨rfl, rfl⟩; rw [hsh]) | fail)
   refine (HUR.out _ HBb.out).mono ?_
   rintro e w1 ⟨⟨b, rfl, hb⟩, hB⟩
   have HB1 := hid (HST.out _ _ HBb.out hB)
   have x14 := (blk21 (HBX.out w1 HB1.out)).2.2.2.2.2.2.2.2.2.2.2.2.2.2.1
   cases b
   ·clear hb
    go_wp2
    go_ret
    exact ⟨⟨false, rfl, fun h => by simp at h⟩, HW.out _ HB1.out⟩
   ·have HU1 := hid (hb rfl)
    clear hb
    go_wp2_with fail
    refine (HPR.out _ HB1.out).mono ?_
    rintro e w2 ⟨⟨b, rfl, hb⟩, hB⟩
    have HB2 := hid (HST.out _ _ HB1.out hB)
    cases b
    ·clear hb
     go_wp2
     go_ret
     exact ⟨⟨false, rfl, fun h => by simp at h⟩, HW.out _ HB2.out⟩
    ·have HF := hid (show RHead ⟨1, name, text, display, u, params, num, proto, version, transport, host, port⟩ from RHead.k_addr (h := ⟨1, name, text, display, u, params, num, proto, version, transport, host, port⟩) (by simp) ⟨hsh, HU1.out, hb rfl⟩)
     clear hb
     go_wp2
     go_ret
     exact ⟨⟨true, rfl, fun _ => HF.out⟩, HW.out _ HB2.out⟩
 ·cases hsh : shownS display
  ·go_wp2_with (first | (go_at_call 51; refine (isaddressed_any _ _).mono ?_; rintro e wq ⟨rfl, rfl⟩; rw [show addrB 2 = true from rfl]) | (go_at_call 52; refine (isrouted_any _ _).mono ?_; rintro e wq ⟨rfl, rfl⟩; rw [show routB 2 = false from rfl]) | (go_at_call 53; refine (isnumbered_any _ _).mono ?_; rintro e wq ⟨rfl, rfl⟩; rw [show numbB 2 = false from rfl]) | (go_at_call 67; refine (HSH.out _ HBb.out).mono ?_; rintro e wq ⟨rfl, rfl⟩; rw [hsh]) | fail)
   go_ret
   exact ⟨⟨false, rfl, fun h => by simp at h⟩, HW.out _ HBb.out⟩
  ·go_wp2_with (first | (go_at_call 51; refine (isaddressed_any _ _).mono ?_; rintro e wq ⟨rfl, rfl⟩; rw [show addrB 2 = true from rfl]) | (go_at_call 52; refine (isrouted_any _ _).mono ?_; rintro e wq ⟨rfl, rfl⟩; rw [show routB 2 = false from rfl]) | (go_at_call 53; refine (isnumbered_any _ _).mono ?_; rintro e wq ⟨rfl, rfl⟩; rw [show numbB 2 = false from rfl]) | (go_at_call 67; refine (HSH.out _ HBb.out).mono ?_; rintro e wq ⟨rfl, rfl⟩; rw [hsh]) | fail)
   refine (HUR.out _ HBb.out).mono ?_
   rintro e w1 ⟨⟨b, rfl, hb⟩, hB⟩
   have HB1 := hid (HST.out _ _ HBb.out hB)
   have x14 := (blk21 (HBX.out w1 HB1.out)).2.2.2.2.2.2.2.2.2.2.2.2.2.2.1
   cases b
   ·clear hb
    go_wp2
    go_ret
    exact ⟨⟨false, rfl, fun h => by simp at h⟩, HW.out _ HB1.out⟩
   ·have HU1 := hid (hb rfl)
    clear hb
    go_wp2_with fail
    refine (HPR.out _ HB1.out).mono ?_
    rintro e w2 ⟨⟨b, rfl, hb⟩, hB⟩
    have HB2 := hid (HST.out _ _ HB1.out hB)
    cases b
    ·clear hb
     go_wp2
     go_ret
     exact ⟨⟨false, rfl, fun h => by simp at h⟩, HW.out _ HB2.out⟩
    ·have HF := hid (show RHead ⟨2, name, text, display, u, params, num, proto, version, transport, host, port⟩ from RHead.k_addr (h := ⟨2, name, text, display, u, params, num, proto, version, transport, host, port⟩) (by simp) ⟨hsh, HU1.out, hb rfl⟩)
     clear hb
     go_wp2
     go_ret
     exact ⟨⟨true, rfl, fun _ => HF.out⟩, HW.out _ HB2.out⟩
 ·cases hsh : shownS display
  ·go_wp2_with (first | (go_at_call 51; refine (isaddressed_any _ _).mono ?_; rintro e wq ⟨rfl, rfl⟩; rw [show addrB 3 = true from rfl]) | (go_at_call 52; refine (isrouted_any _ _).mono ?_; rintro e wq ⟨rfl, rfl⟩; rw [show routB 3 = false from rfl]) | (go_at_call 53; refine (isnumbered_any _ _).mono ?_; rintro e wq ⟨rfl, rfl⟩; rw [show numbB 3 = false from rfl]) | (go_at_call 67; refine (HSH.out _ HBb.out).mono ?_; rintro e wq ⟨rfl, rfl⟩; rw [hsh]) | fail)
   go_ret
   exact ⟨⟨false, rfl, fun h => by simp at h⟩, HW.out _ HBb.out⟩
  ·go_wp2_with (first | (go_at_call 51; refine (isaddressed_any _ _).mono ?_; rintro e wq ⟨rfl, rfl⟩; rw [show addrB 3 = true from rfl]) | (go_at_call 52; refine (isrouted_any _ _).mono ?_; rintro e wq ⟨rfl, rfl⟩; rw [show routB 3 = false from rfl]) | (go_at_call 53; refine (isnumbered_any _ _).mono ?_; rintro e wq ⟨rfl, rfl⟩; rw [show numbB 3 = false from rfl]) | (go_at_call 67; refine (HSH.out _ HBb.out).mono ?_; rintro e wq ⟨rfl, rfl⟩; rw [hsh]) | fail)
   refine (HUR.out _ HBb.out).mono ?_
   rintro e w1 ⟨⟨b, rfl, hb⟩, hB⟩
   have HB1 := hid (HST.out _ _ HBb.out hB)
   have x14 := (blk21 (HBX.out w1 HB1.out)).2.2.2.2.2.2.2.2.2.2.2.2.2.2.1
   cases b
   ·clear hb
    go_wp2
    go_ret
    exact ⟨⟨false, rfl, fun h => by simp at h⟩, HW.out _ HB1.out⟩
   ·have HU1 := hid (hb rfl)
    clear hb
    go_wp2_with fail
    refine (HPR.out _ HB1.out).mono ?_
    rintro e w2 ⟨⟨b, rfl, hb⟩, hB⟩
    have HB2 := hid (HST.out _ _ HB1.out hB)
    cases b
    ·clear hb
     go_wp2
     go_ret
     exact ⟨⟨false, rfl, fun h => by simp at h⟩, HW.out _ HB2.out⟩
    ·have HF := hid (show RHead ⟨3, name, text, display, u, params, num, proto, version, transport, host, port⟩ from RHead.k_addr (h := ⟨3, name, text, display, u, params, num, proto, version, transport, host, port⟩) (by simp) ⟨hsh, HU1.out, hb rfl⟩)
     clear hb
     go_wp2
     go_ret
     exact ⟨⟨true, rfl, fun _ => HF.out⟩, HW.out _ HB2.out⟩
 ·cases hq : wordS text
  ·go_wp2_with (first | (go_at_call 51; refine (isaddressed_any _ _).mono ?_; rintro e wq ⟨rfl, rfl⟩; rw [show addrB 4 = false from rfl]) | (go_at_call 52; refine (isrouted_any _ _).mono ?_; rintro e wq ⟨rfl, rfl⟩; rw [show routB 4 = false from rfl]) | (go_at_call 53; refine (isnumbered_any _ _).mono ?_; rintro e wq ⟨rfl, rfl⟩; rw [show numbB 4 = false from rfl]) | (go_at_call 10; refine (HWO.out _ HBb.out).mono ?_; rintro e wq ⟨rfl, rfl⟩; rw [hq]) | fail)
   go_ret
   exact ⟨⟨false, rfl, fun h => by simp at h⟩, HW.out _ HBb.out⟩
  ·have HF := hid (show RHead ⟨4, name, text, display, u, params, num, proto, version, transport, host, port⟩ from RHead.k_callid (h := ⟨4, name, text, display, u, params, num, proto, version, transport, host, port⟩) (by simp) (hq))
   go_wp2_with (first | (go_at_call 51; refine (isaddressed_any _ _).mono ?_; rintro e wq ⟨rfl, rfl⟩; rw [show addrB 4 = false from rfl]) | (go_at_call 52; refine (isrouted_any _ _).mono ?_; rintro e wq ⟨rfl, rfl⟩; rw [show routB 4 = false from rfl]) | (go_at_call 53; refine (isnumbered_any _ _).mono ?_; rintro e wq ⟨rfl, rfl⟩; rw [show numbB 4 = false from rfl]) | (go_at_call 10; refine (HWO.out _ HBb.out).mono ?_; rintro e wq ⟨rfl, rfl⟩; rw [hq]) | fail)
   go_ret
   exact ⟨⟨true, rfl, fun _ => HF.out⟩, HW.out _ HBb.out⟩
 ·cases hwo : wordS text
  ·go_wp2_with (first | (go_at_call 51; refine (isaddressed_any _ _).mono ?_; rintro e wq ⟨rfl, rfl⟩; rw [show addrB 5 = false from rfl]) | (go_at_call 52; refine (isrouted_any _ _).mono ?_; rintro e wq ⟨rfl, rfl⟩; rw [show routB 5 = false from rfl]) | (go_at_call 53; refine (isnumbered_any _ _).mono ?_; rintro e wq ⟨rfl, rfl⟩; rw [show numbB 5 = false from rfl]) | (go_at_call 10; refine (HWO.out _ HBb.out).mono ?_; rintro e wq ⟨rfl, rfl⟩; rw [hwo]) | fail)
   go_ret
   exact ⟨⟨false, rfl, fun h => by simp at h⟩, HW.out _ HBb.out⟩
  ·by_cases hq : num ≤ 2147483647
   ·have HF := hid (show RHead ⟨5, name, text, display, u, params, num, proto, version, transport, host, port⟩ from RHead.k_cseq (h := ⟨5, name, text, display, u, params, num, proto, version, transport, host, port⟩) (by simp) ⟨hwo, hq⟩)
    have hd : decide (num ≤ 2147483647) = true := decide_eq_true hq
    go_wp2_with (first | (go_at_call 51; refine (isaddressed_any _ _).mono ?_; rintro e wq ⟨rfl, rfl⟩; rw [show addrB 5 = false from rfl]) | (go_at_call 52; refine (isrouted_any _ _).mono ?_; rintro e wq ⟨rfl, rfl⟩; rw [show routB 5 = false from rfl]) | (go_at_call 53; refine (isnumbered_any _ _).mono ?_; rintro e wq ⟨rfl, rfl⟩; rw [show numbB 5 = false from rfl]) | (go_at_call 10; refine (HWO.out _ HBb.out).mono ?_; rintro e wq ⟨rfl, rfl⟩; rw [hwo]) | fail)
    go_ret
    exact ⟨⟨_, rfl, fun _ => HF.out⟩, HW.out _ HBb.out⟩
   ·have hd : decide (num ≤ 2147483647) = false := decide_eq_false hq
    have HQ := hid hq
    go_wp2_with (first | (go_at_call 51; refine (isaddressed_any _ _).mono ?_; rintro e wq ⟨rfl, rfl⟩; rw [show addrB 5 = false from rfl]) | (go_at_call 52; refine (isrouted_any _ _).mono ?_; rintro e wq ⟨rfl, rfl⟩; rw [show routB 5 = false from rfl]) | (go_at_call 53; refine (isnumbered_any _ _).mono ?_; rintro e wq ⟨rfl, rfl⟩; rw [show numbB 5 = false from rfl]) | (go_at_call 10; refine (HWO.out _ HBb.out).mono ?_; rintro e wq ⟨rfl, rfl⟩; rw [hwo]) | fail)
    go_ret
    exact ⟨⟨_, rfl, fun h => by have hq2 := HQ.out; simp at h; try omega⟩, HW.out _ HBb.out⟩
 ·by_cases hq : num < 256
  ·have HF := hid (show RHead ⟨6, name, text, display, u, params, num, proto, version, transport, host, port⟩ from RHead.k_maxf (h := ⟨6, name, text, display, u, params, num, proto, version, transport, host, port⟩) (by simp) (hq))
   have hd : decide (num < 256) = true := decide_eq_true hq
   go_wp2_with (first | (go_at_call 51; refine (isaddressed_any _ _).mono ?_; rintro e wq ⟨rfl, rfl⟩; rw [show addrB 6 = false from rfl]) | (go_at_call 52; refine (isrouted_any _ _).mono ?_; rintro e wq ⟨rfl, rfl⟩; rw [show routB 6 = false from rfl]) | (go_at_call 53; refine (isnumbered_any _ _).mono ?_; rintro e wq ⟨rfl, rfl⟩; rw [show numbB 6 = true from rfl]) | fail)
   go_ret
   exact ⟨⟨_, rfl, fun _ => HF.out⟩, HW.out _ HBb.out⟩
  ·have hd : decide (num < 256) = false := decide_eq_false hq
   have HQ := hid hq
   go_wp2_with (first | (go_at_call 51; refine (isaddressed_any _ _).mono ?_; rintro e wq ⟨rfl, rfl⟩; rw [show addrB 6 = false from rfl]) | (go_at_call 52; refine (isrouted_any _ _).mono ?_; rintro e wq ⟨rfl, rfl⟩; rw [show routB 6 = false from rfl]) | (go_at_call 53; refine (isnumbered_any _ _).mono ?_; rintro e wq ⟨rfl, rfl⟩; rw [show numbB 6 = true from rfl]) | fail)
   go_ret
   exact ⟨⟨_, rfl, fun h => by have hq2 := HQ.out; simp at h; try omega⟩, HW.out _ HBb.out⟩
 ·by_cases hq : num ≤ 2147483647
  ·have HF := hid (show RHead ⟨7, name, text, display, u, params, num, proto, version, transport, host, port⟩ from RHead.k_numb (h := ⟨7, name, text, display, u, params, num, proto, version, transport, host, port⟩) (by simp) (hq))
   have hd : decide (num ≤ 2147483647) = true := decide_eq_true hq
   go_wp2_with (first | (go_at_call 51; refine (isaddressed_any _ _).mono ?_; rintro e wq ⟨rfl, rfl⟩; rw [show addrB 7 = false from rfl]) | (go_at_call 52; refine (isrouted_any _ _).mono ?_; rintro e wq ⟨rfl, rfl⟩; rw [show routB 7 = false from rfl]) | (go_at_call 53; refine (isnumbered_any _ _).mono ?_; rintro e wq ⟨rfl, rfl⟩; rw [show numbB 7 = true from rfl]) | fail)
   go_ret
   exact ⟨⟨_, rfl, fun _ => HF.out⟩, HW.out _ HBb.out⟩
  ·have hd : decide (num ≤ 2147483647) = false := decide_eq_false hq
   have HQ := hid hq
   go_wp2_with (first | (go_at_call 51; refine (isaddressed_any _ _).mono ?_; rintro e wq ⟨rfl, rfl⟩; rw [show addrB 7 = false from rfl]) | (go_at_call 52; refine (isrouted_any _ _).mono ?_; rintro e wq ⟨rfl, rfl⟩; rw [show routB 7 = false from rfl]) | (go_at_call 53; refine (isnumbered_any _ _).mono ?_; rintro e wq ⟨rfl, rfl⟩; rw [show numbB 7 = true from rfl]) | fail)
   go_ret
   exact ⟨⟨_, rfl, fun h => by have hq2 := HQ.out; simp at h; try omega⟩, HW.out _ HBb.out⟩
 ·by_cases hq : num ≤ 2147483647
  ·have HF := hid (show RHead ⟨8, name, text, display, u, params, num, proto, version, transport, host, port⟩ from RHead.k_numb (h := ⟨8, name, text, display, u, params, num, proto, version, transport, host, port⟩) (by simp) (hq))
   have hd : decide (num ≤ 2147483647) = true := decide_eq_true hq
   go_wp2_with (first | (go_at_call 51; refine (isaddressed_any _ _).mono ?_; rintro e wq ⟨rfl, rfl⟩; rw [show addrB 8 = false from rfl]) | (go_at_call 52; refine (isrouted_any _ _).mono ?_; rintro e wq ⟨rfl, rfl⟩; rw [show routB 8 = false from rfl]) | (go_at_call 53; refine (isnumbered_any _ _).mono ?_; rintro e wq ⟨rfl, rfl⟩; rw [show numbB 8 = true from rfl]) | fail)
   go_ret
   exact ⟨⟨_, rfl, fun _ => HF.out⟩, HW.out _ HBb.out⟩
  ·have hd : decide (num ≤ 2147483647) = false := decide_eq_false hq
   have HQ := hid hq
   go_wp2_with (first | (go_at_call 51; refine (isaddressed_any _ _).mono ?_; rintro e wq ⟨rfl, rfl⟩; rw [show addrB 8 = false from rfl]) | (go_at_call 52; refine (isrouted_any _ _).mono ?_; rintro e wq ⟨rfl, rfl⟩; rw [show routB 8 = false from rfl]) | (go_at_call 53; refine (isnumbered_any _ _).mono ?_; rintro e wq ⟨rfl, rfl⟩; rw [show numbB 8 = true from rfl]) | fail)
   go_ret
   exact ⟨⟨_, rfl, fun h => by have hq2 := HQ.out; simp at h; try omega⟩, HW.out _ HBb.out⟩
 ·go_wp2_with (first | (go_at_call 51; refine (isaddressed_any _ _).mono ?_; rintro e wq ⟨rfl, rfl⟩; rw [show addrB 9 = false from rfl]) | (go_at_call 52; refine (isrouted_any _ _).mono ?_; rintro e wq ⟨rfl, rfl⟩; rw [show routB 9 = false from rfl]) | (go_at_call 53; refine (isnumbered_any _ _).mono ?_; rintro e wq ⟨rfl, rfl⟩; rw [show numbB 9 = false from rfl]) | fail)
  refine (HI1.out _ HBb.out).mono ?_
  rintro e w1 ⟨rfl, hB⟩
  have HB1 := hid (HST.out _ _ HBb.out hB)
  clear hB
  by_cases hpr : proto = [83, 73, 80]
  ·have HPRO := hid hpr
   rw [decide_eq_true hpr]
   clear hpr
   have x15 := (blk21 (HBX.out w1 HB1.out)).2.2.2.2.2.2.2.2.2.2.2.2.2.2.2.2.2.1
   go_wp2_with fail
   refine (HI2.out _ HB1.out).mono ?_
   rintro e w2 ⟨rfl, hB⟩
   have HB2 := hid (HST.out _ _ HB1.out hB)
   clear hB
   by_cases hve : version = [50, 46, 48]
   ·have HVER := hid hve
    rw [decide_eq_true hve]
    clear hve
    obtain ⟨_, _, _, _, _, _, _, _, _, _, _, _, _, _, y14, _, _, _, y18, y19, y20⟩ := blk21 (HBX.out w2 HB2.out)
    cases hwt : wordS transport
    ·go_wp2_with (first | (go_at_call 10; refine (HWT.out _ HB2.out).mono ?_; rintro e wq ⟨rfl, rfl⟩; rw [hwt]) | fail)
     go_ret
     exact ⟨⟨false, rfl, fun h => by simp at h⟩, HW.out _ HB2.out⟩
    ·cases hho : textS hostB host
     ·go_wp2_with (first | (go_at_call 10; refine (HWT.out _ HB2.out).mono ?_; rintro e wq ⟨rfl, rfl⟩; rw [hwt]) | (go_at_call 69; refine (HHO.out _ HB2.out).mono ?_; rintro e wq ⟨rfl, rfl⟩; rw [hho]) | fail)
      go_ret
      exact ⟨⟨false, rfl, fun h => by simp at h⟩, HW.out _ HB2.out⟩
     ·by_cases hp0 : 0 ≤ port
      ·have hd0 : decide (0 ≤ port) = true := decide_eq_true hp0
       by_cases hp1 : port ≤ 65535
       ·have hd1 : decide (port ≤ 65535) = true := decide_eq_true hp1
        have HPO := hid (And.intro hp0 hp1)
        go_wp2_with (first | (go_at_call 10; refine (HWT.out _ HB2.out).mono ?_; rintro e wq ⟨rfl, rfl⟩; rw [hwt]) | (go_at_call 69; refine (HHO.out _ HB2.out).mono ?_; rintro e wq ⟨rfl, rfl⟩; rw [hho]) | fail)
        refine (HPR.out _ HB2.out).mono ?_
        rintro e w3 ⟨⟨b, rfl, hb⟩, hB⟩
        have HB3 := hid (HST.out _ _ HB2.out hB)
        cases b
        ·clear hb
         go_wp2
         go_ret
         exact ⟨⟨false, rfl, fun h => by simp at h⟩, HW.out _ HB3.out⟩
        ·have HF := hid (show RHead ⟨9, name, text, display, u, params, num, proto, version, transport, host, port⟩ from RHead.k_via (h := ⟨9, name, text, display, u, params, num, proto, version, transport, host, port⟩) (by simp) ⟨HPRO.out, HVER.out, hwt, hho, HPO.out, hb rfl⟩)
         clear hb
         go_wp2
         go_ret
         exact ⟨⟨true, rfl, fun _ => HF.out⟩, HW.out _ HB3.out⟩
       ·have hd1 : decide (port ≤ 65535) = false := decide_eq_false hp1
        go_wp2_with (first | (go_at_call 10; refine (HWT.out _ HB2.out).mono ?_; rintro e wq ⟨rfl, rfl⟩; rw [hwt]) | (go_at_call 69; refine (HHO.out _ HB2.out).mono ?_; rintro e wq ⟨rfl, rfl⟩; rw [hho]) | fail)
        go_ret
        exact ⟨⟨false, rfl, fun h => by simp at h⟩, HW.out _ HB2.out⟩
      ·have hd0 : decide (0 ≤ port) = false := decide_eq_false hp0
       go_wp2_with (first | (go_at_call 10; refine (HWT.out _ HB2.out).mono ?_; rintro e wq ⟨rfl, rfl⟩; rw [hwt]) | (go_at_call 69; refine (HHO.out _ HB2.out).mono ?_; rintro e wq ⟨rfl, rfl⟩; rw [hho]) | fail)
       go_ret
       exact ⟨⟨false, rfl, fun h => by simp at h⟩, HW.out _ HB2.out⟩
   ·rw [decide_eq_false hve]
    clear hve
    go_wp2_with fail
    go_ret
    exact ⟨⟨false, rfl, fun h => by simp at h⟩, HW.out _ HB2.out⟩
  ·rw [decide_eq_false hpr]
   clear hpr
   go_wp2_with fail
   go_ret
   exact ⟨⟨false, rfl, fun h => by simp at h⟩, HW.out _ HB1.out⟩
 ·cases hq : lineS text
  ·go_wp2_with (first | (go_at_call 51; refine (isaddressed_any _ _).mono ?_; rintro e wq ⟨rfl, rfl⟩; rw [show addrB 10 = false from rfl]) | (go_at_call 52; refine (isrouted_any _ _).mono ?_; rintro e wq ⟨rfl, rfl⟩; rw [show routB 10 = false from rfl]) | (go_at_call 53; refine (isnumbered_any _ _).mono ?_; rintro e wq ⟨rfl, rfl⟩; rw [show numbB 10 = false from rfl]) | (go_at_call 66; refine (HLI.out _ HBb.out).mono ?_; rintro e wq ⟨rfl, rfl⟩; rw [hq]) | fail)
   go_ret
   exact ⟨⟨false, rfl, fun h => by simp at h⟩, HW.out _ HBb.out⟩
  ·have HF := hid (show RHead ⟨10, name, text, display, u, params, num, proto, version, transport, host, port⟩ from RHead.k_ctype (h := ⟨10, name, text, display, u, params, num, proto, version, transport, host, port⟩) (by simp) (hq))
   go_wp2_with (first | (go_at_call 51; refine (isaddressed_any _ _).mono ?_; rintro e wq ⟨rfl, rfl⟩; rw [show addrB 10 = false from rfl]) | (go_at_call 52; refine (isrouted_any _ _).mono ?_; rintro e wq ⟨rfl, rfl⟩; rw [show routB 10 = false from rfl]) | (go_at_call 53; refine (isnumbered_any _ _).mono ?_; rintro e wq ⟨rfl, rfl⟩; rw [show numbB 10 = false from rfl]) | (go_at_call 66; refine (HLI.out _ HBb.out).mono ?_; rintro e wq ⟨rfl, rfl⟩; rw [hq]) | fail)
   go_ret
   exact ⟨⟨true, rfl, fun _ => HF.out⟩, HW.out _ HBb.out⟩
 ·go_wp2_with (first | (go_at_call 51; refine (isaddressed_any _ _).mono ?_; rintro e wq ⟨rfl, rfl⟩; rw [show addrB 11 = false from rfl]) | (go_at_call 52; refine (isrouted_any _ _).mono ?_; rintro e wq ⟨rfl, rfl⟩; rw [show routB 11 = true from rfl]) | (go_at_call 53; refine (isnumbered_any _ _).mono ?_; rintro e wq ⟨rfl, rfl⟩; rw [show numbB 11 = false from rfl]) | fail)
  refine (HUR.out _ HBb.out).mono ?_
  rintro e w1 ⟨⟨b, rfl, hb⟩, hB⟩
  have HB1 := hid (HST.out _ _ HBb.out hB)
  cases b
  ·clear hb
   go_wp2
   go_ret
   exact ⟨⟨false, rfl, fun h => by simp at h⟩, HW.out _ HB1.out⟩
  ·have HF := hid (show RHead ⟨11, name, text, display, u, params, num, proto, version, transport, host, port⟩ from RHead.k_rout (h := ⟨11, name, text, display, u, params, num, proto, version, transport, host, port⟩) (by simp) (hb rfl))
   clear hb
   go_wp2
   go_ret
   exact ⟨⟨true, rfl, fun _ => HF.out⟩, HW.out _ HB1.out⟩
 ·go_wp2_with (first | (go_at_call 51; refine (isaddressed_any _ _).mono ?_; rintro e wq ⟨rfl, rfl⟩; rw [show addrB 12 = false from rfl]) | (go_at_call 52; refine (isrouted_any _ _).mono ?_; rintro e wq ⟨rfl, rfl⟩; rw [show routB 12 = true from rfl]) | (go_at_call 53; refine (isnumbered_any _ _).mono ?_; rintro e wq ⟨rfl, rfl⟩; rw [show numbB 12 = false from rfl]) | fail)
  refine (HUR.out _ HBb.out).mono ?_
  rintro e w1 ⟨⟨b, rfl, hb⟩, hB⟩
  have HB1 := hid (HST.out _ _ HBb.out hB)
  cases b
  ·clear hb
   go_wp2
   go_ret
   exact ⟨⟨false, rfl, fun h => by simp at h⟩, HW.out _ HB1.out⟩
  ·have HF := hid (show RHead ⟨12, name, text, display, u, params, num, proto, version, transport, host, port⟩ from RHead.k_rout (h := ⟨12, name, text, display, u, params, num, proto, version, transport, host, port⟩) (by simp) (hb rfl))
   clear hb
   go_wp2
   go_ret
   exact ⟨⟨true, rfl, fun _ => HF.out⟩, HW.out _ HB1.out⟩
 ·go_wp2_with (first | (go_at_call 51; refine (isaddressed_any _ _).mono ?_; rintro e wq ⟨rfl, rfl⟩; rw [show addrB 13 = false from rfl]) | (go_at_call 52; refine (isrouted_any _ _).mono ?_; rintro e wq ⟨rfl, rfl⟩; rw [show routB 13 = true from rfl]) | (go_at_call 53; refine (isnumbered_any _ _).mono ?_; rintro e wq ⟨rfl, rfl⟩; rw [show numbB 13 = false from rfl]) | fail)
  refine (HUR.out _ HBb.out).mono ?_
  rintro e w1 ⟨⟨b, rfl, hb⟩, hB⟩
  have HB1 := hid (HST.out _ _ HBb.out hB)
  cases b
  ·clear hb
   go_wp2
   go_ret
   exact ⟨⟨false, rfl, fun h => by simp at h⟩, HW.out _ HB1.out⟩
  ·have HF := hid (show RHead ⟨13, name, text, display, u, params, num, proto, version, transport, host, port⟩ from RHead.k_rout (h := ⟨13, name, text, display, u, params, num, proto, version, transport, host, port⟩) (by simp) (hb rfl))
   clear hb
   go_wp2
   go_ret
   exact ⟨⟨true, rfl, fun _ => HF.out⟩, HW.out _ HB1.out⟩
 ·cases hsh : shownS display
  ·go_wp2_with (first | (go_at_call 51; refine (isaddressed_any _ _).mono ?_; rintro e wq ⟨rfl, rfl⟩; rw [show addrB 14 = true from rfl]) | (go_at_call 52; refine (isrouted_any _ _).mono ?_; rintro e wq ⟨rfl, rfl⟩; rw [show routB 14 = false from rfl]) | (go_at_call 53; refine (isnumbered_any _ _).mono ?_; rintro e wq ⟨rfl, rfl⟩; rw [show numbB 14 = false from rfl]) | (go_at_call 67; refine (HSH.out _ HBb.out).mono ?_; rintro e wq ⟨rfl, rfl⟩; rw [hsh]) | fail)
   go_ret
   exact ⟨⟨false, rfl, fun h => by simp at h⟩, HW.out _ HBb.out⟩
  ·go_wp2_with (first | (go_at_call 51; refine (isaddressed_any _ _).mono ?_; rintro e wq ⟨rfl, rfl⟩; rw [show addrB 14 = true from rfl]) | (go_at_call 52; refine (isrouted_any _ _).mono ?_; rintro e wq ⟨rfl, rfl⟩; rw [show routB 14 = false from rfl]) | (go_at_call 53; refine (isnumbered_any _ _).mono ?_; rintro e wq ⟨rfl, rfl⟩; rw [show numbB 14 = false from rfl]) | (go_at_call 67; refine (HSH.out _ HBb.out).mono ?_; rintro e wq ⟨rfl, rfl⟩; rw [hsh]) | fail)
   refine (HUR.out _ HBb.out).mono ?_
   rintro e w1 ⟨⟨b, rfl, hb⟩, hB⟩
   have HB1 := hid (HST.out _ _ HBb.out hB)
   have x14 := (blk21 (HBX.out w1 HB1.out)).2.2.2.2.2.2.2.2.2.2.2.2.2.2.1
   cases b
   ·clear hb
    go_wp2
    go_ret
    exact ⟨⟨false, rfl, fun h => by simp at h⟩, HW.out _ HB1.out⟩
   ·have HU1 := hid (hb rfl)
    clear hb
    go_wp2_with fail
    refine (HPR.out _ HB1.out).mono ?_
    rintro e w2 ⟨⟨b, rfl, hb⟩, hB⟩
    have HB2 := hid (HST.out _ _ HB1.out hB)
    cases b
    ·clear hb
     go_wp2
     go_ret
     exact ⟨⟨false, rfl, fun h => by simp at h⟩, HW.out _ HB2.out⟩
    ·have HF := hid (show RHead ⟨14, name, text, display, u, params, num, proto, version, transport, host, port⟩ from RHead.k_addr (h := ⟨14, name, text, display, u, params, num, proto, version, transport, host, port⟩) (by simp) ⟨hsh, HU1.out, hb rfl⟩)
     clear hb
     go_wp2
     go_ret
     exact ⟨⟨true, rfl, fun _ => HF.out⟩, HW.out _ HB2.out⟩
theorem ishead_any (h : LHead) (cs : List Value) (w : World) (hH : LH w h cs) : Calls Tryz.prog 36 #[.agg cs.toArray] w (Says (RHead h) w) :=
 ishead_raw h.t h.name h.text h.display h.uri h.params h.num h.proto h.version h.transport h.host h.port cs w hH
end
section
open Go.Lib (hid)
open Go
theorem setCells_new (W : World) (t : TypeId) : ∀ (vs pre suf : List Value), suf.length = vs.length →
  (W.alloc (.cells (pre ++ suf).toArray t)).setCells W.heap.size pre.length vs = W.alloc (.cells (pre ++ vs).toArray t)
 | [], pre, suf, h => by
  obtain rfl := List.length_eq_zero_iff.1 h
  rfl
 | v :: r, pre, suf, h => by
  cases suf with
  | nil => simp at h
  | cons s suf =>
   have e : (W.alloc (.cells (pre ++ s :: suf).toArray t)).setCell ⟨W.heap.size, pre.length, none⟩ v = W.alloc (.cells ((pre ++ [v]) ++ suf).toArray t) := by
    have hm : ∀ (a : Array Obj) (x : Obj) (f : Obj → Obj), (a.push x).modify a.size f = a.push (f x) := by
     intro a x f
     apply Array.ext
     ·simp
     ·intro i h1 h2
      simp only [Array.getElem_modify, Array.getElem_push]
      by_cases h : a.size = i
      ·subst h
       simp
      ·have hi : i < a.size := by simp at h1; omega
       simp [h, hi]
    unfold World.setCell
    show ({ W.alloc (.cells (pre ++ s :: suf).toArray t) with heap := (W.heap.push (.cells (pre ++ s :: suf).toArray t)).modify W.heap.size _ } : World) = _
    rw [hm]
    show ({ W with heap := W.heap.push _ } : World) = { W with heap := W.heap.push _ }
    simp
   rw [World.setCells, e]
   have := setCells_new W t r (pre ++ [v]) suf (by simpa using h)
   simpa using this
theorem there_new (W : World) (cs : Array Value) (t : TypeId) (n : Nat) (h : cs.size = n) : (W.alloc (.cells cs t)).there W.heap.size 0 n := fun j hj => by
 have hg := heap_alloc_new W (.cells cs t)
 refine ⟨?_, ?_⟩
 ·unfold World.cell?
  rw [hg]
  simp [h, hj]
 ·unfold World.frozen?
  rw [hg]
  simp
theorem wpList_store_new {P : Program} {ops : Array Oper} {rest : List Oper} {op : Oper} {a : Act} {W : World} {Q : Exit → Act → World → Prop} (hgd : op.guard = none) (ty : TypeId) (x y : Operand) (ho : op.op = .store ty x y)
  (zs cells : Array Value) (hx : a.eval x = .pointer (some ⟨W.heap.size, 0, none⟩)) (hy : a.eval y = .agg cells) (hz : zs.size = cells.size) (hi : (P.info? ty).map (·.size) = some cells.size) (h1 : cells.all (·.oneCell') = true)
  (h : wpList P ops Q rest (a.put op.dst undef) (W.alloc (.cells cells ty))) : wpList P ops Q (op :: rest) a (W.alloc (.cells zs ty)) := by
 refine wpList_store_mid hgd ty x y ho W.heap.size 0 cells hx hy (there_new W zs ty _ hz) hi h1 ?_
 have e := setCells_new W ty cells.toList [] zs.toList (by simp [hz])
 simp only [List.nil_append, List.length_nil, Array.toArray_toList] at e
 rw [e]
 exact h
theorem run_loadVar_any {P : Program} (w : World) (A : Addr) (ty : TypeId) (cs : List Value) (d : TypeDesc) (hc : ∀ j v, cs[j]? = some v → w.cell? (A.add j) = some v)
  (hu : P.underlying ty = some d) (hd : d.isRow = true) (hi : (P.info? ty).map (·.size) = some cs.length) :
  (loadVar ty A).run P w = .ok (.agg cs.toArray) w := by
 have hl : (loadCells A cs.length).run P w = .ok cs.toArray w := run_loadCells_list (P := P) w A cs hc
 cases hq : P.info? ty with
 | none => simp [hq] at hi
 | some i =>
  have hs : i.size = cs.length := by simpa [hq] using hi
  have hagg : (isAgg ty).run P w = .ok true w := by
   unfold isAgg
   rw [Sem.run_bind, run_underlying hu w]
   cases d <;> simp_all
  simp [loadVar, Sem.run_bind, hagg, sizeOf, typeInfo, hq, hs, hl]
theorem wpList_load_any {P : Program} {ops : Array Oper} {rest : List Oper} {op : Oper} {a : Act} {w : World} {Q : Exit → Act → World → Prop} (hgd : op.guard = none) (ty : TypeId) (x : Operand) (ho : op.op = .load ty x)
  (A : Addr) (hx : a.eval x = .pointer (some A)) (cs : List Value) (d : TypeDesc) (hc : ∀ j v, cs[j]? = some v → w.cell? (A.add j) = some v)
  (hu : P.underlying ty = some d) (hd : d.isRow = true) (hi : (P.info? ty).map (·.size) = some cs.length)
  (h : wpList P ops Q rest (a.put op.dst (.agg cs.toArray)) w) : wpList P ops Q (op :: rest) a w :=
 wpList_plain hgd fun K hK => by
  unfold Oper.wp execOp
  simp only [ho, hx, Instr.loadAt, Instr.sureAddr, Sem.run_bind, Sem.run_pure, Result.andThen_ok, run_loadVar_any w A ty cs d hc hu hd hi]
  exact hK _ _ h
theorem wpList_load_any_w {P : Program} {ops : Array Oper} {rest : List Oper} {op : Oper} {a : Act} {w : World} {Q : Exit → Act → World → Prop} (hw : Region.wanted op (yielded ops a.tmps) = true) (ty : TypeId) (x : Operand) (ho : op.op = .load ty x)
  (A : Addr) (hx : a.eval x = .pointer (some A)) (cs : List Value) (d : TypeDesc) (hc : ∀ j v, cs[j]? = some v → w.cell? (A.add j) = some v)
  (hu : P.underlying ty = some d) (hd : d.isRow = true) (hi : (P.info? ty).map (·.size) = some cs.length)
  (h : wpList P ops Q rest (a.put op.dst (.agg cs.toArray)) w) : wpList P ops Q (op :: rest) a w := by
 unfold wpList
 rw [if_pos hw]
 refine .inl ?_
 unfold Oper.wp execOp
 simp only [ho, hx, Instr.loadAt, Instr.sureAddr, Sem.run_bind, Sem.run_pure, Result.andThen_ok, run_loadVar_any w A ty cs d hc hu hd hi]
 exact h
end
