import Derived.Test.YtocajelknojkbaaGreatDoorK32
import Derived.Test.YtocajelknojkbaaGreatDoorK31
set_option maxRecDepth 100000
set_option maxHeartbeats 16000000
set_option linter.all false
namespace Go.Proofs.YtocajelknojkbaaGreatDoor
open Go.Lib (hid)
open Go.RowKit
theorem server_any (N : Nat) (m : LMsg) (more : List LHead) (ca : List Value) (vr vb vo : Value) (body other : Bytes) (w : World) (hG : Gl N w) (hA : LM w m ca) (hR : SHs w vr more) (hB : SB w vb body) (hO : SB w vo other) (IA : MIn N m) (IR : HsIn more) (hol : other.length ≤ 1048576) (hbd : body.length ≤ 1048576) (b1 : Bool) (rm : m.resp = b1) :
  Calls Tryz.prog 3 #[.agg ca.toArray, vr, vb, vo] w (ClientKeyOk w) := by
 obtain ⟨Ar, cr, rfl, hrl⟩ := hR.form
 obtain ⟨Ab, cb, rfl, -⟩ := hB.form
 obtain ⟨Ao, co, rfl, -⟩ := hO.form
 have hlx := hA.len19
 have hone := hA.one19
 obtain ⟨v1, v15, Ax, cx, Am, cm, e0, e1, e15, -, rfl, -, hsh⟩ := hA.parts
 rw [rm] at e0
 obtain ⟨x0, x1, x2, x3, x4, x5, x6, x7, x8, x9, x10, x11, x12, x13, x14, x15, x16, x17, x18, rfl⟩ := list19 hlx
 obtain rfl : x0 = .bool b1 := by simpa using e0
 obtain rfl : x15 = .slice Ax m.heads.length cx := by simpa using e15
 clear e0 e1 e15 hlx
 obtain ⟨wb, hwb⟩ : ∃ wb, wb = w.alloc (.cells #[.bool b1, x1, x2, x3, x4, x5, x6, x7, x8, x9, x10, x11, x12, x13, x14, .slice Ax m.heads.length cx, x16, x17, x18] 28) := ⟨_, rfl⟩
 have HB0 := hid (show Below w.heap.size w wb by rw [hwb]; exact (Below.refl _ w).alloc (Nat.le_refl _) _)
 have HSZ := hid (show wb.heap.size = w.heap.size + 1 by rw [hwb]; simp)
 have hb0 : wb.heap[w.heap.size]? = some (.cells ([.bool b1, x1, x2, x3, x4, x5, x6, x7, x8, x9, x10, x11, x12, x13, x14, .slice Ax m.heads.length cx, x16, x17, x18] : List Value).toArray 28 (0, 0)) := by rw [hwb]; exact heap_alloc_new w _
 have HX1 := hid (show ∀ wx, Below wb.heap.size wb wx → wx.heap[w.heap.size]? = some (.cells ([.bool b1, x1, x2, x3, x4, x5, x6, x7, x8, x9, x10, x11, x12, x13, x14, .slice Ax m.heads.length cx, x16, x17, x18] : List Value).toArray 28 (0, 0)) from fun wx h => by rw [h.block _ (by have := HSZ.out; omega)]; exact hb0)
 have HBW := hid (show ∀ wx, Below wb.heap.size wb wx → Below w.heap.size w wx from fun wx h => HB0.out.trans (h.mono (by have := HSZ.out; omega)))
 have HLA := hid (show ∀ wx, Below wb.heap.size wb wx → LM wx m [.bool b1, x1, x2, x3, x4, x5, x6, x7, x8, x9, x10, x11, x12, x13, x14, .slice Ax m.heads.length cx, x16, x17, x18] from fun wx h => hA.below (HBW.out wx h))
 have HGL := hid (show ∀ wx, Below wb.heap.size wb wx → Gl N wx from fun wx h => hG.below (HBW.out wx h) hG.le)
 have HSH := hid (show ∀ wx, Below wb.heap.size wb wx → SHs wx (.slice Ax m.heads.length cx) m.heads from fun wx h => hsh.below (HBW.out wx h))
 have HSR := hid (show ∀ wx, Below wb.heap.size wb wx → SHs wx (.slice Ar more.length cr) more from fun wx h => hR.below (HBW.out wx h))
 have HSB := hid (show ∀ wx, Below wb.heap.size wb wx → SB wx (.slice Ab body.length cb) body from fun wx h => hB.below (HBW.out wx h))
 have HSO := hid (show ∀ wx, Below wb.heap.size wb wx → SB wx (.slice Ao other.length co) other from fun wx h => hO.below (HBW.out wx h))
 have HSW := hid (And.intro hsh hR)
 have HL0 := hid hA
 have HON := hid hone
 have HA := hid IA
 have HIR := hid IR
 have HOL := hid (And.intro hol hbd)
 have HBL := hid (Below.refl wb.heap.size wb)
 have HRM := hid rm
 have ho1 : (other.length : Int) ≤ 1048576 := by omega
 have hm1 : (body.length : Int) ≤ 1048576 := by omega
 clear hG hA hR hB hO IA IR rm hsh hb0 hol hbd hone
 go_enter Tryz.func3, Tryz.ntmps3
 go_upto_region 1 with fail
 rw [← hwb]
 generalize Value.agg #[.bool b1, x1, x2, x3, x4, x5, x6, x7, x8, x9, x10, x11, x12, x13, x14, .slice Ax m.heads.length cx, x16, x17, x18] = arg0
 clear hwb
 go_upto_if 37 with (first
  | (refine wpList_load_any_w (by rfl) 28 (.tmp 4) (by rfl) ⟨w.heap.size, 0, none⟩ (by rfl) _ _ (row_cells (HX1.out _ HBL.out)) Tryz.underlying28 (by rfl) (by rw [msg_size]; rfl) ?_)
  | (go_at_call 6; refine (fits1_any m _ _ (HLA.out _ HBL.out)).mono ?_; rintro e wn ⟨⟨b, rfl⟩, hbn⟩; have HBL0 := HBL; clear HBL; have HBL := hid (HBL0.out.trans (hbn.mono HBL0.out.size)); clear HBL0 hbn; cases b)
  | (go_at_call 7; refine (fits5_any _ more _ (HSR.out _ HBL.out)).mono ?_; rintro e wn ⟨⟨b, rfl⟩, hbn⟩; have HBL0 := HBL; clear HBL; have HBL := hid (HBL0.out.trans (hbn.mono HBL0.out.size)); clear HBL0 hbn; cases b)
  | fail)
 ·go_wp2_with fail
  go_ret
  exact ⟨rfl, HBW.out _ HBL.out⟩
 ·go_wp2_with fail
  go_ret
  exact ⟨rfl, HBW.out _ HBL.out⟩
 have c0 := row_at (HX1.out _ HBL.out) 0 _ rfl
 rcases Int.lt_or_le 8192 (body.length : Int) with hb8 | hb8 <;> cases b1 <;> go_upto_if 59 with (first
  | (refine wpList_load_any_w (by rfl) 28 (.tmp 4) (by rfl) ⟨w.heap.size, 0, none⟩ (by rfl) _ _ (row_cells (HX1.out _ HBL.out)) Tryz.underlying28 (by rfl) (by rw [msg_size]; rfl) ?_)
  | (go_at_call 8; refine (iscall_any m _ _ (HLA.out _ HBL.out) HA.out.bd).mono ?_; rintro e wn ⟨⟨b, rfl, hb⟩, hbn⟩; have HBL0 := HBL; clear HBL; have HBL := hid (HBL0.out.trans (hbn.mono HBL0.out.size)); clear HBL0 hbn; have c0 := row_at (HX1.out _ HBL.out) 0 _ rfl; have HRA := hid hb; clear hb; cases b)
  | (go_at_call 9; refine (ismany_any _ more _ (HSR.out _ HBL.out)).mono ?_; rintro e wn ⟨⟨b, rfl, hb⟩, hbn⟩; have HBL0 := HBL; clear HBL; have HBL := hid (HBL0.out.trans (hbn.mono HBL0.out.size)); clear HBL0 hbn; have HMY := hid hb; clear hb; cases b)
  | (go_at_call 10; refine (isword_says _ other _ (HSO.out _ HBL.out)).mono ?_; rintro e wn ⟨⟨b, rfl, hb⟩, hbn⟩; have HBL0 := HBL; clear HBL; have HBL := hid (HBL0.out.trans (hbn.mono HBL0.out.size)); clear HBL0 hbn; have HWO := hid hb; clear hb; cases b)
  | fail)
 any_goals
  have HK := hid (known_any N _ (HGL.out _ HBL.out))
  go_wp2_with (go_at_call 11; refine HK.out.mono ?_; rintro e w9 ⟨rfl, hb⟩)
  go_ret
  exact ⟨rfl, HBW.out _ (HBL.out.trans (hb.mono HBL.out.size))⟩
 have HRC := hid (HRA.out (by first | rfl | trivial))
 obtain ⟨via, cq, pv, pc, hf⟩ := CallF.of HA.out HRC.out
 have HF := hid hf
 have HCS := hid (CallS.of HRC.out hf.h9)
 have HWO' := hid (HWO.out (by first | rfl | trivial))
 have HMY' := hid (HMY.out (by first | rfl | trivial))
 have HB8 := hid (show body.length ≤ 8192 by omega)
 clear hf c0 HRA HWO HMY
 go_wp2_with fail
 go_loopw [9] (fun i wr => ∃ k : Nat, k ≤ more.length ∧ i = .int .i64 k ∧ Below wb.heap.size wb wr ∧ ∀ h ∈ more.take k, h.t = 0) (fun i _ => more.length - (intOf i).toNat)
 case atStart => exact ⟨0, Nat.zero_le _, rfl, HBL.out, fun h hh => by simp at hh⟩
 case round =>
  clear HBL
  obtain ⟨k, hk, rfl, hb, hr0⟩ := hrel
  obtain ⟨wo, rfl⟩ : ∃ wo : World, wo = wr := ⟨_, rfl⟩
  have HBL := hid hb
  have HR0 := hid hr0
  clear hb hr0
  by_cases hlt : k < more.length
  ·obtain ⟨a, c', cs, h, e1, hh, hLH, hcell⟩ := (HSR.out _ HBL.out).at_ k hlt
   cases e1
   have d0 : wo.cell? ((a.add (k * 21)).add 0) = some (.int .i64 h.t) := hcell 0 _ (by obtain ⟨_, _, _, _, _, _, _, _, _, h0, -⟩ := hLH; rw [h0]; rfl)
   rw [Addr.add_zero'] at d0
   have HLT := hid (And.intro (Nat.succ_le_of_lt hlt) hh)
   have hk1 : (k : Int) < more.length := by omega
   have hk2 : (0 : Int) ≤ k := by omega
   obtain ⟨tj, htj⟩ : ∃ tj, tj = h.t := ⟨_, rfl⟩
   rw [← htj] at d0
   clear hcell hLH hlt hh
   by_cases het : tj = 0
   ·have hne : (tj != 0) = false := by simp [het]
    have HTZ := hid (htj.symm.trans het)
    clear het htj
    go_wp2_with fail
    go_roundw
    case rel =>
     refine ⟨k + 1, HLT.out.1, by simp, HBL.out, fun x hx => ?_⟩
     rw [List.take_add_one, HLT.out.2] at hx
     rcases List.mem_append.1 hx with hx | hx
     ·exact HR0.out x hx
     ·obtain rfl : x = h := by simpa using hx
      exact HTZ.out
    case measure => exact meas_step HLT.out.1 (by simp)
   ·have hne : (tj != 0) = true := by simp [het]
    clear het htj
    have HK := hid (known_any N _ (HGL.out _ HBL.out))
    go_wp2_with (go_at_call 11; refine HK.out.mono ?_; rintro e w9 ⟨rfl, hb⟩)
    go_ret
    exact ⟨rfl, HBW.out _ (HBL.out.trans (hb.mono HBL.out.size))⟩
  ·have hke : k = more.length := by omega
   have HM0 := hid (show ∀ h ∈ more, h.t = 0 by have := HR0.out; rwa [hke, List.take_length] at this)
   have hnl : ¬ (k : Int) < more.length := by omega
   clear hke hlt HR0
   have HFI := hid (firsts_any _ m.heads 9 _ (HSH.out _ HBL.out) HF.out.sorts HF.out.p.many)
   have c15 := row_at (HX1.out _ HBL.out) 15 _ rfl
   go_upto_region 11 with (first
    | (go_at_call 12; refine HFI.out.mono ?_; rintro e wf ⟨vcs, rfl, hx, hbn⟩; have HXV := hid hx; have HXL := hid (hx.lh (Sub.of_below hbn)); have HBL0 := HBL; clear HBL; have HBL := hid (HBL0.out.trans (hbn.mono HBL0.out.size)); clear HBL0 hbn; clear hx)
    | (refine wpList_store_blk (by rfl) 35 (.tmp 11) (.tmp 79) (by rfl) wf.heap.size 35 zeroH vcs (by rfl) (by rfl) (by rw [HXV.out.len]; rfl) (heap_alloc_new wf _) 21 head_size HXV.out.len HXV.out.one ?_; intro W5 hst; have HST := hid hst; clear hst)
    | fail)
   clear c15
   obtain ⟨g11, hgg⟩ : ∃ g11, g11 = wf.heap.size := ⟨_, rfl⟩
   have hbn : Below wf.heap.size wf W5 := (((Below.refl _ wf).alloc (Nat.le_refl _) _).trans HST.out.below)
   have HLV := hid (show LH W5 via vcs by have h := HXL.out.below hbn; rw [HF.out.f9] at h; exact h)
   have HGV := hid (show W5.heap[g11]? = some (.cells vcs.toArray 35 (0, 0)) by rw [hgg]; exact HST.out.blk)
   have HBL0 := HBL
   clear HBL
   have HBL := hid (HBL0.out.trans (hbn.mono HBL0.out.size))
   clear HBL0 hbn
   rw [← hgg]
   clear HST HXV HXL hgg HFI
   have HUP := hid (show ∀ wx, Below W5.heap.size W5 wx → Below wb.heap.size wb wx from fun wx h => HBL.out.trans (h.mono HBL.out.size))
   have HX1 := hid (fun wx (h : Below W5.heap.size W5 wx) => HX1.out wx (HUP.out wx h))
   have HBW := hid (fun wx (h : Below W5.heap.size W5 wx) => HBW.out wx (HUP.out wx h))
   have HLA := hid (fun wx (h : Below W5.heap.size W5 wx) => HLA.out wx (HUP.out wx h))
   have HGL := hid (fun wx (h : Below W5.heap.size W5 wx) => HGL.out wx (HUP.out wx h))
   have HSH := hid (fun wx (h : Below W5.heap.size W5 wx) => HSH.out wx (HUP.out wx h))
   have HSR := hid (fun wx (h : Below W5.heap.size W5 wx) => HSR.out wx (HUP.out wx h))
   have HSB := hid (fun wx (h : Below W5.heap.size W5 wx) => HSB.out wx (HUP.out wx h))
   have HSO := hid (fun wx (h : Below W5.heap.size W5 wx) => HSO.out wx (HUP.out wx h))
   have HLV := hid (show ∀ wx, Below W5.heap.size W5 wx → LH wx via vcs from fun wx h => HLV.out.below h)
   have HGV := hid (show ∀ wx, Below W5.heap.size W5 wx → wx.heap[g11]? = some (.cells vcs.toArray 35 (0, 0)) from fun wx h => by rw [h.block _ (heap_lt HGV.out)]; exact HGV.out)
   have HVL := hid (HLV.out W5 (Below.refl _ _)).len
   clear HBL HUP
   have HBL := hid (Below.refl W5.heap.size W5)
   obtain ⟨br, hbr⟩ : ∃ b, b = paramV via.params branchK := ⟨_, rfl⟩
   have HBR := hid hbr
   have HBV := hid (show ∀ wx, Below W5.heap.size W5 wx → Calls Tryz.prog 14 #[.agg vcs.toArray] wx (VPost br wx) from fun wx h => by rw [hbr]; exact branch_any via vcs wx (HLV.out wx h))
   clear hbr
   go_upto_if 84 with (first
    | (refine wpList_load_any_w (by rfl) 35 (.tmp 11) (by rfl) ⟨g11, 0, none⟩ (by rfl) _ _ (row_cells (HGV.out _ HBL.out)) Tryz.underlying35 (by rfl) (by rw [head_size, HVL.out]) ?_)
    | (go_at_call 14; refine (HBV.out _ HBL.out).mono ?_; rintro e wv ⟨v, rfl, hv, hbn⟩; obtain ⟨Av, cv, rfl, -⟩ := hv.form; have HSV := hid hv; have HBL0 := HBL; clear HBL; have HBL := hid (HBL0.out.trans (hbn.mono HBL0.out.size)); clear HBL0 hbn; clear hv)
    | (go_at_call 13; refine (issplit_any _ [br, other] _ (SBs.two (heap_alloc_new wv _) (HSV.out.below ((Below.refl wv.heap.size wv).alloc (Nat.le_refl _) _)) ((HSO.out _ HBL.out).below ((Below.refl wv.heap.size wv).alloc (Nat.le_refl _) _)))).mono ?_; rintro e wn ⟨⟨b, rfl⟩, hbn0⟩; have hbn : Below wv.heap.size wv wn := ((Below.refl wv.heap.size wv).alloc (Nat.le_refl _) _).trans (hbn0.mono (by simp)); clear hbn0; have HBL0 := HBL; clear HBL; have HBL := hid (HBL0.out.trans (hbn.mono HBL0.out.size)); clear HBL0 hbn; cases b)
    | fail)
   rotate_left
   ·have HK := hid (known_any N _ (HGL.out _ HBL.out))
    go_wp2_with (go_at_call 11; refine HK.out.mono ?_; rintro e w9 ⟨rfl, hb⟩)
    go_ret
    exact ⟨rfl, HBW.out _ (HBL.out.trans (hb.mono HBL.out.size))⟩
   have HWF := hid (Sub.of_below (HBW.out _ HBL.out))
   go_upto_region 14 with (first
    | (refine wpList_load_any_w (by rfl) 28 (.tmp 4) (by rfl) ⟨w.heap.size, 0, none⟩ (by rfl) _ _ (row_cells (HX1.out _ HBL.out)) Tryz.underlying28 (by rfl) (by rw [msg_size]; rfl) ?_)
    | (refine wpList_store_blk (by rfl) 28 (.tmp 12) (.tmp 86) (by rfl) wn.heap.size 28 zeroM [.bool false, x1, x2, x3, x4, x5, x6, x7, x8, x9, x10, x11, x12, x13, x14, .slice Ax m.heads.length cx, x16, x17, x18] (by rfl) (by rfl) (by rfl) (heap_alloc_new wn _) 19 msg_size (by rfl) HON.out ?_; intro W6 hst; have HST := hid hst; clear hst)
    | fail)
   obtain ⟨g12, hgg⟩ : ∃ g12, g12 = wn.heap.size := ⟨_, rfl⟩
   have hbn : Below wn.heap.size wn W6 := (((Below.refl _ wn).alloc (Nat.le_refl _) _).trans HST.out.below)
   have HG6 := hid (show W6.heap[g12]? = some (.cells ([.bool false, x1, x2, x3, x4, x5, x6, x7, x8, x9, x10, x11, x12, x13, x14, .slice Ax m.heads.length cx, x16, x17, x18] : List Value).toArray 28 (0, 0)) by rw [hgg]; exact HST.out.blk)
   have HGN := hid (show W5.heap.size ≤ g12 by rw [hgg]; exact HBL.out.size)
   have HBL0 := HBL
   clear HBL
   have HBL := hid (HBL0.out.trans (hbn.mono HBL0.out.size))
   clear HBL0 hbn
   rw [← hgg]
   clear HST hgg HWF
   go_upto_region 15 with (first
    | (refine wpList_store_cell (by rfl) 22 (.tmp 88) (.tmp 87) (by rfl) g12 16 28 [.bool false, x1, x2, x3, x4, x5, x6, x7, x8, x9, x10, x11, x12, x13, x14, .slice Ax m.heads.length cx, x16, x17, x18] (.slice Ab body.length cb) (by rfl) (by rfl) HG6.out (by simp) rfl bs_size ?_; intro W7 hst; have HST := hid hst; clear hst)
    | fail)
   have HG7 := hid (show W7.heap[g12]? = some (.cells ([.bool false, x1, x2, x3, x4, x5, x6, x7, x8, x9, x10, x11, x12, x13, x14, .slice Ax m.heads.length cx, .slice Ab body.length cb, x17, x18] : List Value).toArray 28 (0, 0)) from HST.out.blk)
   have hbn : Below g12 W6 W7 := HST.out.below
   have HBL0 := HBL
   clear HBL
   have HBL := hid (HBL0.out.trans (hbn.mono HGN.out))
   clear HBL0 hbn HST HG6
   have HPU := hid (put_end w (.slice Ax m.heads.length cx) (.slice Ar more.length cr) m.heads more W7 HSW.out.1 HSW.out.2 (Sub.of_below (HBW.out _ HBL.out)) (by have h1 := HF.out.p.many; have h2 := HMY'.out.2; omega))
   have c15 := row_at (HX1.out _ HBL.out) 15 _ rfl
   go_upto_region 16 with (first
    | (go_at_call 15; refine HPU.out.mono ?_; rintro e wn2 ⟨Ap, cp, rfl, hp, hbn⟩; have HPO := hid hp; clear hp; have HG8 := hid ((hbn.block _ (heap_lt HG7.out)).trans HG7.out); have HBL0 := HBL; clear HBL; have HBL := hid (HBL0.out.trans (hbn.mono HBL0.out.size)); clear HBL0 hbn)
    | (refine wpList_store_cell (by rfl) 26 (.tmp 96) (.tmp 95) (by rfl) g12 15 28 [.bool false, x1, x2, x3, x4, x5, x6, x7, x8, x9, x10, x11, x12, x13, x14, .slice Ax m.heads.length cx, .slice Ab body.length cb, x17, x18] (.slice Ap (m.heads.length + more.length) cp) (by rfl) (by rfl) HG8.out (by simp) rfl hs_size ?_; intro W8 hst; have HST := hid hst; clear hst)
    | fail)
   have hbn : Below g12 wn2 W8 := HST.out.below
   have HBL0 := HBL
   clear HBL
   have HBL := hid (HBL0.out.trans (hbn.mono HGN.out))
   have HSU := hid (Sub.of_below (HBW.out _ HBL.out))
   have HLM8 := hid (show LM W8 (moreM m more body) [.bool false, x1, x2, x3, x4, x5, x6, x7, x8, x9, x10, x11, x12, x13, x14, .slice Ap (m.heads.length + more.length) cp, .slice Ab body.length cb, x17, x18] from ((HL0.out.sub HSU.out).set_body (HSB.out _ HBL.out)).set_heads ((HPO.out.stored HST.out HG8.out (by decide) (by decide)).shs HSU.out))
   have HG12 := hid (show W8.heap[g12]? = some (.cells ([.bool false, x1, x2, x3, x4, x5, x6, x7, x8, x9, x10, x11, x12, x13, x14, .slice Ap (m.heads.length + more.length) cp, .slice Ab body.length cb, x17, x18] : List Value).toArray 28 (0, 0)) from HST.out.blk)
   have HPM := hid (HF.out.p.more HRC.out.msg HIR.out HMY'.out.1 HM0.out HMY'.out.2 HB8.out)
   have HA9 := hid ((more_filt (m := m) (body := body) HM0.out (t := 9) (by decide)).trans HF.out.h9)
   have HA5 := hid ((more_filt (m := m) (body := body) HM0.out (t := 5) (by decide)).trans HF.out.h5)
   clear HBL0 hbn HST HPO HG8 HG7 HSU HPU c15 HSW
   have HUQ := hid (show ∀ wx, Below W8.heap.size W8 wx → Below W5.heap.size W5 wx from fun wx h => HBL.out.trans (h.mono HBL.out.size))
   have HX1 := hid (fun wx (h : Below W8.heap.size W8 wx) => HX1.out wx (HUQ.out wx h))
   have HBW := hid (fun wx (h : Below W8.heap.size W8 wx) => HBW.out wx (HUQ.out wx h))
   have HLA := hid (fun wx (h : Below W8.heap.size W8 wx) => HLA.out wx (HUQ.out wx h))
   have HGL := hid (fun wx (h : Below W8.heap.size W8 wx) => HGL.out wx (HUQ.out wx h))
   have HSO := hid (fun wx (h : Below W8.heap.size W8 wx) => HSO.out wx (HUQ.out wx h))
   have HBV := hid (fun wx (h : Below W8.heap.size W8 wx) => HBV.out wx (HUQ.out wx h))
   have HGV := hid (fun wx (h : Below W8.heap.size W8 wx) => HGV.out wx (HUQ.out wx h))
   have HLM8 := hid (show ∀ wx, Below W8.heap.size W8 wx → LM wx (moreM m more body) [.bool false, x1, x2, x3, x4, x5, x6, x7, x8, x9, x10, x11, x12, x13, x14, .slice Ap (m.heads.length + more.length) cp, .slice Ab body.length cb, x17, x18] from fun wx h => HLM8.out.below h)
   have HG12 := hid (show ∀ wx, Below W8.heap.size W8 wx → wx.heap[g12]? = some (.cells ([.bool false, x1, x2, x3, x4, x5, x6, x7, x8, x9, x10, x11, x12, x13, x14, .slice Ap (m.heads.length + more.length) cp, .slice Ab body.length cb, x17, x18] : List Value).toArray 28 (0, 0)) from fun wx h => by rw [h.block _ (heap_lt HG12.out)]; exact HG12.out)
   clear HBL HUQ
   have HBL := hid (Below.refl W8.heap.size W8)
   have HPF := hid (show (pv.params.find? fun p => p.1 == branchB).map (·.2) = some br by rw [HBR.out, HF.out.par]; exact HF.out.find)
   have HGD := hid (show GoodBr (bs br) by rw [HBR.out]; exact HF.out.good)
   have HPR := hid (show -9223372036854775808 ≤ pv.port ∧ pv.port ≤ 9223372036854775807 by have := HCS.out.port; omega)
   have HLN := hid (show br.length ≤ 1073741824 ∧ pc.text.length ≤ 1073741824 ∧ pv.host.length ≤ 1073741824 ∧ pv.transport.length ≤ 1073741824 by
    have h1 := HF.out.brl
    have h2 := HF.out.txl
    rw [← HBR.out] at h1
    rw [← HF.out.txt] at h2
    exact ⟨by omega, by omega, by have := HCS.out.hostl; omega, by have := HCS.out.trl; omega⟩)
   obtain ⟨away, hway⟩ : ∃ a, a = magicB ++ other := ⟨_, rfl⟩
   have HWAY := hid hway
   have HAWL := hid (show 7 < away.length ∧ away.length ≤ 8199 ∧ away.take 7 = [122, 57, 104, 71, 52, 98, 75] ∧ ValB ⟨away.toArray⟩ by
    rw [hway]
    have h1 := wordS_ok HWO'.out
    have h2 : 0 < other.length := by
     have := HWO'.out
     simp only [wordS, Bool.and_eq_true, decide_eq_true_eq] at this
     exact this.1.2
    refine ⟨?_, ?_, rfl, valb_app (by decide) h1.1⟩
    ·rw [List.length_append]; show 7 < 7 + _; omega
    ·rw [List.length_append]; show 7 + _ ≤ _; omega)
   clear hway
   obtain ⟨pvia, hpv⟩ : ∃ p, p = parH (firstH 9 m.heads) branchK away := ⟨_, rfl⟩
   have HPV := hid hpv
   have HPT := hid (show pvia.t = 9 ∧ HMs pvia ∧ (pvia.params.find? fun p => p.1 == branchB).map (·.2) = some away by
    rw [hpv, HF.out.f9]
    refine ⟨HF.out.t9, HF.out.ms9.par HF.out.t9 _ _ HAWL.out.2.2.2, ?_⟩
    refine find_setK _ _ _ ?_
    have := HF.out.find
    cases h : via.params.find? fun p => p.1 == branchB with
    | none => rw [h] at this; simp at this
    | some p => rfl)
   have HVP := hid (show pvia.host = pv.host ∧ pvia.port = pv.port ∧ pvia.transport = pv.transport by
    have e : firstH 9 m.heads = plainH pv := first_filt HF.out.h9
    rw [hpv, e]
    exact plain_9v (filt_t HF.out.h9))
   clear hpv
   have HP3 := hid (HF.out.p.chg HPT.out.2.1)
   have HC9 := hid (show (chgM m pvia).heads.filter (isT 9) = [pvia] from filt_in HF.out.h9 HPT.out.1)
   have HC5 := hid (show (chgM m pvia).heads.filter (isT 5) = [pc] from filt_out HF.out.h5 (by rw [HPT.out.1]; decide))
   have HGB := hid (goodbr HAWL.out.1 HAWL.out.2.2.1)
   have HPR3 := hid (show -9223372036854775808 ≤ pvia.port ∧ pvia.port ≤ 9223372036854775807 by rw [HVP.out.2.1]; exact HPR.out)
   have HLC3 := hid (show away.length ≤ 1073741824 ∧ pc.text.length ≤ 1073741824 ∧ pvia.host.length ≤ 1073741824 ∧ pvia.transport.length ≤ 1073741824 by
    rw [HVP.out.1, HVP.out.2.2]
    exact ⟨by have := HAWL.out.2.1; omega, HLN.out.2⟩)
   have HBRN := hid (show ∀ (q : Value) (wx : World), Below W8.heap.size W8 wx → SB (filterW wx W8.heap.size) q away → Calls Tryz.prog 16 #[.agg #[.bool false, x1, x2, x3, x4, x5, x6, x7, x8, x9, x10, x11, x12, x13, x14, .slice Ax m.heads.length cx, x16, x17, x18], q] wx (ChgH W8.heap.size (chgM m pvia) wx) from fun q wx h hq => by
    have := branched_h W8.heap.size m [.bool false, x1, x2, x3, x4, x5, x6, x7, x8, x9, x10, x11, x12, x13, x14, .slice Ax m.heads.length cx, x16, x17, x18] q away wx h.size ((HLA.out W8 HBL.out).h h (Nat.le_refl _)) hq HF.out.sorts HF.out.p.many (by rw [HF.out.f9]; exact HF.out.parl)
    rwa [← HPV.out] at this)
   have HJN := hid (show ∀ (q : Value) (wx : World), SBs wx q [magicB, other] → Calls Tryz.prog 17 #[q] wx (fun e w' => ∃ v b, e = .returned v ∧ OB b w' v away ∧ Below wx.heap.size wx w') from fun q wx hq => by
    refine (joined_any q [magicB, other] wx hq (by have h : magicB.length + other.length ≤ 140737488355328 := (by have := HOL.out.1; show 7 + _ ≤ _; omega); simpa using h)).mono ?_
    rintro e w' ⟨r, rfl, ho, hb⟩
    have ho2 := OB.text ho (show [magicB, other].flatten = away by rw [HWAY.out]; simp)
    exact ⟨r, _, rfl, ho2, hb⟩)
   refine wp_region_growG 8 148 (CK W8.heap.size) (IW W8)
    (fun i v w' => match i with
     | 0 => v = .agg #[.bool false, x1, x2, x3, x4, x5, x6, x7, x8, x9, x10, x11, x12, x13, x14, .slice Ax m.heads.length cx, x16, x17, x18]
     | 1 => MagB W8.heap.size v w'
     | 2 => SB w' v magicB
     | 3 => v = .slice Ao other.length co
     | 4 => SBs w' v [magicB, other]
     | 5 => SB (filterW w' W8.heap.size) v away
     | 6 => ∃ rs : List Value, v = .agg rs.toArray ∧ LMh W8.heap.size w' (chgM m pvia) rs
     | 7 => ∃ g, v = .pointer (some ⟨g, 0, none⟩) ∧ W8.heap.size ≤ g ∧ w'.heap[g]? = some (Obj.cells zeroM.toArray 28 (0, 0))
     | _ => True)
    [[], [], [1], [], [2, 3], [4], [0, 5], []] rfl (by kernel_rfl) (by kernel_rfl) (by kernel_rfl) (by first | (simp; done) | exact Nat.le_refl _) (fun w => CK.refl _ w) (fun _ _ => IW.step) ?_ ?_ ?_ ?_
   ·intro j hj v w'
    match j, hj with
    | j + 8, _ => trivial
   ·exact CK.of_below (Below.refl _ _).drew (Nat.le_refl _)
   ·simp only [List.take_succ_cons, List.take_zero, fillAll]
    refine ⟨⟨?_, ?_⟩, ⟨?_, ?_⟩, ⟨?_, ?_⟩, ⟨?_, ?_⟩, ⟨?_, ?_⟩, ⟨?_, ?_⟩, ⟨?_, ?_⟩, ⟨?_, ?_⟩, trivial⟩
    ·exact fun v w1 w2 h k => h
    ·intro vals w1 hI hd
     refine StepG.plain rfl ?_
     have HC := hid (HX1.out _ (HBL.out.trans (hI.below.mono HBL.out.size)))
     unfold GStep
     dsimp only
     go_simp
     refine wpList_load_any_w (by rfl) 28 (.tmp 4) (by rfl) ⟨w.heap.size, 0, none⟩ (by rfl) [.bool false, x1, x2, x3, x4, x5, x6, x7, x8, x9, x10, x11, x12, x13, x14, .slice Ax m.heads.length cx, x16, x17, x18] _ (row_cells HC.out) Tryz.underlying28 (by rfl) (by rw [msg_size]; rfl) ?_
     go_wp2
     exact CK.refl _ _
    ·exact fun v w1 w2 h k => h.ck k
    ·intro vals w1 hI hd
     refine StepG.plain rfl ?_
     unfold GStep
     go_wp2
     first | exact ⟨CK.new hI.size _, MagB.new hI.size⟩ | exact ⟨CK.of_below ((Below.refl w1.heap.size w1).alloc (Nat.le_refl _) _) hI.size, MagB.new hI.size⟩
    ·exact fun v w1 w2 h k => h.ck k
    ·intro vals w1 hI hd
     refine StepG.plain rfl ?_
     have r : MagB W8.heap.size (vals 1) w1 := hd.1
     unfold GStep
     dsimp only
     generalize vals 1 = q at r ⊢
     obtain ⟨g, w2, rfl, hr, hk, hs⟩ := r.conv
     have HQ := hid (And.intro hk hs)
     clear hk hs r
     go_wp2
     first | exact ⟨HQ.out.1, HQ.out.2⟩ | exact HQ.out
    ·exact fun v w1 w2 h k => h
    ·intro vals w1 hI hd
     refine StepG.plain rfl ?_
     unfold GStep
     go_wp2
     exact CK.refl _ _
    ·exact fun v w1 w2 h k => h.ck k
    ·intro vals w1 hI hd
     refine StepG.plain rfl ?_
     have r : SB w1 (vals 2) magicB := hd.1
     have e : vals 3 = _ := hd.2.1
     have HS2 := hid (HSO.out w1 (HBL.out.trans (hI.below.mono HBL.out.size)))
     have HI := hid hI
     clear hI
     unfold GStep
     dsimp only
     generalize vals 2 = q at r ⊢
     have HR := hid r
     obtain ⟨A5, c5, rfl, -⟩ := r.form
     clear r
     go_wp2
     have hbz := (Below.refl w1.heap.size w1).alloc (Nat.le_refl _) (.cells #[.slice A5 magicB.length c5, .slice Ao other.length co] 22)
     exact ⟨CK.of_below hbz HI.out.size, SBs.two (heap_alloc_new w1 _) (HR.out.below hbz) (HS2.out.below hbz)⟩
    ·exact fun v w1 w2 h k => SB.sub h (filt_ck k)
    ·intro vals w1 hI hd
     refine StepG.plain rfl ?_
     have r : SBs w1 (vals 4) [magicB, other] := hd.1
     unfold GStep
     dsimp only
     generalize vals 4 = q at r ⊢
     have HP := hid (HJN.out q w1 r)
     obtain ⟨A5, c5, rfl, -⟩ := r
     go_wp2_with (go_at_call 17; refine HP.out.mono ?_; rintro e w2 ⟨v, bb, rfl, hv, hb⟩)
     first | exact CK.of_below hb hI.size | exact ⟨CK.of_below hb hI.size, hv.filt.sb⟩
    ·rintro v w1 w2 ⟨l, h1, h2⟩ k
     exact ⟨l, h1, h2.ck k⟩
    ·intro vals w1 hI hd
     refine StepG.plain rfl ?_
     have e0 : vals 0 = _ := hd.1
     have r : SB (filterW w1 W8.heap.size) (vals 5) away := hd.2.1
     unfold GStep
     dsimp only
     generalize vals 5 = q at r ⊢
     have HP := hid (HBRN.out q w1 (HBL.out.trans (hI.below.mono HBL.out.size)) r)
     obtain ⟨A5, c5, rfl, -⟩ := r.form
     clear r
     go_wp2_with (go_at_call 16; refine HP.out.mono ?_; rintro e w2 ⟨rs, rfl, hr, hb⟩)
     first | exact CK.of_below hb hI.size | exact ⟨CK.of_below hb hI.size, rs, rfl, hr⟩ | exact ⟨CK.of_below hb hI.size, ⟨rs, rfl, hr⟩⟩
    ·rintro v w1 w2 ⟨g, h1, h2, h3⟩ k
     exact ⟨g, h1, h2, k.same h3 (by decide)⟩
    ·intro vals w1 hI hd
     refine StepG.plain rfl ?_
     unfold GStep
     go_wp2
     have hbz := (Below.refl w1.heap.size w1).alloc (Nat.le_refl _) (.cells zeroM.toArray 28)
     have hnew := heap_alloc_new w1 (.cells zeroM.toArray 28)
     obtain ⟨_, hnew2⟩ := Array.getElem?_eq_some_iff.1 hnew
     first | exact ⟨CK.of_below hbz hI.size, hI.size, hnew2⟩ | exact ⟨CK.of_below hbz hI.size, w1.heap.size, rfl, hI.size, heap_alloc_new w1 _⟩
   ·intro vals w8 hI hR
    simp only [List.drop_succ_cons, List.drop_zero, List.take_succ_cons, List.take_zero, fillAll]
    obtain ⟨-, -, -, -, -, -, r6, r7, -⟩ := hR
    generalize vals 6 = q6 at r6 ⊢
    generalize vals 7 = q7 at r7 ⊢
    obtain ⟨rs, rfl, hr⟩ := r6
    obtain ⟨g13, rfl, hgn, hgz⟩ := r7
    have HRS := hid hr
    have HGZ := hid (And.intro hgn hgz)
    have HRL := hid hr.lm.len19
    have HR1 := hid hr.lm.one19
    have HB8W := hid (HBL.out.trans (hI.below.mono HBL.out.size))
    clear hI hr hgn hgz HBL
    try dsimp only
    go_simp
    go_upto_region 17 with (refine wpList_store_blk (by rfl) 28 (.tmp 13) (.tmp 103) (by rfl) g13 28 zeroM rs (by rfl) (by rfl) (by rw [HRL.out]; rfl) HGZ.out.2 19 msg_size HRL.out HR1.out ?_; intro W9 hst; have HST := hid hst; clear hst)
    have HGA := hid HST.out.blk
    have HAN := hid (HRS.out.stored HST.out HGZ.out.2 HGZ.out.1).lm
    have HB9 := hid (HB8W.out.trans (HST.out.below.mono HGZ.out.1))
    have HUQ := hid (show ∀ wx, Below W9.heap.size W9 wx → Below W8.heap.size W8 wx from fun wx h => HB9.out.trans (h.mono HB9.out.size))
    have HX1 := hid (fun wx (h : Below W9.heap.size W9 wx) => HX1.out wx (HUQ.out wx h))
    have HBW := hid (fun wx (h : Below W9.heap.size W9 wx) => HBW.out wx (HUQ.out wx h))
    have HLA := hid (fun wx (h : Below W9.heap.size W9 wx) => HLA.out wx (HUQ.out wx h))
    have HGL := hid (fun wx (h : Below W9.heap.size W9 wx) => HGL.out wx (HUQ.out wx h))
    have HSO := hid (fun wx (h : Below W9.heap.size W9 wx) => HSO.out wx (HUQ.out wx h))
    have HBV := hid (fun wx (h : Below W9.heap.size W9 wx) => HBV.out wx (HUQ.out wx h))
    have HGV := hid (fun wx (h : Below W9.heap.size W9 wx) => HGV.out wx (HUQ.out wx h))
    have HLM8 := hid (fun wx (h : Below W9.heap.size W9 wx) => HLM8.out wx (HUQ.out wx h))
    have HG12 := hid (fun wx (h : Below W9.heap.size W9 wx) => HG12.out wx (HUQ.out wx h))
    have HAN := hid (show ∀ wx, Below W9.heap.size W9 wx → LM wx (chgM m pvia) rs from fun wx h => HAN.out.below h)
    have HGA := hid (show ∀ wx, Below W9.heap.size W9 wx → wx.heap[g13]? = some (.cells rs.toArray 28 (0, 0)) from fun wx h => by rw [h.block _ (heap_lt HGA.out)]; exact HGA.out)
    clear HST HRS HGZ HB8W HB9 HUQ
    have HBL := hid (Below.refl W9.heap.size W9)
    go_upto_region 18 with (first
     | (refine wpList_load_any_w (by rfl) 28 (.tmp 4) (by rfl) ⟨w.heap.size, 0, none⟩ (by rfl) _ _ (row_cells (HX1.out _ HBL.out)) Tryz.underlying28 (by rfl) (by rw [msg_size]; rfl) ?_)
     | (go_at_call 18; refine (iserver_any N m _ _ (HGL.out _ HBL.out) (HF.out.p.k (HLA.out _ HBL.out)) pv pc HF.out.h9 HF.out.h5 br HPF.out HGD.out HPR.out HLN.out).mono ?_; rintro e wn ⟨va, rfl, hka, hbn⟩; have HBL0 := HBL; clear HBL; have HBL := hid (HBL0.out.trans (hbn.mono HBL0.out.size)); clear HBL0 hbn)
     | fail)
    obtain ⟨K1, hK1⟩ : ∃ K, K = serverK (bs br) (bs pv.host) (portK (viaS pv)) (keyM ⟨#[]⟩ (bs pc.text)) := ⟨_, rfl⟩
    rw [← hK1] at hka
    have HK1 := hid hK1
    clear hK1
    have HKA := hid hka.sb
    obtain ⟨ka, capa, cs_ka, fz_ka, rfl, -⟩ := hka
    go_upto_region 19 with (first
     | (refine wpList_load_any_w (by rfl) 28 (.tmp 12) (by rfl) ⟨g12, 0, none⟩ (by rfl) _ _ (row_cells (HG12.out _ HBL.out)) Tryz.underlying28 (by rfl) (by rw [msg_size]; rfl) ?_)
     | (go_at_call 18; refine (iserver_any N (moreM m more body) _ _ (HGL.out _ HBL.out) (HPM.out.k (HLM8.out _ HBL.out)) pv pc HA9.out HA5.out br HPF.out HGD.out HPR.out HLN.out).mono ?_; rintro e wn ⟨vb, rfl, hkb, hbn⟩; have HKA0 := HKA; clear HKA; have HKA := hid (HKA0.out.below hbn); clear HKA0; have HBL0 := HBL; clear HBL; have HBL := hid (HBL0.out.trans (hbn.mono HBL0.out.size)); clear HBL0 hbn)
     | fail)
    rw [← HK1.out] at hkb
    have HKB := hid hkb.sb
    obtain ⟨kb, capb, cs_kb, fz_kb, rfl, -⟩ := hkb
    go_upto_region 20 with (first
     | (refine wpList_load_any_w (by rfl) 28 (.tmp 13) (by rfl) ⟨g13, 0, none⟩ (by rfl) _ _ (row_cells (HGA.out _ HBL.out)) Tryz.underlying28 (by rfl) (by rw [msg_size, HRL.out]) ?_)
     | (go_at_call 18; refine (iserver_any N (chgM m pvia) rs _ (HGL.out _ HBL.out) (HP3.out.k (HAN.out _ HBL.out)) pvia pc HC9.out HC5.out away HPT.out.2.2 HGB.out HPR3.out HLC3.out).mono ?_; rintro e wq ⟨vc, rfl, hkc, hbn⟩; have HKA0 := HKA; clear HKA; have HKA := hid (HKA0.out.below hbn); clear HKA0; have HKB0 := HKB; clear HKB; have HKB := hid (HKB0.out.below hbn); clear HKB0; have HBL0 := HBL; clear HBL; have HBL := hid (HBL0.out.trans (hbn.mono HBL0.out.size)); clear HBL0 hbn)
     | fail)
    rw [HVP.out.1, portK_same HVP.out.2.1 HVP.out.2.2] at hkc
    obtain ⟨K3, hK3⟩ : ∃ K, K = serverK (bs away) (bs pv.host) (portK (viaS pv)) (keyM ⟨#[]⟩ (bs pc.text)) := ⟨_, rfl⟩
    rw [← hK3] at hkc
    have HKC := hid hkc.sb
    obtain ⟨kc, capc, cs_kc, fz_kc, rfl, -⟩ := hkc
    have HD1 := hid (show ∀ e : Ending, e = .returned (.bool (decide (K1 = K1))) → e = .returned (.bool true) from fun e h => by rw [h]; exact ret_bool (decide_eq_true rfl))
    have HD3 := hid (show ∀ e : Ending, e = .returned (.bool (decide (K1 = K3))) → e = .returned (.bool (decide (br = away))) from fun e h => by rw [h, HK1.out, hK3]; exact ret_bool serverK_br)
    clear HK1 hK3
    refine wp_region_growG 29 148 (CK wq.heap.size) (IW wq)
     (fun i v w' => match i with
      | 0 => v = .bool true
      | 1 => v = .bool true
      | 2 => v = .bool true
      | 3 => v = .bool true
      | 4 => v = .bool true
      | 5 => v = .bool true
      | 6 => v = .bool true
      | 7 => v = .bool true
      | 8 => v = .slice (some ⟨ka, 0, none⟩) K1.length capa
      | 9 => v = .slice (some ⟨kb, 0, none⟩) K1.length capb
      | 10 => v = .bool true
      | 11 => v = .bool true
      | 12 => v = .bool true
      | 13 => v = .slice (some ⟨ka, 0, none⟩) K1.length capa
      | 14 => v = .slice (some ⟨kc, 0, none⟩) K3.length capc
      | 15 => v = .bool (decide (br = away))
      | 16 => v = .agg vcs.toArray
      | 17 => SB w' v br
      | 18 => MagB wq.heap.size v w'
      | 19 => SB w' v magicB
      | 20 => v = .slice Ao other.length co
      | 21 => SBs w' v [magicB, other]
      | 22 => SB w' v away
      | 23 => v = .bool (decide (br = away))
      | 24 => v = .bool (decide (br = away) == decide (br = away))
      | 25 => v = .bool true
      | 26 => v = .bool true
      | 27 => v = .bool true
      | 28 => v = .bool true
      | _ => True)
     [[], [0], [1], [1, 2], [3], [4], [4, 5], [6], [7], [7], [7, 8, 9], [7, 10], [11], [12], [12], [12, 13, 14], [12], [12, 16], [12], [12, 18], [12], [12, 19, 20], [12, 21], [12, 17, 22], [12, 15, 23], [12, 24], [25], [26], [26, 27]] rfl (by kernel_rfl) (by kernel_rfl) (by kernel_rfl) (by first | (simp; done) | exact Nat.le_refl _) (fun w => CK.refl _ w) (fun _ _ => IW.step) ?_ ?_ ?_ ?_
    ·intro j hj v w'
     match j, hj with
     | j + 29, _ => trivial
    ·exact CK.of_below (Below.refl _ _).drew (Nat.le_refl _)
    ·simp only [List.take_succ_cons, List.take_zero, fillAll]
     refine ⟨⟨?_, ?_⟩, ⟨?_, ?_⟩, ⟨?_, ?_⟩, ⟨?_, ?_⟩, ⟨?_, ?_⟩, ⟨?_, ?_⟩, ⟨?_, ?_⟩, ⟨?_, ?_⟩, ⟨?_, ?_⟩, ⟨?_, ?_⟩, ⟨?_, ?_⟩, ⟨?_, ?_⟩, ⟨?_, ?_⟩, ⟨?_, ?_⟩, ⟨?_, ?_⟩, ⟨?_, ?_⟩, ⟨?_, ?_⟩, ⟨?_, ?_⟩, ⟨?_, ?_⟩, ⟨?_, ?_⟩, ⟨?_, ?_⟩, ⟨?_, ?_⟩, ⟨?_, ?_⟩, ⟨?_, ?_⟩, ⟨?_, ?_⟩, ⟨?_, ?_⟩, ⟨?_, ?_⟩, ⟨?_, ?_⟩, ⟨?_, ?_⟩, trivial⟩
     ·exact fun v w1 w2 h k => h
     ·intro vals w1 hI hd
      refine StepG.plain rfl ?_
      unfold GStep
      go_wp2
      exact CK.refl _ _
     ·exact fun v w1 w2 h k => h
     ·intro vals w1 hI hd
      refine StepG.plain rfl ?_
      have e0 : vals 0 = _ := hd.1
      unfold GStep
      go_wp2
      exact CK.refl _ _
     ·exact fun v w1 w2 h k => h
     ·intro vals w1 hI hd
      refine StepG.go rfl (hd.1) ?_
      unfold GStep strip
      go_wp2
      exact CK.refl _ _
     ·exact fun v w1 w2 h k => h
     ·intro vals w1 hI hd
      refine StepG.plain rfl ?_
      have e1 : vals 1 = _ := hd.1
      have e2 : vals 2 = _ := hd.2.1
      unfold GStep
      go_wp2
      exact CK.refl _ _
     ·exact fun v w1 w2 h k => h
     ·intro vals w1 hI hd
      refine StepG.plain rfl ?_
      have e3 : vals 3 = _ := hd.1
      unfold GStep
      go_wp2
      exact CK.refl _ _
     ·exact fun v w1 w2 h k => h
     ·intro vals w1 hI hd
      refine StepG.go rfl (hd.1) ?_
      unfold GStep strip
      go_wp2
      exact CK.refl _ _
     ·exact fun v w1 w2 h k => h
     ·intro vals w1 hI hd
      refine StepG.plain rfl ?_
      have e4 : vals 4 = _ := hd.1
      have e5 : vals 5 = _ := hd.2.1
      unfold GStep
      go_wp2
      exact CK.refl _ _
     ·exact fun v w1 w2 h k => h
     ·intro vals w1 hI hd
      refine StepG.plain rfl ?_
      have e6 : vals 6 = _ := hd.1
      unfold GStep
      go_wp2
      exact CK.refl _ _
     ·exact fun v w1 w2 h k => h
     ·intro vals w1 hI hd
      refine StepG.go rfl (hd.1) ?_
      unfold GStep strip
      go_wp2
      exact CK.refl _ _
     ·exact fun v w1 w2 h k => h
     ·intro vals w1 hI hd
      refine StepG.go rfl (hd.1) ?_
      unfold GStep strip
      go_wp2
      exact CK.refl _ _
     ·exact fun v w1 w2 h k => h
     ·intro vals w1 hI hd
      refine StepG.go rfl (hd.1) ?_
      have e8 : vals 8 = _ := hd.2.1
      have e9 : vals 9 = _ := hd.2.2.1
      have HP := hid (equal_any _ _ K1 K1 w1 (HKA.out.ck hI) (HKB.out.ck hI))
      unfold GStep strip
      go_wp2_with (go_at_call 19; refine HP.out.mono ?_; rintro e w2 ⟨he, hb⟩; have he' := HD1.out e he; subst he'; clear he)
      exact CK.of_below hb hI.size
     ·exact fun v w1 w2 h k => h
     ·intro vals w1 hI hd
      refine StepG.plain rfl ?_
      have e7 : vals 7 = _ := hd.1
      have e10 : vals 10 = _ := hd.2.1
      unfold GStep
      go_wp2
      exact CK.refl _ _
     ·exact fun v w1 w2 h k => h
     ·intro vals w1 hI hd
      refine StepG.plain rfl ?_
      have e11 : vals 11 = _ := hd.1
      unfold GStep
      go_wp2
      exact CK.refl _ _
     ·exact fun v w1 w2 h k => h
     ·intro vals w1 hI hd
      refine StepG.go rfl (hd.1) ?_
      unfold GStep strip
      go_wp2
      exact CK.refl _ _
     ·exact fun v w1 w2 h k => h
     ·intro vals w1 hI hd
      refine StepG.go rfl (hd.1) ?_
      unfold GStep strip
      go_wp2
      exact CK.refl _ _
     ·exact fun v w1 w2 h k => h
     ·intro vals w1 hI hd
      refine StepG.go rfl (hd.1) ?_
      have e13 : vals 13 = _ := hd.2.1
      have e14 : vals 14 = _ := hd.2.2.1
      have HP := hid (equal_any _ _ K1 K3 w1 (HKA.out.ck hI) (HKC.out.ck hI))
      unfold GStep strip
      go_wp2_with (go_at_call 19; refine HP.out.mono ?_; rintro e w2 ⟨he, hb⟩; have he' := HD3.out e he; subst he'; clear he)
      exact CK.of_below hb hI.size
     ·exact fun v w1 w2 h k => h
     ·intro vals w1 hI hd
      refine StepG.go rfl (hd.1) ?_
      have HC := hid (HGV.out _ (HBL.out.trans (hI.below.mono HBL.out.size)))
      unfold GStep strip
      dsimp only
      go_simp
      refine wpList_load_blk (by rfl) 35 (.tmp 11) (by rfl) g11 35 (0, 0) vcs (by rfl) HC.out _ Tryz.underlying35 rfl 21 head_size HVL.out ?_
      go_wp2
      exact CK.refl _ _
     ·exact fun v w1 w2 h k => h.ck k
     ·intro vals w1 hI hd
      refine StepG.go rfl (hd.1) ?_
      have e16 : vals 16 = _ := hd.2.1
      have HP := hid (HBV.out w1 (HBL.out.trans (hI.below.mono HBL.out.size)))
      unfold GStep strip
      go_wp2_with (go_at_call 14; refine HP.out.mono ?_; rintro e w2 ⟨v, rfl, hv, hb⟩)
      first | exact CK.of_below hb hI.size | exact ⟨CK.of_below hb hI.size, hv⟩
     ·exact fun v w1 w2 h k => h.ck k
     ·intro vals w1 hI hd
      refine StepG.go rfl (hd.1) ?_
      unfold GStep strip
      go_wp2
      first | exact ⟨CK.new hI.size _, MagB.new hI.size⟩ | exact ⟨CK.of_below ((Below.refl w1.heap.size w1).alloc (Nat.le_refl _) _) hI.size, MagB.new hI.size⟩
     ·exact fun v w1 w2 h k => h.ck k
     ·intro vals w1 hI hd
      refine StepG.go rfl (hd.1) ?_
      have r : MagB wq.heap.size (vals 18) w1 := hd.2.1
      unfold GStep strip
      dsimp only
      generalize vals 18 = q at r ⊢
      obtain ⟨g, w2, rfl, hr, hk, hs⟩ := r.conv
      have HQ := hid (And.intro hk hs)
      clear hk hs r
      go_wp2
      first | exact ⟨HQ.out.1, HQ.out.2⟩ | exact HQ.out
     ·exact fun v w1 w2 h k => h
     ·intro vals w1 hI hd
      refine StepG.go rfl (hd.1) ?_
      unfold GStep strip
      go_wp2
      exact CK.refl _ _
     ·exact fun v w1 w2 h k => h.ck k
     ·intro vals w1 hI hd
      refine StepG.go rfl (hd.1) ?_
      have r : SB w1 (vals 19) magicB := hd.2.1
      have e : vals 20 = _ := hd.2.2.1
      have HS2 := hid (HSO.out w1 (HBL.out.trans (hI.below.mono HBL.out.size)))
      have HI := hid hI
      clear hI
      unfold GStep strip
      dsimp only
      generalize vals 19 = q at r ⊢
      have HR := hid r
      obtain ⟨A5, c5, rfl, -⟩ := r.form
      clear r
      go_wp2
      have hbz := (Below.refl w1.heap.size w1).alloc (Nat.le_refl _) (.cells #[.slice A5 magicB.length c5, .slice Ao other.length co] 22)
      exact ⟨CK.of_below hbz HI.out.size, SBs.two (heap_alloc_new w1 _) (HR.out.below hbz) (HS2.out.below hbz)⟩
     ·exact fun v w1 w2 h k => h.ck k
     ·intro vals w1 hI hd
      refine StepG.go rfl (hd.1) ?_
      have r : SBs w1 (vals 21) [magicB, other] := hd.2.1
      unfold GStep strip
      dsimp only
      generalize vals 21 = q at r ⊢
      have HP := hid (HJN.out q w1 r)
      obtain ⟨A5, c5, rfl, -⟩ := r
      go_wp2_with (go_at_call 17; refine HP.out.mono ?_; rintro e w2 ⟨v, bb, rfl, hv, hb⟩)
      first | exact CK.of_below hb hI.size | exact ⟨CK.of_below hb hI.size, hv.sb⟩
     ·exact fun v w1 w2 h k => h
     ·intro vals w1 hI hd
      refine StepG.go rfl (hd.1) ?_
      have r : SB w1 (vals 17) br := hd.2.1
      have r2 : SB w1 (vals 22) away := hd.2.2.1
      unfold GStep strip
      dsimp only
      generalize vals 17 = q at r ⊢
      generalize vals 22 = q2 at r2 ⊢
      have HP := hid (equal_any _ _ br away w1 r r2)
      obtain ⟨A5, c5, rfl, -⟩ := r.form
      obtain ⟨A6, c6, rfl, -⟩ := r2.form
      clear r r2
      go_wp2_with (go_at_call 19; refine HP.out.mono ?_; rintro e w2 ⟨rfl, hb⟩)
      exact CK.of_below hb hI.size
     ·exact fun v w1 w2 h k => h
     ·intro vals w1 hI hd
      refine StepG.go rfl (hd.1) ?_
      have e15 : vals 15 = _ := hd.2.1
      have e23 : vals 23 = _ := hd.2.2.1
      unfold GStep strip
      go_wp2
      exact CK.refl _ _
     ·exact fun v w1 w2 h k => h
     ·intro vals w1 hI hd
      refine StepG.plain rfl ?_
      have e12 : vals 12 = _ := hd.1
      have e24 : vals 24 = _ := hd.2.1
      try rw [bool_same] at e24
      unfold GStep
      go_wp2
      exact CK.refl _ _
     ·exact fun v w1 w2 h k => h
     ·intro vals w1 hI hd
      refine StepG.plain rfl ?_
      have e25 : vals 25 = _ := hd.1
      unfold GStep
      go_wp2
      exact CK.refl _ _
     ·exact fun v w1 w2 h k => h
     ·intro vals w1 hI hd
      refine StepG.go rfl (hd.1) ?_
      have HP := hid (known_any N w1 (HGL.out _ (HBL.out.trans (hI.below.mono HBL.out.size))))
      unfold GStep strip
      go_wp2_with (go_at_call 11; refine HP.out.mono ?_; rintro e w2 ⟨rfl, hb⟩)
      exact CK.of_below hb hI.size
     ·exact fun v w1 w2 h k => h
     ·intro vals w1 hI hd
      refine StepG.plain rfl ?_
      have e26 : vals 26 = _ := hd.1
      have e27 : vals 27 = _ := hd.2.1
      unfold GStep
      go_wp2
      exact CK.refl _ _
    ·intro vals w18 hI hR
     simp only [List.drop_succ_cons, List.drop_zero, List.take_succ_cons, List.take_zero, fillAll]
     obtain ⟨-, -, -, -, -, -, -, -, -, -, -, -, -, -, -, -, -, -, -, -, -, -, -, -, -, -, -, -, r28, -⟩ := hR
     have e28 : vals 28 = _ := r28
     rw [e28]
     have HBE := hid (HBL.out.trans (hI.below.mono HBL.out.size))
     clear hI r28 e28
     try dsimp only
     go_simp
     go_wp2_with fail
     go_ret
     exact ⟨rfl, HBW.out _ HBE.out⟩
