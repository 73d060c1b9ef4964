import Derived.Test.YtglhcpmaiogdjaaGreatDoorK31
import Derived.Test.YtglhcpmaiogdjaaGreatDoorK28
set_option maxRecDepth 100000
set_option maxHeartbeats 16000000
set_option linter.all false
namespace Go.Proofs.YtglhcpmaiogdjaaGreatDoor
open Go.Lib (hid)
open Go.RowKit
theorem clientkey_any (N : Nat) (m res : LMsg) (ca cb : List Value) (vo vm : Value) (other method : Bytes) (w : World) (hG : Gl N w) (hA : LM w m ca) (hB : LM w res cb) (hO : SB w vo other) (hM : SB w vm method) (IA : MIn N m) (IB : MIn N res) (hol : other.length ≤ 1048576) (hml : method.length ≤ 1048576) (b1 b2 : Bool) (rm : m.resp = b1) (rr : res.resp = b2) :
  Calls Tryz.prog 3 #[.agg ca.toArray, .agg cb.toArray, vo, vm] w (ClientKeyOk w) := by
 obtain ⟨Ao, co, rfl, -⟩ := hO.form
 obtain ⟨Ad, cd, rfl, -⟩ := hM.form
 have hlx := hA.len19
 have hly := hB.len19
 obtain ⟨v1, v15, Ax, cx, Am, cm, e0, e1, e15, rfl, rfl, hsm, hsh⟩ := hA.parts
 obtain ⟨u1, u15, Ay, cy, An, cn, d0, d1, d15, rfl, rfl, hsn, hsi⟩ := hB.parts
 rw [rm] at e0
 rw [rr] at d0
 obtain ⟨x0, x1, x2, x3, x4, x5, x6, x7, x8, x9, x10, x11, x12, x13, x14, x15, x16, x17, x18, rfl⟩ := list19 hlx
 obtain ⟨y0, y1, y2, y3, y4, y5, y6, y7, y8, y9, y10, y11, y12, y13, y14, y15, y16, y17, y18, rfl⟩ := list19 hly
 obtain rfl : x0 = .bool b1 := by simpa using e0
 obtain rfl : x1 = .slice Am m.method.length cm := by simpa using e1
 obtain rfl : x15 = .slice Ax m.heads.length cx := by simpa using e15
 obtain rfl : y0 = .bool b2 := by simpa using d0
 clear e0 e1 e15 d0 d1 d15 hlx hly hsn hsi
 obtain ⟨wb, hwb⟩ : ∃ wb, wb = (w.alloc (.cells #[.bool b1, .slice Am m.method.length cm, x2, x3, x4, x5, x6, x7, x8, x9, x10, x11, x12, x13, x14, .slice Ax m.heads.length cx, x16, x17, x18] 28)).alloc (.cells #[.bool b2, y1, y2, y3, y4, y5, y6, y7, y8, y9, y10, y11, y12, y13, y14, y15, y16, y17, y18] 28) := ⟨_, rfl⟩
 have HB0 := hid (show Below w.heap.size w wb by rw [hwb]; exact below_two _ _)
 have HSZ := hid (show wb.heap.size = w.heap.size + 2 by rw [hwb]; simp)
 have HX1 := hid (show ∀ wx, Below wb.heap.size wb wx → wx.heap[w.heap.size]? = some (.cells ([.bool b1, .slice Am m.method.length cm, x2, x3, x4, x5, x6, x7, x8, x9, x10, x11, x12, x13, x14, .slice Ax m.heads.length cx, x16, x17, x18] : List Value).toArray 28 (0, 0)) by
  intro wx h
  rw [h.block _ (by have := HSZ.out; omega), hwb]
  exact ((Below.refl _ _).alloc (Nat.le_refl _) _).block w.heap.size (by simp) |>.trans (heap_alloc_new w _))
 have HX2 := hid (show ∀ wx, Below wb.heap.size wb wx → wx.heap[w.heap.size + 1]? = some (.cells ([.bool b2, y1, y2, y3, y4, y5, y6, y7, y8, y9, y10, y11, y12, y13, y14, y15, y16, y17, y18] : List Value).toArray 28 (0, 0)) by
  intro wx h
  rw [h.block _ (by have := HSZ.out; omega), hwb]
  have := heap_alloc_new (w.alloc (.cells #[.bool b1, .slice Am m.method.length cm, x2, x3, x4, x5, x6, x7, x8, x9, x10, x11, x12, x13, x14, .slice Ax m.heads.length cx, x16, x17, x18] 28)) (.cells #[.bool b2, y1, y2, y3, y4, y5, y6, y7, y8, y9, y10, y11, y12, y13, y14, y15, y16, y17, y18] 28)
  rwa [World.size_alloc] at this)
 have HBW := hid (show ∀ wx, Below wb.heap.size wb wx → Below w.heap.size w wx from fun wx h => HB0.out.trans (h.mono (by have := HSZ.out; omega)))
 have HLA := hid (show ∀ wx, Below wb.heap.size wb wx → LM wx m [.bool b1, .slice Am m.method.length cm, x2, x3, x4, x5, x6, x7, x8, x9, x10, x11, x12, x13, x14, .slice Ax m.heads.length cx, x16, x17, x18] from fun wx h => hA.below (HBW.out wx h))
 have HLB := hid (show ∀ wx, Below wb.heap.size wb wx → LM wx res [.bool b2, y1, y2, y3, y4, y5, y6, y7, y8, y9, y10, y11, y12, y13, y14, y15, y16, y17, y18] from fun wx h => hB.below (HBW.out wx h))
 have HGL := hid (show ∀ wx, Below wb.heap.size wb wx → Gl N wx from fun wx h => hG.below (HBW.out wx h) hG.le)
 have HSO := hid (show ∀ wx, Below wb.heap.size wb wx → SB wx (.slice Ao other.length co) other from fun wx h => hO.below (HBW.out wx h))
 have HSM := hid (show ∀ wx, Below wb.heap.size wb wx → SB wx (.slice Ad method.length cd) method from fun wx h => hM.below (HBW.out wx h))
 have HSN := hid (show ∀ wx, Below wb.heap.size wb wx → SB wx (.slice Am m.method.length cm) m.method from fun wx h => hsm.below (HBW.out wx h))
 have HSH := hid (show ∀ wx, Below wb.heap.size wb wx → SHs wx (.slice Ax m.heads.length cx) m.heads from fun wx h => hsh.below (HBW.out wx h))
 have HA := hid IA
 have HB := hid IB
 have HOL := hid (And.intro hol hml)
 have HBL := hid (Below.refl wb.heap.size wb)
 have ho1 : (other.length : Int) ≤ 1048576 := by omega
 have hm1 : (method.length : Int) ≤ 1048576 := by omega
 clear hG hA hB hO hM IA IB hol hml rm rr hsm hsh
 go_enter Tryz.func3, Tryz.ntmps3
 go_upto_region 1 with fail
 rw [← hwb]
 generalize Value.agg #[.bool b1, .slice Am m.method.length cm, x2, x3, x4, x5, x6, x7, x8, x9, x10, x11, x12, x13, x14, .slice Ax m.heads.length cx, x16, x17, x18] = arg0
 generalize Value.agg #[.bool b2, y1, y2, y3, y4, y5, y6, y7, y8, y9, y10, y11, y12, y13, y14, y15, y16, y17, y18] = arg1
 clear hwb
 go_upto_if 40 with (first
  | (refine wpList_load_any_w (by rfl) 28 (.tmp 4) (by rfl) ⟨w.heap.size, 0, none⟩ (by rfl) _ _ (row_cells (HX1.out _ HBL.out)) Tryz.underlying28 (by rfl) (by rw [msg_size]; rfl) ?_)
  | (go_at_call_of 6 x2; refine (fits1_any m _ _ (HLA.out _ HBL.out)).mono ?_; rintro e wn ⟨⟨b, rfl⟩, hbn⟩; have HBL0 := HBL; clear HBL; have HBL := hid (HBL0.out.trans (hbn.mono HBL0.out.size)); clear HBL0 hbn; cases b)
  | (refine wpList_load_any_w (by rfl) 28 (.tmp 5) (by rfl) ⟨(w.heap.size + 1), 0, none⟩ (by rfl) _ _ (row_cells (HX2.out _ HBL.out)) Tryz.underlying28 (by rfl) (by rw [msg_size]; rfl) ?_)
  | (go_at_call_of 6 y2; refine (fits1_any res _ _ (HLB.out _ HBL.out)).mono ?_; rintro e wn ⟨⟨b, rfl⟩, hbn⟩; have HBL0 := HBL; clear HBL; have HBL := hid (HBL0.out.trans (hbn.mono HBL0.out.size)); clear HBL0 hbn; cases b)
  | fail)
 ·go_wp2_with fail
  go_ret
  exact ⟨rfl, HBW.out _ HBL.out⟩
 ·go_wp2_with fail
  go_ret
  exact ⟨rfl, HBW.out _ HBL.out⟩
 have c0 := row_at (HX1.out _ HBL.out) 0 _ rfl
 cases b1 <;> cases b2 <;> go_upto_if 76 with (first
  | (refine wpList_load_any_w (by rfl) 28 (.tmp 4) (by rfl) ⟨w.heap.size, 0, none⟩ (by rfl) _ _ (row_cells (HX1.out _ HBL.out)) Tryz.underlying28 (by rfl) (by rw [msg_size]; rfl) ?_)
  | (go_at_call_of 7 x2; refine (iscall_any m _ _ (HLA.out _ HBL.out) HA.out.bd).mono ?_; rintro e wn ⟨⟨b, rfl, hb⟩, hbn⟩; have HBL0 := HBL; clear HBL; have HBL := hid (HBL0.out.trans (hbn.mono HBL0.out.size)); clear HBL0 hbn; have c0 := row_at (HX1.out _ HBL.out) 0 _ rfl; have HRA := hid hb; clear hb; cases b)
  | (refine wpList_load_any_w (by rfl) 28 (.tmp 5) (by rfl) ⟨(w.heap.size + 1), 0, none⟩ (by rfl) _ _ (row_cells (HX2.out _ HBL.out)) Tryz.underlying28 (by rfl) (by rw [msg_size]; rfl) ?_)
  | (go_at_call_of 7 y2; refine (iscall_any res _ _ (HLB.out _ HBL.out) HB.out.bd).mono ?_; rintro e wn ⟨⟨b, rfl, hb⟩, hbn⟩; have HBL0 := HBL; clear HBL; have HBL := hid (HBL0.out.trans (hbn.mono HBL0.out.size)); clear HBL0 hbn; have d0 := row_at (HX2.out _ HBL.out) 0 _ rfl; have HRB := hid hb; clear hb; cases b)
  | (go_at_call_of 8 Ao; refine (isword_says _ other _ (HSO.out _ HBL.out)).mono ?_; rintro e wn ⟨⟨b, rfl, hb⟩, hbn⟩; have HBL0 := HBL; clear HBL; have HBL := hid (HBL0.out.trans (hbn.mono HBL0.out.size)); clear HBL0 hbn; have HWO := hid hb; clear hb; cases b)
  | (go_at_call_of 8 Ad; refine (isword_says _ method _ (HSM.out _ HBL.out)).mono ?_; rintro e wn ⟨⟨b, rfl, hb⟩, hbn⟩; have HBL0 := HBL; clear HBL; have HBL := hid (HBL0.out.trans (hbn.mono HBL0.out.size)); clear HBL0 hbn; have c1 := row_at (HX1.out _ HBL.out) 1 _ rfl; have HWM := hid hb; clear hb; cases b)
  | (go_at_call_of 9 Am; refine (is_ex _ m.method _ _ (HSN.out _ HBL.out) (by show (3 : Nat) ≤ _; omega)).mono ?_; rintro e wn ⟨⟨b, rfl, -⟩, hbn⟩; have HBL0 := HBL; clear HBL; have HBL := hid (HBL0.out.trans (hbn.mono HBL0.out.size)); clear HBL0 hbn; cases b)
  | (go_at_call_of 9 Ad; refine (is_ex _ method _ _ (HSM.out _ HBL.out) (by show (3 : Nat) ≤ _; omega)).mono ?_; rintro e wn ⟨⟨b, rfl, hb⟩, hbn⟩; have HBL0 := HBL; clear HBL; have HBL := hid (HBL0.out.trans (hbn.mono HBL0.out.size)); clear HBL0 hbn; have HNA := hid hb; clear hb; cases b)
  | fail)
 any_goals
  have HK := hid (known_any N _ (HGL.out _ HBL.out))
  go_wp2_with (go_at_call 10; refine HK.out.mono ?_; rintro e w9 ⟨rfl, hb⟩)
  go_ret
  exact ⟨rfl, HBW.out _ (HBL.out.trans (hb.mono HBL.out.size))⟩
 obtain ⟨via, cq, pv, pc, hf⟩ := CallF.of HA.out (HRA.out (by first | rfl | trivial))
 obtain ⟨via2, cq2, qv, qc, hf2⟩ := CallF.of HB.out (HRB.out (by first | rfl | trivial))
 have HF := hid hf
 have HF2 := hid hf2
 have HWO' := hid (HWO.out (by first | rfl | trivial))
 have HWM' := hid (HWM.out (by first | rfl | trivial))
 have HNA' := hid (HNA.out (by first | rfl | trivial))
 clear hf hf2 c0 c1 d0 HWO HWM HNA HRA HRB
 have HFI := hid (firsts_any _ m.heads 9 _ (HSH.out _ HBL.out) HF.out.sorts HF.out.p.many)
 have c15 := row_at (HX1.out _ HBL.out) 15 _ rfl
 go_upto_region 6 with (first
  | (go_at_call 11; refine HFI.out.mono ?_; rintro e wf ⟨vcs, rfl, hx, hbn⟩; have HXV := hid hx; have HXL := hid (hx.lh (Sub.of_below hbn)); have HBL0 := HBL; clear HBL; have HBL := hid (HBL0.out.trans (hbn.mono HBL0.out.size)); clear HBL0 hbn; clear hx)
  | (refine wpList_store_blk (by rfl) 35 (.tmp 10) (.tmp 83) (by rfl) wf.heap.size 35 zeroH vcs (by rfl) (by rfl) (by rw [HXV.out.len]; rfl) (heap_alloc_new wf _) 21 head_size HXV.out.len HXV.out.one ?_; intro W5 hst; have HST := hid hst; clear hst)
  | fail)
 clear c15
 obtain ⟨g10, hgg⟩ : ∃ g10, g10 = wf.heap.size := ⟨_, rfl⟩
 have hbn : Below wf.heap.size wf W5 := (((Below.refl _ wf).alloc (Nat.le_refl _) _).trans HST.out.below)
 have HLV := hid (show LH W5 via vcs by have h := HXL.out.below hbn; rw [HF.out.f9] at h; exact h)
 have HGV := hid (show W5.heap[g10]? = some (.cells vcs.toArray 35 (0, 0)) by rw [hgg]; exact HST.out.blk)
 have HBL0 := HBL; clear HBL; have HBL := hid (HBL0.out.trans (hbn.mono HBL0.out.size)); clear HBL0 hbn
 rw [← hgg]
 clear HST HXV HXL hgg HFI
 have HFI := hid (firsts_any _ m.heads 5 _ (HSH.out _ HBL.out) HF.out.sorts HF.out.p.many)
 have c15 := row_at (HX1.out _ HBL.out) 15 _ rfl
 go_upto_region 7 with (first
  | (go_at_call 11; refine HFI.out.mono ?_; rintro e wf ⟨ccs, rfl, hx, hbn⟩; have HXV := hid hx; have HLV := hid (HLV.out.below (hbn.mono (Nat.le_refl _))); have HGV := hid ((hbn.block _ (heap_lt HGV.out)).trans HGV.out); have HXL := hid (hx.lh (Sub.of_below hbn)); have HBL0 := HBL; clear HBL; have HBL := hid (HBL0.out.trans (hbn.mono HBL0.out.size)); clear HBL0 hbn; clear hx)
  | (refine wpList_store_blk (by rfl) 35 (.tmp 12) (.tmp 89) (by rfl) wf.heap.size 35 zeroH ccs (by rfl) (by rfl) (by rw [HXV.out.len]; rfl) (heap_alloc_new wf _) 21 head_size HXV.out.len HXV.out.one ?_; intro W6 hst; have HST := hid hst; clear hst)
  | fail)
 clear c15
 obtain ⟨g12, hgg⟩ : ∃ g12, g12 = wf.heap.size := ⟨_, rfl⟩
 have hbn : Below wf.heap.size wf W6 := (((Below.refl _ wf).alloc (Nat.le_refl _) _).trans HST.out.below)
 have HLV := hid (HLV.out.below hbn)
 have HGV := hid ((hbn.block _ (heap_lt HGV.out)).trans HGV.out)
 have HLC := hid (show LH W6 cq ccs by have h := HXL.out.below hbn; rw [HF.out.f5] at h; exact h)
 have HGC := hid (show W6.heap[g12]? = some (.cells ccs.toArray 35 (0, 0)) by rw [hgg]; exact HST.out.blk)
 have HBL0 := HBL; clear HBL; have HBL := hid (HBL0.out.trans (hbn.mono HBL0.out.size)); clear HBL0 hbn
 rw [← hgg]
 clear HST HXV HXL hgg HFI
 obtain ⟨vt, hvt, hts⟩ := HLC.out.text_at
 obtain ⟨At, ct, rfl, -⟩ := hts.form
 obtain ⟨z0, z1, z2, z3, z4, z5, z6, z7, z8, z9, z10, z11, z12, z13, z14, z15, z16, z17, z18, z19, z20, rfl⟩ := list21 HLC.out.len
 obtain rfl : z2 = .slice At cq.text.length ct := by simpa using hvt
 have HUP := hid (show ∀ wx, Below W6.heap.size W6 wx → Below wb.heap.size wb wx from fun wx h => HBL.out.trans (h.mono HBL.out.size))
 have HX1 := hid (fun wx (h : Below W6.heap.size W6 wx) => HX1.out wx (HUP.out wx h))
 have HX2 := hid (fun wx (h : Below W6.heap.size W6 wx) => HX2.out wx (HUP.out wx h))
 have HBW := hid (fun wx (h : Below W6.heap.size W6 wx) => HBW.out wx (HUP.out wx h))
 have HLA := hid (fun wx (h : Below W6.heap.size W6 wx) => HLA.out wx (HUP.out wx h))
 have HLB := hid (fun wx (h : Below W6.heap.size W6 wx) => HLB.out wx (HUP.out wx h))
 have HGL := hid (fun wx (h : Below W6.heap.size W6 wx) => HGL.out wx (HUP.out wx h))
 have HSO := hid (fun wx (h : Below W6.heap.size W6 wx) => HSO.out wx (HUP.out wx h))
 have HSM := hid (fun wx (h : Below W6.heap.size W6 wx) => HSM.out wx (HUP.out wx h))
 have HLV := hid (show ∀ wx, Below W6.heap.size W6 wx → LH wx via vcs from fun wx h => HLV.out.below (h.mono (Nat.le_refl _)))
 have HLC := hid (show ∀ wx, Below W6.heap.size W6 wx → LH wx cq [z0, z1, .slice At cq.text.length ct, z3, z4, z5, z6, z7, z8, z9, z10, z11, z12, z13, z14, z15, z16, z17, z18, z19, z20] from fun wx h => HLC.out.below h)
 have HTX := hid (show ∀ wx, Below W6.heap.size W6 wx → SB wx (.slice At cq.text.length ct) cq.text from fun wx h => hts.below h)
 have HGV := hid (show ∀ wx, Below W6.heap.size W6 wx → wx.heap[g10]? = some (.cells vcs.toArray 35 (0, 0)) from fun wx h => by rw [h.block _ (heap_lt HGV.out)]; exact HGV.out)
 have HGC := hid (show ∀ wx, Below W6.heap.size W6 wx → wx.heap[g12]? = some (.cells ([z0, z1, .slice At cq.text.length ct, z3, z4, z5, z6, z7, z8, z9, z10, z11, z12, z13, z14, z15, z16, z17, z18, z19, z20] : List Value).toArray 35 (0, 0)) from fun wx h => by rw [h.block _ (heap_lt HGC.out)]; exact HGC.out)
 have HVL := hid (HLV.out W6 (Below.refl _ _)).len
 clear HBL hvt hts
 have HBL := hid (Below.refl W6.heap.size W6)
 by_cases hack : cq.text = ackB
 ·have HD := hid (show ∀ e : Ending, e = .returned (.bool (decide (cq.text = (⟨#[65, 67, 75]⟩ : ByteArray).data.toList))) → e = .returned (.bool true) from fun e h => by rw [h]; exact ret_bool (decide_eq_true hack))
  clear hack
  refine wp_region_growG 12 177 (CK W6.heap.size) (IW W6)
   (fun i v w' => match i with
    | 0 => v = .pointer (some ⟨g12, 2, none⟩)
    | 1 => v = .slice At cq.text.length ct
    | 2 => v = .bool true
    | 3 => v = .bool true
    | 4 => True
    | 5 => True
    | 6 => True
    | 7 => True
    | 8 => True
    | 9 => True
    | 10 => True
    | 11 => True
    | _ => True)
   [[], [0], [1], [2], [3], [3, 4], [3], [3], [3, 7], [3], [3, 5, 6, 8, 9], [3, 10]] rfl (by kernel_rfl) (by kernel_rfl) (by kernel_rfl) (by first | (simp; done) | exact Nat.le_refl _) (fun w => CK.refl _ w) (fun _ _ => IW.step) ?_ ?_ ?_ ?_
  ·intro j hj v w'
   match j, hj with
   | j + 12, _ => trivial
  ·exact CK.of_below (Below.refl _ _).drew (Nat.le_refl _)
  ·simp only [List.take_succ_cons, List.take_zero, fillAll]
   refine ⟨⟨?_, ?_⟩, ⟨?_, ?_⟩, ⟨?_, ?_⟩, ⟨?_, ?_⟩, ⟨?_, ?_⟩, ⟨?_, ?_⟩, ⟨?_, ?_⟩, ⟨?_, ?_⟩, ⟨?_, ?_⟩, ⟨?_, ?_⟩, ⟨?_, ?_⟩, ⟨?_, ?_⟩, trivial⟩
   ·exact fun v w1 w2 h k => h
   ·intro vals w1 hI hd
    refine StepG.plain rfl ?_
    unfold GStep
    go_wp2
    exact CK.refl _ _
   ·exact fun v w1 w2 h k => h
   ·intro vals w1 hI hd
    refine StepG.plain rfl ?_
    have e0 : vals 0 = _ := hd.1
    have c2 := row_at (HGC.out _ (HBL.out.trans (hI.below.mono HBL.out.size))) 2 _ rfl
    unfold GStep
    go_wp2
    exact CK.refl _ _
   ·exact fun v w1 w2 h k => h
   ·intro vals w1 hI hd
    refine StepG.plain rfl ?_
    have e1 : vals 1 = _ := hd.1
    have HP := hid (is_any _ cq.text ⟨#[65, 67, 75]⟩ w1 (HTX.out _ (HBL.out.trans (hI.below.mono HBL.out.size))) (by show (3 : Nat) ≤ _; omega))
    unfold GStep
    go_wp2_with (go_at_call 9; refine HP.out.mono ?_; rintro e w2 ⟨he, hb⟩; have he' := HD.out e he; subst he'; clear he)
    exact CK.of_below hb hI.size
   ·exact fun v w1 w2 h k => h
   ·intro vals w1 hI hd
    refine StepG.plain rfl ?_
    have e2 : vals 2 = _ := hd.1
    unfold GStep
    go_wp2
    exact CK.refl _ _
   ·exact fun v w1 w2 h k => h
   ·intro vals w1 hI hd
    exact StepG.skip rfl (hd.1) trivial
   ·exact fun v w1 w2 h k => h
   ·intro vals w1 hI hd
    exact StepG.skip rfl (hd.1) trivial
   ·exact fun v w1 w2 h k => h
   ·intro vals w1 hI hd
    exact StepG.skip rfl (hd.1) trivial
   ·exact fun v w1 w2 h k => h
   ·intro vals w1 hI hd
    exact StepG.skip rfl (hd.1) trivial
   ·exact fun v w1 w2 h k => h
   ·intro vals w1 hI hd
    exact StepG.skip rfl (hd.1) trivial
   ·exact fun v w1 w2 h k => h
   ·intro vals w1 hI hd
    exact StepG.skip rfl (hd.1) trivial
   ·exact fun v w1 w2 h k => h
   ·intro vals w1 hI hd
    exact StepG.skip rfl (hd.1) trivial
   ·exact fun v w1 w2 h k => h
   ·intro vals w1 hI hd
    exact StepG.skip rfl (hd.1) trivial
  ·intro vals w7 hI hR
   simp only [List.drop_succ_cons, List.drop_zero, List.take_succ_cons, List.take_zero, fillAll]
   obtain ⟨-, -, -, r3, -⟩ := hR
   have e3 : vals 3 = _ := r3
   rw [e3]
   clear HBL r3 e3
   have HBL := hid hI.below
   clear hI
   have HK := hid (known_any N _ (HGL.out _ HBL.out))
   go_wp2_with (go_at_call 10; refine HK.out.mono ?_; rintro e w9 ⟨rfl, hb⟩)
   go_ret
   exact ⟨rfl, HBW.out _ (HBL.out.trans (hb.mono HBL.out.size))⟩
 have HD := hid (show ∀ e : Ending, e = .returned (.bool (decide (cq.text = (⟨#[65, 67, 75]⟩ : ByteArray).data.toList))) → e = .returned (.bool false) from fun e h => by rw [h]; exact ret_bool (decide_eq_false hack))
 have HACK := hid hack
 clear hack
 refine wp_region_growG 12 177 (CK W6.heap.size) (IW W6)
  (fun i v w' => match i with
   | 0 => v = .pointer (some ⟨g12, 2, none⟩)
   | 1 => v = .slice At cq.text.length ct
   | 2 => v = .bool false
   | 3 => v = .bool false
   | 4 => v = .agg vcs.toArray
   | 5 => SB w' v (paramV via.params branchK)
   | 6 => v = .slice Ao other.length co
   | 7 => v = .pointer (some ⟨g12, 2, none⟩)
   | 8 => v = .slice At cq.text.length ct
   | 9 => v = .slice Ad method.length cd
   | 10 => SBs w' v [paramV via.params branchK, other, cq.text, method]
   | 11 => ∃ b : Bool, v = .bool b
   | _ => True)
  [[], [0], [1], [2], [3], [3, 4], [3], [3], [3, 7], [3], [3, 5, 6, 8, 9], [3, 10]] rfl (by kernel_rfl) (by kernel_rfl) (by kernel_rfl) (by first | (simp; done) | exact Nat.le_refl _) (fun w => CK.refl _ w) (fun _ _ => IW.step) ?_ ?_ ?_ ?_
 ·intro j hj v w'
  match j, hj with
  | j + 12, _ => trivial
 ·exact CK.of_below (Below.refl _ _).drew (Nat.le_refl _)
 ·simp only [List.take_succ_cons, List.take_zero, fillAll]
  refine ⟨⟨?_, ?_⟩, ⟨?_, ?_⟩, ⟨?_, ?_⟩, ⟨?_, ?_⟩, ⟨?_, ?_⟩, ⟨?_, ?_⟩, ⟨?_, ?_⟩, ⟨?_, ?_⟩, ⟨?_, ?_⟩, ⟨?_, ?_⟩, ⟨?_, ?_⟩, ⟨?_, ?_⟩, trivial⟩
  ·exact fun v w1 w2 h k => h
  ·intro vals w1 hI hd
   refine StepG.plain rfl ?_
   unfold GStep
   go_wp2
   exact CK.refl _ _
  ·exact fun v w1 w2 h k => h
  ·intro vals w1 hI hd
   refine StepG.plain rfl ?_
   have e0 : vals 0 = _ := hd.1
   have c2 := row_at (HGC.out _ (HBL.out.trans (hI.below.mono HBL.out.size))) 2 _ rfl
   unfold GStep
   go_wp2
   exact CK.refl _ _
  ·exact fun v w1 w2 h k => h
  ·intro vals w1 hI hd
   refine StepG.plain rfl ?_
   have e1 : vals 1 = _ := hd.1
   have HP := hid (is_any _ cq.text ⟨#[65, 67, 75]⟩ w1 (HTX.out _ (HBL.out.trans (hI.below.mono HBL.out.size))) (by show (3 : Nat) ≤ _; omega))
   unfold GStep
   go_wp2_with (go_at_call 9; refine HP.out.mono ?_; rintro e w2 ⟨he, hb⟩; have he' := HD.out e he; subst he'; clear he)
   exact CK.of_below hb hI.size
  ·exact fun v w1 w2 h k => h
  ·intro vals w1 hI hd
   refine StepG.plain rfl ?_
   have e2 : vals 2 = _ := hd.1
   unfold GStep
   go_wp2
   exact CK.refl _ _
  ·exact fun v w1 w2 h k => h
  ·intro vals w1 hI hd
   refine StepG.go rfl (hd.1) ?_
   have HC := hid (HGV.out _ (HBL.out.trans (hI.below.mono HBL.out.size)))
   unfold GStep strip
   dsimp only
   go_simp
   refine wpList_load_blk (by rfl) 35 (.tmp 10) (by rfl) g10 35 (0, 0) vcs (by rfl) HC.out _ Tryz.underlying35 rfl 21 head_size HVL.out ?_
   go_wp2
   exact CK.refl _ _
  ·exact fun v w1 w2 h k => h.ck k
  ·intro vals w1 hI hd
   refine StepG.go rfl (hd.1) ?_
   have e4 : vals 4 = _ := hd.2.1
   have HP := hid (branch_any via vcs w1 (HLV.out _ (HBL.out.trans (hI.below.mono HBL.out.size))))
   unfold GStep strip
   go_wp2_with (go_at_call 13; refine HP.out.mono ?_; rintro e w2 ⟨v, rfl, hv, hb⟩)
   first | exact CK.of_below hb hI.size | exact ⟨CK.of_below hb hI.size, hv⟩
  ·exact fun v w1 w2 h k => h
  ·intro vals w1 hI hd
   refine StepG.go rfl (hd.1) ?_
   unfold GStep strip
   go_wp2
   exact CK.refl _ _
  ·exact fun v w1 w2 h k => h
  ·intro vals w1 hI hd
   refine StepG.go rfl (hd.1) ?_
   unfold GStep strip
   go_wp2
   exact CK.refl _ _
  ·exact fun v w1 w2 h k => h
  ·intro vals w1 hI hd
   refine StepG.go rfl (hd.1) ?_
   have e7 : vals 7 = _ := hd.2.1
   have c2 := row_at (HGC.out _ (HBL.out.trans (hI.below.mono HBL.out.size))) 2 _ rfl
   unfold GStep strip
   go_wp2
   exact CK.refl _ _
  ·exact fun v w1 w2 h k => h
  ·intro vals w1 hI hd
   refine StepG.go rfl (hd.1) ?_
   unfold GStep strip
   go_wp2
   exact CK.refl _ _
  ·exact fun v w1 w2 h k => h.ck k
  ·intro vals w1 hI hd
   refine StepG.go rfl (hd.1) ?_
   obtain ⟨-, r5, r6, r8, r9, -⟩ := hd
   have e6 : vals 6 = _ := r6
   have e8 : vals 8 = _ := r8
   have e9 : vals 9 = _ := r9
   have HI := hid hI
   have HU := hid (HBL.out.trans (hI.below.mono HBL.out.size))
   clear hI r6 r8 r9
   unfold GStep strip
   dsimp only
   generalize vals 5 = q5 at r5 ⊢
   have HR5 := hid r5
   obtain ⟨A5, c5, rfl, -⟩ := r5.form
   clear r5
   go_wp2
   have hbz := (Below.refl w1.heap.size w1).alloc (Nat.le_refl _) (.cells #[.slice A5 (paramV via.params branchK).length c5, .slice Ao other.length co, .slice At cq.text.length ct, .slice Ad method.length cd] 22)
   exact ⟨CK.of_below hbz HI.out.size, SBs.four (heap_alloc_new w1 _) (HR5.out.below hbz) ((HSO.out _ HU.out).below hbz) ((HTX.out _ HU.out).below hbz) ((HSM.out _ HU.out).below hbz)⟩
  ·exact fun v w1 w2 h k => h
  ·intro vals w1 hI hd
   refine StepG.go rfl (hd.1) ?_
   obtain ⟨-, r10, -⟩ := hd
   have HP := hid (issplit_any _ _ w1 r10)
   obtain ⟨A10, c10, h10, -⟩ := r10
   have e10 : vals 10 = _ := h10
   rw [h10] at HP
   unfold GStep strip
   go_wp2_with (go_at_call 12; refine HP.out.mono ?_; rintro e w2 ⟨⟨b, rfl⟩, hb⟩)
   first | exact CK.of_below hb hI.size | exact ⟨CK.of_below hb hI.size, ⟨_, rfl⟩⟩ | exact ⟨CK.of_below hb hI.size, b, rfl⟩
 ·intro vals w7 hI hR
  simp only [List.drop_succ_cons, List.drop_zero, List.take_succ_cons, List.take_zero, fillAll]
  obtain ⟨-, -, -, r3, -, -, -, -, -, -, -, r11, -⟩ := hR
  have e3 : vals 3 = _ := r3
  rw [e3]
  generalize vals 11 = q11 at r11 ⊢
  obtain ⟨b, rfl⟩ := r11
  clear HBL r3 e3
  have HBL := hid hI.below
  clear hI
  cases b with
  | true =>
   have HK := hid (known_any N _ (HGL.out _ HBL.out))
   go_wp2_with (go_at_call 10; refine HK.out.mono ?_; rintro e w9 ⟨rfl, hb⟩)
   go_ret
   exact ⟨rfl, HBW.out _ (HBL.out.trans (hb.mono HBL.out.size))⟩
  | false =>
  go_upto_region 9 with fail
  refine wp_region_growG 6 177 (CK w7.heap.size) (IW w7)
   (fun i v w' => match i with
    | 0 => v = .agg #[.bool true, y1, y2, y3, y4, y5, y6, y7, y8, y9, y10, y11, y12, y13, y14, y15, y16, y17, y18]
    | 1 => v = .agg vcs.toArray
    | 2 => ∃ rs : List Value, v = .agg rs.toArray ∧ LMh w7.heap.size w' (chgM res via) rs
    | 3 => v = .agg #[z0, z1, .slice At cq.text.length ct, z3, z4, z5, z6, z7, z8, z9, z10, z11, z12, z13, z14, z15, z16, z17, z18, z19, z20]
    | 4 => ∃ rs : List Value, v = .agg rs.toArray ∧ LMh w7.heap.size w' (chgM (chgM res via) cq) rs
    | 5 => ∃ g, v = .pointer (some ⟨g, 0, none⟩) ∧ w7.heap.size ≤ g ∧ w'.heap[g]? = some (Obj.cells zeroM.toArray 28 (0, 0))
    | _ => True)
   [[], [], [0, 1], [], [2, 3], []] rfl (by kernel_rfl) (by kernel_rfl) (by kernel_rfl) (by first | (simp; done) | exact Nat.le_refl _) (fun w => CK.refl _ w) (fun _ _ => IW.step) ?_ ?_ ?_ ?_
  ·intro j hj v w'
   match j, hj with
   | j + 6, _ => trivial
  ·exact CK.of_below (Below.refl _ _).drew (Nat.le_refl _)
  ·simp only [List.take_succ_cons, List.take_zero, fillAll]
   refine ⟨⟨?_, ?_⟩, ⟨?_, ?_⟩, ⟨?_, ?_⟩, ⟨?_, ?_⟩, ⟨?_, ?_⟩, ⟨?_, ?_⟩, trivial⟩
   ·exact fun v w1 w2 h k => h
   ·intro vals w1 hI hd
    refine StepG.plain rfl ?_
    have HC := hid (HX2.out _ (HBL.out.trans (hI.below.mono HBL.out.size)))
    unfold GStep
    dsimp only
    go_simp
    refine wpList_load_any_w (by rfl) 28 (.tmp 5) (by rfl) ⟨(w.heap.size + 1), 0, none⟩ (by rfl) _ _ (row_cells HC.out) Tryz.underlying28 (by rfl) (by rw [msg_size]; rfl) ?_
    go_wp2
    exact CK.refl _ _
   ·exact fun v w1 w2 h k => h
   ·intro vals w1 hI hd
    refine StepG.plain rfl ?_
    have HC := hid (HGV.out _ (HBL.out.trans (hI.below.mono HBL.out.size)))
    unfold GStep
    dsimp only
    go_simp
    refine wpList_load_blk (by rfl) 35 (.tmp 10) (by rfl) g10 35 (0, 0) vcs (by rfl) HC.out _ Tryz.underlying35 rfl 21 head_size HVL.out ?_
    go_wp2
    exact CK.refl _ _
   ·rintro v w1 w2 ⟨l, h1, h2⟩ k
    exact ⟨l, h1, h2.ck k⟩
   ·intro vals w1 hI hd
    refine StepG.plain rfl ?_
    have e0 : vals 0 = _ := hd.1
    have e1 : vals 1 = _ := hd.2.1
    have HP := hid (changed_h w7.heap.size res via _ vcs w1 ((HLB.out w7 HBL.out).h hI.below (Nat.le_refl _)) ((HLV.out w7 HBL.out).h hI.below (Nat.le_refl _)) HF2.out.p.many)
    unfold GStep
    go_wp2_with (go_at_call 14; refine HP.out.mono ?_; rintro e w2 ⟨rs, rfl, hr, hb⟩)
    first | exact CK.of_below hb hI.size | exact ⟨CK.of_below hb hI.size, rs, rfl, hr⟩ | exact ⟨CK.of_below hb hI.size, ⟨rs, rfl, hr⟩⟩
   ·exact fun v w1 w2 h k => h
   ·intro vals w1 hI hd
    refine StepG.plain rfl ?_
    have HC := hid (HGC.out _ (HBL.out.trans (hI.below.mono HBL.out.size)))
    unfold GStep
    dsimp only
    go_simp
    refine wpList_load_blk (by rfl) 35 (.tmp 12) (by rfl) g12 35 (0, 0) [z0, z1, .slice At cq.text.length ct, z3, z4, z5, z6, z7, z8, z9, z10, z11, z12, z13, z14, z15, z16, z17, z18, z19, z20] (by rfl) HC.out _ Tryz.underlying35 rfl 21 head_size rfl ?_
    go_wp2
    exact CK.refl _ _
   ·rintro v w1 w2 ⟨l, h1, h2⟩ k
    exact ⟨l, h1, h2.ck k⟩
   ·intro vals w1 hI hd
    refine StepG.plain rfl ?_
    have e3 : vals 3 = _ := hd.2.1
    have r2 : ∃ rs : List Value, vals 2 = .agg rs.toArray ∧ LMh w7.heap.size w1 (chgM res via) rs := hd.1
    clear hd
    unfold GStep
    dsimp only
    generalize vals 2 = q2 at r2 ⊢
    obtain ⟨rs1, rfl, hr1⟩ := r2
    have HP := hid (changed_h w7.heap.size (chgM res via) cq rs1 [z0, z1, .slice At cq.text.length ct, z3, z4, z5, z6, z7, z8, z9, z10, z11, z12, z13, z14, z15, z16, z17, z18, z19, z20] w1 hr1 ((HLC.out w7 HBL.out).h hI.below (Nat.le_refl _)) (HF2.out.p.chg HF.out.ms9).many)
    clear hr1
    go_wp2_with (go_at_call 14; refine HP.out.mono ?_; rintro e w2 ⟨rs, rfl, hr, hb⟩)
    first | exact CK.of_below hb hI.size | exact ⟨CK.of_below hb hI.size, rs, rfl, hr⟩ | exact ⟨CK.of_below hb hI.size, ⟨rs, rfl, hr⟩⟩
   ·rintro v w1 w2 ⟨g, h1, h2, h3⟩ k
    exact ⟨g, h1, h2, k.same h3 (by decide)⟩
   ·intro vals w1 hI hd
    refine StepG.plain rfl ?_
    unfold GStep
    go_wp2
    have hbz := (Below.refl w1.heap.size w1).alloc (Nat.le_refl _) (.cells zeroM.toArray 28)
    have hnew := heap_alloc_new w1 (.cells zeroM.toArray 28)
    obtain ⟨_, hnew2⟩ := Array.getElem?_eq_some_iff.1 hnew
    first | exact ⟨CK.of_below hbz hI.size, hI.size, hnew2⟩ | exact ⟨CK.of_below hbz hI.size, w1.heap.size, rfl, hI.size, heap_alloc_new w1 _⟩
  ·intro vals w8 hI hR
   simp only [List.drop_succ_cons, List.drop_zero, List.take_succ_cons, List.take_zero, fillAll]
   obtain ⟨-, -, -, -, r4, r5, -⟩ := hR
   generalize vals 4 = q4 at r4 ⊢
   generalize vals 5 = q5 at r5 ⊢
   obtain ⟨rs, rfl, hr⟩ := r4
   obtain ⟨g13, rfl, hgn, hgz⟩ := r5
   have HRS := hid hr
   have HGZ := hid (And.intro hgn hgz)
   have HRL := hid hr.lm.len19
   have HR1 := hid hr.lm.one19
   have HB8 := hid (HBL.out.trans (hI.below.mono HBL.out.size))
   have HG6 := hid (show W6.heap.size ≤ g13 by have := HBL.out.size; omega)
   clear hI hr hgn hgz HBL
   try dsimp only
   go_simp
   go_upto_region 10 with (refine wpList_store_blk (by rfl) 28 (.tmp 13) (.tmp 108) (by rfl) g13 28 zeroM rs (by rfl) (by rfl) (by rw [HRL.out]; rfl) HGZ.out.2 19 msg_size HRL.out HR1.out ?_; intro W9 hst; have HST := hid hst; clear hst)
   have HAN := hid (HRS.out.stored HST.out HGZ.out.2 HGZ.out.1).lm
   have HGA := hid HST.out.blk
   have HB9 := hid (HB8.out.trans (HST.out.below.mono HG6.out))
   have HUQ := hid (show ∀ wx, Below W9.heap.size W9 wx → Below W6.heap.size W6 wx from fun wx h => HB9.out.trans (h.mono HB9.out.size))
   have HX1 := hid (fun wx (h : Below W9.heap.size W9 wx) => HX1.out wx (HUQ.out wx h))
   have HBW := hid (fun wx (h : Below W9.heap.size W9 wx) => HBW.out wx (HUQ.out wx h))
   have HLA := hid (fun wx (h : Below W9.heap.size W9 wx) => HLA.out wx (HUQ.out wx h))
   have HGL := hid (fun wx (h : Below W9.heap.size W9 wx) => HGL.out wx (HUQ.out wx h))
   have HSO := hid (fun wx (h : Below W9.heap.size W9 wx) => HSO.out wx (HUQ.out wx h))
   have HSM := hid (fun wx (h : Below W9.heap.size W9 wx) => HSM.out wx (HUQ.out wx h))
   have HLV := hid (fun wx (h : Below W9.heap.size W9 wx) => HLV.out wx (HUQ.out wx h))
   have HTX := hid (fun wx (h : Below W9.heap.size W9 wx) => HTX.out wx (HUQ.out wx h))
   have HGV := hid (fun wx (h : Below W9.heap.size W9 wx) => HGV.out wx (HUQ.out wx h))
   have HGC := hid (fun wx (h : Below W9.heap.size W9 wx) => HGC.out wx (HUQ.out wx h))
   have HAN := hid (show ∀ wx, Below W9.heap.size W9 wx → LM wx (chgM (chgM res via) cq) rs from fun wx h => HAN.out.below h)
   have HGA := hid (show ∀ wx, Below W9.heap.size W9 wx → wx.heap[g13]? = some (.cells rs.toArray 28 (0, 0)) from fun wx h => by rw [h.block _ (heap_lt HGA.out)]; exact HGA.out)
   have HPF := hid (show (pv.params.find? fun p => p.1 == branchB).map (·.2) = some (paramV via.params branchK) by rw [HF.out.par]; exact HF.out.find)
   have HLN := hid (show (paramV via.params branchK).length ≤ 1073741824 ∧ pc.text.length ≤ 1073741824 ∧ ([] : Bytes).length ≤ 1073741824 by rw [HF.out.txt]; have h1 := HF.out.brl; have h2 := HF.out.txl; exact ⟨by omega, by omega, by simp⟩)
   have HLD := hid (show (paramV via.params branchK).length ≤ 1073741824 ∧ pc.text.length ≤ 1073741824 ∧ method.length ≤ 1073741824 from ⟨HLN.out.1, HLN.out.2.1, by have := HOL.out.2; omega⟩)
   have HLQ := hid (show (paramV via.params branchK).length ≤ 1073741824 ∧ cq.text.length ≤ 1073741824 ∧ ([] : Bytes).length ≤ 1073741824 by rw [← HF.out.txt]; exact HLN.out)
   have HP2 := hid ((HF2.out.p.chg HF.out.ms9).chg HF.out.ms5)
   have HA9 := hid (show (chgM (chgM res via) cq).heads.filter (isT 9) = [via] from filt_out (filt_in HF2.out.h9 HF.out.t9) (by rw [HF.out.t5]; decide))
   have HA5 := hid (show (chgM (chgM res via) cq).heads.filter (isT 5) = [cq] from filt_in (filt_out HF2.out.h5 (by rw [HF.out.t9]; decide)) HF.out.t5)
   clear HST HRS HGZ HB8
   have HBL := hid (Below.refl W9.heap.size W9)
   go_upto_region 11 with (first
    | (refine wpList_load_any_w (by rfl) 28 (.tmp 4) (by rfl) ⟨w.heap.size, 0, none⟩ (by rfl) _ _ (row_cells (HX1.out _ HBL.out)) Tryz.underlying28 (by rfl) (by rw [msg_size]; rfl) ?_)
    | (go_at_call 15; refine (iclient_any N m _ (.slice none 0 0) [] _ (HGL.out _ HBL.out) (HF.out.p.k (HLA.out _ HBL.out)) (SB.nil _) pv pc HF.out.h9 HF.out.h5 (paramV via.params branchK) HPF.out HF.out.good HLN.out).mono ?_; rintro e wn ⟨va, rfl, hka, hbn⟩; have HBL0 := HBL; clear HBL; have HBL := hid (HBL0.out.trans (hbn.mono HBL0.out.size)); clear HBL0 hbn)
    | fail)
   rw [HF.out.txt] at hka
   obtain ⟨K1, hK1⟩ : ∃ K, K = clientK (bs (paramV via.params branchK)) (bs []) (bs cq.text) := ⟨_, rfl⟩
   rw [← hK1] at hka
   have HK1 := hid hK1
   clear hK1
   have HKA := hid hka.sb
   obtain ⟨ka, capa, cs_ka, fz_ka, rfl, -⟩ := hka
   go_upto_region 12 with (first
    | (refine wpList_load_blk (by rfl) 28 (.tmp 13) (by rfl) g13 28 (0, 0) rs (by rfl) (HGA.out _ HBL.out) _ Tryz.underlying28 rfl 19 msg_size HRL.out ?_)
    | (go_at_call 15; refine (iclient_any N (chgM (chgM res via) cq) rs (.slice none 0 0) [] _ (HGL.out _ HBL.out) (HP2.out.k (HAN.out _ HBL.out)) (SB.nil _) via cq HA9.out HA5.out (paramV via.params branchK) HF.out.find HF.out.good HLQ.out).mono ?_; rintro e wn ⟨vb, rfl, hkb, hbn⟩; have HKA0 := HKA; clear HKA; have HKA := hid (HKA0.out.below hbn); clear HKA0; have HBL0 := HBL; clear HBL; have HBL := hid (HBL0.out.trans (hbn.mono HBL0.out.size)); clear HBL0 hbn)
    | fail)
   rw [← HK1.out] at hkb
   have HKB := hid hkb.sb
   obtain ⟨kb, capb, cs_kb, fz_kb, rfl, -⟩ := hkb
   obtain ⟨wl, hrl, hbl, hsl⟩ := lit_magic _
   have HLL := hid hbl
   have HJ := hid (join2K wl _ _ magicB other hsl (HSO.out _ (HBL.out.trans (hbl.mono HBL.out.size))) (by have := HOL.out.1; show 7 + other.length ≤ _; omega))
   clear hsl hbl
   go_upto_region 13 with (first
    | (go_at_call 16; refine HJ.out.mono ?_; rintro e wj ⟨vw, rfl, how, hbj⟩)
    | fail)
   have hbn := HLL.out.trans (hbj.mono HLL.out.size)
   have HKA := hid (HKA.out.below hbn)
   have HKB := hid (HKB.out.below hbn)
   have HAW := hid how.sb
   obtain ⟨Aw, nw, rfl⟩ := how.slice
   have HBL0 := HBL; clear HBL; have HBL := hid (HBL0.out.trans (hbn.mono HBL0.out.size)); clear HBL0 hbn
   clear how hbj hrl HJ HLL
   obtain ⟨away, hway⟩ : ∃ a, a = magicB ++ other := ⟨_, rfl⟩
   have HWAY := hid hway
   have HAWL := hid (show 7 < away.length ∧ away.length ≤ 8199 ∧ away.take 7 = [122, 57, 104, 71, 52, 98, 75] ∧ ValB ⟨away.toArray⟩ by
    rw [hway]
    have h1 := wordS_ok HWO'.out
    have h2 : 0 < other.length := by
     have := HWO'.out
     simp only [wordS, Bool.and_eq_true, decide_eq_true_eq] at this
     exact this.1.2
    refine ⟨?_, ?_, rfl, valb_app (by decide) h1.1⟩
    ·rw [List.length_append]; show 7 < 7 + _; omega
    ·rw [List.length_append]; show 7 + _ ≤ _; omega)
   rw [← hway] at HAW ⊢
   clear hway
   have HF9 := hid (first_filt HA9.out)
   obtain ⟨pvia, hpv⟩ : ∃ p, p = parH (firstH 9 (chgM (chgM res via) cq).heads) branchK away := ⟨_, rfl⟩
   have HPV := hid hpv
   have q9 := plain_9 HF.out.t9
   have HPT := hid (show pvia.t = 9 ∧ HMs pvia ∧ (pvia.params.find? fun p => p.1 == branchB).map (·.2) = some away by
    rw [hpv, HF9.out]
    refine ⟨q9.1, (HF.out.ms9.plain).par q9.1 _ _ HAWL.out.2.2.2, ?_⟩
    refine find_setK _ _ _ ?_
    rw [q9.2]
    have := HF.out.find
    cases h : via.params.find? fun p => p.1 == branchB with
    | none => rw [h] at this; simp at this
    | some p => rfl)
   clear q9
   have HP3 := hid (HP2.out.chg HPT.out.2.1)
   have HC9 := hid (show (chgM (chgM (chgM res via) cq) pvia).heads.filter (isT 9) = [pvia] from filt_in HA9.out HPT.out.1)
   have HC5 := hid (show (chgM (chgM (chgM res via) cq) pvia).heads.filter (isT 5) = [cq] from filt_out HA5.out (by rw [HPT.out.1]; decide))
   have HLC3 := hid (show away.length ≤ 1073741824 ∧ cq.text.length ≤ 1073741824 ∧ ([] : Bytes).length ≤ 1073741824 from ⟨by have := HAWL.out.2.1; omega, HLQ.out.2.1, by simp⟩)
   have HPL := hid (show (firstH 9 (chgM (chgM res via) cq).heads).params.length ≤ 1073741824 by rw [HF9.out, (plain_9 HF.out.t9).2]; exact HF.out.parl)
   have HGB := hid (goodbr HAWL.out.1 HAWL.out.2.2.1)
   have HBR := hid (branched_any (chgM (chgM res via) cq) rs _ away _ (HAN.out _ HBL.out) HAW.out (fun h hh => (HP2.out.heads h hh).t) HP2.out.many HPL.out)
   rw [← hpv] at HBR
   clear hpv
   go_upto_region 14 with (first
    | (refine wpList_load_blk (by rfl) 28 (.tmp 13) (by rfl) g13 28 (0, 0) rs (by rfl) (HGA.out _ HBL.out) _ Tryz.underlying28 rfl 19 msg_size HRL.out ?_)
    | (go_at_call 17; refine HBR.out.mono ?_; rintro e wn ⟨ms, rfl, hms, hbn⟩; have HMS := hid hms; clear hms; have HKA0 := HKA; clear HKA; have HKA := hid (HKA0.out.below hbn); have HKB0 := HKB; clear HKB; have HKB := hid (HKB0.out.below hbn); have HAW0 := HAW; clear HAW; have HAW := hid (HAW0.out.below hbn); clear HKA0 HKB0 HAW0; have HBL0 := HBL; clear HBL; have HBL := hid (HBL0.out.trans (hbn.mono HBL0.out.size)); clear HBL0 hbn)
    | (go_at_call 15; refine (iclient_any N (chgM (chgM (chgM res via) cq) pvia) ms (.slice none 0 0) [] _ (HGL.out _ HBL.out) (HP3.out.k HMS.out) (SB.nil _) pvia cq HC9.out HC5.out away HPT.out.2.2 HGB.out HLC3.out).mono ?_; rintro e wn ⟨vc, rfl, hkc, hbn⟩; have HKA0 := HKA; clear HKA; have HKA := hid (HKA0.out.below hbn); have HKB0 := HKB; clear HKB; have HKB := hid (HKB0.out.below hbn); have HAW0 := HAW; clear HAW; have HAW := hid (HAW0.out.below hbn); clear HKA0 HKB0 HAW0; have HBL0 := HBL; clear HBL; have HBL := hid (HBL0.out.trans (hbn.mono HBL0.out.size)); clear HBL0 hbn)
    | fail)
   obtain ⟨K3, hK3⟩ : ∃ K, K = clientK (bs away) (bs []) (bs cq.text) := ⟨_, rfl⟩
   rw [← hK3] at hkc
   have HK3 := hid hK3
   clear hK3
   have HKC := hid hkc.sb
   obtain ⟨kc, capc, cs_kc, fz_kc, rfl, -⟩ := hkc
   go_upto_region 17 with (first
    | (refine wpList_load_any_w (by rfl) 28 (.tmp 4) (by rfl) ⟨w.heap.size, 0, none⟩ (by rfl) _ _ (row_cells (HX1.out _ HBL.out)) Tryz.underlying28 (by rfl) (by rw [msg_size]; rfl) ?_)
    | (go_at_call 15; refine (iclient_any N m _ (.slice Ad method.length cd) method _ (HGL.out _ HBL.out) (HF.out.p.k (HLA.out _ HBL.out)) (HSM.out _ HBL.out) pv pc HF.out.h9 HF.out.h5 (paramV via.params branchK) HPF.out HF.out.good HLD.out).mono ?_; rintro e wq ⟨vd, rfl, hkd, hbn⟩; have HKA0 := HKA; clear HKA; have HKA := hid (HKA0.out.below hbn); have HKB0 := HKB; clear HKB; have HKB := hid (HKB0.out.below hbn); have HAW0 := HAW; clear HAW; have HAW := hid (HAW0.out.below hbn); have HKC0 := HKC; clear HKC; have HKC := hid (HKC0.out.below hbn); obtain ⟨kd, capd, cs_kd, fz_kd, rfl, hkd5⟩ := hkd; have HKD := hid (SBu.sb ⟨kd, capd, cs_kd, fz_kd, rfl, hkd5⟩); clear hkd5 HKA0 HKB0 HAW0 HKC0; have HBL0 := HBL; clear HBL; have HBL := hid (HBL0.out.trans (hbn.mono HBL0.out.size)); clear HBL0 hbn)
    | fail)
   rw [HF.out.txt] at HKD ⊢
   obtain ⟨K4, hK4⟩ : ∃ K, K = clientK (bs (paramV via.params branchK)) (bs method) (bs cq.text) := ⟨_, rfl⟩
   rw [← hK4] at HKD ⊢
   obtain ⟨br, hbr⟩ : ∃ b, b = paramV via.params branchK := ⟨_, rfl⟩
   have HBV := hid (fun wx (h : Below W9.heap.size W9 wx) => branch_any via vcs wx (HLV.out wx h))
   rw [← hbr] at HBV
   have HD1 := hid (show ∀ e : Ending, e = .returned (.bool (decide (K1 = K1))) → e = .returned (.bool true) from fun e h => by rw [h]; exact ret_bool (decide_eq_true rfl))
   have HD3 := hid (show ∀ e : Ending, e = .returned (.bool (decide (K1 = K3))) → e = .returned (.bool (decide (br = away))) from fun e h => by rw [h, HK1.out, HK3.out, hbr]; exact ret_bool clientK_br)
   have HD4 := hid (show ∀ e : Ending, e = .returned (.bool (decide (K1 = K4))) → e = .returned (.bool (decide (method = cq.text))) from fun e h => by
    rw [h, HK1.out, hK4]
    have h2 : method ≠ [] := by
     rintro rfl
     have := HWM'.out
     simp [wordS] at this
    exact ret_bool (clientK_me HACK.out h2))
   clear HK1 HK3 hK4 hbr
   refine wp_region_growG 26 177 (CK wq.heap.size) (IW wq)
    (fun i v w' => match i with
     | 0 => v = .slice (some ⟨ka, 0, none⟩) K1.length capa
     | 1 => v = .slice (some ⟨kb, 0, none⟩) K1.length capb
     | 2 => v = .bool true
     | 3 => v = .bool true
     | 4 => v = .slice (some ⟨ka, 0, none⟩) K1.length capa
     | 5 => v = .slice (some ⟨kc, 0, none⟩) K3.length capc
     | 6 => v = .bool (decide (br = away))
     | 7 => v = .agg vcs.toArray
     | 8 => SB w' v br
     | 9 => v = .slice Aw away.length nw
     | 10 => v = .bool (decide (br = away))
     | 11 => v = .bool (decide (br = away) == decide (br = away))
     | 12 => v = .bool true
     | 13 => v = .bool true
     | 14 => v = .slice (some ⟨ka, 0, none⟩) K1.length capa
     | 15 => v = .slice (some ⟨kd, 0, none⟩) K4.length capd
     | 16 => v = .bool (decide (method = cq.text))
     | 17 => v = .slice Ad method.length cd
     | 18 => v = .pointer (some ⟨g12, 2, none⟩)
     | 19 => v = .slice At cq.text.length ct
     | 20 => v = .bool (decide (method = cq.text))
     | 21 => v = .bool (decide (method = cq.text) == decide (method = cq.text))
     | 22 => v = .bool true
     | 23 => v = .bool true
     | 24 => v = .bool true
     | 25 => v = .bool true
     | _ => True)
    [[], [], [0, 1], [2], [3], [3], [3, 4, 5], [3], [3, 7], [3], [3, 8, 9], [3, 6, 10], [3, 11], [12], [13], [13], [13, 14, 15], [13], [13], [13, 18], [13, 17, 19], [13, 16, 20], [13, 21], [22], [23], [23, 24]] rfl (by kernel_rfl) (by kernel_rfl) (by kernel_rfl) (by first | (simp; done) | exact Nat.le_refl _) (fun w => CK.refl _ w) (fun _ _ => IW.step) ?_ ?_ ?_ ?_
   ·intro j hj v w'
    match j, hj with
    | j + 26, _ => trivial
   ·exact CK.of_below (Below.refl _ _).drew (Nat.le_refl _)
   ·simp only [List.take_succ_cons, List.take_zero, fillAll]
    refine ⟨⟨?_, ?_⟩, ⟨?_, ?_⟩, ⟨?_, ?_⟩, ⟨?_, ?_⟩, ⟨?_, ?_⟩, ⟨?_, ?_⟩, ⟨?_, ?_⟩, ⟨?_, ?_⟩, ⟨?_, ?_⟩, ⟨?_, ?_⟩, ⟨?_, ?_⟩, ⟨?_, ?_⟩, ⟨?_, ?_⟩, ⟨?_, ?_⟩, ⟨?_, ?_⟩, ⟨?_, ?_⟩, ⟨?_, ?_⟩, ⟨?_, ?_⟩, ⟨?_, ?_⟩, ⟨?_, ?_⟩, ⟨?_, ?_⟩, ⟨?_, ?_⟩, ⟨?_, ?_⟩, ⟨?_, ?_⟩, ⟨?_, ?_⟩, ⟨?_, ?_⟩, trivial⟩
    ·exact fun v w1 w2 h k => h
    ·intro vals w1 hI hd
     refine StepG.plain rfl ?_
     unfold GStep
     go_wp2
     exact CK.refl _ _
    ·exact fun v w1 w2 h k => h
    ·intro vals w1 hI hd
     refine StepG.plain rfl ?_
     unfold GStep
     go_wp2
     exact CK.refl _ _
    ·exact fun v w1 w2 h k => h
    ·intro vals w1 hI hd
     refine StepG.plain rfl ?_
     have e0 : vals 0 = _ := hd.1
     have e1 : vals 1 = _ := hd.2.1
     have HP := hid (equal_any _ _ K1 K1 w1 (HKA.out.ck hI) (HKB.out.ck hI))
     unfold GStep
     go_wp2_with (go_at_call 18; refine HP.out.mono ?_; rintro e w2 ⟨he, hb⟩; have he' := HD1.out e he; subst he'; clear he)
     exact CK.of_below hb hI.size
    ·exact fun v w1 w2 h k => h
    ·intro vals w1 hI hd
     refine StepG.plain rfl ?_
     have e2 : vals 2 = _ := hd.1
     unfold GStep
     go_wp2
     exact CK.refl _ _
    ·exact fun v w1 w2 h k => h
    ·intro vals w1 hI hd
     refine StepG.go rfl (hd.1) ?_
     unfold GStep strip
     go_wp2
     exact CK.refl _ _
    ·exact fun v w1 w2 h k => h
    ·intro vals w1 hI hd
     refine StepG.go rfl (hd.1) ?_
     unfold GStep strip
     go_wp2
     exact CK.refl _ _
    ·exact fun v w1 w2 h k => h
    ·intro vals w1 hI hd
     refine StepG.go rfl (hd.1) ?_
     have e4 : vals 4 = _ := hd.2.1
     have e5 : vals 5 = _ := hd.2.2.1
     have HP := hid (equal_any _ _ K1 K3 w1 (HKA.out.ck hI) (HKC.out.ck hI))
     unfold GStep strip
     go_wp2_with (go_at_call 18; refine HP.out.mono ?_; rintro e w2 ⟨he, hb⟩; have he' := HD3.out e he; subst he'; clear he)
     exact CK.of_below hb hI.size
    ·exact fun v w1 w2 h k => h
    ·intro vals w1 hI hd
     refine StepG.go rfl (hd.1) ?_
     have HC := hid (HGV.out _ (HBL.out.trans (hI.below.mono HBL.out.size)))
     unfold GStep strip
     dsimp only
     go_simp
     refine wpList_load_blk (by rfl) 35 (.tmp 10) (by rfl) g10 35 (0, 0) vcs (by rfl) HC.out _ Tryz.underlying35 rfl 21 head_size HVL.out ?_
     go_wp2
     exact CK.refl _ _
    ·exact fun v w1 w2 h k => h.ck k
    ·intro vals w1 hI hd
     refine StepG.go rfl (hd.1) ?_
     have e7 : vals 7 = _ := hd.2.1
     have HP := hid (HBV.out w1 (HBL.out.trans (hI.below.mono HBL.out.size)))
     unfold GStep strip
     go_wp2_with (go_at_call 13; refine HP.out.mono ?_; rintro e w2 ⟨v, rfl, hv, hb⟩)
     first | exact CK.of_below hb hI.size | exact ⟨CK.of_below hb hI.size, hv⟩
    ·exact fun v w1 w2 h k => h
    ·intro vals w1 hI hd
     refine StepG.go rfl (hd.1) ?_
     unfold GStep strip
     go_wp2
     exact CK.refl _ _
    ·exact fun v w1 w2 h k => h
    ·intro vals w1 hI hd
     refine StepG.go rfl (hd.1) ?_
     obtain ⟨-, r8, r9, -⟩ := hd
     have e9 : vals 9 = _ := r9
     clear r9
     unfold GStep strip
     dsimp only
     generalize vals 8 = q8 at r8 ⊢
     have HR8 := hid r8
     obtain ⟨A8, c8, rfl, -⟩ := r8.form
     clear r8
     have HP := hid (equal_any _ _ br away w1 HR8.out (HAW.out.ck hI))
     go_wp2_with (go_at_call 18; refine HP.out.mono ?_; rintro e w2 ⟨rfl, hb⟩)
     exact CK.of_below hb hI.size
    ·exact fun v w1 w2 h k => h
    ·intro vals w1 hI hd
     refine StepG.go rfl (hd.1) ?_
     have e6 : vals 6 = _ := hd.2.1
     have e10 : vals 10 = _ := hd.2.2.1
     unfold GStep strip
     go_wp2
     exact CK.refl _ _
    ·exact fun v w1 w2 h k => h
    ·intro vals w1 hI hd
     refine StepG.plain rfl ?_
     have e3 : vals 3 = _ := hd.1
     have e11 : vals 11 = _ := hd.2.1
     try rw [bool_same] at e11
     unfold GStep
     go_wp2
     exact CK.refl _ _
    ·exact fun v w1 w2 h k => h
    ·intro vals w1 hI hd
     refine StepG.plain rfl ?_
     have e12 : vals 12 = _ := hd.1
     unfold GStep
     go_wp2
     exact CK.refl _ _
    ·exact fun v w1 w2 h k => h
    ·intro vals w1 hI hd
     refine StepG.go rfl (hd.1) ?_
     unfold GStep strip
     go_wp2
     exact CK.refl _ _
    ·exact fun v w1 w2 h k => h
    ·intro vals w1 hI hd
     refine StepG.go rfl (hd.1) ?_
     unfold GStep strip
     go_wp2
     exact CK.refl _ _
    ·exact fun v w1 w2 h k => h
    ·intro vals w1 hI hd
     refine StepG.go rfl (hd.1) ?_
     have e14 : vals 14 = _ := hd.2.1
     have e15 : vals 15 = _ := hd.2.2.1
     have HP := hid (equal_any _ _ K1 K4 w1 (HKA.out.ck hI) (HKD.out.ck hI))
     unfold GStep strip
     go_wp2_with (go_at_call 18; refine HP.out.mono ?_; rintro e w2 ⟨he, hb⟩; have he' := HD4.out e he; subst he'; clear he)
     exact CK.of_below hb hI.size
    ·exact fun v w1 w2 h k => h
    ·intro vals w1 hI hd
     refine StepG.go rfl (hd.1) ?_
     unfold GStep strip
     go_wp2
     exact CK.refl _ _
    ·exact fun v w1 w2 h k => h
    ·intro vals w1 hI hd
     refine StepG.go rfl (hd.1) ?_
     unfold GStep strip
     go_wp2
     exact CK.refl _ _
    ·exact fun v w1 w2 h k => h
    ·intro vals w1 hI hd
     refine StepG.go rfl (hd.1) ?_
     have e18 : vals 18 = _ := hd.2.1
     have c2 := row_at (HGC.out _ (HBL.out.trans (hI.below.mono HBL.out.size))) 2 _ rfl
     unfold GStep strip
     go_wp2
     exact CK.refl _ _
    ·exact fun v w1 w2 h k => h
    ·intro vals w1 hI hd
     refine StepG.go rfl (hd.1) ?_
     have e17 : vals 17 = _ := hd.2.1
     have e19 : vals 19 = _ := hd.2.2.1
     have HP := hid (equal_any _ _ method cq.text w1 (HSM.out _ (HBL.out.trans (hI.below.mono HBL.out.size))) (HTX.out _ (HBL.out.trans (hI.below.mono HBL.out.size))))
     unfold GStep strip
     go_wp2_with (go_at_call 18; refine HP.out.mono ?_; rintro e w2 ⟨rfl, hb⟩)
     exact CK.of_below hb hI.size
    ·exact fun v w1 w2 h k => h
    ·intro vals w1 hI hd
     refine StepG.go rfl (hd.1) ?_
     have e16 : vals 16 = _ := hd.2.1
     have e20 : vals 20 = _ := hd.2.2.1
     unfold GStep strip
     go_wp2
     exact CK.refl _ _
    ·exact fun v w1 w2 h k => h
    ·intro vals w1 hI hd
     refine StepG.plain rfl ?_
     have e13 : vals 13 = _ := hd.1
     have e21 : vals 21 = _ := hd.2.1
     try rw [bool_same] at e21
     unfold GStep
     go_wp2
     exact CK.refl _ _
    ·exact fun v w1 w2 h k => h
    ·intro vals w1 hI hd
     refine StepG.plain rfl ?_
     have e22 : vals 22 = _ := hd.1
     unfold GStep
     go_wp2
     exact CK.refl _ _
    ·exact fun v w1 w2 h k => h
    ·intro vals w1 hI hd
     refine StepG.go rfl (hd.1) ?_
     have HP := hid (known_any N w1 (HGL.out _ (HBL.out.trans (hI.below.mono HBL.out.size))))
     unfold GStep strip
     go_wp2_with (go_at_call 10; refine HP.out.mono ?_; rintro e w2 ⟨rfl, hb⟩)
     exact CK.of_below hb hI.size
    ·exact fun v w1 w2 h k => h
    ·intro vals w1 hI hd
     refine StepG.plain rfl ?_
     have e23 : vals 23 = _ := hd.1
     have e24 : vals 24 = _ := hd.2.1
     try rw [bool_same] at e24
     unfold GStep
     go_wp2
     exact CK.refl _ _
   ·intro vals w18 hI hR
    simp only [List.drop_succ_cons, List.drop_zero, List.take_succ_cons, List.take_zero, fillAll]
    obtain ⟨-, -, -, -, -, -, -, -, -, -, -, -, -, -, -, -, -, -, -, -, -, -, -, -, -, r25, -⟩ := hR
    have e25 : vals 25 = _ := r25
    rw [e25]
    have HBE := hid (HBL.out.trans (hI.below.mono HBL.out.size))
    clear hI r25 e25
    try dsimp only
    go_simp
    go_wp2_with fail
    go_ret
    exact ⟨rfl, HBW.out _ HBE.out⟩
