/- FnDialog, of bulk at most 1048576. Conditions: the row's own: the bulk, and the listed variables hold what their initialisers lay. -/
import Derived.Test.YtglhcpmaiogdjaaGreatDoorD28
import Derived.Test.YtglhcpmaiogdjaaGreatDoorD32
import Derived.Test.YtglhcpmaiogdjaaGreatDoorD31
import Derived.Test.YtglhcpmaiogdjaaGreatDoorD34
import Derived.Test.YtglhcpmaiogdjaaGreatDoorD33
import Derived.Test.YtglhcpmaiogdjaaGreatDoorCards
import Derived.Test.YtglhcpmaiogdjaaGreatDoorTie
import Derived.OpenShut
import Derived.Deep.DeepWitnessRowRef
set_option maxRecDepth 100000
set_option maxHeartbeats 16000000
set_option linter.all false
namespace Go.Proofs.YtglhcpmaiogdjaaGreatDoor
section
open Go.Lib (hid)
open Go.RowKit
theorem dialog_any (N : Nat) (m res : LMsg) (ca cb : List Value) (w : World) (hG : Gl N w) (hA : LM w m ca) (hB : LM w res cb) (IA : MIn N m) (IB : MIn N res) (b1 b2 : Bool) (rm : m.resp = b1) (rr : res.resp = b2) :
  Calls Tryz.prog 4 #[.agg ca.toArray, .agg cb.toArray] w (ClientKeyOk w) := by
 have hlx := hA.len19
 have hly := hB.len19
 obtain ⟨v1, v15, Ax, cx, Am, cm, e0, e1, e15, rfl, rfl, hsm, hsh⟩ := hA.parts
 obtain ⟨u1, u15, Ay, cy, An, cn, d0, d1, d15, rfl, rfl, hsn, hsi⟩ := hB.parts
 rw [rm] at e0
 rw [rr] at d0
 obtain ⟨x0, x1, x2, x3, x4, x5, x6, x7, x8, x9, x10, x11, x12, x13, x14, x15, x16, x17, x18, rfl⟩ := list19 hlx
 obtain ⟨y0, y1, y2, y3, y4, y5, y6, y7, y8, y9, y10, y11, y12, y13, y14, y15, y16, y17, y18, rfl⟩ := list19 hly
 obtain rfl : x0 = .bool b1 := by simpa using e0
 obtain rfl : x1 = .slice Am m.method.length cm := by simpa using e1
 obtain rfl : x15 = .slice Ax m.heads.length cx := by simpa using e15
 obtain rfl : y0 = .bool b2 := by simpa using d0
 clear e0 e1 e15 d0 d1 d15 hlx hly hsn hsi
 obtain ⟨wb, hwb⟩ : ∃ wb, wb = (w.alloc (.cells #[.bool b1, .slice Am m.method.length cm, x2, x3, x4, x5, x6, x7, x8, x9, x10, x11, x12, x13, x14, .slice Ax m.heads.length cx, x16, x17, x18] 28)).alloc (.cells #[.bool b2, y1, y2, y3, y4, y5, y6, y7, y8, y9, y10, y11, y12, y13, y14, y15, y16, y17, y18] 28) := ⟨_, rfl⟩
 have HB0 := hid (show Below w.heap.size w wb by rw [hwb]; exact below_two _ _)
 have HSZ := hid (show wb.heap.size = w.heap.size + 2 by rw [hwb]; simp)
 have HX1 := hid (show ∀ wx, Below wb.heap.size wb wx → wx.heap[w.heap.size]? = some (.cells ([.bool b1, .slice Am m.method.length cm, x2, x3, x4, x5, x6, x7, x8, x9, x10, x11, x12, x13, x14, .slice Ax m.heads.length cx, x16, x17, x18] : List Value).toArray 28 (0, 0)) by
  intro wx h
  rw [h.block _ (by have := HSZ.out; omega), hwb]
  exact ((Below.refl _ _).alloc (Nat.le_refl _) _).block w.heap.size (by simp) |>.trans (heap_alloc_new w _))
 have HX2 := hid (show ∀ wx, Below wb.heap.size wb wx → wx.heap[w.heap.size + 1]? = some (.cells ([.bool b2, y1, y2, y3, y4, y5, y6, y7, y8, y9, y10, y11, y12, y13, y14, y15, y16, y17, y18] : List Value).toArray 28 (0, 0)) by
  intro wx h
  rw [h.block _ (by have := HSZ.out; omega), hwb]
  have := heap_alloc_new (w.alloc (.cells #[.bool b1, .slice Am m.method.length cm, x2, x3, x4, x5, x6, x7, x8, x9, x10, x11, x12, x13, x14, .slice Ax m.heads.length cx, x16, x17, x18] 28)) (.cells #[.bool b2, y1, y2, y3, y4, y5, y6, y7, y8, y9, y10, y11, y12, y13, y14, y15, y16, y17, y18] 28)
  rwa [World.size_alloc] at this)
 have HBW := hid (show ∀ wx, Below wb.heap.size wb wx → Below w.heap.size w wx from fun wx h => HB0.out.trans (h.mono (by have := HSZ.out; omega)))
 have HLA := hid (show ∀ wx, Below wb.heap.size wb wx → LM wx m [.bool b1, .slice Am m.method.length cm, x2, x3, x4, x5, x6, x7, x8, x9, x10, x11, x12, x13, x14, .slice Ax m.heads.length cx, x16, x17, x18] from fun wx h => hA.below (HBW.out wx h))
 have HLB := hid (show ∀ wx, Below wb.heap.size wb wx → LM wx res [.bool b2, y1, y2, y3, y4, y5, y6, y7, y8, y9, y10, y11, y12, y13, y14, y15, y16, y17, y18] from fun wx h => hB.below (HBW.out wx h))
 have HGL := hid (show ∀ wx, Below wb.heap.size wb wx → Gl N wx from fun wx h => hG.below (HBW.out wx h) hG.le)
 have HSH := hid (show ∀ wx, Below wb.heap.size wb wx → SHs wx (.slice Ax m.heads.length cx) m.heads from fun wx h => hsh.below (HBW.out wx h))
 have HA := hid IA
 have HB := hid IB
 have HBL := hid (Below.refl wb.heap.size wb)
 have HRM := hid rm
 have HRR := hid rr
 clear hG hA hB IA IB rm rr hsm hsh
 go_enter Tryz.func4, Tryz.ntmps4
 go_upto_region 1 with fail
 rw [← hwb]
 generalize Value.agg #[.bool b1, .slice Am m.method.length cm, x2, x3, x4, x5, x6, x7, x8, x9, x10, x11, x12, x13, x14, .slice Ax m.heads.length cx, x16, x17, x18] = arg0
 generalize Value.agg #[.bool b2, y1, y2, y3, y4, y5, y6, y7, y8, y9, y10, y11, y12, y13, y14, y15, y16, y17, y18] = arg1
 clear hwb
 go_upto_if 28 with (first
  | (refine wpList_load_any_w (by rfl) 28 (.tmp 2) (by rfl) ⟨w.heap.size, 0, none⟩ (by rfl) _ _ (row_cells (HX1.out _ HBL.out)) Tryz.underlying28 (by rfl) (by rw [msg_size]; rfl) ?_)
  | (go_at_call_of 6 x2; refine (fits1_any m _ _ (HLA.out _ HBL.out)).mono ?_; rintro e wn ⟨⟨b, rfl⟩, hbn⟩; have HBL0 := HBL; clear HBL; have HBL := hid (HBL0.out.trans (hbn.mono HBL0.out.size)); clear HBL0 hbn; cases b)
  | (refine wpList_load_any_w (by rfl) 28 (.tmp 3) (by rfl) ⟨(w.heap.size + 1), 0, none⟩ (by rfl) _ _ (row_cells (HX2.out _ HBL.out)) Tryz.underlying28 (by rfl) (by rw [msg_size]; rfl) ?_)
  | (go_at_call_of 6 y2; refine (fits1_any res _ _ (HLB.out _ HBL.out)).mono ?_; rintro e wn ⟨⟨b, rfl⟩, hbn⟩; have HBL0 := HBL; clear HBL; have HBL := hid (HBL0.out.trans (hbn.mono HBL0.out.size)); clear HBL0 hbn; cases b)
  | fail)
 ·go_wp2_with fail
  go_ret
  exact ⟨rfl, HBW.out _ HBL.out⟩
 ·go_wp2_with fail
  go_ret
  exact ⟨rfl, HBW.out _ HBL.out⟩
 have c0 := row_at (HX1.out _ HBL.out) 0 _ rfl
 cases b1 <;> cases b2 <;> go_upto_if 45 with (first
  | (refine wpList_load_any_w (by rfl) 28 (.tmp 2) (by rfl) ⟨w.heap.size, 0, none⟩ (by rfl) _ _ (row_cells (HX1.out _ HBL.out)) Tryz.underlying28 (by rfl) (by rw [msg_size]; rfl) ?_)
  | (go_at_call_of 7 x2; refine (iscall_any m _ _ (HLA.out _ HBL.out) HA.out.bd).mono ?_; rintro e wn ⟨⟨b, rfl, hb⟩, hbn⟩; have HBL0 := HBL; clear HBL; have HBL := hid (HBL0.out.trans (hbn.mono HBL0.out.size)); clear HBL0 hbn; have c0 := row_at (HX1.out _ HBL.out) 0 _ rfl; have HRA := hid hb; clear hb; cases b)
  | (refine wpList_load_any_w (by rfl) 28 (.tmp 3) (by rfl) ⟨(w.heap.size + 1), 0, none⟩ (by rfl) _ _ (row_cells (HX2.out _ HBL.out)) Tryz.underlying28 (by rfl) (by rw [msg_size]; rfl) ?_)
  | (go_at_call_of 7 y2; refine (iscall_any res _ _ (HLB.out _ HBL.out) HB.out.bd).mono ?_; rintro e wn ⟨⟨b, rfl, hb⟩, hbn⟩; have HBL0 := HBL; clear HBL; have HBL := hid (HBL0.out.trans (hbn.mono HBL0.out.size)); clear HBL0 hbn; have d0 := row_at (HX2.out _ HBL.out) 0 _ rfl; have HRB := hid hb; clear hb; cases b)
  | fail)
 any_goals
  have HK := hid (known_any N _ (HGL.out _ HBL.out))
  go_wp2_with (go_at_call 10; refine HK.out.mono ?_; rintro e w9 ⟨rfl, hb⟩)
  go_ret
  exact ⟨rfl, HBW.out _ (HBL.out.trans (hb.mono HBL.out.size))⟩
 obtain ⟨fr, tq, id, pf, pt, pi, hf⟩ := CallD.of HA.out (HRA.out (by first | rfl | trivial))
 obtain ⟨fr2, tq2, id2, qf, qt, qi, hf2⟩ := CallD.of HB.out (HRB.out (by first | rfl | trivial))
 have HF := hid hf
 have HF2 := hid hf2
 clear hf hf2 c0 HRA HRB
 have HFI := hid (firsts_any _ m.heads 2 _ (HSH.out _ HBL.out) HF.out.sorts HF.out.p.many)
 have c15 := row_at (HX1.out _ HBL.out) 15 _ rfl
 go_upto_region 6 with (first
  | (go_at_call 11; refine HFI.out.mono ?_; rintro e wf ⟨fcs, rfl, hx, hbn⟩; have HXV := hid hx; have HXL := hid (hx.lh (Sub.of_below hbn)); have HBL0 := HBL; clear HBL; have HBL := hid (HBL0.out.trans (hbn.mono HBL0.out.size)); clear HBL0 hbn; clear hx)
  | (refine wpList_store_blk (by rfl) 35 (.tmp 6) (.tmp 52) (by rfl) wf.heap.size 35 zeroH fcs (by rfl) (by rfl) (by rw [HXV.out.len]; rfl) (heap_alloc_new wf _) 21 head_size HXV.out.len HXV.out.one ?_; intro W5 hst; have HST := hid hst; clear hst)
  | fail)
 clear c15
 obtain ⟨g6, hgg⟩ : ∃ g6, g6 = wf.heap.size := ⟨_, rfl⟩
 have hbn : Below wf.heap.size wf W5 := (((Below.refl _ wf).alloc (Nat.le_refl _) _).trans HST.out.below)
 have HLF := hid (show LH W5 fr fcs by have h := HXL.out.below hbn; rw [HF.out.f2] at h; exact h)
 have HGF := hid (show W5.heap[g6]? = some (.cells fcs.toArray 35 (0, 0)) by rw [hgg]; exact HST.out.blk)
 have HBL0 := HBL; clear HBL; have HBL := hid (HBL0.out.trans (hbn.mono HBL0.out.size)); clear HBL0 hbn
 rw [← hgg]
 clear HST HXV HXL hgg HFI
 have HFI := hid (firsts_any _ m.heads 1 _ (HSH.out _ HBL.out) HF.out.sorts HF.out.p.many)
 have c15 := row_at (HX1.out _ HBL.out) 15 _ rfl
 go_upto_region 7 with (first
  | (go_at_call 11; refine HFI.out.mono ?_; rintro e wf ⟨tcs, rfl, hx, hbn⟩; have HXV := hid hx; have HXL := hid (hx.lh (Sub.of_below hbn)); have HLF := hid (HLF.out.below hbn); have HGF := hid ((hbn.block _ (heap_lt HGF.out)).trans HGF.out); have HBL0 := HBL; clear HBL; have HBL := hid (HBL0.out.trans (hbn.mono HBL0.out.size)); clear HBL0 hbn; clear hx)
  | (refine wpList_store_blk (by rfl) 35 (.tmp 8) (.tmp 58) (by rfl) wf.heap.size 35 zeroH tcs (by rfl) (by rfl) (by rw [HXV.out.len]; rfl) (heap_alloc_new wf _) 21 head_size HXV.out.len HXV.out.one ?_; intro W6 hst; have HST := hid hst; clear hst)
  | fail)
 clear c15
 obtain ⟨g8, hgg⟩ : ∃ g8, g8 = wf.heap.size := ⟨_, rfl⟩
 have hbn : Below wf.heap.size wf W6 := (((Below.refl _ wf).alloc (Nat.le_refl _) _).trans HST.out.below)
 have HLF := hid (HLF.out.below hbn)
 have HGF := hid ((hbn.block _ (heap_lt HGF.out)).trans HGF.out)
 have HLT := hid (show LH W6 tq tcs by have h := HXL.out.below hbn; rw [HF.out.f1] at h; exact h)
 have HGT := hid (show W6.heap[g8]? = some (.cells tcs.toArray 35 (0, 0)) by rw [hgg]; exact HST.out.blk)
 have HBL0 := HBL; clear HBL; have HBL := hid (HBL0.out.trans (hbn.mono HBL0.out.size)); clear HBL0 hbn
 rw [← hgg]
 clear HST HXV HXL hgg HFI
 have HFI := hid (firsts_any _ m.heads 4 _ (HSH.out _ HBL.out) HF.out.sorts HF.out.p.many)
 have c15 := row_at (HX1.out _ HBL.out) 15 _ rfl
 go_upto_region 8 with (first
  | (go_at_call 11; refine HFI.out.mono ?_; rintro e wf ⟨ics, rfl, hx, hbn⟩; have HXV := hid hx; have HXL := hid (hx.lh (Sub.of_below hbn)); have HLF := hid (HLF.out.below hbn); have HGF := hid ((hbn.block _ (heap_lt HGF.out)).trans HGF.out); have HLT := hid (HLT.out.below hbn); have HGT := hid ((hbn.block _ (heap_lt HGT.out)).trans HGT.out); have HBL0 := HBL; clear HBL; have HBL := hid (HBL0.out.trans (hbn.mono HBL0.out.size)); clear HBL0 hbn; clear hx)
  | (refine wpList_store_blk (by rfl) 35 (.tmp 10) (.tmp 64) (by rfl) wf.heap.size 35 zeroH ics (by rfl) (by rfl) (by rw [HXV.out.len]; rfl) (heap_alloc_new wf _) 21 head_size HXV.out.len HXV.out.one ?_; intro W7 hst; have HST := hid hst; clear hst)
  | fail)
 clear c15
 obtain ⟨g10, hgg⟩ : ∃ g10, g10 = wf.heap.size := ⟨_, rfl⟩
 have hbn : Below wf.heap.size wf W7 := (((Below.refl _ wf).alloc (Nat.le_refl _) _).trans HST.out.below)
 have HLF := hid (HLF.out.below hbn)
 have HGF := hid ((hbn.block _ (heap_lt HGF.out)).trans HGF.out)
 have HLT := hid (HLT.out.below hbn)
 have HGT := hid ((hbn.block _ (heap_lt HGT.out)).trans HGT.out)
 have HLI := hid (show LH W7 id ics by have h := HXL.out.below hbn; rw [HF.out.f4] at h; exact h)
 have HGI := hid (show W7.heap[g10]? = some (.cells ics.toArray 35 (0, 0)) by rw [hgg]; exact HST.out.blk)
 have HBL0 := HBL; clear HBL; have HBL := hid (HBL0.out.trans (hbn.mono HBL0.out.size)); clear HBL0 hbn
 rw [← hgg]
 clear HST HXV HXL hgg HFI
 have HUP := hid (show ∀ wx, Below W7.heap.size W7 wx → Below wb.heap.size wb wx from fun wx h => HBL.out.trans (h.mono HBL.out.size))
 have HX1 := hid (fun wx (h : Below W7.heap.size W7 wx) => HX1.out wx (HUP.out wx h))
 have HX2 := hid (fun wx (h : Below W7.heap.size W7 wx) => HX2.out wx (HUP.out wx h))
 have HBW := hid (fun wx (h : Below W7.heap.size W7 wx) => HBW.out wx (HUP.out wx h))
 have HLA := hid (fun wx (h : Below W7.heap.size W7 wx) => HLA.out wx (HUP.out wx h))
 have HLB := hid (fun wx (h : Below W7.heap.size W7 wx) => HLB.out wx (HUP.out wx h))
 have HGL := hid (fun wx (h : Below W7.heap.size W7 wx) => HGL.out wx (HUP.out wx h))
 have HLF := hid (show ∀ wx, Below W7.heap.size W7 wx → LH wx fr fcs from fun wx h => HLF.out.below h)
 have HLT := hid (show ∀ wx, Below W7.heap.size W7 wx → LH wx tq tcs from fun wx h => HLT.out.below h)
 have HLI := hid (show ∀ wx, Below W7.heap.size W7 wx → LH wx id ics from fun wx h => HLI.out.below h)
 have HFL := hid (HLF.out W7 (Below.refl _ _)).len
 have HTL := hid (HLT.out W7 (Below.refl _ _)).len
 have HIL := hid (HLI.out W7 (Below.refl _ _)).len
 have HGF := hid (show ∀ wx, Below W7.heap.size W7 wx → wx.heap[g6]? = some (.cells fcs.toArray 35 (0, 0)) from fun wx h => by rw [h.block _ (heap_lt HGF.out)]; exact HGF.out)
 have HGT := hid (show ∀ wx, Below W7.heap.size W7 wx → wx.heap[g8]? = some (.cells tcs.toArray 35 (0, 0)) from fun wx h => by rw [h.block _ (heap_lt HGT.out)]; exact HGT.out)
 have HGI := hid (show ∀ wx, Below W7.heap.size W7 wx → wx.heap[g10]? = some (.cells ics.toArray 35 (0, 0)) from fun wx h => by rw [h.block _ (heap_lt HGI.out)]; exact HGI.out)
 clear HBL
 have HBL := hid (Below.refl W7.heap.size W7)
 obtain ⟨nf, hnf⟩ : ∃ n, n = (paramV fr.params tagK).length := ⟨_, rfl⟩
 obtain ⟨nt, hnt⟩ : ∃ n, n = (paramV tq.params tagK).length := ⟨_, rfl⟩
 have HNF := hid hnf
 have HNT := hid hnt
 clear hnf hnt
 have hz1 : nf = 0 ∨ ((nf : Int) == 0) = false := by
  by_cases h : nf = 0
  ·exact .inl h
  ·exact .inr (by rw [beq_eq_false_iff_ne]; omega)
 have hz2 : nt = 0 ∨ ((nt : Int) == 0) = false := by
  by_cases h : nt = 0
  ·exact .inl h
  ·exact .inr (by rw [beq_eq_false_iff_ne]; omega)
 rcases hz1 with rfl | z1 <;> rcases hz2 with rfl | z2 <;> go_upto_if 74 with (first
  | (refine wpList_load_any_w (by rfl) 35 (.tmp 6) (by rfl) ⟨g6, 0, none⟩ (by rfl) _ _ (row_cells (HGF.out _ HBL.out)) Tryz.underlying35 (by rfl) (by rw [head_size, HFL.out]) ?_)
  | (go_at_call_of 19 fcs; refine (tag_any fr fcs _ (HLF.out _ HBL.out)).mono ?_; rintro e wn ⟨v, rfl, hv, hbn⟩; obtain ⟨Av, cv, rfl, -⟩ := hv.form; rw [← HNF.out]; have HBL0 := HBL; clear HBL; have HBL := hid (HBL0.out.trans (hbn.mono HBL0.out.size)); clear HBL0 hbn; clear hv)
  | (refine wpList_load_any_w (by rfl) 35 (.tmp 8) (by rfl) ⟨g8, 0, none⟩ (by rfl) _ _ (row_cells (HGT.out _ HBL.out)) Tryz.underlying35 (by rfl) (by rw [head_size, HTL.out]) ?_)
  | (go_at_call_of 19 tcs; refine (tag_any tq tcs _ (HLT.out _ HBL.out)).mono ?_; rintro e wn ⟨v, rfl, hv, hbn⟩; obtain ⟨Av, cv, rfl, -⟩ := hv.form; rw [← HNT.out]; have HBL0 := HBL; clear HBL; have HBL := hid (HBL0.out.trans (hbn.mono HBL0.out.size)); clear HBL0 hbn; clear hv)
  | fail)
 any_goals
  have HK := hid (known_any N _ (HGL.out _ HBL.out))
  go_wp2_with (go_at_call 10; refine HK.out.mono ?_; rintro e w9 ⟨rfl, hb⟩)
  go_ret
  exact ⟨rfl, HBW.out _ (HBL.out.trans (hb.mono HBL.out.size))⟩
 have HPF := hid (show 0 < (paramV fr.params tagB).length by
  have h1 : nf ≠ 0 := by
   intro h
   rw [h] at z1
   simp at z1
  have h2 := HNF.out
  show 0 < (paramV fr.params tagK).length
  omega)
 have HPT := hid (show 0 < (paramV tq.params tagB).length by
  have h1 : nt ≠ 0 := by
   intro h
   rw [h] at z2
   simp at z2
  have h2 := HNT.out
  show 0 < (paramV tq.params tagK).length
  omega)
 clear z1 z2 HNF HNT
 go_upto_region 10 with fail
 refine wp_region_growG 8 133 (CK wn.heap.size) (IW wn)
  (fun i v w' => match i with
   | 0 => v = .agg #[.bool true, y1, y2, y3, y4, y5, y6, y7, y8, y9, y10, y11, y12, y13, y14, y15, y16, y17, y18]
   | 1 => v = .agg fcs.toArray
   | 2 => ∃ rs : List Value, v = .agg rs.toArray ∧ LMh wn.heap.size w' (chgM res fr) rs
   | 3 => v = .agg tcs.toArray
   | 4 => ∃ rs : List Value, v = .agg rs.toArray ∧ LMh wn.heap.size w' (chgM (chgM res fr) tq) rs
   | 5 => v = .agg ics.toArray
   | 6 => ∃ rs : List Value, v = .agg rs.toArray ∧ LMh wn.heap.size w' (chgM (chgM (chgM res fr) tq) id) rs
   | 7 => ∃ g, v = .pointer (some ⟨g, 0, none⟩) ∧ wn.heap.size ≤ g ∧ w'.heap[g]? = some (Obj.cells zeroM.toArray 28 (0, 0))
   | _ => True)
  [[], [], [0, 1], [], [2, 3], [], [4, 5], []] rfl (by kernel_rfl) (by kernel_rfl) (by kernel_rfl) (by first | (simp; done) | exact Nat.le_refl _) (fun w => CK.refl _ w) (fun _ _ => IW.step) ?_ ?_ ?_ ?_
 ·intro j hj v w'
  match j, hj with
  | j + 8, _ => trivial
 ·exact CK.of_below (Below.refl _ _).drew (Nat.le_refl _)
 ·simp only [List.take_succ_cons, List.take_zero, fillAll]
  refine ⟨⟨?_, ?_⟩, ⟨?_, ?_⟩, ⟨?_, ?_⟩, ⟨?_, ?_⟩, ⟨?_, ?_⟩, ⟨?_, ?_⟩, ⟨?_, ?_⟩, ⟨?_, ?_⟩, trivial⟩
  ·exact fun v w1 w2 h k => h
  ·intro vals w1 hI hd
   refine StepG.plain rfl ?_
   have HC := hid (HX2.out _ (HBL.out.trans (hI.below.mono HBL.out.size)))
   unfold GStep
   dsimp only
   go_simp
   refine wpList_load_any_w (by rfl) 28 (.tmp 3) (by rfl) ⟨(w.heap.size + 1), 0, none⟩ (by rfl) _ _ (row_cells HC.out) Tryz.underlying28 (by rfl) (by rw [msg_size]; rfl) ?_
   go_wp2
   exact CK.refl _ _
  ·exact fun v w1 w2 h k => h
  ·intro vals w1 hI hd
   refine StepG.plain rfl ?_
   have HC := hid (HGF.out _ (HBL.out.trans (hI.below.mono HBL.out.size)))
   unfold GStep
   dsimp only
   go_simp
   refine wpList_load_blk (by rfl) 35 (.tmp 6) (by rfl) g6 35 (0, 0) fcs (by rfl) HC.out _ Tryz.underlying35 rfl 21 head_size HFL.out ?_
   go_wp2
   exact CK.refl _ _
  ·rintro v w1 w2 ⟨l, h1, h2⟩ k
   exact ⟨l, h1, h2.ck k⟩
  ·intro vals w1 hI hd
   refine StepG.plain rfl ?_
   have e0 : vals 0 = _ := hd.1
   have e1 : vals 1 = _ := hd.2.1
   have HP := hid (changed_h wn.heap.size res fr _ fcs w1 ((HLB.out wn HBL.out).h hI.below (Nat.le_refl _)) ((HLF.out wn HBL.out).h hI.below (Nat.le_refl _)) HF2.out.p.many)
   unfold GStep
   go_wp2_with (go_at_call 14; refine HP.out.mono ?_; rintro e w2 ⟨rs, rfl, hr, hb⟩)
   first | exact CK.of_below hb hI.size | exact ⟨CK.of_below hb hI.size, rs, rfl, hr⟩ | exact ⟨CK.of_below hb hI.size, ⟨rs, rfl, hr⟩⟩
  ·exact fun v w1 w2 h k => h
  ·intro vals w1 hI hd
   refine StepG.plain rfl ?_
   have HC := hid (HGT.out _ (HBL.out.trans (hI.below.mono HBL.out.size)))
   unfold GStep
   dsimp only
   go_simp
   refine wpList_load_blk (by rfl) 35 (.tmp 8) (by rfl) g8 35 (0, 0) tcs (by rfl) HC.out _ Tryz.underlying35 rfl 21 head_size HTL.out ?_
   go_wp2
   exact CK.refl _ _
  ·rintro v w1 w2 ⟨l, h1, h2⟩ k
   exact ⟨l, h1, h2.ck k⟩
  ·intro vals w1 hI hd
   refine StepG.plain rfl ?_
   have e3 : vals 3 = _ := hd.2.1
   have r2 : ∃ rs : List Value, vals 2 = .agg rs.toArray ∧ LMh wn.heap.size w1 (chgM res fr) rs := hd.1
   clear hd
   unfold GStep
   dsimp only
   generalize vals 2 = q2 at r2 ⊢
   obtain ⟨rs1, rfl, hr1⟩ := r2
   have HP := hid (changed_h wn.heap.size (chgM res fr) tq rs1 tcs w1 hr1 ((HLT.out wn HBL.out).h hI.below (Nat.le_refl _)) (HF2.out.p.chg HF.out.ms2).many)
   clear hr1
   go_wp2_with (go_at_call 14; refine HP.out.mono ?_; rintro e w2 ⟨rs, rfl, hr, hb⟩)
   first | exact CK.of_below hb hI.size | exact ⟨CK.of_below hb hI.size, rs, rfl, hr⟩ | exact ⟨CK.of_below hb hI.size, ⟨rs, rfl, hr⟩⟩
  ·exact fun v w1 w2 h k => h
  ·intro vals w1 hI hd
   refine StepG.plain rfl ?_
   have HC := hid (HGI.out _ (HBL.out.trans (hI.below.mono HBL.out.size)))
   unfold GStep
   dsimp only
   go_simp
   refine wpList_load_blk (by rfl) 35 (.tmp 10) (by rfl) g10 35 (0, 0) ics (by rfl) HC.out _ Tryz.underlying35 rfl 21 head_size HIL.out ?_
   go_wp2
   exact CK.refl _ _
  ·rintro v w1 w2 ⟨l, h1, h2⟩ k
   exact ⟨l, h1, h2.ck k⟩
  ·intro vals w1 hI hd
   refine StepG.plain rfl ?_
   have e3 : vals 5 = _ := hd.2.1
   have r2 : ∃ rs : List Value, vals 4 = .agg rs.toArray ∧ LMh wn.heap.size w1 (chgM (chgM res fr) tq) rs := hd.1
   clear hd
   unfold GStep
   dsimp only
   generalize vals 4 = q2 at r2 ⊢
   obtain ⟨rs1, rfl, hr1⟩ := r2
   have HP := hid (changed_h wn.heap.size (chgM (chgM res fr) tq) id rs1 ics w1 hr1 ((HLI.out wn HBL.out).h hI.below (Nat.le_refl _)) ((HF2.out.p.chg HF.out.ms2).chg HF.out.ms1).many)
   clear hr1
   go_wp2_with (go_at_call 14; refine HP.out.mono ?_; rintro e w2 ⟨rs, rfl, hr, hb⟩)
   first | exact CK.of_below hb hI.size | exact ⟨CK.of_below hb hI.size, rs, rfl, hr⟩ | exact ⟨CK.of_below hb hI.size, ⟨rs, rfl, hr⟩⟩
  ·rintro v w1 w2 ⟨g, h1, h2, h3⟩ k
   exact ⟨g, h1, h2, k.same h3 (by decide)⟩
  ·intro vals w1 hI hd
   refine StepG.plain rfl ?_
   unfold GStep
   go_wp2
   have hbz := (Below.refl w1.heap.size w1).alloc (Nat.le_refl _) (.cells zeroM.toArray 28)
   have hnew := heap_alloc_new w1 (.cells zeroM.toArray 28)
   obtain ⟨_, hnew2⟩ := Array.getElem?_eq_some_iff.1 hnew
   first | exact ⟨CK.of_below hbz hI.size, hI.size, hnew2⟩ | exact ⟨CK.of_below hbz hI.size, w1.heap.size, rfl, hI.size, heap_alloc_new w1 _⟩
 ·intro vals w8 hI hR
  simp only [List.drop_succ_cons, List.drop_zero, List.take_succ_cons, List.take_zero, fillAll]
  obtain ⟨-, -, -, -, -, -, rv, ra, -⟩ := hR
  generalize vals 6 = qv at rv ⊢
  generalize vals 7 = qa at ra ⊢
  obtain ⟨rs, rfl, hr⟩ := rv
  obtain ⟨g11, rfl, hgn, hgz⟩ := ra
  have HRS := hid hr
  have HGZ := hid (And.intro hgn hgz)
  have HRL := hid hr.lm.len19
  have HR1 := hid hr.lm.one19
  have HB8 := hid (HBL.out.trans (hI.below.mono HBL.out.size))
  have HG6 := hid (show W7.heap.size ≤ g11 by have := HBL.out.size; omega)
  clear hI hr hgn hgz HBL
  try dsimp only
  go_simp
  go_upto_region 11 with (refine wpList_store_blk (by rfl) 28 (.tmp 11) (.tmp 82) (by rfl) g11 28 zeroM rs (by rfl) (by rfl) (by rw [HRL.out]; rfl) HGZ.out.2 19 msg_size HRL.out HR1.out ?_; intro W9 hst; have HST := hid hst; clear hst)
  have HAN := hid (HRS.out.stored HST.out HGZ.out.2 HGZ.out.1).lm
  have HGA := hid HST.out.blk
  have HB9 := hid (HB8.out.trans (HST.out.below.mono HG6.out))
  have HUQ := hid (show ∀ wx, Below W9.heap.size W9 wx → Below W7.heap.size W7 wx from fun wx h => HB9.out.trans (h.mono HB9.out.size))
  have HX1 := hid (fun wx (h : Below W9.heap.size W9 wx) => HX1.out wx (HUQ.out wx h))
  have HBW := hid (fun wx (h : Below W9.heap.size W9 wx) => HBW.out wx (HUQ.out wx h))
  have HLA := hid (fun wx (h : Below W9.heap.size W9 wx) => HLA.out wx (HUQ.out wx h))
  have HGL := hid (fun wx (h : Below W9.heap.size W9 wx) => HGL.out wx (HUQ.out wx h))
  have HLF := hid (fun wx (h : Below W9.heap.size W9 wx) => HLF.out wx (HUQ.out wx h))
  have HLT := hid (fun wx (h : Below W9.heap.size W9 wx) => HLT.out wx (HUQ.out wx h))
  have HGF := hid (fun wx (h : Below W9.heap.size W9 wx) => HGF.out wx (HUQ.out wx h))
  have HGT := hid (fun wx (h : Below W9.heap.size W9 wx) => HGT.out wx (HUQ.out wx h))
  have HAN := hid (show ∀ wx, Below W9.heap.size W9 wx → LM wx (chgM (chgM (chgM res fr) tq) id) rs from fun wx h => HAN.out.below h)
  have HGA := hid (show ∀ wx, Below W9.heap.size W9 wx → wx.heap[g11]? = some (.cells rs.toArray 28 (0, 0)) from fun wx h => by rw [h.block _ (heap_lt HGA.out)]; exact HGA.out)
  have HP2 := hid (((HF2.out.p.chg HF.out.ms2).chg HF.out.ms1).chg HF.out.ms4)
  have HF1 := hid ((HLF.out W9 (Below.refl _ _)).x W9).one
  have HT1 := hid ((HLT.out W9 (Below.refl _ _)).x W9).one
  have HT2 := hid (HLT.out W9 (Below.refl _ _)).two
  have HF3 := hid (HLF.out W9 (Below.refl _ _)).two
  clear HST HRS HGZ HB8 HB9 HUQ HG6 HR1
  have HBL := hid (Below.refl W9.heap.size W9)
  refine wp_region_growP 5 (TL W9.heap.size tcs) (fun w => Below W9.heap.size W9 w)
   (fun i vals w' => match i with
    | 0 => vals 0 = .agg tcs.toArray
    | 1 => vals 1 = .agg fcs.toArray
    | 2 => BoxH W9.heap.size (vals 2) w'
    | 3 => BoxH W9.heap.size (vals 3) w'
    | 4 => BoxD tcs (vals 2) w'
    | _ => True)
   Lies (fun i => i == 2 || i == 3) (fun _ _ _ h k => h.tl k)
   [[], [], [], [], [0, 2]] rfl (by kernel_rfl) (by kernel_rfl) (fun _ _ h k => h.trans k.1) ?_ ?_ ?_ ?_
  ·intro j hj v w'
   match j, hj with
   | j + 5, _ => trivial
  ·exact (Below.refl _ _).drew
  ·simp only [List.take_succ_cons, List.take_zero, fillAll]
   refine ⟨⟨?_, ?_, ?_⟩, ⟨?_, ?_, ?_⟩, ⟨?_, ?_, ?_⟩, ⟨?_, ?_, ?_⟩, ⟨?_, ?_, ?_⟩, trivial⟩
   ·exact fun vals w1 w2 h k => h
   ·exact fun vals vals' w1 e _ h => e.symm.trans h
   ·intro vals w1 hI hd
    have HC := hid (HGT.out _ hI)
    unfold GStep
    dsimp only
    go_simp
    refine wpList_load_blk (by rfl) 35 (.tmp 8) (by rfl) g8 35 (0, 0) tcs (by rfl) HC.out _ Tryz.underlying35 rfl 21 head_size HTL.out ?_
    go_wp2
    first | exact TL.refl _ _ _ | exact ⟨TL.refl _ _ _, fun h => by cases h⟩ | exact ⟨TL.refl _ _ _, rfl, fun h => by cases h⟩
   ·exact fun vals w1 w2 h k => h
   ·exact fun vals vals' w1 e _ h => e.symm.trans h
   ·intro vals w1 hI hd
    have HC := hid (HGF.out _ hI)
    unfold GStep
    dsimp only
    go_simp
    refine wpList_load_blk (by rfl) 35 (.tmp 6) (by rfl) g6 35 (0, 0) fcs (by rfl) HC.out _ Tryz.underlying35 rfl 21 head_size HFL.out ?_
    go_wp2
    first | exact TL.refl _ _ _ | exact ⟨TL.refl _ _ _, fun h => by cases h⟩ | exact ⟨TL.refl _ _ _, rfl, fun h => by cases h⟩
   ·exact fun vals w1 w2 h k => h.tl k
   ·exact fun vals vals' w1 e _ h => by show BoxH _ (vals' 2) _; rw [← e]; exact h
   ·intro vals w1 hI hd
    have HI := hid hI
    clear hI
    unfold GStep
    go_wp2
    have hnew := heap_alloc_new w1 (.cells zeroH.toArray 35)
    exact ⟨TL.new tcs HI.out.size _, ⟨w1.heap.size, zeroH, rfl, HI.out.size, rfl, hnew⟩, lies_new (World.size_alloc _ _)⟩
   ·exact fun vals w1 w2 h k => h.tl k
   ·exact fun vals vals' w1 e _ h => by show BoxH _ (vals' 3) _; rw [← e]; exact h
   ·intro vals w1 hI hd
    have HI := hid hI
    clear hI
    unfold GStep
    go_wp2
    have hnew := heap_alloc_new w1 (.cells zeroH.toArray 35)
    exact ⟨TL.new tcs HI.out.size _, ⟨w1.heap.size, zeroH, rfl, HI.out.size, rfl, hnew⟩, lies_new (World.size_alloc _ _)⟩
   ·exact fun vals w1 w2 h k => BoxD.tl HTL.out h k
   ·exact fun vals vals' w1 _ e h => by show BoxD _ (vals' 2) _; rw [← e 2 (by simp)]; exact h
   ·intro vals w1 hI hd
    obtain ⟨r0, r2, -⟩ := hd
    have e0 : vals 0 = _ := r0
    have HI := hid hI
    clear hI r0
    unfold GStep
    dsimp only
    go_simp
    generalize vals 0 = q0 at e0 ⊢
    subst e0
    generalize vals 2 = q2 at r2 ⊢
    obtain ⟨g, zs, rfl, hn, hz, hg⟩ := r2
    refine wpList_store_blk (by rfl) 35 (.tmp 12) (.tmp 83) (by rfl) g 35 zs tcs (by rfl) (by rfl) (by rw [HTL.out, hz]) hg 21 head_size HTL.out HT1.out ?_
    intro W' hst
    have HST := hid hst
    have HN := hid hn
    clear hst hg hz hn
    go_wp2
    exact ⟨TL.stored HST.out HN.out HTL.out, g, rfl, HST.out.blk⟩
  ·intro vals w8 hI hR hne
   have hne' := hne 2 3 (by decide) (by decide) rfl rfl (by decide)
   simp only [List.drop_succ_cons, List.drop_zero, List.take_succ_cons, List.take_zero, fillAll]
   obtain ⟨r0, r1, r2, r3, r4, -⟩ := hR
   have e1 : vals 1 = _ := r1
   clear r0 r1
   rw [e1]
   clear e1
   generalize vals 2 = q2 at r2 r4 hne' ⊢
   generalize vals 3 = q3 at r3 hne' ⊢
   obtain ⟨g12, zs2, rfl, n12, -, -⟩ := r2
   obtain ⟨g12', e12, z12⟩ := r4
   obtain rfl : g12 = g12' := by
    injection e12 with e12
    injection e12 with e12
    injection e12
   obtain ⟨g13, zs, rfl, n13, l13, z13⟩ := r3
   have HNE := hid (show g12 ≠ g13 from fun h => hne' (by rw [h]))
   have HZ := hid (And.intro z12 z13)
   have HZL := hid l13
   have HN := hid (And.intro n12 n13)
   have HB8 := hid hI
   clear hI hne hne' n12 n13 z12 z13 HBL l13 e12
   try dsimp only
   go_simp
   go_upto_region 12 with (refine wpList_store_blk (by rfl) 35 (.tmp 13) (.tmp 84) (by rfl) g13 35 zs fcs (by rfl) (by rfl) (by rw [HFL.out, HZL.out]) HZ.out.2 21 head_size HFL.out HF1.out ?_; intro Wb hst; have HSB := hid hst; clear hst)
   have HSA := hid (HSB.out.keep HZ.out.1 HNE.out)
   go_upto_region 13 with (first
    | (refine wpList_store_cell (by rfl) 3 (.tmp 85) (.const (.int .i64 2)) (by rfl) g12 0 35 tcs (.int .i64 2) (by rfl) (by rfl) HSA.out (by rw [HTL.out]; decide) rfl int_size ?_; intro Wc hst; have HSC := hid hst; clear hst)
    | (refine wpList_store_cell (by rfl) 3 (.tmp 86) (.const (.int .i64 1)) (by rfl) g13 0 35 fcs (.int .i64 1) (by rfl) (by rfl) (HSC.out.keep HSB.out.blk (Ne.symm HNE.out)) (by rw [HFL.out]; decide) rfl int_size ?_; intro Wd hst; have HSD := hid hst; clear hst)
    | fail)
   have HBD := hid (show Below W9.heap.size W9 Wd from ((HB8.out.trans (HSB.out.below.mono HN.out.2)).trans (HSC.out.below.mono HN.out.1)).trans (HSD.out.below.mono HN.out.2))
   have HD12 := hid (HSD.out.keep HSC.out.blk HNE.out)
   have HD13 := hid HSD.out.blk
   clear HSA HSB HSC HSD HZ HB8
   obtain ⟨s2, hs2⟩ : ∃ s : ByteArray, s = ⟨#[70, 114, 111, 109]⟩ := ⟨_, rfl⟩
   obtain ⟨s1, hs1⟩ : ∃ s : ByteArray, s = ⟨#[84, 111]⟩ := ⟨_, rfl⟩
   have HN2 := hid (show ∀ wx : World, Calls Tryz.prog 20 #[.int .i64 2] wx (fun e w' => e = .returned (.string s2) ∧ Below wx.heap.size wx w') by rw [hs2]; exact nameof_2)
   have HN1 := hid (show ∀ wx : World, Calls Tryz.prog 20 #[.int .i64 1] wx (fun e w' => e = .returned (.string s1) ∧ Below wx.heap.size wx w') by rw [hs1]; exact nameof_1)
   have HSZ2 := hid (show s2.size ≤ 70368744177664 by rw [hs2]; decide)
   have HSZ1 := hid (show s1.size ≤ 70368744177664 by rw [hs1]; decide)
   clear hs2 hs1
   go_upto_region 14 with (first
    | (go_at_call 20; with_reducible refine (HN2.out _).mono ?_; rintro e w13 ⟨rfl, hb13⟩; have hr13 := Lib.run_convert_string_bytes (P := Tryz.prog) w13 9 22 5 s2 Tryz.underlying9 Tryz.underlying22 Tryz.underlying5; have Y13 := hid (conv_sbu w13 s2 HSZ2.out); have HB13 := hid (hb13.trans (Y13.out.2.mono hb13.size)); clear hb13)
    | (go_at_call 20; with_reducible refine (HN1.out _).mono ?_; rintro e w14 ⟨rfl, hb14⟩; have hr14 := Lib.run_convert_string_bytes (P := Tryz.prog) w14 9 22 5 s1 Tryz.underlying9 Tryz.underlying22 Tryz.underlying5; have Y14 := hid (conv_sbu w14 s1 HSZ1.out); have HB14 := hid (hb14.trans (Y14.out.2.mono hb14.size)); have HBF := hid (HB13.out.trans (HB14.out.mono HB13.out.size)); clear hb14)
    | (refine wpList_store_cell (by rfl) 22 (.tmp 91) (.tmp 88) (by rfl) g12 1 35 (tcs.set 0 (.int .i64 2)) (.slice (some ⟨w13.heap.size, 0, none⟩) s2.size (grownCap w13 s2.size 0 5)) (by rfl) (by rfl) (below_at HBF.out HD12.out (heap_lt HD12.out)) (by rw [List.length_set, HTL.out]; decide) rfl bs_size ?_; intro We hst; have HSE := hid hst; clear hst)
    | (refine wpList_store_cell (by rfl) 22 (.tmp 92) (.tmp 90) (by rfl) g13 1 35 (fcs.set 0 (.int .i64 1)) (.slice (some ⟨w14.heap.size, 0, none⟩) s1.size (grownCap w14 s1.size 0 5)) (by rfl) (by rfl) (HSE.out.keep (below_at HBF.out HD13.out (heap_lt HD13.out)) (Ne.symm HNE.out)) (by rw [List.length_set, HFL.out]; decide) rfl bs_size ?_; intro W11 hst; have HSF := hid hst; clear hst)
    | fail)
   have HB11 := hid (show Below W9.heap.size W9 W11 from ((HBD.out.trans (HBF.out.mono HBD.out.size)).trans (HSE.out.below.mono HN.out.1)).trans (HSF.out.below.mono HN.out.2))
   obtain ⟨v13, hv13⟩ : ∃ v : Value, v = (.slice (some ⟨w13.heap.size, 0, none⟩) s2.size (grownCap w13 s2.size 0 5)) := ⟨_, rfl⟩
   obtain ⟨v14, hv14⟩ : ∃ v : Value, v = (.slice (some ⟨w14.heap.size, 0, none⟩) s1.size (grownCap w14 s1.size 0 5)) := ⟨_, rfl⟩
   have HS13 := hid (show SB W11 v13 s2.data.toList by
    rw [hv13]
    exact (((Y13.out.1.ku (CK.of_below HB14.out (Nat.le_refl _)).ku).ku (HSE.out.ku (Nat.zero_le _) (below_at HBF.out HD12.out (heap_lt HD12.out)) (by decide))).ku (HSF.out.ku (Nat.zero_le _) (HSE.out.keep (below_at HBF.out HD13.out (heap_lt HD13.out)) (Ne.symm HNE.out)) (by decide))).sb)
   have HS14 := hid (show SB W11 v14 s1.data.toList by
    rw [hv14]
    exact ((Y14.out.1.ku (HSE.out.ku (Nat.zero_le _) (below_at HBF.out HD12.out (heap_lt HD12.out)) (by decide))).ku (HSF.out.ku (Nat.zero_le _) (HSE.out.keep (below_at HBF.out HD13.out (heap_lt HD13.out)) (Ne.symm HNE.out)) (by decide))).sb)
   obtain ⟨T2, hT2⟩ : ∃ l : List Value, l = .int .i64 2 :: v13 :: tcs.drop 2 := ⟨_, rfl⟩
   obtain ⟨F2, hF2⟩ : ∃ l : List Value, l = .int .i64 1 :: v14 :: fcs.drop 2 := ⟨_, rfl⟩
   have HG12 := hid (show W11.heap[g12]? = some (.cells T2.toArray 35 (0, 0)) by
    have h := HSF.out.keep HSE.out.blk HNE.out
    rw [← hv13] at h
    obtain ⟨x0, x1, r, er, -⟩ := HT2.out
    rw [hT2, er]
    rw [er] at h
    exact h)
   have HG13 := hid (show W11.heap[g13]? = some (.cells F2.toArray 35 (0, 0)) by
    have h := HSF.out.blk
    rw [← hv14] at h
    obtain ⟨x0, x1, r, er, -⟩ := HF3.out
    rw [hF2, er]
    rw [er] at h
    exact h)
   obtain ⟨tqH, htq⟩ : ∃ x, x = turnH tq 2 s2.data.toList := ⟨_, rfl⟩
   obtain ⟨frH, hfr⟩ : ∃ x, x = turnH fr 1 s1.data.toList := ⟨_, rfl⟩
   have HLT2 := hid (show LH W11 tqH T2 by rw [htq, hT2]; exact (HLT.out W11 HB11.out).turn 2 (by unfold I64; omega) HS13.out)
   have HLF2 := hid (show LH W11 frH F2 by rw [hfr, hF2]; exact (HLF.out W11 HB11.out).turn 1 (by unfold I64; omega) HS14.out)
   have HMT := hid (show HMs tqH by rw [htq]; exact HF.out.ms1.turn2 HF.out.t1 _)
   have HMF := hid (show HMs frH by rw [hfr]; exact HF.out.ms2.turn1 HF.out.t2 _)
   have HWAY := hid (show DlgF (chgM (chgM m tqH) frH) id.text (paramV fr.params tagB) (paramV tq.params tagB) by rw [htq, hfr]; exact HF.out.way _ _ HPF.out HPT.out)
   have HTL2 := hid HLT2.out.len
   have HFL2 := hid HLF2.out.len
   have HUQ := hid (show ∀ wx, Below W11.heap.size W11 wx → Below W9.heap.size W9 wx from fun wx h => HB11.out.trans (h.mono HB11.out.size))
   have HX1 := hid (fun wx (h : Below W11.heap.size W11 wx) => HX1.out wx (HUQ.out wx h))
   have HBW := hid (fun wx (h : Below W11.heap.size W11 wx) => HBW.out wx (HUQ.out wx h))
   have HLA := hid (fun wx (h : Below W11.heap.size W11 wx) => HLA.out wx (HUQ.out wx h))
   have HGL := hid (fun wx (h : Below W11.heap.size W11 wx) => HGL.out wx (HUQ.out wx h))
   have HAN := hid (fun wx (h : Below W11.heap.size W11 wx) => HAN.out wx (HUQ.out wx h))
   have HGA := hid (fun wx (h : Below W11.heap.size W11 wx) => HGA.out wx (HUQ.out wx h))
   have HLT2 := hid (show ∀ wx, Below W11.heap.size W11 wx → LH wx tqH T2 from fun wx h => HLT2.out.below h)
   have HLF2 := hid (show ∀ wx, Below W11.heap.size W11 wx → LH wx frH F2 from fun wx h => HLF2.out.below h)
   have HG12 := hid (show ∀ wx, Below W11.heap.size W11 wx → wx.heap[g12]? = some (.cells T2.toArray 35 (0, 0)) from fun wx h => below_at h HG12.out (heap_lt HG12.out))
   have HG13 := hid (show ∀ wx, Below W11.heap.size W11 wx → wx.heap[g13]? = some (.cells F2.toArray 35 (0, 0)) from fun wx h => below_at h HG13.out (heap_lt HG13.out))
   clear HSE HSF HB11 HBF HB13 HB14 Y13 Y14 HS13 HS14 hT2 hF2 htq hfr hv13 hv14 HD12 HD13 HBD HN HNE HN1 HN2 HSZ1 HSZ2 HUQ HT2 HF3 HT1 HF1
   try clear hr13
   try clear hr14
   have HBL := hid (Below.refl W11.heap.size W11)
   refine wp_region_growG 6 133 (CK W11.heap.size) (IW W11)
    (fun i v w' => match i with
     | 0 => v = .agg #[.bool false, .slice Am m.method.length cm, x2, x3, x4, x5, x6, x7, x8, x9, x10, x11, x12, x13, x14, .slice Ax m.heads.length cx, x16, x17, x18]
     | 1 => v = .agg T2.toArray
     | 2 => ∃ rs : List Value, v = .agg rs.toArray ∧ LMh W11.heap.size w' (chgM m tqH) rs
     | 3 => v = .agg F2.toArray
     | 4 => ∃ rs : List Value, v = .agg rs.toArray ∧ LMh W11.heap.size w' (chgM (chgM m tqH) frH) rs
     | 5 => ∃ g, v = .pointer (some ⟨g, 0, none⟩) ∧ W11.heap.size ≤ g ∧ w'.heap[g]? = some (Obj.cells zeroM.toArray 28 (0, 0))
     | _ => True)
    [[], [], [0, 1], [], [2, 3], []] rfl (by kernel_rfl) (by kernel_rfl) (by kernel_rfl) (by first | (simp; done) | exact Nat.le_refl _) (fun w => CK.refl _ w) (fun _ _ => IW.step) ?_ ?_ ?_ ?_
   ·intro j hj v w'
    match j, hj with
    | j + 6, _ => trivial
   ·exact CK.of_below (Below.refl _ _).drew (Nat.le_refl _)
   ·simp only [List.take_succ_cons, List.take_zero, fillAll]
    refine ⟨⟨?_, ?_⟩, ⟨?_, ?_⟩, ⟨?_, ?_⟩, ⟨?_, ?_⟩, ⟨?_, ?_⟩, ⟨?_, ?_⟩, trivial⟩
    ·exact fun v w1 w2 h k => h
    ·intro vals w1 hI hd
     refine StepG.plain rfl ?_
     have HC := hid (HX1.out _ (HBL.out.trans (hI.below.mono HBL.out.size)))
     unfold GStep
     dsimp only
     go_simp
     refine wpList_load_any_w (by rfl) 28 (.tmp 2) (by rfl) ⟨w.heap.size, 0, none⟩ (by rfl) _ _ (row_cells HC.out) Tryz.underlying28 (by rfl) (by rw [msg_size]; rfl) ?_
     go_wp2
     exact CK.refl _ _
    ·exact fun v w1 w2 h k => h
    ·intro vals w1 hI hd
     refine StepG.plain rfl ?_
     have HC := hid (HG12.out _ (HBL.out.trans (hI.below.mono HBL.out.size)))
     unfold GStep
     dsimp only
     go_simp
     refine wpList_load_blk (by rfl) 35 (.tmp 12) (by rfl) g12 35 (0, 0) T2 (by rfl) HC.out _ Tryz.underlying35 rfl 21 head_size HTL2.out ?_
     go_wp2
     exact CK.refl _ _
    ·rintro v w1 w2 ⟨l, h1, h2⟩ k
     exact ⟨l, h1, h2.ck k⟩
    ·intro vals w1 hI hd
     refine StepG.plain rfl ?_
     have e0 : vals 0 = _ := hd.1
     have e1 : vals 1 = _ := hd.2.1
     have HP := hid (changed_h W11.heap.size m tqH _ T2 w1 ((HLA.out W11 HBL.out).h hI.below (Nat.le_refl _)) ((HLT2.out W11 HBL.out).h hI.below (Nat.le_refl _)) HF.out.p.many)
     unfold GStep
     go_wp2_with (go_at_call 14; refine HP.out.mono ?_; rintro e w2 ⟨rs, rfl, hr, hb⟩)
     first | exact CK.of_below hb hI.size | exact ⟨CK.of_below hb hI.size, rs, rfl, hr⟩ | exact ⟨CK.of_below hb hI.size, ⟨rs, rfl, hr⟩⟩
    ·exact fun v w1 w2 h k => h
    ·intro vals w1 hI hd
     refine StepG.plain rfl ?_
     have HC := hid (HG13.out _ (HBL.out.trans (hI.below.mono HBL.out.size)))
     unfold GStep
     dsimp only
     go_simp
     refine wpList_load_blk (by rfl) 35 (.tmp 13) (by rfl) g13 35 (0, 0) F2 (by rfl) HC.out _ Tryz.underlying35 rfl 21 head_size HFL2.out ?_
     go_wp2
     exact CK.refl _ _
    ·rintro v w1 w2 ⟨l, h1, h2⟩ k
     exact ⟨l, h1, h2.ck k⟩
    ·intro vals w1 hI hd
     refine StepG.plain rfl ?_
     have e3 : vals 3 = _ := hd.2.1
     have r2 : ∃ rs : List Value, vals 2 = .agg rs.toArray ∧ LMh W11.heap.size w1 (chgM m tqH) rs := hd.1
     clear hd
     unfold GStep
     dsimp only
     generalize vals 2 = q2 at r2 ⊢
     obtain ⟨rs1, rfl, hr1⟩ := r2
     have HP := hid (changed_h W11.heap.size (chgM m tqH) frH rs1 F2 w1 hr1 ((HLF2.out W11 HBL.out).h hI.below (Nat.le_refl _)) (HF.out.p.chg HMT.out).many)
     clear hr1
     go_wp2_with (go_at_call 14; refine HP.out.mono ?_; rintro e w2 ⟨rs, rfl, hr, hb⟩)
     first | exact CK.of_below hb hI.size | exact ⟨CK.of_below hb hI.size, rs, rfl, hr⟩ | exact ⟨CK.of_below hb hI.size, ⟨rs, rfl, hr⟩⟩
    ·rintro v w1 w2 ⟨g, h1, h2, h3⟩ k
     exact ⟨g, h1, h2, k.same h3 (by decide)⟩
    ·intro vals w1 hI hd
     refine StepG.plain rfl ?_
     unfold GStep
     go_wp2
     have hbz := (Below.refl w1.heap.size w1).alloc (Nat.le_refl _) (.cells zeroM.toArray 28)
     have hnew := heap_alloc_new w1 (.cells zeroM.toArray 28)
     obtain ⟨_, hnew2⟩ := Array.getElem?_eq_some_iff.1 hnew
     first | exact ⟨CK.of_below hbz hI.size, hI.size, hnew2⟩ | exact ⟨CK.of_below hbz hI.size, w1.heap.size, rfl, hI.size, heap_alloc_new w1 _⟩
   ·intro vals w8 hI hR
    simp only [List.drop_succ_cons, List.drop_zero, List.take_succ_cons, List.take_zero, fillAll]
    obtain ⟨-, -, -, -, rv, ra, -⟩ := hR
    generalize vals 4 = qv at rv ⊢
    generalize vals 5 = qa at ra ⊢
    obtain ⟨rt, rfl, hr⟩ := rv
    obtain ⟨g14, rfl, hgn, hgz⟩ := ra
    have HRS := hid hr
    have HGZ := hid (And.intro hgn hgz)
    have HRLW := hid hr.lm.len19
    have HR1 := hid hr.lm.one19
    have HB8 := hid (HBL.out.trans (hI.below.mono HBL.out.size))
    have HG6 := hid (show W11.heap.size ≤ g14 by have := HBL.out.size; omega)
    clear hI hr hgn hgz HBL
    try dsimp only
    go_simp
    go_upto_region 15 with (refine wpList_store_blk (by rfl) 28 (.tmp 14) (.tmp 97) (by rfl) g14 28 zeroM rt (by rfl) (by rfl) (by rw [HRLW.out]; rfl) HGZ.out.2 19 msg_size HRLW.out HR1.out ?_; intro W12 hst; have HST := hid hst; clear hst)
    have HANW := hid (HRS.out.stored HST.out HGZ.out.2 HGZ.out.1).lm
    have HGAW := hid HST.out.blk
    have HB9 := hid (HB8.out.trans (HST.out.below.mono HG6.out))
    have HUQ := hid (show ∀ wx, Below W12.heap.size W12 wx → Below W11.heap.size W11 wx from fun wx h => HB9.out.trans (h.mono HB9.out.size))
    have HX1 := hid (fun wx (h : Below W12.heap.size W12 wx) => HX1.out wx (HUQ.out wx h))
    have HBW := hid (fun wx (h : Below W12.heap.size W12 wx) => HBW.out wx (HUQ.out wx h))
    have HLA := hid (fun wx (h : Below W12.heap.size W12 wx) => HLA.out wx (HUQ.out wx h))
    have HGL := hid (fun wx (h : Below W12.heap.size W12 wx) => HGL.out wx (HUQ.out wx h))
    have HAN := hid (fun wx (h : Below W12.heap.size W12 wx) => HAN.out wx (HUQ.out wx h))
    have HGA := hid (fun wx (h : Below W12.heap.size W12 wx) => HGA.out wx (HUQ.out wx h))
    have HANW := hid (show ∀ wx, Below W12.heap.size W12 wx → LM wx (chgM (chgM m tqH) frH) rt from fun wx h => HANW.out.below h)
    have HGAW := hid (show ∀ wx, Below W12.heap.size W12 wx → wx.heap[g14]? = some (.cells rt.toArray 28 (0, 0)) from fun wx h => by rw [h.block _ (heap_lt HGAW.out)]; exact HGAW.out)
    have HP3 := hid ((HF.out.p.chg HMT.out).chg HMF.out)
    have HD1 := hid (HF.out.mine HPF.out HPT.out)
    have HD2 := hid (HF.out.answer HF2.out HPF.out HPT.out)
    clear HST HRS HGZ HB8 HB9 HUQ HG6 HR1
    have HBL := hid (Below.refl W12.heap.size W12)
    obtain ⟨K, hK⟩ : ∃ K, K = joinS (bs id.text) (bs (paramV tq.params tagB)) (bs (paramV fr.params tagB)) := ⟨_, rfl⟩
    have HK := hid hK
    clear hK
    go_upto_region 16 with (first
     | (refine wpList_load_any_w (by rfl) 28 (.tmp 2) (by rfl) ⟨w.heap.size, 0, none⟩ (by rfl) _ _ (row_cells (HX1.out _ HBL.out)) Tryz.underlying28 (by rfl) (by rw [msg_size]; rfl) ?_)
     | (go_at_call 21; refine (dlg_uas N m _ id.text (paramV tq.params tagB) (paramV fr.params tagB) _ (HGL.out _ HBL.out) (HF.out.p.k (HLA.out _ HBL.out)) HD1.out HRM.out).mono ?_; rintro e wn ⟨va, rfl, hka, hbn⟩; have HBL0 := HBL; clear HBL; have HBL := hid (HBL0.out.trans (hbn.mono HBL0.out.size)); clear HBL0 hbn)
     | fail)
    rw [← HK.out] at hka
    have HKA := hid hka.sb
    obtain ⟨ka, capa, cs_ka, fz_ka, rfl, -⟩ := hka
    go_upto_region 17 with (first
     | (refine wpList_load_blk (by rfl) 28 (.tmp 11) (by rfl) g11 28 (0, 0) rs (by rfl) (HGA.out _ HBL.out) _ Tryz.underlying28 rfl 19 msg_size HRL.out ?_)
     | (go_at_call 21; refine (dlg_res N (chgM (chgM (chgM res fr) tq) id) rs id.text (paramV tq.params tagB) (paramV fr.params tagB) _ (HGL.out _ HBL.out) (HP2.out.k (HAN.out _ HBL.out)) HD2.out HRR.out).mono ?_; rintro e wn ⟨vb, rfl, hkb, hbn⟩; have HKA0 := HKA; clear HKA; have HKA := hid (HKA0.out.below hbn); clear HKA0; have HBL0 := HBL; clear HBL; have HBL := hid (HBL0.out.trans (hbn.mono HBL0.out.size)); clear HBL0 hbn)
     | fail)
    rw [← HK.out] at hkb
    have HKB := hid hkb.sb
    obtain ⟨kb, capb, cs_kb, fz_kb, rfl, -⟩ := hkb
    go_upto_region 18 with (first
     | (refine wpList_load_blk (by rfl) 28 (.tmp 14) (by rfl) g14 28 (0, 0) rt (by rfl) (HGAW.out _ HBL.out) _ Tryz.underlying28 rfl 19 msg_size HRLW.out ?_)
     | (go_at_call 21; refine (dlg_uac N (chgM (chgM m tqH) frH) rt id.text (paramV fr.params tagB) (paramV tq.params tagB) _ (HGL.out _ HBL.out) (HP3.out.k (HANW.out _ HBL.out)) HWAY.out HRM.out).mono ?_; rintro e wn ⟨vc, rfl, hkc, hbn⟩; have HKA0 := HKA; clear HKA; have HKA := hid (HKA0.out.below hbn); clear HKA0; have HKB0 := HKB; clear HKB; have HKB := hid (HKB0.out.below hbn); clear HKB0; have HBL0 := HBL; clear HBL; have HBL := hid (HBL0.out.trans (hbn.mono HBL0.out.size)); clear HBL0 hbn)
     | fail)
    rw [← HK.out] at hkc
    have HKC := hid hkc.sb
    obtain ⟨kc, capc, cs_kc, fz_kc, rfl, -⟩ := hkc
    clear HK
    go_wp2_with (first
     | (go_at_call_of 18 kb; refine (equal_any _ _ K K _ HKA.out HKB.out).mono ?_; rintro e wn ⟨he, hbn⟩; have he' : e = .returned (.bool true) := he.trans (ret_bool (decide_eq_true rfl)); subst he'; clear he; have HKA0 := HKA; clear HKA; have HKA := hid (HKA0.out.below hbn); clear HKA0; have HKC0 := HKC; clear HKC; have HKC := hid (HKC0.out.below hbn); clear HKC0; have HBL0 := HBL; clear HBL; have HBL := hid (HBL0.out.trans (hbn.mono HBL0.out.size)); clear HBL0 hbn)
     | (go_at_call_of 18 kc; refine (equal_any _ _ K K _ HKA.out HKC.out).mono ?_; rintro e wn ⟨he, hbn⟩; have he' : e = .returned (.bool true) := he.trans (ret_bool (decide_eq_true rfl)); subst he'; clear he; have HBL0 := HBL; clear HBL; have HBL := hid (HBL0.out.trans (hbn.mono HBL0.out.size)); clear HBL0 hbn)
     | (go_at_call 10; refine (known_any N _ (HGL.out _ HBL.out)).mono ?_; rintro e wn ⟨rfl, hbn⟩; have HBL0 := HBL; clear HBL; have HBL := hid (HBL0.out.trans (hbn.mono HBL0.out.size)); clear HBL0 hbn)
     | fail)
    go_ret
    exact ⟨rfl, HBW.out _ HBL.out⟩
end
section
open Go.Lib (hid)
open Go.ChangeShapes Go.WideShapes Go.ChangeAt Go.RowKit
def msg0 : Value := .agg #[.bool false, .slice none 0 0, .slice none 0 0, .slice none 0 0, .bool false, .bool false, .slice none 0 0, .slice none 0 0, .slice none 0 0, .int .i64 0, .slice none 0 0, .slice none 0 0, .int .i64 0, .slice none 0 0, .slice none 0 0, .slice none 0 0, .slice none 0 0, .bool false, .bool false]
def Mz {H : Type} : DataW H := .agg [.lit (.bool false), .nil, .agg [.nil, .nil, .lit (.bool false), .lit (.bool false), .nil, .nil, .nil, .lit (.int .i64 0), .nil, .nil], .lit (.int .i64 0), .nil, .nil, .nil, .nil, .lit (.bool false), .lit (.bool false)]
theorem dlg_witness (os : Os) {H : Type} (enc : TypeId × Value → H) :
  (Rows.OpenSpec.upto Rows.fnDialogSpec).preRow enc Tryz.prog Tryz.f4 Rows.fnDialogUptoRow.domain false Rows.fnDialogUptoRow.laid ((laidWorld os).forCall (fun _ _ => 0) ⟨#[], #[msg0, msg0], []⟩).memory #[msg0, msg0] := by
 have hw : (DataW.whole enc Tryz.prog ((laidWorld os).forCall (fun _ _ => 0) ⟨#[], #[msg0, msg0], []⟩).memory Tryz.f4.params.toList (Rows.OpenSpec.upto Rows.fnDialogSpec).vars false #[msg0, msg0].toList 8).map (fun x => (x.1, x.2.1)) =
   some ([Mz, Mz], []) := by kernel_rfl
 obtain ⟨⟨x1, x2, x3⟩, hx, hx1⟩ := Option.map_eq_some_iff.1 hw
 simp only [Prod.mk.injEq] at hx1
 obtain ⟨rfl, rfl⟩ := hx1
 exact OpenSpec.preRow_of_cond 8 hx (by kernel_rfl) (fun k hk => by cases hk; kernel_rfl) (by kernel_rfl) (laid_met os _)
theorem agg_of {W : World} {base : Nat} {v : Value} (h : Value.okWide Tryz.prog W .any base 28 v) : ∃ cs : Array Value, v = .agg cs := by
 unfold Value.okWide at h
 rw [Tryz.underlying28] at h
 obtain ⟨cs, h1, _⟩ := h
 exact ⟨cs, h1⟩
theorem dlg_lifted (os : Os) (started : os.Started) (H : Type) (enc : TypeId × Value → H) (F : Stop.Interp) :
  ReturnsInHanded {} Tryz.checked os 4 .any ((Rows.OpenSpec.upto Rows.fnDialogSpec).preRow enc Tryz.prog Tryz.f4 Rows.fnDialogUptoRow.domain false Rows.fnDialogUptoRow.laid) (((Rows.OpenSpec.upto Rows.fnDialogSpec).at F).post enc Tryz.prog Tryz.f4 false true false false) := by
 refine returnsInHanded_of_row (C := Tryz.checked) (s := Rows.OpenSpec.upto Rows.fnDialogSpec) own started (by kernel_rfl) Tryz.func4
  (witness_row_atRef (enc := enc) (C := Tryz.checked) false (laidWorld os) #[msg0, msg0] rfl (by kernel_rfl) (by kernel_rfl) (by kernel_rfl) (dlg_witness os enc)) ?_
 intro W base args ds gs before hval0 hW _ hcond0 _ hL _ _
 have hk : Rows.uptoSmall H (ds ++ gs) = true := hcond0 _ rfl
 have hval : ∀ (j : Nat) t v, Tryz.f4.params[j]? = some t → args[j]? = some v → Value.okWide Tryz.prog W .any base t v := hval0
 have hW' := hW
 obtain ⟨p, q, hA0, hV0, rfl, _, _⟩ := hW
 have hA : DataW.TrodAll enc Tryz.prog W 0 (fun _ => true) true Tryz.f4.params.toList args.toList ds p := hA0
 rw [Tryz.params4] at hA hval
 obtain ⟨v0, v1, d0, d1, p0, p1, rfl, rfl, rfl, h0, h1⟩ := trodAll_two hA
 obtain ⟨rfl, rfl⟩ := trodVars_none hV0
 obtain ⟨cs, rfl⟩ := agg_of (hval 0 _ _ rfl rfl)
 obtain ⟨ct, rfl⟩ := agg_of (hval 1 _ _ rfl rfl)
 have h0k := h0
 have h1k := h1
 obtain ⟨fuel, hf⟩ := h0
 obtain ⟨fuel1, hf1⟩ := h1
 change DataW.trod enc Tryz.prog W 0 (fun _ => true) true fuel 28 cs.toList = some (d0, p0) at hf
 change DataW.trod enc Tryz.prog W 0 (fun _ => true) true fuel1 28 ct.toList = some (d1, p1) at hf1
 clear hA0 hV0 hval0
 simp only [List.append_nil] at hW' hk
 have hlt : ∀ x ∈ p0 ++ p1, x.block < W.heap.size := fun x hx => by simpa using hW'.lt x hx
 obtain ⟨m, hM, hB⟩ := open_lm hf
 obtain ⟨n, hN, hC⟩ := open_lm hf1
 have hbk : Rows.uptoBulk d0 ≤ 1048576 ∧ Rows.uptoBulk d1 ≤ 1048576 := by
  have h := of_decide_eq_true hk
  simp only [Rows.uptoBulkAll] at h
  omega
 have hcs : cs.toList.toArray = cs := by simp
 have hct : ct.toList.toArray = ct := by simp
 have I1 := MIn.of W.heap.size hM hB hbk.1
 have I2 := MIn.of W.heap.size hN hC hbk.2
 have walk := dialog_any W.heap.size m n cs.toList ct.toList W ⟨W, rfl, g0_of hL, Below.refl _ _⟩ hM hN I1 I2 _ _ rfl rfl
 rw [hcs, hct] at walk
 refine walk.mono ?_
 rintro e W' ⟨rfl, bel⟩
 have e1 : ((Rows.OpenSpec.upto Rows.fnDialogSpec).at F).fn H ([d0, d1] ++ []) = { results := [.lit (.bool true)], args := [d0, d1] } := rfl
 refine ⟨_, rfl, _, _, _, [], p0 ++ p1, [], hW', ?_, ?_, ?_, bel.frame _, fun h => by cases h⟩
 ·rw [e1]; exact trodAll_mk1 (shut_bool Tryz.underlying4 _)
 ·rw [e1]; exact trodAll_mk2 (Below.trod laidOut (by kernel_rfl) (of_decide_eq_true (by kernel_rfl)) h0k bel (fun x hx => hlt x (List.mem_append_left _ hx))) (Below.trod laidOut (by kernel_rfl) (of_decide_eq_true (by kernel_rfl)) h1k bel (fun x hx => hlt x (List.mem_append_right _ hx)))
 ·rw [e1]; rfl
theorem dlg_said : Rows.FnDialogUptoSaid :=
 OpenClaim.holds_of_cond 4 Tryz.f4 rfl rfl rfl rfl rfl rfl rfl ⟨rfl, rfl, rfl, rfl, rfl⟩ rfl rfl rfl rfl rfl (by kernel_rfl) Tryz.func4 dlg_facts
  (of_decide_eq_true (by kernel_rfl)) (by unfold Func.isWrapper; first | (rw [if_pos (by decide +kernel)]; kernel_rfl) | (rw [if_neg (by decide +kernel)]; exact ⟨rfl, rfl⟩))
  (fun os started H enc _ F => by rw [OpenClaim.pre_eq_preRow]; exact dlg_lifted os started H enc F)
theorem dlg_plain (f : FuncId) (fn : Func) (hf : Tryz.pinned.checked.prog.funcNamed "pub-hailwright/laws.FnDialog" = some f) (hfn : Tryz.pinned.checked.prog.funcs[f]? = some fn) :
  true = Tryz.pinned.checked.prog.looks [] ∧ ∀ (j : Nat) t, fn.params[j]? = some t → Tryz.pinned.checked.prog.wantsStandIn t = false := by
 obtain rfl : f = 4 := Option.some.inj ((show Tryz.prog.funcNamed "pub-hailwright/laws.FnDialog" = some 4 by kernel_rfl).symm.trans hf) |>.symm
 obtain rfl : fn = Tryz.f4 := (Option.some.inj (Tryz.func4.symm.trans hfn)).symm
 refine ⟨by kernel_rfl, fun j t ht => ?_⟩
 rw [Tryz.params4] at ht
 obtain rfl : t = 28 := by simpa using Array.mem_of_getElem? ht
 exact (show Tryz.prog.wantsStandIn 28 = false by kernel_rfl)
theorem dlg_card : Rows.FnDialogUptoCardSaid :=
 Claim7.holds_tied_plain_at .later [] _ _ _ _ dlg_said (fun _ h => by cases h) (by kernel_rfl) (fun _ h => by cases h) fnDialogUpto_row_tie rfl ⟨rfl, rfl⟩ (by kernel_rfl) rfl dlg_plain (by kernel_rfl)
#print axioms dlg_card
end
