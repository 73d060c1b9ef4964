import Derived.Test.YtglhcpmaiogdjaaGreatDoorP33
import Derived.Test.YtglhcpmaiogdjaaGreatDoorP32
set_option maxRecDepth 100000
set_option maxHeartbeats 16000000
set_option linter.all false
namespace Go.Proofs.YtglhcpmaiogdjaaGreatDoor
open Go.Lib (hid)
open Go.RowKit
theorem alloc_old (w : World) (o : Obj) (k : Nat) (h : k < w.heap.size) : (w.alloc o).heap[k]? = w.heap[k]? := ((Below.refl _ w).alloc (Nat.le_refl _) o).block k h
theorem alloc_at (w : World) (o : Obj) (k : Nat) (h : k = w.heap.size) : (w.alloc o).heap[k]? = some o := by
 subst h
 exact heap_alloc_new w o
theorem four_blk (w : World) (o0 o1 o2 o3 : Obj) : let wb := (((w.alloc o0).alloc o1).alloc o2).alloc o3
  wb.heap.size = w.heap.size + 4 ∧ wb.heap[w.heap.size]? = some o0 ∧ wb.heap[w.heap.size + 1]? = some o1 ∧ wb.heap[w.heap.size + 2]? = some o2 ∧ wb.heap[w.heap.size + 3]? = some o3 := by
 refine ⟨by simp, ?_, ?_, ?_, ?_⟩
 ·rw [alloc_old _ _ _ (by simp <;> omega), alloc_old _ _ _ (by simp <;> omega), alloc_old _ _ _ (by simp), alloc_at _ _ _ rfl]
 ·rw [alloc_old _ _ _ (by simp <;> omega), alloc_old _ _ _ (by simp), alloc_at _ _ _ (by simp)]
 ·rw [alloc_old _ _ _ (by simp), alloc_at _ _ _ (by simp)]
 ·exact alloc_at _ _ _ (by simp)
theorem LoopK.below {gk g10 : Nat} {ics : List Value} {xi xf xt : Nat → Bytes} {n : Nat} {w w' : World} (h : LoopK gk g10 ics xi xf xt n w) (hb : Below w.heap.size w w') : LoopK gk g10 ics xi xf xt n w' := by
 obtain ⟨v, h1⟩ := h.id
 exact ⟨⟨v, (hb.block _ (heap_lt h1)).trans h1⟩, keys_below hb h.keys⟩
theorem LoopK.start {g10 : Nat} {ics : List Value} {xi xf xt : Nat → Bytes} {w : World} (h : w.heap[g10]? = some (Obj.cells ics.toArray 35 (0, 0))) (hl : ics.length = 21) :
  LoopK w.heap.size g10 ics xi xf xt 0 (w.alloc (.cells #[.slice none 0 0, .slice none 0 0] 50)) := by
 refine ⟨⟨ics[2], ?_⟩, [.slice none 0 0, .slice none 0 0], heap_alloc_new w _, rfl, fun j hj => absurd hj (by omega)⟩
 rw [List.set_getElem_self]
 exact ((Below.refl _ w).alloc (Nat.le_refl _) _).block _ (heap_lt h) |>.trans h
theorem isalnum_says (v : Value) (l : Bytes) (w : World) (hS : SB w v l) : Calls Tryz.prog 24 #[v] w (Says (textS alnumB l = true) w) :=
 (isalnum_any v l w hS).mono fun _ _ ⟨h1, h2⟩ => ⟨⟨_, h1, fun h => h⟩, by rw [h2]; exact Below.refl _ _⟩
theorem no_lack {l : BKVs} {x : Bytes} {b : Bool} (h : (l.find? fun p => p.1 == tagB).map (·.2) = some x) (hb : b = true → ∀ p ∈ l, p.1 ≠ tagK) : b = false := by
 cases b with
 | false => rfl
 | true =>
  obtain ⟨p, hp, -⟩ := Option.map_eq_some_iff.1 h
  have h1 := List.find?_some hp
  exact absurd (show p.1 = tagK from (by simpa using h1 : p.1 = tagB)) (hb rfl p (List.mem_of_find?_eq_some hp))
theorem apart_dlg (N : Nat) (m : LMsg) (ca : List Value) (Ai0 Ai1 Af0 Af1 At0 At1 : Option Addr) (ci0 ci1 cf0 cf1 ct0 ct1 : Nat) (i0 i1 f0 f1 t0 t1 : Bytes) (w : World) (hG : Gl N w) (hA : LM w m ca) (hi0 : SB w (.slice Ai0 i0.length ci0) i0) (hi1 : SB w (.slice Ai1 i1.length ci1) i1) (hf0 : SB w (.slice Af0 f0.length cf0) f0) (hf1 : SB w (.slice Af1 f1.length cf1) f1) (ht0 : SB w (.slice At0 t0.length ct0) t0) (ht1 : SB w (.slice At1 t1.length ct1) t1) (IA : MIn N m) (b1 : Bool) (rm : m.resp = b1) :
  Calls Tryz.prog 5 #[.agg ca.toArray, .agg #[.slice Ai0 i0.length ci0, .slice Ai1 i1.length ci1], .agg #[.slice Af0 f0.length cf0, .slice Af1 f1.length cf1], .agg #[.slice At0 t0.length ct0, .slice At1 t1.length ct1]] w (ClientKeyOk w) := by
 have hlx := hA.len19
 obtain ⟨v1, v15, Ax, cx, Am, cm, e0, e1, e15, rfl, rfl, hsm, hsh⟩ := hA.parts
 rw [rm] at e0
 obtain ⟨x0, x1, x2, x3, x4, x5, x6, x7, x8, x9, x10, x11, x12, x13, x14, x15, x16, x17, x18, rfl⟩ := list19 hlx
 obtain rfl : x0 = .bool b1 := by simpa using e0
 obtain rfl : x1 = .slice Am m.method.length cm := by simpa using e1
 obtain rfl : x15 = .slice Ax m.heads.length cx := by simpa using e15
 clear e0 e1 e15 hlx
 obtain ⟨wb, hwb⟩ : ∃ wb, wb = (((w.alloc (.cells #[.bool b1, .slice Am m.method.length cm, x2, x3, x4, x5, x6, x7, x8, x9, x10, x11, x12, x13, x14, .slice Ax m.heads.length cx, x16, x17, x18] 28)).alloc (.cells #[.slice Ai0 i0.length ci0, .slice Ai1 i1.length ci1] 50)).alloc (.cells #[.slice Af0 f0.length cf0, .slice Af1 f1.length cf1] 50)).alloc (.cells #[.slice At0 t0.length ct0, .slice At1 t1.length ct1] 50) := ⟨_, rfl⟩
 have hbl := four_blk w (.cells #[.bool b1, .slice Am m.method.length cm, x2, x3, x4, x5, x6, x7, x8, x9, x10, x11, x12, x13, x14, .slice Ax m.heads.length cx, x16, x17, x18] 28) (.cells #[.slice Ai0 i0.length ci0, .slice Ai1 i1.length ci1] 50) (.cells #[.slice Af0 f0.length cf0, .slice Af1 f1.length cf1] 50) (.cells #[.slice At0 t0.length ct0, .slice At1 t1.length ct1] 50)
 dsimp only at hbl
 rw [← hwb] at hbl
 obtain ⟨hsz, hb0, hb1, hb2, hb3⟩ := hbl
 have HB0 := hid (show Below w.heap.size w wb by rw [hwb]; exact ((((Below.refl _ w).alloc (Nat.le_refl _) _).alloc (by simp) _).alloc (by simp; omega) _).alloc (by simp; omega) _)
 have HSZ := hid hsz
 have HX1 := hid (show ∀ wx, Below wb.heap.size wb wx → wx.heap[w.heap.size]? = some (.cells ([.bool b1, .slice Am m.method.length cm, x2, x3, x4, x5, x6, x7, x8, x9, x10, x11, x12, x13, x14, .slice Ax m.heads.length cx, x16, x17, x18] : List Value).toArray 28 (0, 0)) from fun wx h => by rw [h.block _ (by have := HSZ.out; omega)]; exact hb0)
 have HI := hid (show ∀ wx, Below wb.heap.size wb wx → wx.heap[w.heap.size + 1]? = some (.cells ([.slice Ai0 i0.length ci0, .slice Ai1 i1.length ci1] : List Value).toArray 50 (0, 0)) from fun wx h => by rw [h.block _ (by have := HSZ.out; omega)]; exact hb1)
 have HFR := hid (show ∀ wx, Below wb.heap.size wb wx → wx.heap[w.heap.size + 2]? = some (.cells ([.slice Af0 f0.length cf0, .slice Af1 f1.length cf1] : List Value).toArray 50 (0, 0)) from fun wx h => by rw [h.block _ (by have := HSZ.out; omega)]; exact hb2)
 have HTO := hid (show ∀ wx, Below wb.heap.size wb wx → wx.heap[w.heap.size + 3]? = some (.cells ([.slice At0 t0.length ct0, .slice At1 t1.length ct1] : List Value).toArray 50 (0, 0)) from fun wx h => by rw [h.block _ (by have := HSZ.out; omega)]; exact hb3)
 have HBW := hid (show ∀ wx, Below wb.heap.size wb wx → Below w.heap.size w wx from fun wx h => HB0.out.trans (h.mono (by have := HSZ.out; omega)))
 have HLA := hid (show ∀ wx, Below wb.heap.size wb wx → LM wx m [.bool b1, .slice Am m.method.length cm, x2, x3, x4, x5, x6, x7, x8, x9, x10, x11, x12, x13, x14, .slice Ax m.heads.length cx, x16, x17, x18] from fun wx h => hA.below (HBW.out wx h))
 have HGL := hid (show ∀ wx, Below wb.heap.size wb wx → Gl N wx from fun wx h => hG.below (HBW.out wx h) hG.le)
 have HSH := hid (show ∀ wx, Below wb.heap.size wb wx → SHs wx (.slice Ax m.heads.length cx) m.heads from fun wx h => hsh.below (HBW.out wx h))
 have HSS := hid (show ∀ wx, Below wb.heap.size wb wx → SB wx (.slice Ai0 i0.length ci0) i0 ∧ SB wx (.slice Ai1 i1.length ci1) i1 ∧ SB wx (.slice Af0 f0.length cf0) f0 ∧ SB wx (.slice Af1 f1.length cf1) f1 ∧ SB wx (.slice At0 t0.length ct0) t0 ∧ SB wx (.slice At1 t1.length ct1) t1 from fun wx h => ⟨hi0.below (HBW.out wx h), hi1.below (HBW.out wx h), hf0.below (HBW.out wx h), hf1.below (HBW.out wx h), ht0.below (HBW.out wx h), ht1.below (HBW.out wx h)⟩)
 have HA := hid IA
 have HBL := hid (Below.refl wb.heap.size wb)
 have HRM := hid rm
 clear hG hA IA rm hsm hsh hsz hb0 hb1 hb2 hb3 hi0 hi1 hf0 hf1 ht0 ht1
 go_enter Tryz.func5, Tryz.ntmps5
 go_upto_region 1 with fail
 rw [← hwb]
 generalize Value.agg #[.bool b1, .slice Am m.method.length cm, x2, x3, x4, x5, x6, x7, x8, x9, x10, x11, x12, x13, x14, .slice Ax m.heads.length cx, x16, x17, x18] = arg0
 generalize Value.agg #[.slice Ai0 i0.length ci0, .slice Ai1 i1.length ci1] = arg1
 generalize Value.agg #[.slice Af0 f0.length cf0, .slice Af1 f1.length cf1] = arg2
 generalize Value.agg #[.slice At0 t0.length ct0, .slice At1 t1.length ct1] = arg3
 clear hwb
 go_upto_if 38 with (first
  | (refine wpList_load_any_w (by rfl) 28 (.tmp 4) (by rfl) ⟨w.heap.size, 0, none⟩ (by rfl) _ _ (row_cells (HX1.out _ HBL.out)) Tryz.underlying28 (by rfl) (by rw [msg_size]; rfl) ?_)
  | (go_at_call 6; refine (fits1_any m _ _ (HLA.out _ HBL.out)).mono ?_; rintro e wn ⟨⟨b, rfl⟩, hbn⟩; have HBL0 := HBL; clear HBL; have HBL := hid (HBL0.out.trans (hbn.mono HBL0.out.size)); clear HBL0 hbn; cases b)
  | (refine wpList_load_any_w (by rfl) 50 (.tmp 5) (by rfl) ⟨(w.heap.size + 1), 0, none⟩ (by rfl) _ _ (row_cells (HI.out _ HBL.out)) Tryz.underlying50 (by rfl) (by rw [arr_size]; rfl) ?_)
  | (refine wpList_load_any_w (by rfl) 50 (.tmp 6) (by rfl) ⟨(w.heap.size + 2), 0, none⟩ (by rfl) _ _ (row_cells (HFR.out _ HBL.out)) Tryz.underlying50 (by rfl) (by rw [arr_size]; rfl) ?_)
  | (refine wpList_load_any_w (by rfl) 50 (.tmp 7) (by rfl) ⟨(w.heap.size + 3), 0, none⟩ (by rfl) _ _ (row_cells (HTO.out _ HBL.out)) Tryz.underlying50 (by rfl) (by rw [arr_size]; rfl) ?_)
  | (go_at_call 22; refine (fits14_any _ _ _ _ _ _ _).mono ?_; rintro e wn ⟨⟨b, rfl⟩, hbn⟩; have HBL0 := HBL; clear HBL; have HBL := hid (HBL0.out.trans (hbn.mono HBL0.out.size)); clear HBL0 hbn; cases b)
  | fail)
 ·go_wp2_with fail
  go_ret
  exact ⟨rfl, HBW.out _ HBL.out⟩
 ·go_wp2_with fail
  go_ret
  exact ⟨rfl, HBW.out _ HBL.out⟩
 ·go_wp2_with fail
  go_ret
  exact ⟨rfl, HBW.out _ HBL.out⟩
 ·go_wp2_with fail
  go_ret
  exact ⟨rfl, HBW.out _ HBL.out⟩
 have c0 := row_at (HX1.out _ HBL.out) 0 _ rfl
 cases b1 <;> go_upto_if 45 with (first
  | (refine wpList_load_any_w (by rfl) 28 (.tmp 4) (by rfl) ⟨w.heap.size, 0, none⟩ (by rfl) _ _ (row_cells (HX1.out _ HBL.out)) Tryz.underlying28 (by rfl) (by rw [msg_size]; rfl) ?_)
  | (go_at_call 7; refine (iscall_any m _ _ (HLA.out _ HBL.out) HA.out.bd).mono ?_; rintro e wn ⟨⟨b, rfl, hb⟩, hbn⟩; have HBL0 := HBL; clear HBL; have HBL := hid (HBL0.out.trans (hbn.mono HBL0.out.size)); clear HBL0 hbn; have c0 := row_at (HX1.out _ HBL.out) 0 _ rfl; have HRA := hid hb; clear hb; cases b)
  | fail)
 any_goals
  have HK := hid (known_any N _ (HGL.out _ HBL.out))
  go_wp2_with (go_at_call 10; refine HK.out.mono ?_; rintro e w9 ⟨rfl, hb⟩)
  go_ret
  exact ⟨rfl, HBW.out _ (HBL.out.trans (hb.mono HBL.out.size))⟩
 obtain ⟨fr, tq, id, pf, pt, pi, hf⟩ := CallD.of HA.out (HRA.out (by first | rfl | trivial))
 have HF := hid hf
 clear hf c0 HRA
 have HFI := hid (firsts_any _ m.heads 2 _ (HSH.out _ HBL.out) HF.out.sorts HF.out.p.many)
 have c15 := row_at (HX1.out _ HBL.out) 15 _ rfl
 go_upto_region 6 with (first
  | (go_at_call 11; refine HFI.out.mono ?_; rintro e wf ⟨fcs, rfl, hx, hbn⟩; have HXV := hid hx; have HXL := hid (hx.lh (Sub.of_below hbn)); have HBL0 := HBL; clear HBL; have HBL := hid (HBL0.out.trans (hbn.mono HBL0.out.size)); clear HBL0 hbn; clear hx)
  | (refine wpList_store_blk (by rfl) 35 (.tmp 10) (.tmp 52) (by rfl) wf.heap.size 35 zeroH fcs (by rfl) (by rfl) (by rw [HXV.out.len]; rfl) (heap_alloc_new wf _) 21 head_size HXV.out.len HXV.out.one ?_; intro W5 hst; have HST := hid hst; clear hst)
  | fail)
 clear c15
 obtain ⟨g6, hgg⟩ : ∃ g6, g6 = wf.heap.size := ⟨_, rfl⟩
 have hbn : Below wf.heap.size wf W5 := (((Below.refl _ wf).alloc (Nat.le_refl _) _).trans HST.out.below)
 have HLF := hid (show LH W5 fr fcs by have h := HXL.out.below hbn; rw [HF.out.f2] at h; exact h)
 have HGF := hid (show W5.heap[g6]? = some (.cells fcs.toArray 35 (0, 0)) by rw [hgg]; exact HST.out.blk)
 have HBL0 := HBL; clear HBL; have HBL := hid (HBL0.out.trans (hbn.mono HBL0.out.size)); clear HBL0 hbn
 rw [← hgg]
 clear HST HXV HXL hgg HFI
 have HFI := hid (firsts_any _ m.heads 1 _ (HSH.out _ HBL.out) HF.out.sorts HF.out.p.many)
 have c15 := row_at (HX1.out _ HBL.out) 15 _ rfl
 go_upto_region 7 with (first
  | (go_at_call 11; refine HFI.out.mono ?_; rintro e wf ⟨tcs, rfl, hx, hbn⟩; have HXV := hid hx; have HXL := hid (hx.lh (Sub.of_below hbn)); have HLF := hid (HLF.out.below hbn); have HGF := hid ((hbn.block _ (heap_lt HGF.out)).trans HGF.out); have HBL0 := HBL; clear HBL; have HBL := hid (HBL0.out.trans (hbn.mono HBL0.out.size)); clear HBL0 hbn; clear hx)
  | (refine wpList_store_blk (by rfl) 35 (.tmp 12) (.tmp 58) (by rfl) wf.heap.size 35 zeroH tcs (by rfl) (by rfl) (by rw [HXV.out.len]; rfl) (heap_alloc_new wf _) 21 head_size HXV.out.len HXV.out.one ?_; intro W6 hst; have HST := hid hst; clear hst)
  | fail)
 clear c15
 obtain ⟨g8, hgg⟩ : ∃ g8, g8 = wf.heap.size := ⟨_, rfl⟩
 have hbn : Below wf.heap.size wf W6 := (((Below.refl _ wf).alloc (Nat.le_refl _) _).trans HST.out.below)
 have HLF := hid (HLF.out.below hbn)
 have HGF := hid ((hbn.block _ (heap_lt HGF.out)).trans HGF.out)
 have HLT := hid (show LH W6 tq tcs by have h := HXL.out.below hbn; rw [HF.out.f1] at h; exact h)
 have HGT := hid (show W6.heap[g8]? = some (.cells tcs.toArray 35 (0, 0)) by rw [hgg]; exact HST.out.blk)
 have HBL0 := HBL; clear HBL; have HBL := hid (HBL0.out.trans (hbn.mono HBL0.out.size)); clear HBL0 hbn
 rw [← hgg]
 clear HST HXV HXL hgg HFI
 have HFI := hid (firsts_any _ m.heads 4 _ (HSH.out _ HBL.out) HF.out.sorts HF.out.p.many)
 have c15 := row_at (HX1.out _ HBL.out) 15 _ rfl
 go_upto_region 8 with (first
  | (go_at_call 11; refine HFI.out.mono ?_; rintro e wf ⟨ics, rfl, hx, hbn⟩; have HXV := hid hx; have HXL := hid (hx.lh (Sub.of_below hbn)); have HLF := hid (HLF.out.below hbn); have HGF := hid ((hbn.block _ (heap_lt HGF.out)).trans HGF.out); have HLT := hid (HLT.out.below hbn); have HGT := hid ((hbn.block _ (heap_lt HGT.out)).trans HGT.out); have HBL0 := HBL; clear HBL; have HBL := hid (HBL0.out.trans (hbn.mono HBL0.out.size)); clear HBL0 hbn; clear hx)
  | (refine wpList_store_blk (by rfl) 35 (.tmp 14) (.tmp 64) (by rfl) wf.heap.size 35 zeroH ics (by rfl) (by rfl) (by rw [HXV.out.len]; rfl) (heap_alloc_new wf _) 21 head_size HXV.out.len HXV.out.one ?_; intro W7 hst; have HST := hid hst; clear hst)
  | fail)
 clear c15
 obtain ⟨g10, hgg⟩ : ∃ g10, g10 = wf.heap.size := ⟨_, rfl⟩
 have HGE := hid hgg
 have HUP := hid (show ∀ wx, Below wf.heap.size wf wx → Below wb.heap.size wb wx from fun wx h => HBL.out.trans (h.mono HBL.out.size))
 have HX1 := hid (fun wx (h : Below wf.heap.size wf wx) => HX1.out wx (HUP.out wx h))
 have HI := hid (fun wx (h : Below wf.heap.size wf wx) => HI.out wx (HUP.out wx h))
 have HFR := hid (fun wx (h : Below wf.heap.size wf wx) => HFR.out wx (HUP.out wx h))
 have HTO := hid (fun wx (h : Below wf.heap.size wf wx) => HTO.out wx (HUP.out wx h))
 have HBW := hid (fun wx (h : Below wf.heap.size wf wx) => HBW.out wx (HUP.out wx h))
 have HLA := hid (fun wx (h : Below wf.heap.size wf wx) => HLA.out wx (HUP.out wx h))
 have HGL := hid (fun wx (h : Below wf.heap.size wf wx) => HGL.out wx (HUP.out wx h))
 have HSS := hid (fun wx (h : Below wf.heap.size wf wx) => HSS.out wx (HUP.out wx h))
 have HLF := hid (show ∀ wx, Below wf.heap.size wf wx → LH wx fr fcs from fun wx h => HLF.out.below h)
 have HLT := hid (show ∀ wx, Below wf.heap.size wf wx → LH wx tq tcs from fun wx h => HLT.out.below h)
 have HLI := hid (show ∀ wx, Below wf.heap.size wf wx → LH wx id ics from fun wx h => by have h2 := HXL.out.below h; rw [HF.out.f4] at h2; exact h2)
 have HGF := hid (show ∀ wx, Below wf.heap.size wf wx → wx.heap[g6]? = some (.cells fcs.toArray 35 (0, 0)) from fun wx h => by rw [h.block _ (heap_lt HGF.out)]; exact HGF.out)
 have HGT := hid (show ∀ wx, Below wf.heap.size wf wx → wx.heap[g8]? = some (.cells tcs.toArray 35 (0, 0)) from fun wx h => by rw [h.block _ (heap_lt HGT.out)]; exact HGT.out)
 have HFL := hid (HLF.out wf (Below.refl _ _)).len
 have HTL := hid (HLT.out wf (Below.refl _ _)).len
 have HIL := hid (HLI.out wf (Below.refl _ _)).len
 have HG10 := hid (show W7.heap[g10]? = some (.cells ics.toArray 35 (0, 0)) by rw [hgg]; exact HST.out.blk)
 clear HBL
 have HBL := hid (show Below wf.heap.size wf W7 from ((Below.refl _ wf).alloc (Nat.le_refl _) _).trans HST.out.below)
 rw [← hgg]
 clear HST HXV HXL hgg HFI HUP
 obtain ⟨nf, hnf⟩ : ∃ n, n = (paramV fr.params tagK).length := ⟨_, rfl⟩
 obtain ⟨nt, hnt⟩ : ∃ n, n = (paramV tq.params tagK).length := ⟨_, rfl⟩
 have HNF := hid hnf
 have HNT := hid hnt
 clear hnf hnt
 have hz1 : nf = 0 ∨ ((nf : Int) == 0) = false := by
  by_cases h : nf = 0
  ·exact .inl h
  ·exact .inr (by rw [beq_eq_false_iff_ne]; omega)
 have hz2 : nt = 0 ∨ ((nt : Int) == 0) = false := by
  by_cases h : nt = 0
  ·exact .inl h
  ·exact .inr (by rw [beq_eq_false_iff_ne]; omega)
 rcases hz1 with rfl | z1 <;> rcases hz2 with rfl | z2 <;> go_upto_if 74 with (first
  | (refine wpList_load_any_w (by rfl) 35 (.tmp 10) (by rfl) ⟨g6, 0, none⟩ (by rfl) _ _ (row_cells (HGF.out _ HBL.out)) Tryz.underlying35 (by rfl) (by rw [head_size, HFL.out]) ?_)
  | (go_at_call_of 19 fcs; refine (tag_any fr fcs _ (HLF.out _ HBL.out)).mono ?_; rintro e wn ⟨v, rfl, hv, hbn⟩; obtain ⟨Av, cv, rfl, -⟩ := hv.form; rw [← HNF.out]; have HG100 := HG10; clear HG10; have HG10 := hid ((hbn.block _ (heap_lt HG100.out)).trans HG100.out); clear HG100; have HBL0 := HBL; clear HBL; have HBL := hid (HBL0.out.trans (hbn.mono HBL0.out.size)); clear HBL0 hbn; clear hv)
  | (refine wpList_load_any_w (by rfl) 35 (.tmp 12) (by rfl) ⟨g8, 0, none⟩ (by rfl) _ _ (row_cells (HGT.out _ HBL.out)) Tryz.underlying35 (by rfl) (by rw [head_size, HTL.out]) ?_)
  | (go_at_call_of 19 tcs; refine (tag_any tq tcs _ (HLT.out _ HBL.out)).mono ?_; rintro e wn ⟨v, rfl, hv, hbn⟩; obtain ⟨Av, cv, rfl, -⟩ := hv.form; rw [← HNT.out]; have HG100 := HG10; clear HG10; have HG10 := hid ((hbn.block _ (heap_lt HG100.out)).trans HG100.out); clear HG100; have HBL0 := HBL; clear HBL; have HBL := hid (HBL0.out.trans (hbn.mono HBL0.out.size)); clear HBL0 hbn; clear hv)
  | fail)
 iterate 3
  focus
   cases hcs : (tq.params.find? fun p => p.1 == tagB).map (·.2) with
   | none =>
    have HNO := hid (HF.out.no (.inl hcs))
    clear hcs
    go_upto_region 10 with (first
     | (refine wpList_load_any_w (by rfl) 28 (.tmp 4) (by rfl) ⟨w.heap.size, 0, none⟩ (by rfl) _ _ (row_cells (HX1.out _ HBL.out)) Tryz.underlying28 (by rfl) (by rw [msg_size]; rfl) ?_)
     | (go_at_call 21; refine (dlg_uas_no N m _ _ (HGL.out _ HBL.out) (HF.out.p.k (HLA.out _ HBL.out)) HNO.out HRM.out).mono ?_; rintro e wn ⟨⟨A9, l9, c9, rfl⟩, hbn⟩; have HBL0 := HBL; clear HBL; have HBL := hid (HBL0.out.trans (hbn.mono HBL0.out.size)); clear HBL0 hbn)
     | fail)
    go_wp2_with (first
     | (go_at_call 10; refine (known_any N _ (HGL.out _ HBL.out)).mono ?_; rintro e wn ⟨rfl, hbn⟩; have HBL0 := HBL; clear HBL; have HBL := hid (HBL0.out.trans (hbn.mono HBL0.out.size)); clear HBL0 hbn)
     | fail)
    go_ret
    exact ⟨rfl, HBW.out _ HBL.out⟩
   | some tt =>
    cases hct : (fr.params.find? fun p => p.1 == tagB).map (·.2) with
    | none =>
     have HNO := hid (HF.out.no (.inr ⟨tt, hcs, hct⟩))
     clear hcs hct
     go_upto_region 10 with (first
      | (refine wpList_load_any_w (by rfl) 28 (.tmp 4) (by rfl) ⟨w.heap.size, 0, none⟩ (by rfl) _ _ (row_cells (HX1.out _ HBL.out)) Tryz.underlying28 (by rfl) (by rw [msg_size]; rfl) ?_)
      | (go_at_call 21; refine (dlg_uas_no N m _ _ (HGL.out _ HBL.out) (HF.out.p.k (HLA.out _ HBL.out)) HNO.out HRM.out).mono ?_; rintro e wn ⟨⟨A9, l9, c9, rfl⟩, hbn⟩; have HBL0 := HBL; clear HBL; have HBL := hid (HBL0.out.trans (hbn.mono HBL0.out.size)); clear HBL0 hbn)
      | fail)
     go_wp2_with (first
      | (go_at_call 10; refine (known_any N _ (HGL.out _ HBL.out)).mono ?_; rintro e wn ⟨rfl, hbn⟩; have HBL0 := HBL; clear HBL; have HBL := hid (HBL0.out.trans (hbn.mono HBL0.out.size)); clear HBL0 hbn)
      | fail)
     go_ret
     exact ⟨rfl, HBW.out _ HBL.out⟩
    | some tf =>
     have HDD := hid (HF.out.both hct hcs)
     have HDF := hid hct
     have HDT := hid hcs
     clear hcs hct
     go_upto_region 10 with (first
      | (refine wpList_load_any_w (by rfl) 28 (.tmp 4) (by rfl) ⟨w.heap.size, 0, none⟩ (by rfl) _ _ (row_cells (HX1.out _ HBL.out)) Tryz.underlying28 (by rfl) (by rw [msg_size]; rfl) ?_)
      | (go_at_call 21; refine (dlg_uas N m _ _ _ _ _ (HGL.out _ HBL.out) (HF.out.p.k (HLA.out _ HBL.out)) HDD.out HRM.out).mono ?_; rintro e wn ⟨va, rfl, hka, hbn⟩; have HBL0 := HBL; clear HBL; have HBL := hid (HBL0.out.trans (hbn.mono HBL0.out.size)); clear HBL0 hbn)
      | fail)
     obtain ⟨ka, capa, csa, fza, rfl, -⟩ := hka
     go_wp2_with (first
      | (refine wpList_load_any_w (by rfl) 35 (.tmp 10) (by rfl) ⟨g6, 0, none⟩ (by rfl) _ _ (row_cells (HGF.out _ HBL.out)) Tryz.underlying35 (by rfl) (by rw [head_size, HFL.out]) ?_)
      | (go_at_call_of 23 fcs; refine (lackstag_any _ fcs _ (HLF.out _ HBL.out)).mono ?_; rintro e wn ⟨⟨b, rfl, hb⟩, hbn⟩; have HBL0 := HBL; clear HBL; have HBL := hid (HBL0.out.trans (hbn.mono HBL0.out.size)); clear HBL0 hbn; obtain rfl := no_lack HDF.out hb; clear hb)
      | (refine wpList_load_any_w (by rfl) 35 (.tmp 12) (by rfl) ⟨g8, 0, none⟩ (by rfl) _ _ (row_cells (HGT.out _ HBL.out)) Tryz.underlying35 (by rfl) (by rw [head_size, HTL.out]) ?_)
      | (go_at_call_of 23 tcs; refine (lackstag_any _ tcs _ (HLT.out _ HBL.out)).mono ?_; rintro e wn ⟨⟨b, rfl, hb⟩, hbn⟩; have HBL0 := HBL; clear HBL; have HBL := hid (HBL0.out.trans (hbn.mono HBL0.out.size)); clear HBL0 hbn; obtain rfl := no_lack HDT.out hb; clear hb)
      | (go_at_call 10; refine (known_any N _ (HGL.out _ HBL.out)).mono ?_; rintro e wn ⟨rfl, hbn⟩; have HBL0 := HBL; clear HBL; have HBL := hid (HBL0.out.trans (hbn.mono HBL0.out.size)); clear HBL0 hbn)
      | fail)
     go_ret
     exact ⟨rfl, HBW.out _ HBL.out⟩
 have HPF := hid (show 0 < (paramV fr.params tagB).length by
  have h1 : nf ≠ 0 := by
   intro h
   rw [h] at z1
   simp at z1
  have h2 := HNF.out
  show 0 < (paramV fr.params tagK).length
  omega)
 have HPT := hid (show 0 < (paramV tq.params tagB).length by
  have h1 : nt ≠ 0 := by
   intro h
   rw [h] at z2
   simp at z2
  have h2 := HNT.out
  show 0 < (paramV tq.params tagK).length
  omega)
 clear z1 z2 HNF HNT
 go_upto_region 12 with fail
 obtain ⟨xi, hxi⟩ : ∃ x : Nat → Bytes, x = fun j => if j = 0 then i0 else i1 := ⟨_, rfl⟩
 obtain ⟨xf, hxf⟩ : ∃ x : Nat → Bytes, x = fun j => if j = 0 then f0 else f1 := ⟨_, rfl⟩
 obtain ⟨xt, hxt⟩ : ∃ x : Nat → Bytes, x = fun j => if j = 0 then t0 else t1 := ⟨_, rfl⟩
 have HXi := hid (show xi 0 = i0 ∧ xi 1 = i1 by rw [hxi]; exact ⟨rfl, rfl⟩)
 have HXf := hid (show xf 0 = f0 ∧ xf 1 = f1 by rw [hxf]; exact ⟨rfl, rfl⟩)
 have HXt := hid (show xt 0 = t0 ∧ xt 1 = t1 by rw [hxt]; exact ⟨rfl, rfl⟩)
 clear hxi hxf hxt
 have HL8 := hid (LoopK.start (xi := xi) (xf := xf) (xt := xt) HG10.out HIL.out)
 obtain ⟨gk, hgk⟩ : ∃ g, g = wn.heap.size := ⟨_, rfl⟩
 have HB8 := hid (HBL.out.trans (((Below.refl _ wn).alloc (Nat.le_refl _) (.cells #[.slice none 0 0, .slice none 0 0] 50)).mono HBL.out.size))
 have HGK := hid (show wf.heap.size ≤ gk ∧ g10 ≠ gk ∧ wf.heap.size ≤ g10 by
  have h1 := HBL.out.size
  have h2 := heap_lt HG10.out
  have h3 := HGE.out
  omega)
 rw [← hgk] at HL8 ⊢
 obtain ⟨W8, hW8⟩ : ∃ W, W = wn.alloc (.cells #[.slice none 0 0, .slice none 0 0] 50) := ⟨_, rfl⟩
 rw [← hW8] at HL8 HB8 ⊢
 clear hgk hW8 HG10 HBL HGE
 go_wp2_with fail
 go_loopw [18, 19] (fun i _ wr => ∃ k : Nat, k ≤ 2 ∧ i = .int .i64 k ∧ LoopK gk g10 ics xi xf xt k wr ∧ Below wf.heap.size wf wr) (fun i _ _ => 2 - (intOf i).toNat)
 case atStart => exact ⟨0, by omega, rfl, HL8.out, HB8.out⟩
 case round =>
  obtain ⟨k, hk, rfl, hlk, hbw⟩ := hrel
  obtain ⟨wo, rfl⟩ : ∃ wo : World, wo = wr := ⟨_, rfl⟩
  have HLK := hid hlk
  have HBL := hid hbw
  clear hlk hbw
  have hk3 : k = 0 ∨ k = 1 ∨ k = 2 := by omega
  rcases hk3 with rfl | rfl | rfl
  ·have ci := row_at (HI.out _ HBL.out) 0 _ rfl
   go_upto_if 117 with (first
    | (go_at_call_of 24 Ai0; refine (isalnum_says _ i0 _ (HSS.out _ HBL.out).1).mono ?_; rintro e wn ⟨⟨b, rfl, hb⟩, hbn⟩; have HLK0 := HLK; clear HLK; have HLK := hid (HLK0.out.below hbn); clear HLK0; have HBL0 := HBL; clear HBL; have HBL := hid (HBL0.out.trans (hbn.mono HBL0.out.size)); clear HBL0 hbn; have HAi := hid hb; clear hb; have cf := row_at (HFR.out _ HBL.out) 0 _ rfl; have ct := row_at (HTO.out _ HBL.out) 0 _ rfl; have ci := row_at (HI.out _ HBL.out) 0 _ rfl; cases b)
    | (go_at_call_of 24 Af0; refine (isalnum_says _ f0 _ (HSS.out _ HBL.out).2.2.1).mono ?_; rintro e wn ⟨⟨b, rfl, hb⟩, hbn⟩; have HLK0 := HLK; clear HLK; have HLK := hid (HLK0.out.below hbn); clear HLK0; have HBL0 := HBL; clear HBL; have HBL := hid (HBL0.out.trans (hbn.mono HBL0.out.size)); clear HBL0 hbn; have HAf := hid hb; clear hb; have cf := row_at (HFR.out _ HBL.out) 0 _ rfl; have ct := row_at (HTO.out _ HBL.out) 0 _ rfl; have ci := row_at (HI.out _ HBL.out) 0 _ rfl; cases b)
    | (go_at_call_of 24 At0; refine (isalnum_says _ t0 _ (HSS.out _ HBL.out).2.2.2.2.1).mono ?_; rintro e wn ⟨⟨b, rfl, hb⟩, hbn⟩; have HLK0 := HLK; clear HLK; have HLK := hid (HLK0.out.below hbn); clear HLK0; have HBL0 := HBL; clear HBL; have HBL := hid (HBL0.out.trans (hbn.mono HBL0.out.size)); clear HBL0 hbn; have HAt := hid hb; clear hb; have cf := row_at (HFR.out _ HBL.out) 0 _ rfl; have ct := row_at (HTO.out _ HBL.out) 0 _ rfl; have ci := row_at (HI.out _ HBL.out) 0 _ rfl; cases b)
    | fail)
   ·go_wp2_with (first
     | (go_at_call 10; refine (known_any N _ (HGL.out _ HBL.out)).mono ?_; rintro e wn ⟨rfl, hbn⟩; have HBL0 := HBL; clear HBL; have HBL := hid (HBL0.out.trans (hbn.mono HBL0.out.size)); clear HBL0 hbn)
     | fail)
    go_ret
    exact ⟨rfl, HBW.out _ HBL.out⟩
   ·go_wp2_with (first
     | (go_at_call 10; refine (known_any N _ (HGL.out _ HBL.out)).mono ?_; rintro e wn ⟨rfl, hbn⟩; have HBL0 := HBL; clear HBL; have HBL := hid (HBL0.out.trans (hbn.mono HBL0.out.size)); clear HBL0 hbn)
     | fail)
    go_ret
    exact ⟨rfl, HBW.out _ HBL.out⟩
   ·go_wp2_with (first
     | (go_at_call 10; refine (known_any N _ (HGL.out _ HBL.out)).mono ?_; rintro e wn ⟨rfl, hbn⟩; have HBL0 := HBL; clear HBL; have HBL := hid (HBL0.out.trans (hbn.mono HBL0.out.size)); clear HBL0 hbn)
     | fail)
    go_ret
    exact ⟨rfl, HBW.out _ HBL.out⟩
   have HAL := hid (show textS alnumB i0 = true ∧ textS alnumB f0 = true ∧ textS alnumB t0 = true from ⟨HAi.out (by first | rfl | trivial), HAf.out (by first | rfl | trivial), HAt.out (by first | rfl | trivial)⟩)
   clear HAi HAf HAt
   obtain ⟨v2, hidc⟩ := HLK.out.id
   have HID := hid hidc
   have HKY := hid HLK.out.keys
   clear hidc
   go_upto_region 19 with (first
    | (refine wpList_store_cell (by rfl) 22 (.tmp 122) (.tmp 121) (by rfl) g10 2 35 (ics.set 2 v2) (.slice Ai0 i0.length ci0) (by rfl) (by rfl) HID.out (by rw [List.length_set, HIL.out]; decide) rfl bs_size ?_; intro W17 hst; have HST := hid hst; clear hst)
    | fail)
   have HBZ := hid (HBL.out.trans (HST.out.below.mono HGK.out.2.2))
   have HID2 := hid (show W17.heap[g10]? = some (.cells (ics.set 2 (.slice Ai0 i0.length ci0)).toArray 35 (0, 0)) by have h := HST.out.blk; rw [List.set_set] at h; exact h)
   have HKS := hid (keys_stored (Ne.symm HGK.out.2.1) HST.out HID.out HKY.out)
   have HLI2 := hid (show ∀ wx, Below wf.heap.size wf wx → LH wx (txtH id i0) (ics.set 2 (.slice Ai0 i0.length ci0)) from fun wx h => (HLI.out wx h).txt (HSS.out wx h).1)
   have HIL2 := hid (HLI2.out wf (Below.refl _ _)).len
   have HGW := hid (show gk < W17.heap.size by obtain ⟨l, h1, -⟩ := HKS.out; exact heap_lt h1)
   have HAT := hid (show AllT xi xf xt 0 by unfold AllT; rw [HXi.out.1, HXf.out.1, HXt.out.1]; exact HAL.out)
   have HKE := hid (show keyN xi xf xt 0 = joinS (bs i0) (bs t0) (bs f0) by unfold keyN; rw [HXi.out.1, HXf.out.1, HXt.out.1])
   obtain ⟨KE, hKE⟩ : ∃ K, K = keyN xi xf xt 0 := ⟨_, rfl⟩
   have HKK := hid hKE
   have HPM := hid (HF.out.aptP (x := i0) HAL.out.2.1 HAL.out.2.2)
   have HPD := hid (HF.out.aptD HPF.out HPT.out HAL.out.2.1 HAL.out.2.2 HAL.out.1)
   have HPL := hid (show fr.params.length ≤ 1073741824 ∧ tq.params.length ≤ 1073741824 from ⟨HF.out.ms2.bd.params, HF.out.ms1.bd.params⟩)
   clear HST HID HKY HLK HBL ci cf ct hKE
   have HBL := hid HBZ.out
   clear HBZ
   try dsimp only
   go_simp
   refine wp_region_grow 22 (LG gk 0 KE) (fun w => LG gk 0 KE W17 w)
    (fun i v w' => match i with
     | 0 => v = .int .i64 0
     | 1 => v = .agg #[.bool false, .slice Am m.method.length cm, x2, x3, x4, x5, x6, x7, x8, x9, x10, x11, x12, x13, x14, .slice Ax m.heads.length cx, x16, x17, x18]
     | 2 => v = .agg fcs.toArray
     | 3 => v = .int .i64 0
     | 4 => v = .pointer (some ⟨w.heap.size + 2, 0, none⟩)
     | 5 => v = .slice Af0 f0.length cf0
     | 6 => AggH wf.heap.size (parH fr tagK f0) v w'
     | 7 => AggM wf.heap.size (chgM m (parH fr tagK f0)) v w'
     | 8 => v = .agg tcs.toArray
     | 9 => v = .int .i64 0
     | 10 => v = .pointer (some ⟨w.heap.size + 3, 0, none⟩)
     | 11 => v = .slice At0 t0.length ct0
     | 12 => AggH wf.heap.size (parH tq tagK t0) v w'
     | 13 => AggM wf.heap.size (chgM (chgM m (parH fr tagK f0)) (parH tq tagK t0)) v w'
     | 14 => v = .agg (ics.set 2 (.slice Ai0 i0.length ci0)).toArray
     | 15 => AggM wf.heap.size (aptM m fr tq id f0 t0 i0) v w'
     | 16 => TupK KE v w'
     | 17 => TupK KE v w'
     | 18 => SBu w' v KE
     | 19 => v = .bool true
     | 20 => v = .pointer (some ⟨gk, 0, none⟩)
     | 21 => DoneK gk 0 KE w'
     | _ => True)
    [[], [], [], [], [3], [4], [2, 5], [1, 6], [], [], [9], [10], [8, 11], [7, 12], [], [13, 14], [15], [16], [17], [17], [0], [18, 20]] rfl (by kernel_rfl) (by kernel_rfl) (fun _ _ h q => h.trans q) ?_ ?_ ?_ ?_
   ·intro j hj v w'
    match j, hj with
    | j + 22, _ => trivial
   ·exact LG.of_below (Below.refl _ _).drew HGW.out
   ·simp only [List.take_succ_cons, List.take_zero, fillAll]
    refine ⟨⟨?_, ?_⟩, ⟨?_, ?_⟩, ⟨?_, ?_⟩, ⟨?_, ?_⟩, ⟨?_, ?_⟩, ⟨?_, ?_⟩, ⟨?_, ?_⟩, ⟨?_, ?_⟩, ⟨?_, ?_⟩, ⟨?_, ?_⟩, ⟨?_, ?_⟩, ⟨?_, ?_⟩, ⟨?_, ?_⟩, ⟨?_, ?_⟩, ⟨?_, ?_⟩, ⟨?_, ?_⟩, ⟨?_, ?_⟩, ⟨?_, ?_⟩, ⟨?_, ?_⟩, ⟨?_, ?_⟩, ⟨?_, ?_⟩, ⟨?_, ?_⟩, trivial⟩
    ·exact fun v w1 w2 h k => h
    ·intro vals w1 hI hd
     unfold GStep
     go_wp2
     exact LG.refl _ _ _ _
    ·exact fun v w1 w2 h k => h
    ·intro vals w1 hI hd
     have HC := hid (HX1.out _ (HBL.out.trans (hI.below.mono HGK.out.1)))
     unfold GStep
     dsimp only
     go_simp
     refine wpList_load_any_w (by rfl) 28 (.tmp 4) (by rfl) ⟨w.heap.size, 0, none⟩ (by rfl) _ _ (row_cells HC.out) Tryz.underlying28 (by rfl) (by rw [msg_size]; rfl) ?_
     go_wp2
     exact LG.refl _ _ _ _
    ·exact fun v w1 w2 h k => h
    ·intro vals w1 hI hd
     have HC := hid (HGF.out _ (HBL.out.trans (hI.below.mono HGK.out.1)))
     unfold GStep
     dsimp only
     go_simp
     refine wpList_load_blk (by rfl) 35 (.tmp 10) (by rfl) g6 35 (0, 0) fcs (by rfl) HC.out _ Tryz.underlying35 rfl 21 head_size HFL.out ?_
     go_wp2
     exact LG.refl _ _ _ _
    ·exact fun v w1 w2 h k => h
    ·intro vals w1 hI hd
     unfold GStep
     go_wp2
     exact LG.refl _ _ _ _
    ·exact fun v w1 w2 h k => h
    ·intro vals w1 hI hd
     have e3 : vals 3 = _ := hd.1
     unfold GStep
     go_wp2
     exact LG.refl _ _ _ _
    ·exact fun v w1 w2 h k => h
    ·intro vals w1 hI hd
     have e4 : vals 4 = _ := hd.1
     have cc := row_at (HFR.out _ (HBL.out.trans (hI.below.mono HGK.out.1))) 0 _ rfl
     unfold GStep
     go_wp2
     exact LG.refl _ _ _ _
    ·exact fun v w1 w2 h q => h.lg q HGK.out.1
    ·intro vals w1 hI hd
     have e2 : vals 2 = _ := hd.1
     have e5 : vals 5 = _ := hd.2.1
     have HP := hid (tagged_h wf.heap.size fr fcs _ f0 w1 (LH.sub (HLF.out wf (Below.refl _ _)) (sub_filt (HBL.out.trans (hI.below.mono HGK.out.1)) (Nat.le_refl _))) ((HSS.out wf (Below.refl _ _)).2.2.1.sub (sub_filt (HBL.out.trans (hI.below.mono HGK.out.1)) (Nat.le_refl _))) HPL.out.1)
     unfold GStep
     go_wp2_with (go_at_call 25; refine HP.out.mono ?_; rintro e w2 ⟨rs, rfl, hr, hb⟩)
     have HRS : AggH wf.heap.size (parH fr tagK f0) (.agg rs.toArray) w2 := ⟨rs, rfl, hr⟩
     exact ⟨(LG.of_below hb (Nat.lt_of_lt_of_le HGW.out hI.below.size)), HRS⟩
    ·exact fun v w1 w2 h q => h.lg q HGK.out.1
    ·intro vals w1 hI hd
     have e1 : vals 1 = _ := hd.1
     have r6 : AggH _ _ (vals 6) w1 := hd.2.1
     clear hd
     unfold GStep
     dsimp only
     generalize vals 6 = q6 at r6 ⊢
     obtain ⟨rs1, rfl, hr1⟩ := r6
     have HP := hid (changed_h wf.heap.size m (parH fr tagK f0) _ rs1 w1 ((HLA.out wf (Below.refl _ _)).h (HBL.out.trans (hI.below.mono HGK.out.1)) (Nat.le_refl _)) hr1 HF.out.p.many)
     clear hr1
     go_wp2_with (go_at_call 14; refine HP.out.mono ?_; rintro e w2 ⟨rs, rfl, hr, hb⟩)
     have HRS : AggM wf.heap.size (chgM m (parH fr tagK f0)) (.agg rs.toArray) w2 := ⟨rs, rfl, hr⟩
     exact ⟨(LG.of_below hb (Nat.lt_of_lt_of_le HGW.out hI.below.size)), HRS⟩
    ·exact fun v w1 w2 h k => h
    ·intro vals w1 hI hd
     have HC := hid (HGT.out _ (HBL.out.trans (hI.below.mono HGK.out.1)))
     unfold GStep
     dsimp only
     go_simp
     refine wpList_load_blk (by rfl) 35 (.tmp 12) (by rfl) g8 35 (0, 0) tcs (by rfl) HC.out _ Tryz.underlying35 rfl 21 head_size HTL.out ?_
     go_wp2
     exact LG.refl _ _ _ _
    ·exact fun v w1 w2 h k => h
    ·intro vals w1 hI hd
     unfold GStep
     go_wp2
     exact LG.refl _ _ _ _
    ·exact fun v w1 w2 h k => h
    ·intro vals w1 hI hd
     have e9 : vals 9 = _ := hd.1
     unfold GStep
     go_wp2
     exact LG.refl _ _ _ _
    ·exact fun v w1 w2 h k => h
    ·intro vals w1 hI hd
     have e10 : vals 10 = _ := hd.1
     have cc := row_at (HTO.out _ (HBL.out.trans (hI.below.mono HGK.out.1))) 0 _ rfl
     unfold GStep
     go_wp2
     exact LG.refl _ _ _ _
    ·exact fun v w1 w2 h q => h.lg q HGK.out.1
    ·intro vals w1 hI hd
     have e8 : vals 8 = _ := hd.1
     have e11 : vals 11 = _ := hd.2.1
     have HP := hid (tagged_h wf.heap.size tq tcs _ t0 w1 (LH.sub (HLT.out wf (Below.refl _ _)) (sub_filt (HBL.out.trans (hI.below.mono HGK.out.1)) (Nat.le_refl _))) ((HSS.out wf (Below.refl _ _)).2.2.2.2.1.sub (sub_filt (HBL.out.trans (hI.below.mono HGK.out.1)) (Nat.le_refl _))) HPL.out.2)
     unfold GStep
     go_wp2_with (go_at_call 25; refine HP.out.mono ?_; rintro e w2 ⟨rs, rfl, hr, hb⟩)
     have HRS : AggH wf.heap.size (parH tq tagK t0) (.agg rs.toArray) w2 := ⟨rs, rfl, hr⟩
     exact ⟨(LG.of_below hb (Nat.lt_of_lt_of_le HGW.out hI.below.size)), HRS⟩
    ·exact fun v w1 w2 h q => h.lg q HGK.out.1
    ·intro vals w1 hI hd
     have r7 : AggM _ _ (vals 7) w1 := hd.1
     have r12 : AggH _ _ (vals 12) w1 := hd.2.1
     clear hd
     unfold GStep
     dsimp only
     generalize vals 7 = q7 at r7 ⊢
     generalize vals 12 = q12 at r12 ⊢
     obtain ⟨rs0, rfl, hr0⟩ := r7
     obtain ⟨rs1, rfl, hr1⟩ := r12
     have HP := hid (changed_h wf.heap.size (chgM m (parH fr tagK f0)) (parH tq tagK t0) rs0 rs1 w1 hr0 hr1 (HF.out.p.chg (HF.out.ms2.tag2 HF.out.t2 tagK f0 (alnum_ok HAL.out.2.1).1)).many)
     clear hr1 hr0
     go_wp2_with (go_at_call 14; refine HP.out.mono ?_; rintro e w2 ⟨rs, rfl, hr, hb⟩)
     have HRS : AggM wf.heap.size (chgM (chgM m (parH fr tagK f0)) (parH tq tagK t0)) (.agg rs.toArray) w2 := ⟨rs, rfl, hr⟩
     exact ⟨(LG.of_below hb (Nat.lt_of_lt_of_le HGW.out hI.below.size)), HRS⟩
    ·exact fun v w1 w2 h k => h
    ·intro vals w1 hI hd
     have HC := hid (hI.blk HGK.out.2.1 (by decide) HID2.out)
     unfold GStep
     dsimp only
     go_simp
     refine wpList_load_blk (by rfl) 35 (.tmp 14) (by rfl) g10 35 (0, 0) (ics.set 2 (.slice Ai0 i0.length ci0)) (by rfl) HC.out _ Tryz.underlying35 rfl 21 head_size HIL2.out ?_
     go_wp2
     exact LG.refl _ _ _ _
    ·exact fun v w1 w2 h q => h.lg q HGK.out.1
    ·intro vals w1 hI hd
     have r13 : AggM _ _ (vals 13) w1 := hd.1
     have e14 : vals 14 = _ := hd.2.1
     clear hd
     unfold GStep
     dsimp only
     generalize vals 13 = q13 at r13 ⊢
     obtain ⟨rs0, rfl, hr0⟩ := r13
     have HP := hid (changed_h wf.heap.size (chgM (chgM m (parH fr tagK f0)) (parH tq tagK t0)) (txtH id i0) rs0 _ w1 hr0 (LH.sub (HLI2.out wf (Below.refl _ _)) (sub_filt (HBL.out.trans (hI.below.mono HGK.out.1)) (Nat.le_refl _))) ((HF.out.p.chg (HF.out.ms2.tag2 HF.out.t2 tagK f0 (alnum_ok HAL.out.2.1).1)).chg (HF.out.ms1.tag1 HF.out.t1 tagK t0 (alnum_ok HAL.out.2.2).1)).many)
     clear hr0
     go_wp2_with (go_at_call 14; refine HP.out.mono ?_; rintro e w2 ⟨rs, rfl, hr, hb⟩)
     have HRS : AggM wf.heap.size (aptM m fr tq id f0 t0 i0) (.agg rs.toArray) w2 := ⟨rs, rfl, hr⟩
     exact ⟨(LG.of_below hb (Nat.lt_of_lt_of_le HGW.out hI.below.size)), HRS⟩
    ·exact fun v w1 w2 h q => h.ku q.ku
    ·intro vals w1 hI hd
     have r15 : AggM _ _ (vals 15) w1 := hd.1
     clear hd
     unfold GStep
     dsimp only
     generalize vals 15 = q15 at r15 ⊢
     obtain ⟨rs0, rfl, hr0⟩ := r15
     have HP := hid (dlg_uas N (aptM m fr tq id f0 t0 i0) rs0 i0 t0 f0 w1 (HGL.out _ (HBL.out.trans (hI.below.mono HGK.out.1))) (HPM.out.k hr0.lm) HPD.out HRM.out)
     rw [← HKE.out, ← HKK.out] at HP
     clear hr0
     go_wp2_with (go_at_call 21; refine HP.out.mono ?_; rintro e w2 ⟨va, rfl, hka, hb⟩)
     have HRS : TupK KE (.tuple #[va, .bool true]) w2 := ⟨va, rfl, hka⟩
     exact ⟨(LG.of_below hb (Nat.lt_of_lt_of_le HGW.out hI.below.size)), HRS⟩
    ·exact fun v w1 w2 h q => h.ku q.ku
    ·intro vals w1 hI hd
     have r : TupK _ (vals 16) w1 := hd.1
     clear hd
     unfold GStep
     dsimp only
     generalize vals 16 = q at r ⊢
     obtain ⟨va, rfl, hka⟩ := r
     have HKA := hid hka
     obtain ⟨ka, capa, csa, fza, rfl, -⟩ := hka
     go_wp2
     exact ⟨LG.refl _ _ _ _, _, rfl, HKA.out⟩
    ·exact fun v w1 w2 h q => h.ku q.ku
    ·intro vals w1 hI hd
     have r : TupK _ (vals 17) w1 := hd.1
     clear hd
     unfold GStep
     dsimp only
     generalize vals 17 = q at r ⊢
     obtain ⟨va, rfl, hka⟩ := r
     have HKA := hid hka
     obtain ⟨ka, capa, csa, fza, rfl, -⟩ := hka
     go_wp2
     exact ⟨LG.refl _ _ _ _, HKA.out⟩
    ·exact fun v w1 w2 h k => h
    ·intro vals w1 hI hd
     have r : TupK _ (vals 17) w1 := hd.1
     clear hd
     unfold GStep
     dsimp only
     generalize vals 17 = q at r ⊢
     obtain ⟨va, rfl, hka⟩ := r
     have HKA := hid hka
     obtain ⟨ka, capa, csa, fza, rfl, -⟩ := hka
     go_wp2
     exact LG.refl _ _ _ _
    ·exact fun v w1 w2 h k => h
    ·intro vals w1 hI hd
     have e0 : vals 0 = _ := hd.1
     unfold GStep
     go_wp2
     exact LG.refl _ _ _ _
    ·exact fun v w1 w2 h q => h.lg q
    ·intro vals w1 hI hd
     have r : SBu w1 (vals 18) KE := hd.1
     have e20 : vals 20 = _ := hd.2.1
     clear hd
     unfold GStep
     dsimp only
     go_simp
     generalize vals 18 = q at r ⊢
     generalize vals 20 = p at e20 ⊢
     subst e20
     have HR := hid r
     obtain ⟨ka, capa, csa, fza, rfl, -⟩ := r
     obtain ⟨l0, h0, hl0, -⟩ := HKS.out
     obtain ⟨l1, h1, hl1, -, -⟩ := hI.cell l0 h0
     have HC := hid h1
     have HCL := hid (show 0 < l1.length by omega)
     clear h0 hl0 h1 hl1
     refine wpList_store_cell (by rfl) 22 (.tmp 143) (.tmp 141) (by rfl) gk 0 50 l1 (.slice (some ⟨ka, 0, none⟩) KE.length capa) (by rfl) (by rfl) HC.out HCL.out rfl bs_size ?_
     intro W' hst
     have HST := hid hst
     clear hst
     have HLS := hid (LG.stored (key := KE) HC.out HCL.out HST.out HR.out)
     have HDN : DoneK gk 0 KE W' := ⟨_, HST.out.blk, HLS.out.2⟩
     go_wp2
     first | exact HLS.out.1 | exact ⟨HLS.out.1, HDN⟩
   ·intro vals w2 hI hR
    simp only [List.drop_succ_cons, List.drop_zero, List.take_succ_cons, List.take_zero, fillAll]
    obtain ⟨-, -, -, -, -, -, -, -, -, -, -, -, -, -, -, -, -, -, -, r19, -, r21, -⟩ := hR
    have e19 : vals 19 = _ := r19
    rw [e19]
    have HNX := hid (show LoopK gk g10 ics xi xf xt (0 + 1) w2 by
     have h21 : DoneK gk 0 KE w2 := r21
     rw [HKK.out] at h21
     have h22 := hI
     rw [HKK.out] at h22
     exact LoopK.next HGK.out.2.1 HID2.out HKS.out h22 HAT.out h21)
    have HBE := hid (HBL.out.trans (hI.below.mono HGK.out.1))
    clear hI r19 r21 e19
    try dsimp only
    go_simp
    go_wp2_with fail
    go_roundw
    case rel => exact ⟨0 + 1, by omega, rfl, HNX.out, HBE.out⟩
    case measure => first | decide | (simp [intOf])
  ·have ci := row_at (HI.out _ HBL.out) 1 _ rfl
   go_upto_if 117 with (first
    | (go_at_call_of 24 Ai1; refine (isalnum_says _ i1 _ (HSS.out _ HBL.out).2.1).mono ?_; rintro e wn ⟨⟨b, rfl, hb⟩, hbn⟩; have HLK0 := HLK; clear HLK; have HLK := hid (HLK0.out.below hbn); clear HLK0; have HBL0 := HBL; clear HBL; have HBL := hid (HBL0.out.trans (hbn.mono HBL0.out.size)); clear HBL0 hbn; have HAi := hid hb; clear hb; have cf := row_at (HFR.out _ HBL.out) 1 _ rfl; have ct := row_at (HTO.out _ HBL.out) 1 _ rfl; have ci := row_at (HI.out _ HBL.out) 1 _ rfl; cases b)
    | (go_at_call_of 24 Af1; refine (isalnum_says _ f1 _ (HSS.out _ HBL.out).2.2.2.1).mono ?_; rintro e wn ⟨⟨b, rfl, hb⟩, hbn⟩; have HLK0 := HLK; clear HLK; have HLK := hid (HLK0.out.below hbn); clear HLK0; have HBL0 := HBL; clear HBL; have HBL := hid (HBL0.out.trans (hbn.mono HBL0.out.size)); clear HBL0 hbn; have HAf := hid hb; clear hb; have cf := row_at (HFR.out _ HBL.out) 1 _ rfl; have ct := row_at (HTO.out _ HBL.out) 1 _ rfl; have ci := row_at (HI.out _ HBL.out) 1 _ rfl; cases b)
    | (go_at_call_of 24 At1; refine (isalnum_says _ t1 _ (HSS.out _ HBL.out).2.2.2.2.2).mono ?_; rintro e wn ⟨⟨b, rfl, hb⟩, hbn⟩; have HLK0 := HLK; clear HLK; have HLK := hid (HLK0.out.below hbn); clear HLK0; have HBL0 := HBL; clear HBL; have HBL := hid (HBL0.out.trans (hbn.mono HBL0.out.size)); clear HBL0 hbn; have HAt := hid hb; clear hb; have cf := row_at (HFR.out _ HBL.out) 1 _ rfl; have ct := row_at (HTO.out _ HBL.out) 1 _ rfl; have ci := row_at (HI.out _ HBL.out) 1 _ rfl; cases b)
    | fail)
   ·go_wp2_with (first
     | (go_at_call 10; refine (known_any N _ (HGL.out _ HBL.out)).mono ?_; rintro e wn ⟨rfl, hbn⟩; have HBL0 := HBL; clear HBL; have HBL := hid (HBL0.out.trans (hbn.mono HBL0.out.size)); clear HBL0 hbn)
     | fail)
    go_ret
    exact ⟨rfl, HBW.out _ HBL.out⟩
   ·go_wp2_with (first
     | (go_at_call 10; refine (known_any N _ (HGL.out _ HBL.out)).mono ?_; rintro e wn ⟨rfl, hbn⟩; have HBL0 := HBL; clear HBL; have HBL := hid (HBL0.out.trans (hbn.mono HBL0.out.size)); clear HBL0 hbn)
     | fail)
    go_ret
    exact ⟨rfl, HBW.out _ HBL.out⟩
   ·go_wp2_with (first
     | (go_at_call 10; refine (known_any N _ (HGL.out _ HBL.out)).mono ?_; rintro e wn ⟨rfl, hbn⟩; have HBL0 := HBL; clear HBL; have HBL := hid (HBL0.out.trans (hbn.mono HBL0.out.size)); clear HBL0 hbn)
     | fail)
    go_ret
    exact ⟨rfl, HBW.out _ HBL.out⟩
   have HAL := hid (show textS alnumB i1 = true ∧ textS alnumB f1 = true ∧ textS alnumB t1 = true from ⟨HAi.out (by first | rfl | trivial), HAf.out (by first | rfl | trivial), HAt.out (by first | rfl | trivial)⟩)
   clear HAi HAf HAt
   obtain ⟨v2, hidc⟩ := HLK.out.id
   have HID := hid hidc
   have HKY := hid HLK.out.keys
   clear hidc
   go_upto_region 19 with (first
    | (refine wpList_store_cell (by rfl) 22 (.tmp 122) (.tmp 121) (by rfl) g10 2 35 (ics.set 2 v2) (.slice Ai1 i1.length ci1) (by rfl) (by rfl) HID.out (by rw [List.length_set, HIL.out]; decide) rfl bs_size ?_; intro W17 hst; have HST := hid hst; clear hst)
    | fail)
   have HBZ := hid (HBL.out.trans (HST.out.below.mono HGK.out.2.2))
   have HID2 := hid (show W17.heap[g10]? = some (.cells (ics.set 2 (.slice Ai1 i1.length ci1)).toArray 35 (0, 0)) by have h := HST.out.blk; rw [List.set_set] at h; exact h)
   have HKS := hid (keys_stored (Ne.symm HGK.out.2.1) HST.out HID.out HKY.out)
   have HLI2 := hid (show ∀ wx, Below wf.heap.size wf wx → LH wx (txtH id i1) (ics.set 2 (.slice Ai1 i1.length ci1)) from fun wx h => (HLI.out wx h).txt (HSS.out wx h).2.1)
   have HIL2 := hid (HLI2.out wf (Below.refl _ _)).len
   have HGW := hid (show gk < W17.heap.size by obtain ⟨l, h1, -⟩ := HKS.out; exact heap_lt h1)
   have HAT := hid (show AllT xi xf xt 1 by unfold AllT; rw [HXi.out.2, HXf.out.2, HXt.out.2]; exact HAL.out)
   have HKE := hid (show keyN xi xf xt 1 = joinS (bs i1) (bs t1) (bs f1) by unfold keyN; rw [HXi.out.2, HXf.out.2, HXt.out.2])
   obtain ⟨KE, hKE⟩ : ∃ K, K = keyN xi xf xt 1 := ⟨_, rfl⟩
   have HKK := hid hKE
   have HPM := hid (HF.out.aptP (x := i1) HAL.out.2.1 HAL.out.2.2)
   have HPD := hid (HF.out.aptD HPF.out HPT.out HAL.out.2.1 HAL.out.2.2 HAL.out.1)
   have HPL := hid (show fr.params.length ≤ 1073741824 ∧ tq.params.length ≤ 1073741824 from ⟨HF.out.ms2.bd.params, HF.out.ms1.bd.params⟩)
   clear HST HID HKY HLK HBL ci cf ct hKE
   have HBL := hid HBZ.out
   clear HBZ
   try dsimp only
   go_simp
   refine wp_region_grow 22 (LG gk 1 KE) (fun w => LG gk 1 KE W17 w)
    (fun i v w' => match i with
     | 0 => v = .int .i64 1
     | 1 => v = .agg #[.bool false, .slice Am m.method.length cm, x2, x3, x4, x5, x6, x7, x8, x9, x10, x11, x12, x13, x14, .slice Ax m.heads.length cx, x16, x17, x18]
     | 2 => v = .agg fcs.toArray
     | 3 => v = .int .i64 1
     | 4 => v = .pointer (some ⟨w.heap.size + 2, 1, none⟩)
     | 5 => v = .slice Af1 f1.length cf1
     | 6 => AggH wf.heap.size (parH fr tagK f1) v w'
     | 7 => AggM wf.heap.size (chgM m (parH fr tagK f1)) v w'
     | 8 => v = .agg tcs.toArray
     | 9 => v = .int .i64 1
     | 10 => v = .pointer (some ⟨w.heap.size + 3, 1, none⟩)
     | 11 => v = .slice At1 t1.length ct1
     | 12 => AggH wf.heap.size (parH tq tagK t1) v w'
     | 13 => AggM wf.heap.size (chgM (chgM m (parH fr tagK f1)) (parH tq tagK t1)) v w'
     | 14 => v = .agg (ics.set 2 (.slice Ai1 i1.length ci1)).toArray
     | 15 => AggM wf.heap.size (aptM m fr tq id f1 t1 i1) v w'
     | 16 => TupK KE v w'
     | 17 => TupK KE v w'
     | 18 => SBu w' v KE
     | 19 => v = .bool true
     | 20 => v = .pointer (some ⟨gk, 1, none⟩)
     | 21 => DoneK gk 1 KE w'
     | _ => True)
    [[], [], [], [], [3], [4], [2, 5], [1, 6], [], [], [9], [10], [8, 11], [7, 12], [], [13, 14], [15], [16], [17], [17], [0], [18, 20]] rfl (by kernel_rfl) (by kernel_rfl) (fun _ _ h q => h.trans q) ?_ ?_ ?_ ?_
   ·intro j hj v w'
    match j, hj with
    | j + 22, _ => trivial
   ·exact LG.of_below (Below.refl _ _).drew HGW.out
   ·simp only [List.take_succ_cons, List.take_zero, fillAll]
    refine ⟨⟨?_, ?_⟩, ⟨?_, ?_⟩, ⟨?_, ?_⟩, ⟨?_, ?_⟩, ⟨?_, ?_⟩, ⟨?_, ?_⟩, ⟨?_, ?_⟩, ⟨?_, ?_⟩, ⟨?_, ?_⟩, ⟨?_, ?_⟩, ⟨?_, ?_⟩, ⟨?_, ?_⟩, ⟨?_, ?_⟩, ⟨?_, ?_⟩, ⟨?_, ?_⟩, ⟨?_, ?_⟩, ⟨?_, ?_⟩, ⟨?_, ?_⟩, ⟨?_, ?_⟩, ⟨?_, ?_⟩, ⟨?_, ?_⟩, ⟨?_, ?_⟩, trivial⟩
    ·exact fun v w1 w2 h k => h
    ·intro vals w1 hI hd
     unfold GStep
     go_wp2
     exact LG.refl _ _ _ _
    ·exact fun v w1 w2 h k => h
    ·intro vals w1 hI hd
     have HC := hid (HX1.out _ (HBL.out.trans (hI.below.mono HGK.out.1)))
     unfold GStep
     dsimp only
     go_simp
     refine wpList_load_any_w (by rfl) 28 (.tmp 4) (by rfl) ⟨w.heap.size, 0, none⟩ (by rfl) _ _ (row_cells HC.out) Tryz.underlying28 (by rfl) (by rw [msg_size]; rfl) ?_
     go_wp2
     exact LG.refl _ _ _ _
    ·exact fun v w1 w2 h k => h
    ·intro vals w1 hI hd
     have HC := hid (HGF.out _ (HBL.out.trans (hI.below.mono HGK.out.1)))
     unfold GStep
     dsimp only
     go_simp
     refine wpList_load_blk (by rfl) 35 (.tmp 10) (by rfl) g6 35 (0, 0) fcs (by rfl) HC.out _ Tryz.underlying35 rfl 21 head_size HFL.out ?_
     go_wp2
     exact LG.refl _ _ _ _
    ·exact fun v w1 w2 h k => h
    ·intro vals w1 hI hd
     unfold GStep
     go_wp2
     exact LG.refl _ _ _ _
    ·exact fun v w1 w2 h k => h
    ·intro vals w1 hI hd
     have e3 : vals 3 = _ := hd.1
     unfold GStep
     go_wp2
     exact LG.refl _ _ _ _
    ·exact fun v w1 w2 h k => h
    ·intro vals w1 hI hd
     have e4 : vals 4 = _ := hd.1
     have cc := row_at (HFR.out _ (HBL.out.trans (hI.below.mono HGK.out.1))) 1 _ rfl
     unfold GStep
     go_wp2
     exact LG.refl _ _ _ _
    ·exact fun v w1 w2 h q => h.lg q HGK.out.1
    ·intro vals w1 hI hd
     have e2 : vals 2 = _ := hd.1
     have e5 : vals 5 = _ := hd.2.1
     have HP := hid (tagged_h wf.heap.size fr fcs _ f1 w1 (LH.sub (HLF.out wf (Below.refl _ _)) (sub_filt (HBL.out.trans (hI.below.mono HGK.out.1)) (Nat.le_refl _))) ((HSS.out wf (Below.refl _ _)).2.2.2.1.sub (sub_filt (HBL.out.trans (hI.below.mono HGK.out.1)) (Nat.le_refl _))) HPL.out.1)
     unfold GStep
     go_wp2_with (go_at_call 25; refine HP.out.mono ?_; rintro e w2 ⟨rs, rfl, hr, hb⟩)
     have HRS : AggH wf.heap.size (parH fr tagK f1) (.agg rs.toArray) w2 := ⟨rs, rfl, hr⟩
     exact ⟨(LG.of_below hb (Nat.lt_of_lt_of_le HGW.out hI.below.size)), HRS⟩
    ·exact fun v w1 w2 h q => h.lg q HGK.out.1
    ·intro vals w1 hI hd
     have e1 : vals 1 = _ := hd.1
     have r6 : AggH _ _ (vals 6) w1 := hd.2.1
     clear hd
     unfold GStep
     dsimp only
     generalize vals 6 = q6 at r6 ⊢
     obtain ⟨rs1, rfl, hr1⟩ := r6
     have HP := hid (changed_h wf.heap.size m (parH fr tagK f1) _ rs1 w1 ((HLA.out wf (Below.refl _ _)).h (HBL.out.trans (hI.below.mono HGK.out.1)) (Nat.le_refl _)) hr1 HF.out.p.many)
     clear hr1
     go_wp2_with (go_at_call 14; refine HP.out.mono ?_; rintro e w2 ⟨rs, rfl, hr, hb⟩)
     have HRS : AggM wf.heap.size (chgM m (parH fr tagK f1)) (.agg rs.toArray) w2 := ⟨rs, rfl, hr⟩
     exact ⟨(LG.of_below hb (Nat.lt_of_lt_of_le HGW.out hI.below.size)), HRS⟩
    ·exact fun v w1 w2 h k => h
    ·intro vals w1 hI hd
     have HC := hid (HGT.out _ (HBL.out.trans (hI.below.mono HGK.out.1)))
     unfold GStep
     dsimp only
     go_simp
     refine wpList_load_blk (by rfl) 35 (.tmp 12) (by rfl) g8 35 (0, 0) tcs (by rfl) HC.out _ Tryz.underlying35 rfl 21 head_size HTL.out ?_
     go_wp2
     exact LG.refl _ _ _ _
    ·exact fun v w1 w2 h k => h
    ·intro vals w1 hI hd
     unfold GStep
     go_wp2
     exact LG.refl _ _ _ _
    ·exact fun v w1 w2 h k => h
    ·intro vals w1 hI hd
     have e9 : vals 9 = _ := hd.1
     unfold GStep
     go_wp2
     exact LG.refl _ _ _ _
    ·exact fun v w1 w2 h k => h
    ·intro vals w1 hI hd
     have e10 : vals 10 = _ := hd.1
     have cc := row_at (HTO.out _ (HBL.out.trans (hI.below.mono HGK.out.1))) 1 _ rfl
     unfold GStep
     go_wp2
     exact LG.refl _ _ _ _
    ·exact fun v w1 w2 h q => h.lg q HGK.out.1
    ·intro vals w1 hI hd
     have e8 : vals 8 = _ := hd.1
     have e11 : vals 11 = _ := hd.2.1
     have HP := hid (tagged_h wf.heap.size tq tcs _ t1 w1 (LH.sub (HLT.out wf (Below.refl _ _)) (sub_filt (HBL.out.trans (hI.below.mono HGK.out.1)) (Nat.le_refl _))) ((HSS.out wf (Below.refl _ _)).2.2.2.2.2.sub (sub_filt (HBL.out.trans (hI.below.mono HGK.out.1)) (Nat.le_refl _))) HPL.out.2)
     unfold GStep
     go_wp2_with (go_at_call 25; refine HP.out.mono ?_; rintro e w2 ⟨rs, rfl, hr, hb⟩)
     have HRS : AggH wf.heap.size (parH tq tagK t1) (.agg rs.toArray) w2 := ⟨rs, rfl, hr⟩
     exact ⟨(LG.of_below hb (Nat.lt_of_lt_of_le HGW.out hI.below.size)), HRS⟩
    ·exact fun v w1 w2 h q => h.lg q HGK.out.1
    ·intro vals w1 hI hd
     have r7 : AggM _ _ (vals 7) w1 := hd.1
     have r12 : AggH _ _ (vals 12) w1 := hd.2.1
     clear hd
     unfold GStep
     dsimp only
     generalize vals 7 = q7 at r7 ⊢
     generalize vals 12 = q12 at r12 ⊢
     obtain ⟨rs0, rfl, hr0⟩ := r7
     obtain ⟨rs1, rfl, hr1⟩ := r12
     have HP := hid (changed_h wf.heap.size (chgM m (parH fr tagK f1)) (parH tq tagK t1) rs0 rs1 w1 hr0 hr1 (HF.out.p.chg (HF.out.ms2.tag2 HF.out.t2 tagK f1 (alnum_ok HAL.out.2.1).1)).many)
     clear hr1 hr0
     go_wp2_with (go_at_call 14; refine HP.out.mono ?_; rintro e w2 ⟨rs, rfl, hr, hb⟩)
     have HRS : AggM wf.heap.size (chgM (chgM m (parH fr tagK f1)) (parH tq tagK t1)) (.agg rs.toArray) w2 := ⟨rs, rfl, hr⟩
     exact ⟨(LG.of_below hb (Nat.lt_of_lt_of_le HGW.out hI.below.size)), HRS⟩
    ·exact fun v w1 w2 h k => h
    ·intro vals w1 hI hd
     have HC := hid (hI.blk HGK.out.2.1 (by decide) HID2.out)
     unfold GStep
     dsimp only
     go_simp
     refine wpList_load_blk (by rfl) 35 (.tmp 14) (by rfl) g10 35 (0, 0) (ics.set 2 (.slice Ai1 i1.length ci1)) (by rfl) HC.out _ Tryz.underlying35 rfl 21 head_size HIL2.out ?_
     go_wp2
     exact LG.refl _ _ _ _
    ·exact fun v w1 w2 h q => h.lg q HGK.out.1
    ·intro vals w1 hI hd
     have r13 : AggM _ _ (vals 13) w1 := hd.1
     have e14 : vals 14 = _ := hd.2.1
     clear hd
     unfold GStep
     dsimp only
     generalize vals 13 = q13 at r13 ⊢
     obtain ⟨rs0, rfl, hr0⟩ := r13
     have HP := hid (changed_h wf.heap.size (chgM (chgM m (parH fr tagK f1)) (parH tq tagK t1)) (txtH id i1) rs0 _ w1 hr0 (LH.sub (HLI2.out wf (Below.refl _ _)) (sub_filt (HBL.out.trans (hI.below.mono HGK.out.1)) (Nat.le_refl _))) ((HF.out.p.chg (HF.out.ms2.tag2 HF.out.t2 tagK f1 (alnum_ok HAL.out.2.1).1)).chg (HF.out.ms1.tag1 HF.out.t1 tagK t1 (alnum_ok HAL.out.2.2).1)).many)
     clear hr0
     go_wp2_with (go_at_call 14; refine HP.out.mono ?_; rintro e w2 ⟨rs, rfl, hr, hb⟩)
     have HRS : AggM wf.heap.size (aptM m fr tq id f1 t1 i1) (.agg rs.toArray) w2 := ⟨rs, rfl, hr⟩
     exact ⟨(LG.of_below hb (Nat.lt_of_lt_of_le HGW.out hI.below.size)), HRS⟩
    ·exact fun v w1 w2 h q => h.ku q.ku
    ·intro vals w1 hI hd
     have r15 : AggM _ _ (vals 15) w1 := hd.1
     clear hd
     unfold GStep
     dsimp only
     generalize vals 15 = q15 at r15 ⊢
     obtain ⟨rs0, rfl, hr0⟩ := r15
     have HP := hid (dlg_uas N (aptM m fr tq id f1 t1 i1) rs0 i1 t1 f1 w1 (HGL.out _ (HBL.out.trans (hI.below.mono HGK.out.1))) (HPM.out.k hr0.lm) HPD.out HRM.out)
     rw [← HKE.out, ← HKK.out] at HP
     clear hr0
     go_wp2_with (go_at_call 21; refine HP.out.mono ?_; rintro e w2 ⟨va, rfl, hka, hb⟩)
     have HRS : TupK KE (.tuple #[va, .bool true]) w2 := ⟨va, rfl, hka⟩
     exact ⟨(LG.of_below hb (Nat.lt_of_lt_of_le HGW.out hI.below.size)), HRS⟩
    ·exact fun v w1 w2 h q => h.ku q.ku
    ·intro vals w1 hI hd
     have r : TupK _ (vals 16) w1 := hd.1
     clear hd
     unfold GStep
     dsimp only
     generalize vals 16 = q at r ⊢
     obtain ⟨va, rfl, hka⟩ := r
     have HKA := hid hka
     obtain ⟨ka, capa, csa, fza, rfl, -⟩ := hka
     go_wp2
     exact ⟨LG.refl _ _ _ _, _, rfl, HKA.out⟩
    ·exact fun v w1 w2 h q => h.ku q.ku
    ·intro vals w1 hI hd
     have r : TupK _ (vals 17) w1 := hd.1
     clear hd
     unfold GStep
     dsimp only
     generalize vals 17 = q at r ⊢
     obtain ⟨va, rfl, hka⟩ := r
     have HKA := hid hka
     obtain ⟨ka, capa, csa, fza, rfl, -⟩ := hka
     go_wp2
     exact ⟨LG.refl _ _ _ _, HKA.out⟩
    ·exact fun v w1 w2 h k => h
    ·intro vals w1 hI hd
     have r : TupK _ (vals 17) w1 := hd.1
     clear hd
     unfold GStep
     dsimp only
     generalize vals 17 = q at r ⊢
     obtain ⟨va, rfl, hka⟩ := r
     have HKA := hid hka
     obtain ⟨ka, capa, csa, fza, rfl, -⟩ := hka
     go_wp2
     exact LG.refl _ _ _ _
    ·exact fun v w1 w2 h k => h
    ·intro vals w1 hI hd
     have e0 : vals 0 = _ := hd.1
     unfold GStep
     go_wp2
     exact LG.refl _ _ _ _
    ·exact fun v w1 w2 h q => h.lg q
    ·intro vals w1 hI hd
     have r : SBu w1 (vals 18) KE := hd.1
     have e20 : vals 20 = _ := hd.2.1
     clear hd
     unfold GStep
     dsimp only
     go_simp
     generalize vals 18 = q at r ⊢
     generalize vals 20 = p at e20 ⊢
     subst e20
     have HR := hid r
     obtain ⟨ka, capa, csa, fza, rfl, -⟩ := r
     obtain ⟨l0, h0, hl0, -⟩ := HKS.out
     obtain ⟨l1, h1, hl1, -, -⟩ := hI.cell l0 h0
     have HC := hid h1
     have HCL := hid (show 1 < l1.length by omega)
     clear h0 hl0 h1 hl1
     refine wpList_store_cell (by rfl) 22 (.tmp 143) (.tmp 141) (by rfl) gk 1 50 l1 (.slice (some ⟨ka, 0, none⟩) KE.length capa) (by rfl) (by rfl) HC.out HCL.out rfl bs_size ?_
     intro W' hst
     have HST := hid hst
     clear hst
     have HLS := hid (LG.stored (key := KE) HC.out HCL.out HST.out HR.out)
     have HDN : DoneK gk 1 KE W' := ⟨_, HST.out.blk, HLS.out.2⟩
     go_wp2
     first | exact HLS.out.1 | exact ⟨HLS.out.1, HDN⟩
   ·intro vals w2 hI hR
    simp only [List.drop_succ_cons, List.drop_zero, List.take_succ_cons, List.take_zero, fillAll]
    obtain ⟨-, -, -, -, -, -, -, -, -, -, -, -, -, -, -, -, -, -, -, r19, -, r21, -⟩ := hR
    have e19 : vals 19 = _ := r19
    rw [e19]
    have HNX := hid (show LoopK gk g10 ics xi xf xt (1 + 1) w2 by
     have h21 : DoneK gk 1 KE w2 := r21
     rw [HKK.out] at h21
     have h22 := hI
     rw [HKK.out] at h22
     exact LoopK.next HGK.out.2.1 HID2.out HKS.out h22 HAT.out h21)
    have HBE := hid (HBL.out.trans (hI.below.mono HGK.out.1))
    clear hI r19 r21 e19
    try dsimp only
    go_simp
    go_wp2_with fail
    go_roundw
    case rel => exact ⟨1 + 1, by omega, rfl, HNX.out, HBE.out⟩
    case measure => first | decide | (simp [intOf])
  ·obtain ⟨l, hl, hl2, hl3⟩ := HLK.out.keys
   obtain ⟨a0, x0, hx0, hs0⟩ := hl3 0 (by omega)
   obtain ⟨a1, x1, hx1, hs1⟩ := hl3 1 (by omega)
   obtain ⟨y0, y1, rfl⟩ : ∃ y0 y1, l = [y0, y1] := by
    match l, hl2 with
    | [y0, y1], _ => exact ⟨y0, y1, rfl⟩
   obtain rfl : y0 = x0 := by simpa using hx0
   obtain rfl : y1 = x1 := by simpa using hx1
   have HS0 := hid hs0.sb
   have HS1 := hid hs1.sb
   obtain ⟨k0, p0, cs0, fz0, rfl, -⟩ := hs0
   obtain ⟨k1, p1, cs1, fz1, rfl, -⟩ := hs1
   have HKX := hid hl
   obtain ⟨ei, hei⟩ : ∃ b, b = decide (i0 = i1) := ⟨_, rfl⟩
   obtain ⟨ef, hef⟩ : ∃ b, b = decide (f0 = f1) := ⟨_, rfl⟩
   obtain ⟨et, het⟩ : ∃ b, b = decide (t0 = t1) := ⟨_, rfl⟩
   have HEi := hid (show ∀ e : Ending, e = .returned (.bool (decide (i0 = i1))) → e = .returned (.bool ei) from fun e h => by rw [h, hei])
   have HEf := hid (show ∀ e : Ending, e = .returned (.bool (decide (f0 = f1))) → e = .returned (.bool ef) from fun e h => by rw [h, hef])
   have HEt := hid (show ∀ e : Ending, e = .returned (.bool (decide (t0 = t1))) → e = .returned (.bool et) from fun e h => by rw [h, het])
   have HEK := hid (show ∀ e : Ending, e = .returned (.bool (decide (keyN xi xf xt 0 = keyN xi xf xt 1))) → e = .returned (.bool (ei && ef && et)) from fun e h => by
    unfold AllT at a0 a1
    unfold keyN at h
    rw [HXi.out.1, HXf.out.1, HXt.out.1] at a0
    rw [HXi.out.2, HXf.out.2, HXt.out.2] at a1
    rw [HXi.out.1, HXf.out.1, HXt.out.1, HXi.out.2, HXf.out.2, HXt.out.2] at h
    rw [h, join_apart a0.1 a0.2.2 a1.1 a1.2.2, hei, hef, het])
   obtain ⟨q0, hq0⟩ : ∃ n, n = (keyN xi xf xt 0).length := ⟨_, rfl⟩
   obtain ⟨q1, hq1⟩ : ∃ n, n = (keyN xi xf xt 1).length := ⟨_, rfl⟩
   rw [← hq0] at HS0 HKX
   rw [← hq1] at HS1 HKX
   clear hl hl2 hl3 hx0 hx1 a0 a1 hei hef het HLK hq0 hq1
   have i0c := row_at (HI.out _ HBL.out) 0 _ rfl
   have i1c := row_at (HI.out _ HBL.out) 1 _ rfl
   go_wp2_with (first
    | (go_at_call_of 18 Ai0; refine (equal_any _ _ i0 i1 _ (HSS.out _ HBL.out).1 (HSS.out _ HBL.out).2.1).mono ?_; rintro e wn ⟨he, hbn⟩; have he' := HEi.out e he; subst he'; clear he; have HKX0 := HKX; clear HKX; have HKX := hid ((hbn.block _ (heap_lt HKX0.out)).trans HKX0.out); clear HKX0; have HS00 := HS0; clear HS0; have HS0 := hid (HS00.out.below hbn); clear HS00; have HS10 := HS1; clear HS1; have HS1 := hid (HS10.out.below hbn); clear HS10; have HBL0 := HBL; clear HBL; have HBL := hid (HBL0.out.trans (hbn.mono HBL0.out.size)); clear HBL0 hbn; have f0c := row_at (HFR.out _ HBL.out) 0 _ rfl; have f1c := row_at (HFR.out _ HBL.out) 1 _ rfl; have ck0 := row_at HKX.out 0 _ rfl; have ck1 := row_at HKX.out 1 _ rfl; cases ei)
    | (go_at_call_of 18 Af0; refine (equal_any _ _ f0 f1 _ (HSS.out _ HBL.out).2.2.1 (HSS.out _ HBL.out).2.2.2.1).mono ?_; rintro e wn ⟨he, hbn⟩; have he' := HEf.out e he; subst he'; clear he; have HKX0 := HKX; clear HKX; have HKX := hid ((hbn.block _ (heap_lt HKX0.out)).trans HKX0.out); clear HKX0; have HS00 := HS0; clear HS0; have HS0 := hid (HS00.out.below hbn); clear HS00; have HS10 := HS1; clear HS1; have HS1 := hid (HS10.out.below hbn); clear HS10; have HBL0 := HBL; clear HBL; have HBL := hid (HBL0.out.trans (hbn.mono HBL0.out.size)); clear HBL0 hbn; have t0c := row_at (HTO.out _ HBL.out) 0 _ rfl; have t1c := row_at (HTO.out _ HBL.out) 1 _ rfl; have ck0 := row_at HKX.out 0 _ rfl; have ck1 := row_at HKX.out 1 _ rfl; cases ef)
    | (go_at_call_of 18 At0; refine (equal_any _ _ t0 t1 _ (HSS.out _ HBL.out).2.2.2.2.1 (HSS.out _ HBL.out).2.2.2.2.2).mono ?_; rintro e wn ⟨he, hbn⟩; have he' := HEt.out e he; subst he'; clear he; have HKX0 := HKX; clear HKX; have HKX := hid ((hbn.block _ (heap_lt HKX0.out)).trans HKX0.out); clear HKX0; have HS00 := HS0; clear HS0; have HS0 := hid (HS00.out.below hbn); clear HS00; have HS10 := HS1; clear HS1; have HS1 := hid (HS10.out.below hbn); clear HS10; have HBL0 := HBL; clear HBL; have HBL := hid (HBL0.out.trans (hbn.mono HBL0.out.size)); clear HBL0 hbn; have ck0 := row_at HKX.out 0 _ rfl; have ck1 := row_at HKX.out 1 _ rfl; cases et)
    | (go_at_call_of 18 k0; refine (equal_any _ _ (keyN xi xf xt 0) (keyN xi xf xt 1) _ HS0.out HS1.out).mono ?_; rintro e wn ⟨he, hbn⟩; have he' := HEK.out e he; subst he'; clear he; have HBL0 := HBL; clear HBL; have HBL := hid (HBL0.out.trans (hbn.mono HBL0.out.size)); clear HBL0 hbn)
    | (go_at_call 10; refine (known_any N _ (HGL.out _ HBL.out)).mono ?_; rintro e wn ⟨rfl, hbn⟩; have HBL0 := HBL; clear HBL; have HBL := hid (HBL0.out.trans (hbn.mono HBL0.out.size)); clear HBL0 hbn)
    | fail)
   all_goals (go_ret; exact ⟨rfl, HBW.out _ HBL.out⟩)
