import Derived.Test.YtocajelknojkbaaGreatDoorK24
import Derived.Test.YtocajelknojkbaaGreatDoorK25
set_option maxRecDepth 100000
set_option maxHeartbeats 16000000
set_option linter.all false
namespace Go.Proofs.YtocajelknojkbaaGreatDoor
open Go.Lib (hid)
open Go.RowKit
def chgH (x h : LHead) : LHead := if x.t = h.t then h else x
def chgM (m : LMsg) (h : LHead) : LMsg := { m with heads := m.heads.map fun x => chgH x h }
theorem chg_step {hs : List LHead} {h : LHead} {j : Nat} (hj : j < hs.length) : ((hs.take (j + 1)).map (fun x => chgH x h) ++ hs.drop (j + 1)) = ((hs.take j).map (fun x => chgH x h) ++ hs.drop j).set j (chgH hs[j] h) := by
 apply List.ext_getElem?
 intro q
 have h1 : ((hs.take j).map (fun x => chgH x h)).length = j := by simp; omega
 have h2 : ((hs.take (j + 1)).map (fun x => chgH x h)).length = j + 1 := by simp; omega
 by_cases hq : q = j
 ·subst hq
  rw [List.getElem?_append_left (by omega), List.getElem?_set_self (by simp; omega), List.getElem?_map, List.getElem?_take_of_lt (by omega), List.getElem?_eq_getElem hj]
  rfl
 ·rw [List.getElem?_set_ne (Ne.symm hq)]
  by_cases hl : q < j
  ·rw [List.getElem?_append_left (by omega), List.getElem?_append_left (by omega), List.getElem?_map, List.getElem?_map, List.getElem?_take_of_lt hl, List.getElem?_take_of_lt (by omega)]
  ·rw [List.getElem?_append_right (by omega), List.getElem?_append_right (by omega), h1, h2, List.getElem?_drop, List.getElem?_drop]
   congr 1
   omega
theorem chg_same {hs : List LHead} {h : LHead} {j : Nat} (hj : j < hs.length) (e : chgH hs[j] h = hs[j]) : ((hs.take (j + 1)).map (fun x => chgH x h) ++ hs.drop (j + 1)) = ((hs.take j).map (fun x => chgH x h) ++ hs.drop j) := by
 rw [chg_step hj, e]
 apply List.ext_getElem?
 intro q
 by_cases hq : q = j
 ·subst hq
  have h1 : ((hs.take q).map (fun x => chgH x h)).length = q := by simp; omega
  rw [List.getElem?_set_self (by simp; omega), List.getElem?_append_right (by omega), h1, List.getElem?_drop, Nat.sub_self, Nat.add_zero, List.getElem?_eq_getElem hj]
 ·rw [List.getElem?_set_ne (Ne.symm hq)]
def zeroM : List Value := [.bool false, .slice none 0 0, .slice none 0 0, .slice none 0 0, .bool false, .bool false, .slice none 0 0, .slice none 0 0, .slice none 0 0, .int .i64 0, .slice none 0 0, .slice none 0 0, .int .i64 0, .slice none 0 0, .slice none 0 0, .slice none 0 0, .slice none 0 0, .bool false, .bool false]
theorem stored_set {w : World} {g : Nat} {ty : TypeId} {l : List Value} (hg : w.heap[g]? = some (Obj.cells l.toArray ty (0, 0))) (i : Nat) (v : Value) : Stored g ty (l.set i v) w (w.setCell ⟨g, i, none⟩ v) :=
 ⟨blk_set hg i v, fun k hk => Below.heap_setCell _ _ _ _ (fun e => hk e), by simp [World.setCell], (Below.refl _ _).setCell (p := ⟨g, i, none⟩) (Nat.le_refl _) _⟩
def LMx (w0 : World) (base : Nat) (w : World) (m : LMsg) (l : List Value) : Prop := ∃ a ul b c hs d, l = .bool m.resp :: a :: (ul ++ [.int .i64 m.code, b, c, hs, d, .bool m.hasBody, .bool m.compact]) ∧
 SB w0 a m.method ∧ LU w0 m.uri ul ∧ SB w0 b m.reason ∧ SB w0 c m.version ∧ OHs w0 base w hs m.heads ∧ SB w0 d m.body ∧ I64 m.code
theorem SHs.one {w : World} {v : Value} {l : List LHead} (h : SHs w v l) : v.oneCell' = true := by
 obtain ⟨A, c, rfl, _⟩ := h
 rfl
theorem LM.len19 {w : World} {m : LMsg} {l : List Value} (h : LM w m l) : l.length = 19 := by
 obtain ⟨va, ul, vb, vc, vh, vd, rfl, hm, hu, _⟩ := h
 simp [hu.len]
theorem LM.one19 {w : World} {m : LMsg} {l : List Value} (h : LM w m l) : l.all (·.oneCell') = true := by
 obtain ⟨va, ul, vb, vc, vh, vd, rfl, h1, h2, h3, h4, h5, h6, _⟩ := h
 have o1 := h2.one
 simp only [List.all_append, List.all_cons, List.all_nil, h1.one, h3.one, h4.one, h5.one, h6.one, o1]
 rfl
theorem LMx.lm {w0 w : World} {base : Nat} {m : LMsg} {l : List Value} (h : LMx w0 base w m l) (hw : Sub w0 w) : LM w m l := by
 obtain ⟨a, ul, b, c, hs, d, h0, h1, h2, h3, h4, h5, h6, h7⟩ := h
 exact ⟨a, ul, b, c, hs, d, h0, h1.sub hw, h2.sub hw, h3.sub hw, h4.sub hw, h5.shs hw, h6.sub hw, h7⟩
theorem LMx.kept {w0 w w' : World} {base : Nat} {m : LMsg} {l : List Value} (h : LMx w0 base w m l) (hb : Below w.heap.size w w') : LMx w0 base w' m l := by
 obtain ⟨a, ul, b, c, hs, d, h0, h1, h2, h3, h4, h5, h6, h7⟩ := h
 exact ⟨a, ul, b, c, hs, d, h0, h1, h2, h3, h4, h5.kept hb, h6, h7⟩
theorem LMx.stored {w0 w w' : World} {base g : Nat} {ty : TypeId} {l1 l0 : List Value} {m : LMsg} {l : List Value} (h : LMx w0 base w m l) (k : Stored g ty l1 w w') (hg : w.heap[g]? = some (Obj.cells l0.toArray ty (0, 0))) (hne : 35 ≠ ty) (hu : ty ≠ 5) : LMx w0 base w' m l := by
 obtain ⟨a, ul, b, c, hs, d, h0, h1, h2, h3, h4, h5, h6, h7⟩ := h
 exact ⟨a, ul, b, c, hs, d, h0, h1, h2, h3, h4, h5.stored k hg hne hu, h6, h7⟩
def ChgPost (w0 : World) (m : LMsg) (w : World) (e : Ending) (w' : World) : Prop := ∃ cs, e = .returned (.agg cs.toArray) ∧ LMx w0 w.heap.size w' m cs ∧ Below w.heap.size w w'
theorem OHs.drewN {w0 w : World} {base : Nat} {v : Value} {hs : List LHead} (h : OHs w0 base w v hs) (n : Nat) : OHs w0 base (w.drewN n) v hs := h
theorem changed_x (w0 : World) (m : LMsg) (h : LHead) (cs hcs : List Value) (w : World) (hM : LM w0 m cs) (hH : LH w0 h hcs) (hw : Sub w0 w) (hl : m.heads.length ≤ 1000) : Calls Tryz.prog 43 #[.agg cs.toArray, .agg hcs.toArray] w (ChgPost w0 (chgM m h) w) := by
 have HW := hid hw
 clear hw
 have HLH := hid hH
 have HLM := hid hM
 have HL := hid hl
 have hhl := (hH.x w0).len
 obtain ⟨y0, y1, y2, y3, y4, y5, y6, y7, y8, y9, y10, y11, y12, y13, y14, y15, y16, y17, y18, y19, y20, hhe⟩ := list21 hhl
 obtain ⟨va, ul, vb, vc, vh, vd, rfl, hm, hu, hrs, hv, hh, hbo, hcode⟩ := hM
 obtain ⟨u0, u1, u4, u5, u6, u8, u9, rfl, k1, k2, k3, k4, k5, k6, k7, k8⟩ := hu
 simp only [List.cons_append, List.nil_append] at HLM ⊢
 obtain ⟨Ah, ch, rfl, -⟩ := hh.form
 have hy0 : y0 = .int .i64 h.t := by
  obtain ⟨a, b, c, ul, p, d, e, f, g, h0, -⟩ := hH
  rw [hhe] at h0
  exact (List.cons.inj h0).1
 subst hhe hy0
 obtain ⟨-, hA0, css, hc1, hc2, hc3, hc4⟩ := hh.rows
 have HC1 := hid hc1
 have HC2 := hid hc2
 have HC3 := hid hc3
 have HC4 := hid (And.intro hA0 hc4)
 have HONE := hid (hH.x w0).one
 have HKS := hid (And.intro hm (And.intro k1 (And.intro k2 (And.intro k3 (And.intro k4 (And.intro k5 (And.intro k6 (And.intro k7 (And.intro k8 (And.intro hrs (And.intro hv (And.intro hbo hcode))))))))))))
 have HO1 := hid (show va.oneCell' = true ∧ u0.oneCell' = true ∧ u1.oneCell' = true ∧ u4.oneCell' = true ∧ u5.oneCell' = true ∧ u6.oneCell' = true ∧ u8.oneCell' = true ∧ u9.oneCell' = true ∧ vb.oneCell' = true ∧ vc.oneCell' = true ∧ vd.oneCell' = true from ⟨hm.one, k1.one, k2.one, k3.one, k4.one, k5.one, k6.one, k7.one, hrs.one, hv.one, hbo.one⟩)
 clear hA0 hc1 hc2 hc3 hc4 hm k1 k2 k3 k4 k5 k6 k7 k8 hrs hv hh hbo hcode hH hhl hl
 obtain ⟨wb, hwb⟩ : ∃ wb, wb = ((w.alloc (.cells #[.bool m.resp, va, u0, u1, .bool m.uri.star, .bool m.uri.slashes, u4, u5, u6, .int .i64 m.uri.port, u8, u9, .int .i64 m.code, vb, vc, .slice Ah m.heads.length ch, vd, .bool m.hasBody, .bool m.compact] 28)).alloc (.cells #[.int .i64 h.t, y1, y2, y3, y4, y5, y6, y7, y8, y9, y10, y11, y12, y13, y14, y15, y16, y17, y18, y19, y20] 35)).alloc (.cells #[.bool false, .slice none 0 0, .slice none 0 0, .slice none 0 0, .bool false, .bool false, .slice none 0 0, .slice none 0 0, .slice none 0 0, .int .i64 0, .slice none 0 0, .slice none 0 0, .int .i64 0, .slice none 0 0, .slice none 0 0, .slice none 0 0, .slice none 0 0, .bool false, .bool false] 28) := ⟨_, rfl⟩
 have HWB1 := hid (show wb.heap[w.heap.size]? = some (.cells ([.bool m.resp, va, u0, u1, .bool m.uri.star, .bool m.uri.slashes, u4, u5, u6, .int .i64 m.uri.port, u8, u9, .int .i64 m.code, vb, vc, .slice Ah m.heads.length ch, vd, .bool m.hasBody, .bool m.compact] : List Value).toArray 28 (0, 0)) by rw [hwb]; exact (((Below.refl _ _).alloc (Nat.le_refl _) _).alloc (by simp) _).block w.heap.size (by simp) |>.trans (heap_alloc_new w _))
 have HWB2 := hid (show wb.heap[w.heap.size + 1]? = some (.cells ([.int .i64 h.t, y1, y2, y3, y4, y5, y6, y7, y8, y9, y10, y11, y12, y13, y14, y15, y16, y17, y18, y19, y20] : List Value).toArray 35 (0, 0)) by rw [hwb]; have := heap_alloc_new (w.alloc (.cells #[.bool m.resp, va, u0, u1, .bool m.uri.star, .bool m.uri.slashes, u4, u5, u6, .int .i64 m.uri.port, u8, u9, .int .i64 m.code, vb, vc, .slice Ah m.heads.length ch, vd, .bool m.hasBody, .bool m.compact] 28)) (.cells #[.int .i64 h.t, y1, y2, y3, y4, y5, y6, y7, y8, y9, y10, y11, y12, y13, y14, y15, y16, y17, y18, y19, y20] 35); rw [World.size_alloc] at this; exact ((Below.refl _ _).alloc (Nat.le_refl _) _).block (w.heap.size + 1) (by simp) |>.trans this)
 have HWB3 := hid (show wb.heap[w.heap.size + 2]? = some (.cells zeroM.toArray 28 (0, 0)) by rw [hwb]; have := heap_alloc_new ((w.alloc (.cells #[.bool m.resp, va, u0, u1, .bool m.uri.star, .bool m.uri.slashes, u4, u5, u6, .int .i64 m.uri.port, u8, u9, .int .i64 m.code, vb, vc, .slice Ah m.heads.length ch, vd, .bool m.hasBody, .bool m.compact] 28)).alloc (.cells #[.int .i64 h.t, y1, y2, y3, y4, y5, y6, y7, y8, y9, y10, y11, y12, y13, y14, y15, y16, y17, y18, y19, y20] 35)) (.cells #[.bool false, .slice none 0 0, .slice none 0 0, .slice none 0 0, .bool false, .bool false, .slice none 0 0, .slice none 0 0, .slice none 0 0, .int .i64 0, .slice none 0 0, .slice none 0 0, .int .i64 0, .slice none 0 0, .slice none 0 0, .slice none 0 0, .slice none 0 0, .bool false, .bool false] 28); rwa [World.size_alloc, World.size_alloc] at this)
 have HB0 := hid (show Below w.heap.size w wb by rw [hwb]; exact (((Below.refl _ w).alloc (Nat.le_refl _) _).alloc (by simp) _).alloc (by simp; omega) _)
 have HSZ := hid (show wb.heap.size = w.heap.size + 3 by rw [hwb]; simp)
 have HAE := hid (show (wb.alloc (.cells #[] 35)).ownsRow wb.heap.size 35 21 (.slice (some ⟨wb.heap.size, 0, none⟩) 0 0) 0 [] from own_empty _ _ _ _ _ (heap_alloc_new wb _) (Nat.le_refl _))
 have HCA := hid (show ∀ ad, Ah = some ad → ∀ j u, css.flatten[j]? = some u → (wb.alloc (.cells #[] 35)).cell? (ad.add j) = some u from fun ad hA j u hj => cell_at_below (HW.out.cell _ _ (HC4.out.2 ad hA j u hj)) (HB0.out.trans (((Below.refl _ wb).alloc (Nat.le_refl _) _).mono HB0.out.size)))
 have HFL := hid (show css.flatten.length = m.heads.length * 21 by rw [flat_len 21 css (fun x hx => (HC3.out x hx).1), HC1.out])
 have HF1 := hid (show ∀ u ∈ css.flatten, u.oneCell' = true from fun u hu => by
  obtain ⟨x, hx, hux⟩ := List.mem_flatten.1 hu
  exact List.all_eq_true.1 (HC3.out x hx).2 u hux)
 go_enter Tryz.func43, Tryz.ntmps43
 go_upto_region 1 with fail
 rw [← hwb]
 generalize Value.agg #[.bool m.resp, va, u0, u1, .bool m.uri.star, .bool m.uri.slashes, u4, u5, u6, .int .i64 m.uri.port, u8, u9, .int .i64 m.code, vb, vc, .slice Ah m.heads.length ch, vd, .bool m.hasBody, .bool m.compact] = arg0
 generalize Value.agg #[.int .i64 h.t, y1, y2, y3, y4, y5, y6, y7, y8, y9, y10, y11, y12, y13, y14, y15, y16, y17, y18, y19, y20] = arg1
 clear hwb
 have c15 := row_at HWB1.out 15 _ rfl
 have hltb : w.heap.size < wb.heap.size := heap_lt HWB1.out
 go_upto_region 2 with (at_builtin; refine app_all wb.heap.size rfl (.tmp 7) (.tmp 9) 26 35 (.agg zeroH.toArray) 21 400 rfl Tryz.underlying26 head_info rfl (by decide) (by decide) (.slice (some ⟨wb.heap.size, 0, none⟩) 0 0) 0 [] css.flatten Ah m.heads.length ch rfl rfl HFL.out HC4.out.1 HCA.out HF1.out HAE.out (by simp) (by have := HL.out; omega) ?_; intro v1 w1 ho1 hg1)
 have hb1 : Below wb.heap.size wb w1 := ((Below.refl _ wb).alloc (Nat.le_refl _) _).grown hg1 (by simp) (fun k hk => by simp [Value.ownBlock] at hk; omega)
 have HO := hid (show OHs w0 wb.heap.size w1 v1 m.heads from ⟨css, HC1.out, by simpa using ho1, fun i hi => by
  obtain ⟨cs, e1, e2⟩ := HC2.out i hi
  exact ⟨cs, e1, e2.x w1⟩⟩)
 obtain ⟨A1, c1, rfl⟩ := HO.out.form
 have HB1 := hid hb1
 clear ho1 hg1 hb1 c15 hltb
 go_wp2_with fail
 go_loopw [6] (fun i wr => ∃ j : Nat, j ≤ m.heads.length ∧ i = .int .i64 j ∧ OHs w0 wb.heap.size wr (.slice A1 m.heads.length c1) ((m.heads.take j).map (fun x => chgH x h) ++ m.heads.drop j) ∧ Below wb.heap.size wb wr) (fun i _ => m.heads.length - (intOf i).toNat)
 case atStart => exact ⟨0, Nat.zero_le _, rfl, by simpa using HO.out, HB1.out⟩
 case round =>
  obtain ⟨j, hj, rfl, hoh, hb⟩ := hrel
  obtain ⟨wo, rfl⟩ : ∃ wo : World, wo = wr := ⟨_, rfl⟩
  have OHJ := hid hoh
  have HBJ := hid hb
  have HG1 := hid ((hb.block w.heap.size (by have := HSZ.out; omega)).trans HWB1.out)
  have HG2 := hid ((hb.block (w.heap.size + 1) (by have := HSZ.out; omega)).trans HWB2.out)
  have HG3 := hid ((hb.block (w.heap.size + 2) (by have := HSZ.out; omega)).trans HWB3.out)
  have hln : (m.heads.length : Int) ≤ 1000 := by have := HL.out; omega
  clear hoh hb
  by_cases hlt : j < m.heads.length
  ·have hi1 : (j : Int) < m.heads.length := by omega
   have hi0 : (0 : Int) ≤ j := by omega
   have hjl : ((m.heads.take j).map (fun x => chgH x h) ++ m.heads.drop j).length = m.heads.length := by simp; omega
   obtain ⟨rb, rc, ec, rpre, rsuf, rpost, hv, hbl, hbh, hp1, hp2, hp3, hx, hput⟩ := OHJ.out.at_ j (by omega)
   rw [hjl] at hv
   obtain ⟨rfl, rfl⟩ : A1 = some ⟨rb, 0, none⟩ ∧ c1 = rc := by simpa using hv
   subst hp3
   have e0 : ((m.heads.take j).map (fun x => chgH x h) ++ m.heads.drop j)[j]'(by omega) = m.heads[j] := by
    have h1 : ((m.heads.take j).map (fun x => chgH x h)).length = j := by simp; omega
    have h2 : ((m.heads.take j).map (fun x => chgH x h) ++ m.heads.drop j)[j]? = some m.heads[j] := by rw [List.getElem?_append_right (by omega), h1, List.getElem?_drop, Nat.sub_self, Nat.add_zero, List.getElem?_eq_getElem hlt]
    rw [List.getElem?_eq_getElem (by omega)] at h2
    exact Option.some.inj h2
   rw [e0] at hx
   have hr0 : rsuf[0]? = some (.int .i64 m.heads[j].t) := by
    obtain ⟨a, b, c, ul, p, d, e, f, g, h0, -⟩ := hx
    rw [h0]
    rfl
   have d0 := row_mid hbh (j * 21) hp1 0 _ hr0
   rw [Addr.add_lit, Nat.add_zero] at d0
   have d1 := row_at HG2.out 0 _ rfl
   have HBH := hid hbh
   have HPL := hid (And.intro hp1 (And.intro hp2 (And.intro hbl hlt)))
   have HPUT := hid hput
   clear hx hbh hp1 hp2 hbl hput hv hjl e0 hr0
   obtain ⟨tj, htj⟩ : ∃ tj, tj = m.heads[j].t := ⟨_, rfl⟩
   rw [← htj] at d0
   have HTJ := hid htj
   clear htj
   go_wp2_with fail
   refine wp_region_grow 7 (CK wo.heap.size) (IW wo)
    (fun i v w' => match i with
     | 0 => v = .slice (some ⟨rb, 0, none⟩) m.heads.length c1
     | 1 => v = .int .i64 (j : Int)
     | 2 => v = .pointer (some ⟨rb, j * 21, none⟩)
     | 3 => v = .pointer (some ⟨rb, j * 21, none⟩)
     | 4 => v = .int .i64 tj
     | 5 => v = .pointer (some ⟨w.heap.size + 1, 0, none⟩)
     | 6 => v = .int .i64 h.t
     | _ => True)
    [[], [], [0, 1], [2], [3], [], [5]] rfl (by kernel_rfl) (by kernel_rfl) (fun _ _ => IW.step) ?_ ?_ ?_ ?_
   ·intro j hj v w'
    match j, hj with
    | j + 7, _ => trivial
   ·exact CK.of_below (Below.refl _ _).drew (Nat.le_refl _)
   ·simp only [List.take_succ_cons, List.take_zero, fillAll]
    have D0 := hid d0
    have D1 := hid d1
    clear d0 d1
    refine ⟨⟨?_, ?_⟩, ⟨?_, ?_⟩, ⟨?_, ?_⟩, ⟨?_, ?_⟩, ⟨?_, ?_⟩, ⟨?_, ?_⟩, ⟨?_, ?_⟩, trivial⟩
    ·exact fun v w1 w2 h k => h
    ·intro vals w1 hI hd
     unfold GStep
     go_wp2
     exact CK.refl _ _
    ·exact fun v w1 w2 h k => h
    ·intro vals w1 hI hd
     unfold GStep
     go_wp2
     exact CK.refl _ _
    ·exact fun v w1 w2 h k => h
    ·intro vals w1 hI hd
     have h1 : vals 0 = _ := hd.1
     have h2 : vals 1 = _ := hd.2.1
     unfold GStep
     go_wp2
     exact CK.refl _ _
    ·exact fun v w1 w2 h k => h
    ·intro vals w1 hI hd
     have h1 : vals 2 = _ := hd.1
     unfold GStep
     go_wp2
     exact CK.refl _ _
    ·exact fun v w1 w2 h k => h
    ·intro vals w1 hI hd
     have h1 : vals 3 = _ := hd.1
     have e0 := hI.cell D0.out
     unfold GStep
     go_wp2
     exact CK.refl _ _
    ·exact fun v w1 w2 h k => h
    ·intro vals w1 hI hd
     unfold GStep
     go_wp2
     exact CK.refl _ _
    ·exact fun v w1 w2 h k => h
    ·intro vals w1 hI hd
     have h1 : vals 5 = _ := hd.1
     have e1 := hI.cell D1.out
     unfold GStep
     go_wp2
     exact CK.refl _ _
   ·intro vals w1 hI hR
    simp only [List.drop_succ_cons, List.drop_zero, List.take_succ_cons, List.take_zero, fillAll]
    obtain ⟨-, -, -, -, r4, -, r6, -⟩ := hR
    have e4 : vals 4 = _ := r4
    have e6 : vals 6 = _ := r6
    rw [e4, e6]
    have HI := hid hI
    have HO1 := hid (OHJ.out.ck hI)
    have HK2 := hid (hI.same HG2.out (by decide))
    have HB2 := hid (show Below wb.heap.size wb w1 from HBJ.out.trans (hI.below.mono HBJ.out.size))
    clear hI e4 e6 r4 r6 d0 d1
    by_cases het : tj = h.t
    ·have hte : (tj == h.t) = true := by simpa using het
     have HET := hid (show ∀ x : LHead, x.t = tj → chgH x h = h from fun x hx => by unfold chgH; rw [if_pos (hx.trans het)])
     clear het
     have hjl : ((m.heads.take j).map (fun x => chgH x h) ++ m.heads.drop j).length = m.heads.length := by have := HPL.out.2.2.2; simp; omega
     obtain ⟨rb2, rc2, ec2, pre2, suf2, post2, hv2, hbl2, hbh2, hp21, hp22, hp23, -, hput2⟩ := HO1.out.at_ j (by have := HPL.out.2.2.2; omega)
     rw [hjl] at hv2
     obtain rfl : rb = rb2 := by
      injection hv2 with h1 _ _
      injection h1 with h1
      injection h1
     have HBH2 := hid hbh2
     have HPUT := hid hput2
     have HS1 := hid (show suf2.length = ([.int .i64 h.t, y1, y2, y3, y4, y5, y6, y7, y8, y9, y10, y11, y12, y13, y14, y15, y16, y17, y18, y19, y20] : List Value).length by rw [hp22]; rfl)
     have HS2 := hid hp21.symm
     clear hv2 hbl2 hbh2 hp21 hp22 hp23 hput2 hjl
     go_wp2_with (first
      | (refine wpList_load_blk (by rfl) 35 (.tmp 3) (by rfl) (w.heap.size + 1) 35 (0, 0) [.int .i64 h.t, y1, y2, y3, y4, y5, y6, y7, y8, y9, y10, y11, y12, y13, y14, y15, y16, y17, y18, y19, y20] (by rfl) HK2.out _ Tryz.underlying35 rfl 21 head_size rfl ?_)
      | (refine wpList_store_part (by rfl) 35 (.tmp 28) (.tmp 27) (by rfl) rb (j * 21) 35 pre2 suf2 post2 [.int .i64 h.t, y1, y2, y3, y4, y5, y6, y7, y8, y9, y10, y11, y12, y13, y14, y15, y16, y17, y18, y19, y20] (by rfl) (by rfl) HS1.out HS2.out HBH2.out 21 head_size rfl HONE.out ?_; intro W5 hst; have HST := hid hst; clear hst)
      | fail)
     have HB5 := hid (show Below wb.heap.size wb W5 from HB2.out.trans (HST.out.below.mono HPL.out.2.2.1))
     have HO5 := hid (HPUT.out W5 h [.int .i64 h.t, y1, y2, y3, y4, y5, y6, y7, y8, y9, y10, y11, y12, y13, y14, y15, y16, y17, y18, y19, y20] HST.out (HLH.out.x W5))
     go_roundw
     case rel =>
      refine ⟨j + 1, HPL.out.2.2.2, by simp, ?_, HB5.out⟩
      rw [chg_step HPL.out.2.2.2, HET.out _ HTJ.out.symm]
      exact HO5.out
     case measure => exact meas_step HPL.out.2.2.2 (by simp)
    ·have hte : (tj == h.t) = false := by simpa using het
     have HET := hid (show ∀ x : LHead, x.t = tj → chgH x h = x from fun x hx => by unfold chgH; rw [if_neg (by rw [hx]; exact het)])
     clear het
     go_wp2_with fail
     go_roundw
     case rel =>
      refine ⟨j + 1, HPL.out.2.2.2, by simp, ?_, HB2.out⟩
      rw [chg_same HPL.out.2.2.2 (HET.out _ HTJ.out.symm)]
      exact HO1.out
     case measure => exact meas_step HPL.out.2.2.2 (by simp)
  ·have hke : j = m.heads.length := by omega
   have HOF := hid (show OHs w0 wb.heap.size wo (.slice A1 m.heads.length c1) (m.heads.map fun x => chgH x h) by have := OHJ.out; rw [hke] at this; simpa using this)
   have hnl : ¬ (j : Int) < m.heads.length := by omega
   have k15 := row_at HG1.out 15 _ rfl
   have z15 := blk_frozen HG1.out 15
   have hlt0 := heap_lt HG1.out
   obtain ⟨wq, hwq⟩ : ∃ wq, wq = wo.setCell ⟨w.heap.size, 15, none⟩ (.slice A1 m.heads.length c1) := ⟨_, rfl⟩
   have HS1 := hid (show Stored w.heap.size 28 [.bool m.resp, va, u0, u1, .bool m.uri.star, .bool m.uri.slashes, u4, u5, u6, .int .i64 m.uri.port, u8, u9, .int .i64 m.code, vb, vc, .slice A1 m.heads.length c1, vd, .bool m.hasBody, .bool m.compact] wo wq by rw [hwq]; exact stored_set HG1.out 15 _)
   have HGZ := hid ((HS1.out.other (w.heap.size + 2) (by omega)).trans HG3.out)
   have HGL1 := hid HG1.out
   have HON2 := hid (show ([.bool m.resp, va, u0, u1, .bool m.uri.star, .bool m.uri.slashes, u4, u5, u6, .int .i64 m.uri.port, u8, u9, .int .i64 m.code, vb, vc, .slice A1 m.heads.length c1, vd, .bool m.hasBody, .bool m.compact] : List Value).all (·.oneCell') = true by
    obtain ⟨q0, q1, q2, q3, q4, q5, q6, q7, q8, q9, q10⟩ := HO1.out
    simp only [List.all_cons, List.all_nil, q0, q1, q2, q3, q4, q5, q6, q7, q8, q9, q10]
    rfl)
   clear hke hlt hj
   go_upto_region 8 with fail
   rw [← hwq]
   go_wp2_with (first
    | (refine wpList_load_blk (by rfl) 28 (.tmp 2) (by rfl) w.heap.size 28 (0, 0) [.bool m.resp, va, u0, u1, .bool m.uri.star, .bool m.uri.slashes, u4, u5, u6, .int .i64 m.uri.port, u8, u9, .int .i64 m.code, vb, vc, .slice A1 m.heads.length c1, vd, .bool m.hasBody, .bool m.compact] (by rfl) HS1.out.blk _ Tryz.underlying28 rfl 19 msg_size rfl ?_)
    | (refine wpList_store_blk (by rfl) 28 (.tmp 4) (.tmp 31) (by rfl) (w.heap.size + 2) 28 zeroM [.bool m.resp, va, u0, u1, .bool m.uri.star, .bool m.uri.slashes, u4, u5, u6, .int .i64 m.uri.port, u8, u9, .int .i64 m.code, vb, vc, .slice A1 m.heads.length c1, vd, .bool m.hasBody, .bool m.compact] (by rfl) (by rfl) (by rfl) HGZ.out 19 msg_size (by rfl) HON2.out ?_; intro W4 hst4; have HST4 := hid hst4; clear hst4)
    | fail)
   have HBF := hid (show Below w.heap.size w W4 from HB0.out.trans ((HBJ.out.mono HB0.out.size).trans ((HS1.out.below).trans (HST4.out.below.mono (by omega)))))
   have HOZ := hid (show OHs w0 wb.heap.size W4 (.slice A1 m.heads.length c1) (m.heads.map fun x => chgH x h) from (HOF.out.stored HS1.out HGL1.out (by decide) (by decide)).stored HST4.out HGZ.out (by decide) (by decide))
   refine ret_cell 4 28 ⟨w.heap.size + 2, 0, none⟩ [.bool m.resp, va, u0, u1, .bool m.uri.star, .bool m.uri.slashes, u4, u5, u6, .int .i64 m.uri.port, u8, u9, .int .i64 m.code, vb, vc, .slice A1 m.heads.length c1, vd, .bool m.hasBody, .bool m.compact] _ rfl rfl (row_cells HST4.out.blk) Tryz.underlying28 rfl 19 msg_size rfl rfl ⟨_, rfl, ?_, HBF.out⟩
   obtain ⟨hm, k1, k2, k3, k4, k5, k6, k7, k8, hrs, hv, hbo, hcode⟩ := HKS.out
   exact ⟨va, [u0, u1, .bool m.uri.star, .bool m.uri.slashes, u4, u5, u6, .int .i64 m.uri.port, u8, u9], vb, vc, .slice A1 m.heads.length c1, vd, by first | rfl | simp [chgM], hm, ⟨u0, u1, u4, u5, u6, u8, u9, rfl, k1, k2, k3, k4, k5, k6, k7, k8⟩, hrs, hv, HOZ.out.less (by have := HSZ.out; omega), hbo, hcode⟩
def zeroKV : List Value := [.slice none 0 0, .slice none 0 0]
theorem lkv_info : (Tryz.prog.info? 73).map (fun i => (i.zero, i.size, i.bytes)) = some (some (.agg zeroKV.toArray), 2, 48) := by kernel_rfl
theorem flat_set1 (s : Nat) : ∀ (css : List (List Value)), (∀ c ∈ css, c.length = s) → ∀ (i j : Nat) (u : Value) (c : List Value), css[i]? = some c → j < s → css.flatten.set (i * s + j) u = (css.set i (c.set j u)).flatten
 | [], _, _, _, _, _, h, _ => by simp at h
 | c :: r, h, 0, j, u, c', hc, hj => by
  have h1 := h c (by simp)
  simp only [List.getElem?_cons_zero, Option.some.injEq] at hc
  subst hc
  rw [List.flatten_cons, Nat.zero_mul, Nat.zero_add, List.set_append_left _ _ (by omega), List.set_cons_zero, List.flatten_cons]
 | c :: r, h, i + 1, j, u, c', hc, hj => by
  have h1 := h c (by simp)
  rw [List.flatten_cons, List.set_append_right _ _ (by rw [Nat.succ_mul]; omega), h1, show (i + 1) * s + j - s = i * s + j by rw [Nat.succ_mul]; omega, flat_set1 s r (fun c hc => h c (by simp [hc])) i j u c' (by simpa using hc) hj, List.set_cons_succ, List.flatten_cons]
def OKs (w0 : World) (base : Nat) (w : World) (v : Value) (l : BKVs) : Prop := ∃ css : List (List Value), css.length = l.length ∧ w.ownsRow base 73 2 v l.length css.flatten ∧ ∀ i (h : i < l.length), ∃ vk vv, css[i]? = some [vk, vv] ∧ SB w0 vk l[i].1 ∧ SB w0 vv l[i].2
theorem OKs.form {w0 w : World} {base : Nat} {v : Value} {l : BKVs} (h : OKs w0 base w v l) : ∃ A c, v = .slice A l.length c := by
 obtain ⟨css, h1, h2, h3⟩ := h
 exact own_slice h2
theorem OKs.kept {w0 w w1 : World} {base : Nat} {v : Value} {l : BKVs} (h : OKs w0 base w v l) (hb : Below w.heap.size w w1) : OKs w0 base w1 v l := by
 obtain ⟨css, h1, h2, h3⟩ := h
 exact ⟨css, h1, World.ownsRow.kept (row := none) h2 ⟨hb.os, hb.tape, hb.output, hb.size, fun k hk _ => hb.block k hk⟩ (by cases v.ownBlock <;> simp), h3⟩
theorem OKs.all2 {l : BKVs} {w0 : World} {css : List (List Value)} (h1 : css.length = l.length) (h3 : ∀ i (h : i < l.length), ∃ vk vv, css[i]? = some [vk, vv] ∧ SB w0 vk l[i].1 ∧ SB w0 vv l[i].2) : ∀ c ∈ css, c.length = 2 := by
 intro c hc
 obtain ⟨i, hi, rfl⟩ := List.mem_iff_getElem.1 hc
 obtain ⟨vk, vv, e, _⟩ := h3 i (by omega)
 rw [List.getElem?_eq_getElem hi] at e
 injection e with e
 rw [e]
 rfl
theorem OKs.at_ {w0 w : World} {base : Nat} {v : Value} {l : BKVs} (H : OKs w0 base w v l) (i : Nat) (p : Bytes × Bytes) (hp : l[i]? = some p) : ∃ b c vk vv, ∃ lc : List Value, v = .slice (some ⟨b, 0, none⟩) l.length c ∧ base ≤ b ∧ w.heap[b]? = some (Obj.cells lc.toArray 73 (0, 0)) ∧ w.cell? ⟨b, i * 2, none⟩ = some vk ∧ w.cell? ⟨b, i * 2 + 1, none⟩ = some vv ∧ SB w0 vk p.1 ∧ SB w0 vv p.2 ∧
  ∀ (u : Value) (n : Bytes), SB w0 u n → OKs w0 base (w.setCell ⟨b, i * 2 + 1, none⟩ u) v (l.set i (p.1, n)) := by
 obtain ⟨hi, hpe⟩ := List.getElem?_eq_some_iff.1 hp
 subst hpe
 obtain ⟨css, h1, h2, h3⟩ := H
 have hall := OKs.all2 h1 h3
 obtain ⟨vk, vv, hcs, hk, hv⟩ := h3 i hi
 rcases h2 with ⟨k1, ⟨k2, k3⟩ | ⟨b, cap, cur, k3, k4, k5, k6, k7, k8, k9⟩⟩
 ·omega
 ·obtain ⟨lc, rfl⟩ : ∃ lc : List Value, cur = lc.toArray := ⟨cur.toList, by simp⟩
  simp only [List.size_toArray] at k8
  have k9' : lc.take (l.length * 2) = css.flatten := by simpa using k9
  have hll : l.length * 2 ≤ lc.length := by rw [k8]; exact Nat.mul_le_mul_right _ k6
  have hg : ∀ j, j < 2 → lc[i * 2 + j]? = ([vk, vv] : List Value)[j]? := by
   intro j hj
   have e1 : (css.flatten)[i * 2 + j]? = lc[i * 2 + j]? := by rw [← k9', List.getElem?_take_of_lt (by omega)]
   rw [← e1, flat_get 2 css hall i j hj, hcs]
   rfl
  have hc0 : w.cell? ⟨b, i * 2, none⟩ = some vk := by
   have := hg 0 (by omega)
   rw [blk_cell k5]
   simpa using this
  have hc1 : w.cell? ⟨b, i * 2 + 1, none⟩ = some vv := by
   have := hg 1 (by omega)
   rw [blk_cell k5]
   simpa using this
  refine ⟨b, cap, vk, vv, lc, k3, k4, k5, hc0, hc1, hk, hv, fun u n hu => ⟨css.set i [vk, u], by simp [h1], ⟨?_, .inr ⟨b, cap, (lc.set (i * 2 + 1) u).toArray, ?_, k4, ?_, ?_, k7, ?_, ?_⟩⟩, fun q hq => ?_⟩⟩
  ·have e := flat_set1 2 css hall i 1 u [vk, vv] hcs (by omega)
   have e2 : ([vk, vv] : List Value).set 1 u = [vk, u] := rfl
   rw [e2] at e
   rw [← e, List.length_set, k1, List.length_set]
  ·rw [k3, List.length_set]
  ·exact blk_set k5 (i * 2 + 1) u
  ·rw [List.length_set]; exact k6
  ·simp [k8]
  ·have e := flat_set1 2 css hall i 1 u [vk, vv] hcs (by omega)
   have e2 : ([vk, vv] : List Value).set 1 u = [vk, u] := rfl
   rw [e2] at e
   rw [← e, ← k9', List.length_set]
   simp only [List.take_set]
  ·rw [List.length_set] at hq
   by_cases hqi : q = i
   ·subst hqi
    exact ⟨vk, u, by simp [h1, hi], by simpa using hk, by simpa using hu⟩
   ·obtain ⟨vk2, vv2, e1, e2, e3⟩ := h3 q hq
    refine ⟨vk2, vv2, by rw [List.getElem?_set_ne (Ne.symm hqi)]; exact e1, ?_, ?_⟩
    ·rw [List.getElem_set_ne (Ne.symm hqi)]; exact e2
    ·rw [List.getElem_set_ne (Ne.symm hqi)]; exact e3
theorem SK.rows {w : World} {A : Option Addr} {n c : Nat} {l : BKVs} (h : SK w (.slice A n c) l) : n = l.length ∧ (A = none → n = 0 ∧ c = 0) ∧ ∃ css : List (List Value), css.length = l.length ∧ (∀ i (h : i < l.length), ∃ vk vv, css[i]? = some [vk, vv] ∧ SB w vk l[i].1 ∧ SB w vv l[i].2) ∧ ∀ ad, A = some ad → ∀ j u, css.flatten[j]? = some u → w.cell? (ad.add j) = some u := by
 obtain ⟨A1, c1, h1, h2, h3, h4, h5⟩ := h
 injection h1 with e1 e2 e3
 subst e1 e2 e3
 have hch : ∀ i, i < l.length → ∃ cs : List Value, ∃ hi : i < l.length, ∃ vk vv, cs = [vk, vv] ∧ SB w vk l[i].1 ∧ SB w vv l[i].2 ∧ ∀ ad, A = some ad → w.cell? (ad.add (i * 2)) = some vk ∧ w.cell? (ad.add (i * 2 + 1)) = some vv := by
  intro i hi
  obtain ⟨a, vk, vv, e, hc, hd, hk, hv⟩ := h5 i hi
  refine ⟨_, hi, vk, vv, rfl, hk, hv, fun ad h => ?_⟩
  rw [e] at h
  injection h with h
  subst h
  refine ⟨hc, ?_⟩
  have e9 : a.add (i * 2 + 1) = ⟨(a.add (i * 2)).block, (a.add (i * 2)).off + 1, none⟩ := by
   unfold Addr.add
   rw [if_neg (by omega)]
   by_cases hz : i * 2 = 0
   ·rw [if_pos hz, hz]
   ·rw [if_neg hz]
    simp [Nat.add_assoc]
  rw [e9]
  exact hd
 obtain ⟨css, k1, k2⟩ := choose_list l.length hch
 have hcs : ∀ i (h : i < l.length), ∃ vk vv, css[i]? = some [vk, vv] ∧ SB w vk l[i].1 ∧ SB w vv l[i].2 := by
  intro i hi
  obtain ⟨y, e1, hi2, vk, vv, rfl, e2, e3, _⟩ := k2 i hi
  exact ⟨vk, vv, e1, e2, e3⟩
 have hall := OKs.all2 (w0 := w) k1 hcs
 refine ⟨rfl, fun hA => ?_, css, k1, hcs, fun ad hA j u hj => ?_⟩
 ·obtain ⟨rfl, rfl⟩ := h4 hA
  exact ⟨rfl, rfl⟩
 ·have hjl := (List.getElem?_eq_some_iff.1 hj).1
  rw [flat_len 2 css hall, k1] at hjl
  obtain ⟨y, e1, hi2, vk, vv, rfl, e2, e3, e5⟩ := k2 (j / 2) (by omega)
  have e4 : j = j / 2 * 2 + j % 2 := by omega
  rw [e4, flat_get 2 css hall (j / 2) (j % 2) (by omega), e1] at hj
  rcases (show j % 2 = 0 ∨ j % 2 = 1 by omega) with hz | hz
  ·rw [hz] at hj e4
   have : u = vk := by simpa using hj.symm
   rw [this, e4]
   exact (e5 ad hA).1
  ·rw [hz] at hj e4
   have : u = vv := by simpa using hj.symm
   rw [this, e4]
   exact (e5 ad hA).2
def setK (k v : Bytes) (p : Bytes × Bytes) : Bytes × Bytes := if p.1 = k then (p.1, v) else p
theorem setK_step {l : BKVs} {k v : Bytes} {j : Nat} {p : Bytes × Bytes} (hp : l[j]? = some p) : ((l.take (j + 1)).map (setK k v) ++ l.drop (j + 1)) = ((l.take j).map (setK k v) ++ l.drop j).set j (setK k v p) := by
 obtain ⟨hj, rfl⟩ := List.getElem?_eq_some_iff.1 hp
 apply List.ext_getElem?
 intro q
 have h1 : ((l.take j).map (setK k v)).length = j := by simp; omega
 have h2 : ((l.take (j + 1)).map (setK k v)).length = j + 1 := by simp; omega
 by_cases hq : q = j
 ·subst hq
  rw [List.getElem?_append_left (by omega), List.getElem?_set_self (by simp; omega), List.getElem?_map, List.getElem?_take_of_lt (by omega), List.getElem?_eq_getElem hj]
  rfl
 ·rw [List.getElem?_set_ne (Ne.symm hq)]
  by_cases hl : q < j
  ·rw [List.getElem?_append_left (by omega), List.getElem?_append_left (by omega), List.getElem?_map, List.getElem?_map, List.getElem?_take_of_lt hl, List.getElem?_take_of_lt (by omega)]
  ·rw [List.getElem?_append_right (by omega), List.getElem?_append_right (by omega), h1, h2, List.getElem?_drop, List.getElem?_drop]
   congr 1
   omega
theorem setK_at {l : BKVs} {k v : Bytes} {j : Nat} {p : Bytes × Bytes} (hp : l[j]? = some p) : ((l.take j).map (setK k v) ++ l.drop j)[j]? = some p := by
 have h1 : ((l.take j).map (setK k v)).length = j := by have := (List.getElem?_eq_some_iff.1 hp).1; simp; omega
 rw [List.getElem?_append_right (by omega), h1, List.getElem?_drop, Nat.sub_self, Nat.add_zero]
 exact hp
theorem set_same {l : BKVs} {j : Nat} {p : Bytes × Bytes} (hp : l[j]? = some p) : l.set j p = l := by
 obtain ⟨hj, rfl⟩ := List.getElem?_eq_some_iff.1 hp
 exact List.set_getElem_self hj
theorem issplit_any (v : Value) (ls : List Bytes) (w : World) (hS : SBs w v ls) : Calls Tryz.prog 13 #[v] w (SomeB w) := by
 obtain ⟨A, c, rfl, h2, h3, h5⟩ := hS
 have HS := hid h5
 have hlen : ls.length ≤ 9223372036854775807 := by omega
 clear h5 h2 h3
 go_enter Tryz.func13, Tryz.ntmps13
 go_wp2_with fail
 go_loopw [3, 4] (fun i _ wr => ∃ k : Nat, k ≤ ls.length ∧ i = .int .i64 k ∧ wr = w) (fun i _ _ => ls.length - (intOf i).toNat)
 case atStart => exact ⟨0, Nat.zero_le _, rfl, rfl⟩
 case round =>
  obtain ⟨k, hk, rfl, rfl⟩ := hrel
  by_cases hlt : k < ls.length
  ·obtain ⟨a, u, rfl, hcu, hsb0⟩ := HS.out k hlt
   obtain ⟨l, hsb⟩ : ∃ l : Bytes, SB wr u l := ⟨_, hsb0⟩
   have HB := hid hsb
   have HLT := hid (Nat.succ_le_of_lt hlt)
   obtain ⟨A2, c2, rfl, hlen2⟩ := hsb.form
   have hk0 : (0 : Int) ≤ k := by omega
   have hk1 : (k : Int) < ls.length := by omega
   clear hsb hsb0 hlt
   go_wp2_with fail
   go_loopw [4] (fun i ws => ∃ j : Nat, j ≤ l.length ∧ i = .int .i64 j ∧ ws = wr) (fun i _ => l.length - (intOf i).toNat)
   case atStart => exact ⟨0, Nat.zero_le _, rfl, rfl⟩
   case round =>
    obtain ⟨j, hj, rfl, rfl⟩ := hrel
    by_cases hlj : j < l.length
    ·obtain ⟨a2, c3, d, e1, hc, hd⟩ := HB.out.get j hlj
     cases e1
     have HJ := hid (Nat.succ_le_of_lt hlj)
     have hj0 : (0 : Int) ≤ j := by omega
     have hj1 : (j : Int) < l.length := by omega
     clear hd hlj
     cases he : ((d.toNat : Int) == 95)
     ·go_wp2
      go_roundw
      case rel => exact ⟨j + 1, HJ.out, by simp, trivial⟩
      case measure => exact meas_step HJ.out (by simp)
     ·go_wp2
      go_ret
      exact ⟨⟨_, rfl⟩, Below.refl _ _⟩
    ·have hj1 : ¬ (j : Int) < l.length := by omega
     clear hlj
     go_wp2
     go_roundw
     case rel => exact ⟨k + 1, HLT.out, by simp, trivial⟩
     case measure => exact meas_step HLT.out (by simp)
  ·have hk1 : ¬ (k : Int) < ls.length := by omega
   go_wp2
   go_ret
   exact ⟨⟨_, rfl⟩, Below.refl _ _⟩
def parH (h : LHead) (k v : Bytes) : LHead := { h with params := h.params.map (setK k v) }
theorem LH.params_at {w : World} {h : LHead} {l : List Value} (H : LH w h l) : ∃ v, l[14]? = some v ∧ SK w v h.params := by
 obtain ⟨a, b, c, ul, p, d, e, f, g, rfl, h1, h2, h3, hu, h5, -⟩ := H
 obtain ⟨u0, u1, u4, u5, u6, u8, u9, rfl, -⟩ := hu
 exact ⟨p, rfl, h5⟩
theorem LH.set_params {w : World} {h : LHead} {l : List Value} (H : LH w h l) {v : Value} {ps : BKVs} (hs : SK w v ps) : LH w { h with params := ps } (l.set 14 v) := by
 obtain ⟨a, b, c, ul, p, d, e, f, g, rfl, h1, h2, h3, hu, h5, h6⟩ := H
 have hul := hu.len
 refine ⟨a, b, c, ul, v, d, e, f, g, ?_, h1, h2, h3, hu, hs, h6⟩
 obtain ⟨u0, u1, u4, u5, u6, u8, u9, rfl, -⟩ := hu
 rfl
theorem OKs.stored {w0 w w' : World} {g base : Nat} {ty : TypeId} {l l0 : List Value} {v : Value} {ps : BKVs} (h : OKs w0 base w v ps) (k : Stored g ty l w w') (hg : w.heap[g]? = some (Obj.cells l0.toArray ty (0, 0))) (hne : 73 ≠ ty) : OKs w0 base w' v ps := by
 obtain ⟨css, h1, h2, h3⟩ := h
 exact ⟨css, h1, own_stored h2 k hg hne, h3⟩
theorem LHx.params_at {w0 w : World} {h : LHead} {l : List Value} (H : LHx w0 w h l) : ∃ v, l[14]? = some v ∧ SK w0 v h.params := by
 obtain ⟨a, b, c, ul, p, d, e, f, g, rfl, h1, h2, h3, hu, h5, -⟩ := H
 obtain ⟨u0, u1, u4, u5, u6, u8, u9, rfl, -⟩ := hu
 exact ⟨p, rfl, h5⟩
theorem hdrS_plain (h : LHead) (ht : 0 ≤ h.t ∧ h.t ≤ 14) : hdrS (plainH h) = hdrS h := by
 obtain ⟨t, name, text, display, u, params, num, proto, version, transport, host, port⟩ := h
 dsimp only at ht
 have hc : t = 0 ∨ t = 1 ∨ t = 2 ∨ t = 3 ∨ t = 4 ∨ t = 5 ∨ t = 6 ∨ t = 7 ∨ t = 8 ∨ t = 9 ∨ t = 10 ∨ t = 11 ∨ t = 12 ∨ t = 13 ∨ t = 14 := by omega
 rcases hc with rfl | rfl | rfl | rfl | rfl | rfl | rfl | rfl | rfl | rfl | rfl | rfl | rfl | rfl | rfl <;> rfl
theorem plain_bd {h : LHead} (H : HMs h) : HBd2 (plainH h) ∧ HOkU (plainH h) := by
 have e0 : UBd emptyU := ⟨by decide, by decide, by decide, by decide⟩
 obtain ⟨⟨b1, b2⟩, hu, -, -, -, -, -⟩ := H
 unfold HOkU at hu ⊢
 rw [plainH_t]
 unfold plainH
 by_cases h0 : h.t = 0
 ·rw [if_pos h0]
  exact ⟨⟨e0, by show (0 : Nat) ≤ _; omega⟩, fun _ => rfl⟩
 rw [if_neg h0]
 by_cases h1 : addrB h.t = true
 ·rw [if_pos h1]
  exact ⟨⟨b1, b2⟩, hu⟩
 rw [if_neg h1]
 by_cases h2 : routB h.t = true
 ·rw [if_pos h2]
  exact ⟨⟨b1, by show (0 : Nat) ≤ _; omega⟩, hu⟩
 rw [if_neg h2]
 refine ⟨?_, fun h3 => by rcases h3 with h3 | h3 <;> contradiction⟩
 repeat' split
 all_goals first | exact ⟨e0, by show (0 : Nat) ≤ _; omega⟩ | exact ⟨e0, b2⟩
theorem HMs.plain {h : LHead} (H : HMs h) : HMs (plainH h) := by
 have e := hdrS_plain h H.t
 obtain ⟨k1, k2⟩ := plain_bd H
 exact ⟨k1, k2, by rw [plainH_t]; exact H.t, by rw [e]; exact H.ok, by rw [e]; exact H.n7, by rw [e]; exact H.nm, by rw [e]; exact H.cl⟩
theorem first_of {l : List LHead} {t : Int} (h : countT t l = 1) : ∃ x, l.filter (isT t) = [x] ∧ x ∈ l ∧ x.t = t ∧ firstH t l = plainH x := by
 unfold countT at h
 cases hf : l.filter (isT t) with
 | nil => rw [hf] at h; simp at h
 | cons a r =>
  rw [hf] at h
  have hr : r = [] := List.eq_nil_of_length_eq_zero (by simpa using h)
  subst hr
  have h1 : a ∈ l.filter (isT t) := by rw [hf]; simp
  have h2 := (List.mem_filter.1 h1)
  refine ⟨a, rfl, h2.1, by simpa [isT] using h2.2, ?_⟩
  unfold firstH
  rw [← List.head?_filter, hf]
  rfl
theorem filt_chg (t : Int) (h : LHead) : ∀ (l : List LHead), (l.map fun x => chgH x h).filter (isT t) = if t = h.t then (l.filter (isT t)).map (fun _ => h) else l.filter (isT t)
 | [] => by simp
 | x :: r => by
  rw [List.map_cons]
  have ih := filt_chg t h r
  by_cases hx : x.t = h.t
  ·have e : chgH x h = h := by unfold chgH; rw [if_pos hx]
   rw [e]
   by_cases ht : t = h.t
   ·subst ht
    rw [if_pos rfl] at ih ⊢
    rw [List.filter_cons_of_pos (by simp [isT]), List.filter_cons_of_pos (by simp [isT, hx]), List.map_cons, ih]
   ·rw [if_neg ht] at ih ⊢
    rw [List.filter_cons_of_neg (by simpa [isT] using Ne.symm ht), List.filter_cons_of_neg (by simpa [isT, hx] using Ne.symm ht), ih]
  ·have e : chgH x h = x := by unfold chgH; rw [if_neg hx]
   rw [e]
   by_cases ht : t = h.t
   ·rw [if_pos ht] at ih ⊢
    rw [List.filter_cons_of_neg (by simpa [isT, ht] using hx), List.filter_cons_of_neg (by simpa [isT, ht] using hx), ih]
   ·rw [if_neg ht] at ih ⊢
    by_cases hxt : isT t x = true
    ·rw [List.filter_cons_of_pos hxt, List.filter_cons_of_pos hxt, ih]
    ·rw [List.filter_cons_of_neg hxt, List.filter_cons_of_neg hxt, ih]
theorem filt_in {m : LMsg} {t : Int} {h x : LHead} (hf : m.heads.filter (isT t) = [x]) (ht : h.t = t) : (chgM m h).heads.filter (isT t) = [h] := by
 show (m.heads.map fun x => chgH x h).filter (isT t) = _
 rw [filt_chg, if_pos ht.symm, hf]
 rfl
theorem filt_out {m : LMsg} {t : Int} {h x : LHead} (hf : m.heads.filter (isT t) = [x]) (ht : t ≠ h.t) : (chgM m h).heads.filter (isT t) = [x] := by
 show (m.heads.map fun x => chgH x h).filter (isT t) = _
 rw [filt_chg, if_neg ht, hf]
theorem chg_all {P : LHead → Prop} {l : List LHead} {h : LHead} (h1 : ∀ x ∈ l, P x) (h2 : P h) : ∀ x ∈ l.map (fun x => chgH x h), P x := by
 intro x hx
 obtain ⟨y, hy, rfl⟩ := List.mem_map.1 hx
 unfold chgH
 split
 ·exact h2
 ·exact h1 y hy
theorem get_param (l : BKVs) (k : Bytes) : kvGet (strKVs l) k = ((l.find? fun p => p.1 == k).map (·.2)).map bs := by
 unfold kvGet strKVs
 rw [List.find?_map, Option.map_map, Option.map_map]
 rfl
theorem find_setK (l : BKVs) (k v : Bytes) (h : (l.find? fun p => p.1 == k).isSome = true) : (((l.map (setK k v)).find? fun p => p.1 == k).map (·.2)) = some v := by
 induction l with
 | nil => simp at h
 | cons p r ih =>
  rw [List.map_cons]
  by_cases hp : p.1 = k
  ·have e : setK k v p = (p.1, v) := by unfold setK; rw [if_pos hp]
   rw [e, List.find?_cons_of_pos (by simp [hp])]
   rfl
  ·have e : setK k v p = p := by unfold setK; rw [if_neg hp]
   rw [e, List.find?_cons_of_neg (by simpa using hp)]
   rw [List.find?_cons_of_neg (by simpa using hp)] at h
   exact ih h
theorem find_of_len {l : BKVs} {k : Bytes} (h : 0 < (paramV l k).length) : (l.find? fun p => p.1 == k).isSome = true ∧ (l.find? fun p => p.1 == k).map (·.2) = some (paramV l k) := by
 unfold paramV at h ⊢
 cases e : l.find? fun p => p.1 == k with
 | none => rw [e] at h; simp at h
 | some p => exact ⟨rfl, rfl⟩
theorem slot_iff1 (t : Int) : slotT t = 1 ↔ t = 9 := by
 constructor
 ·intro h
  by_cases e1 : t = 1
  ·first | exact e1 | (subst e1; exact absurd h (by decide))
  by_cases e2 : t = 2
  ·first | exact e2 | (subst e2; exact absurd h (by decide))
  by_cases e3 : t = 3
  ·first | exact e3 | (subst e3; exact absurd h (by decide))
  by_cases e9 : t = 9
  ·first | exact e9 | (subst e9; exact absurd h (by decide))
  by_cases e11 : t = 11
  ·first | exact e11 | (subst e11; exact absurd h (by decide))
  by_cases e12 : t = 12
  ·first | exact e12 | (subst e12; exact absurd h (by decide))
  by_cases e4 : t = 4
  ·first | exact e4 | (subst e4; exact absurd h (by decide))
  by_cases e5 : t = 5
  ·first | exact e5 | (subst e5; exact absurd h (by decide))
  by_cases e6 : t = 6
  ·first | exact e6 | (subst e6; exact absurd h (by decide))
  by_cases e8 : t = 8
  ·first | exact e8 | (subst e8; exact absurd h (by decide))
  by_cases e10 : t = 10
  ·first | exact e10 | (subst e10; exact absurd h (by decide))
  simp only [slotT, e1, e2, e3, e9, e11, e12, e4, e5, e6, e8, e10, if_false] at h
  exact absurd h (by decide)
 ·rintro rfl
  rfl
theorem slot_iff6 (t : Int) : slotT t = 6 ↔ t = 5 := by
 constructor
 ·intro h
  by_cases e1 : t = 1
  ·first | exact e1 | (subst e1; exact absurd h (by decide))
  by_cases e2 : t = 2
  ·first | exact e2 | (subst e2; exact absurd h (by decide))
  by_cases e3 : t = 3
  ·first | exact e3 | (subst e3; exact absurd h (by decide))
  by_cases e9 : t = 9
  ·first | exact e9 | (subst e9; exact absurd h (by decide))
  by_cases e11 : t = 11
  ·first | exact e11 | (subst e11; exact absurd h (by decide))
  by_cases e12 : t = 12
  ·first | exact e12 | (subst e12; exact absurd h (by decide))
  by_cases e4 : t = 4
  ·first | exact e4 | (subst e4; exact absurd h (by decide))
  by_cases e5 : t = 5
  ·first | exact e5 | (subst e5; exact absurd h (by decide))
  by_cases e6 : t = 6
  ·first | exact e6 | (subst e6; exact absurd h (by decide))
  by_cases e8 : t = 8
  ·first | exact e8 | (subst e8; exact absurd h (by decide))
  by_cases e10 : t = 10
  ·first | exact e10 | (subst e10; exact absurd h (by decide))
  simp only [slotT, e1, e2, e3, e9, e11, e12, e4, e5, e6, e8, e10, if_false] at h
  exact absurd h (by decide)
 ·rintro rfl
  rfl
theorem isT_of {k : Nat} {t : Int} (h : ∀ x, slotT x = k ↔ x = t) (x : LHead) : ((hdrS x).slot == k) = isT t x := by
 rw [hdrS_slot, Bool.eq_iff_iff, beq_iff_eq, h]
 unfold isT
 rw [beq_iff_eq]
theorem isT_via (x : LHead) : ((hdrS x).slot == 1) = isT 9 x := isT_of slot_iff1 x
theorem isT_cseq (x : LHead) : ((hdrS x).slot == 6) = isT 5 x := isT_of slot_iff6 x
theorem filt_slot (k : Nat) (t : Int) (hk : k ≠ 7) (ht : ∀ h, ((hdrS h).slot == k) = isT t h) (l : List LHead) (n : Nat) : (l.map hdrS ++ [SH.clen n]).filter (fun h => h.slot == k) = (l.filter (isT t)).map hdrS := by
 rw [List.filter_append, List.filter_map]
 have h1 : ([SH.clen n].filter fun h => h.slot == k) = [] := by
  have : (7 == k) = false := by simpa using Ne.symm hk
  simp [SH.slot, this]
 rw [h1, List.append_nil]
 congr 1
 exact List.filter_congr fun h _ => ht h
theorem ref_of {n0 m : Nat} {T : TypeId} {hs : List (Nat × SH)} {X : List Value} {w : World} (hM : MRep n0 w m T hs (refsOf hs) X) {l : List LHead} {n : Nat} (hmap : hs.map (·.2) = l.map hdrS ++ [SH.clen n]) (k : Nat) (t : Int) (h1 : 1 ≤ k) (h11 : k ≤ 11) (h7 : k ≠ 7) (ht : ∀ h, ((hdrS h).slot == k) = isT t h) (x : LHead) (hx : l.filter (isT t) = [x]) :
  ∃ g, w.cell? ⟨m, k, none⟩ = some (refV (some g)) ∧ (hdrS x).rep w g := by
 obtain ⟨g, e1, e2⟩ := refsOf_one (k := k) (by omega) hmap (s := hdrS x) (by rw [filt_slot k t h7 ht, hx]; rfl)
 have h2 := mref_cell hM k h1 h11
 rw [e1] at h2
 exact ⟨g, h2, hM.reps _ e2⟩
theorem filt_t {l : List LHead} {t : Int} {x : LHead} (h : l.filter (isT t) = [x]) : x.t = t := by
 have h1 : x ∈ l.filter (isT t) := by rw [h]; simp
 simpa [isT] using (List.mem_filter.1 h1).2
theorem hdr_via {x : LHead} (h : x.t = 9) : hdrS x = .via ⟨bs x.proto, bs x.version, bs x.transport, bs x.host, x.port, strKVs x.params⟩ := by unfold hdrS; simp [h]
theorem hdr_cseq {x : LHead} (h : x.t = 5) : hdrS x = .cseq x.num (bs x.text) := by unfold hdrS; simp [h]
def mtyI (m : LMsg) : TypeId := if m.resp then 83 else 85
theorem mtyI_ok (m : LMsg) : IsMsgT (mtyI m) := by
 unfold mtyI
 split
 ·exact .inr rfl
 ·exact .inl rfl
structure KMsg (N : Nat) (m : LMsg) (cs : List Value) (w : World) : Prop where
 at_ : LM w m cs
 hasBody : m.hasBody = true
 compact : m.compact = false
 version : m.version = sip20B
 len : m.reason.length ≤ 70368744177664 ∧ m.method.length ≤ 70368744177664
 body : m.body.length < 4294967296
 many : m.heads.length ≤ 1000
 heads : ∀ h ∈ m.heads, HMs h
 uri : m.resp = false → UBd m.uri ∧ m.uri.raw = []
theorem KMsg.below {N : Nat} {m : LMsg} {cs : List Value} {w w' : World} (h : KMsg N m cs w) (hb : Below w.heap.size w w') : KMsg N m cs w' := ⟨h.at_.below hb, h.hasBody, h.compact, h.version, h.len, h.body, h.many, h.heads, h.uri⟩
theorem KMsg.message {N : Nat} {m : LMsg} {cs : List Value} {w : World} (h : KMsg N m cs w) (hG : Gl N w) : Calls Tryz.prog 45 #[.agg cs.toArray] w (MPostR m w) := by
 obtain ⟨h1, h2, h3, h4, h5, h6, h7, h8, h9⟩ := h
 obtain ⟨resp, method, u, code, reason, version, heads, body, hasBody, compact⟩ := m
 dsimp only at h2 h3 h4 h5 h6 h7 h8 h9
 subst h2 h3 h4
 cases resp with
 | true => exact message_resR N method u code reason heads body cs w hG h1 h5 h6 h7 h8
 | false => exact message_reqR N method u code reason heads body cs w hG h1 h5 h6 h7 h8 (h9 rfl)
def KeyPost (s : Bytes) (w : World) (e : Ending) (w' : World) : Prop := e = .returned (.tuple #[.string ⟨s.toArray⟩, .nilIface]) ∧ Below w.heap.size w w'
def IKey (s : Bytes) (w : World) (e : Ending) (w' : World) : Prop := ∃ v, e = .returned (.tuple #[v, .bool true]) ∧ SBu w' v s ∧ Below w.heap.size w w'
theorem HB.ck {N : Nat} {w w' : World} {g : Nat} {t : TypeId} {cs : Array Value} (h : HB w g t cs) (k : CK N w w') : HB w' g t cs := ⟨k.same h.1 h.2.1, h.2⟩
theorem ViaAt.ck {N : Nat} {w w' : World} {g : Nat} {v : SVia} (h : ViaAt w g v) (k : CK N w w') : ViaAt w' g v := by
 obtain ⟨cs, h1, c0, c1, c2, c3, c4, vp, c5, h5⟩ := h
 exact ⟨cs, h1.ck k, c0, c1, c2, c3, c4, vp, c5, h5.ck k⟩
def VCAt (m : LMsg) (sv : SVia) (num : Int) (meth : ByteArray) (v : Value) (w : World) : Prop := ∃ mm g9 g5, v = .iface (mtyI m) (.pointer (some ⟨mm, 0, none⟩)) ∧ w.cell? ⟨mm, 1, none⟩ = some (refV (some g9)) ∧ w.cell? ⟨mm, 6, none⟩ = some (refV (some g5)) ∧ ViaAt w g9 sv ∧ HB w g5 156 #[.int .u32 num, .string meth]
theorem VCAt.ck {N : Nat} {m : LMsg} {sv : SVia} {num : Int} {meth : ByteArray} {v : Value} {w w' : World} (h : VCAt m sv num meth v w) (k : CK N w w') : VCAt m sv num meth v w' := by
 obtain ⟨mm, g9, g5, h1, h2, h3, h4, h5⟩ := h
 exact ⟨mm, g9, g5, h1, k.cell h2, k.cell h3, h4.ck k, h5.ck k⟩
def viaS (x : LHead) : SVia := ⟨bs x.proto, bs x.version, bs x.transport, bs x.host, x.port, strKVs x.params⟩
theorem msg_vc {N : Nat} {m : LMsg} {cs : List Value} {w : World} (hK : KMsg N m cs w) (hG : Gl N w) {pv pc : LHead} (h9 : m.heads.filter (isT 9) = [pv]) (h5 : m.heads.filter (isT 5) = [pc]) : Calls Tryz.prog 45 #[.agg cs.toArray] w fun e w' => ∃ v, e = .returned v ∧ VCAt m (viaS pv) pc.num (bs pc.text) v w' ∧ Below w.heap.size w w' :=
 (hK.message hG).mono fun e w' ⟨mm, hs, h1, _, hmap, hb, n0, X, hM⟩ => by
  obtain ⟨g9, c9, r9⟩ := ref_of hM hmap 1 9 (by omega) (by omega) (by omega) isT_via pv h9
  obtain ⟨g5, c5, r5⟩ := ref_of hM hmap 6 5 (by omega) (by omega) (by omega) isT_cseq pc h5
  rw [hdr_via (filt_t h9)] at r9
  rw [hdr_cseq (filt_t h5)] at r5
  exact ⟨_, h1, ⟨mm, g9, g5, rfl, c9, c5, r9, r5⟩, hb⟩
