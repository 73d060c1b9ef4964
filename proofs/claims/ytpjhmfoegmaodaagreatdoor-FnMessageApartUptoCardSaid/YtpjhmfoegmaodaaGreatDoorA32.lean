import Derived.Test.YtpjhmfoegmaodaaGreatDoorA31
import Derived.Test.YtpjhmfoegmaodaaGreatDoorA29
set_option maxRecDepth 100000
set_option maxHeartbeats 16000000
set_option linter.all false
namespace Go.Proofs.YtpjhmfoegmaodaaGreatDoor
open Go.Lib (hid)
open Go.RowKit
structure MIn (N : Nat) (m : LMsg) : Prop where
 code : I64 m.code
 bd : MBd m
 uri : UBd m.uri
 heads : ∀ h ∈ m.heads, HBd2 h
 nums : ∀ h ∈ m.heads, 0 ≤ h.num ∧ h.num < 4294967296
 len : m.reason.length ≤ 70368744177664 ∧ m.method.length ≤ 70368744177664
theorem MIn.of {w : World} {m : LMsg} {cs : List Value} {n : Nat} (N : Nat) (hM : LM w m cs) (hB : MBk m n) (hn : n ≤ 1048576) : MIn N m := by
 obtain ⟨a, ul, b, c, hs, d, -, -, -, -, -, hh, -, hc⟩ := hM
 obtain ⟨⟨q1, q2, q3, q4, q5⟩, q6, q7, q8, q9, -, -⟩ := hB
 refine ⟨hc, ⟨by omega, fun h hk => ?_⟩, ⟨by omega, by omega, by omega, by omega⟩, fun h hk => ?_, fun h hk => ?_, by omega, by omega⟩
 ·obtain ⟨⟨r1, -⟩, -, r7⟩ := q7 h hk
  exact ⟨by omega, by omega⟩
 ·obtain ⟨⟨r1, r2, r3, r4, r5⟩, r6, -⟩ := q7 h hk
  exact ⟨⟨by omega, by omega, by omega, by omega⟩, by omega⟩
 ·obtain ⟨i, hi, rfl⟩ := List.getElem_of_mem hk
  obtain ⟨A, c', -, -, -, -, h5⟩ := hh
  obtain ⟨a', cs', -, hl, -⟩ := h5 i hi
  obtain ⟨_, _, _, _, _, _, _, _, _, _, _, _, _, _, _, _, _, _, _, _, hnum, _⟩ := hl
  exact hnum
theorem MIn.htx {N : Nat} {m : LMsg} (H : MIn N m) (R : RMsg m) : ∀ h ∈ m.heads, HTx h := fun h hh => htx_of (R.heads h hh).1 (H.nums h hh) (H.heads h hh)
def sameM (a b : LMsg) : Bool := (a.resp == b.resp) && decide (a.method = b.method) && sameU a.uri b.uri && (a.code == b.code) && decide (a.reason = b.reason) && decide (a.version = b.version) && decide (a.heads = b.heads) && decide (a.body = b.body)
theorem first8 (q0 q1 q2 q3 q4 q5 q6 q7 : Bool) : (q0 = false) ∨ (q0 = true ∧ q1 = false) ∨ (q0 = true ∧ q1 = true ∧ q2 = false) ∨ (q0 = true ∧ q1 = true ∧ q2 = true ∧ q3 = false) ∨ (q0 = true ∧ q1 = true ∧ q2 = true ∧ q3 = true ∧ q4 = false) ∨ (q0 = true ∧ q1 = true ∧ q2 = true ∧ q3 = true ∧ q4 = true ∧ q5 = false) ∨ (q0 = true ∧ q1 = true ∧ q2 = true ∧ q3 = true ∧ q4 = true ∧ q5 = true ∧ q6 = false) ∨ (q0 = true ∧ q1 = true ∧ q2 = true ∧ q3 = true ∧ q4 = true ∧ q5 = true ∧ q6 = true ∧ q7 = false) ∨ (q0 = true ∧ q1 = true ∧ q2 = true ∧ q3 = true ∧ q4 = true ∧ q5 = true ∧ q6 = true ∧ q7 = true) := by
 cases q0
 ·exact .inl rfl
 cases q1
 ·exact .inr (.inl (⟨rfl, rfl⟩))
 cases q2
 ·exact .inr (.inr (.inl (⟨rfl, rfl, rfl⟩)))
 cases q3
 ·exact .inr (.inr (.inr (.inl (⟨rfl, rfl, rfl, rfl⟩))))
 cases q4
 ·exact .inr (.inr (.inr (.inr (.inl (⟨rfl, rfl, rfl, rfl, rfl⟩)))))
 cases q5
 ·exact .inr (.inr (.inr (.inr (.inr (.inl (⟨rfl, rfl, rfl, rfl, rfl, rfl⟩))))))
 cases q6
 ·exact .inr (.inr (.inr (.inr (.inr (.inr (.inl (⟨rfl, rfl, rfl, rfl, rfl, rfl, rfl⟩)))))))
 cases q7
 ·exact .inr (.inr (.inr (.inr (.inr (.inr (.inr (.inl (⟨rfl, rfl, rfl, rfl, rfl, rfl, rfl, rfl⟩))))))))
 exact .inr (.inr (.inr (.inr (.inr (.inr (.inr (.inr (⟨rfl, rfl, rfl, rfl, rfl, rfl, rfl, rfl⟩))))))))
theorem samemsg_any (a b : LMsg) (la lb : List Value) (w : World) (hA : LM w a la) (hB : LM w b lb) : Calls Tryz.prog 10 #[.agg la.toArray, .agg lb.toArray] w fun e w' => e = .returned (.bool (sameM a b)) ∧ Below w.heap.size w w' := by
 obtain ⟨r, hr⟩ : ∃ r, r = sameM a b := ⟨_, rfl⟩
 rw [← hr]
 obtain ⟨xresp, xmethod, xu, xcode, xreason, xversion, xheads, xbody, xhb, xcp⟩ := a
 obtain ⟨xa1, xul, xa13, xa14, xa15, xa16, rfl, xs1, xsu, xs13, xs14, xs15, xs16, -⟩ := hA
 have HXU := hid xsu
 obtain ⟨xu0, xu1, xu4, xu5, xu6, xu8, xu9, rfl, -⟩ := xsu
 obtain ⟨yresp, ymethod, yu, ycode, yreason, yversion, yheads, ybody, yhb, ycp⟩ := b
 obtain ⟨ya1, yul, ya13, ya14, ya15, ya16, rfl, ys1, ysu, ys13, ys14, ys15, ys16, -⟩ := hB
 have HYU := hid ysu
 obtain ⟨yu0, yu1, yu4, yu5, yu6, yu8, yu9, rfl, -⟩ := ysu
 dsimp only at *
 simp only [List.cons_append, List.nil_append]
 obtain ⟨q0, hq0⟩ : ∃ q, q = (xresp == yresp) := ⟨_, rfl⟩
 have HQ0 := hid hq0
 have E0 := hq0.symm
 clear hq0
 obtain ⟨q1, hq1⟩ : ∃ q, q = decide (xmethod = ymethod) := ⟨_, rfl⟩
 have HE1 := hid (show ∀ wx, Below w.heap.size w wx → Calls Tryz.prog 9 #[xa1, ya1] wx (Quiet q1 wx) from fun wx h => by rw [hq1]; exact equal_q _ _ xmethod ymethod wx (xs1.below h) (ys1.below h))
 have HQ1 := hid hq1
 clear hq1
 obtain ⟨q2, hq2⟩ : ∃ q, q = sameU xu yu := ⟨_, rfl⟩
 have HE2 := hid (show ∀ wx, Below w.heap.size w wx → Calls Tryz.prog 26 #[.agg #[xu0, xu1, .bool xu.star, .bool xu.slashes, xu4, xu5, xu6, .int .i64 xu.port, xu8, xu9], .agg #[yu0, yu1, .bool yu.star, .bool yu.slashes, yu4, yu5, yu6, .int .i64 yu.port, yu8, yu9]] wx fun e w' => e = .returned (.bool q2) ∧ Below wx.heap.size wx w' from fun wx h => by rw [hq2]; exact sameuri_any xu yu _ _ wx (HXU.out.below h) (HYU.out.below h))
 have HQ2 := hid hq2
 clear hq2
 obtain ⟨q3, hq3⟩ : ∃ q, q = (xcode == ycode) := ⟨_, rfl⟩
 have HQ3 := hid hq3
 have E3 := hq3.symm
 clear hq3
 obtain ⟨q4, hq4⟩ : ∃ q, q = decide (xreason = yreason) := ⟨_, rfl⟩
 have HE4 := hid (show ∀ wx, Below w.heap.size w wx → Calls Tryz.prog 9 #[xa13, ya13] wx (Quiet q4 wx) from fun wx h => by rw [hq4]; exact equal_q _ _ xreason yreason wx (xs13.below h) (ys13.below h))
 have HQ4 := hid hq4
 clear hq4
 obtain ⟨q5, hq5⟩ : ∃ q, q = decide (xversion = yversion) := ⟨_, rfl⟩
 have HE5 := hid (show ∀ wx, Below w.heap.size w wx → Calls Tryz.prog 9 #[xa14, ya14] wx (Quiet q5 wx) from fun wx h => by rw [hq5]; exact equal_q _ _ xversion yversion wx (xs14.below h) (ys14.below h))
 have HQ5 := hid hq5
 clear hq5
 obtain ⟨q6, hq6⟩ : ∃ q, q = decide (xheads = yheads) := ⟨_, rfl⟩
 have HE6 := hid (show ∀ wx, Below w.heap.size w wx → Calls Tryz.prog 29 #[xa15, ya15] wx fun e w' => e = .returned (.bool q6) ∧ Below wx.heap.size wx w' from fun wx h => by rw [hq6]; exact sameheads_any _ _ xheads yheads wx (xs15.below h) (ys15.below h))
 have HQ6 := hid hq6
 clear hq6
 obtain ⟨q7, hq7⟩ : ∃ q, q = decide (xbody = ybody) := ⟨_, rfl⟩
 have HE7 := hid (show ∀ wx, Below w.heap.size w wx → Calls Tryz.prog 9 #[xa16, ya16] wx (Quiet q7 wx) from fun wx h => by rw [hq7]; exact equal_q _ _ xbody ybody wx (xs16.below h) (ys16.below h))
 have HQ7 := hid hq7
 clear hq7
 have HR := hid hr
 clear hr xs1 xs13 xs14 xs15 xs16 ys1 ys13 ys14 ys15 ys16
 obtain ⟨wb, hwb⟩ : ∃ wb, wb = (w.alloc (.cells #[.bool xresp, xa1, xu0, xu1, .bool xu.star, .bool xu.slashes, xu4, xu5, xu6, .int .i64 xu.port, xu8, xu9, .int .i64 xcode, xa13, xa14, xa15, xa16, .bool xhb, .bool xcp] 28)).alloc (.cells #[.bool yresp, ya1, yu0, yu1, .bool yu.star, .bool yu.slashes, yu4, yu5, yu6, .int .i64 yu.port, yu8, yu9, .int .i64 ycode, ya13, ya14, ya15, ya16, .bool yhb, .bool ycp] 28) := ⟨_, rfl⟩
 have HZ := hid (show Below w.heap.size w wb by rw [hwb]; exact below_two _ _)
 have HSZ := hid (show wb.heap.size = w.heap.size + 2 by rw [hwb]; simp)
 have HX1 := hid (show wb.heap[w.heap.size]? = some (.cells ([.bool xresp, xa1, xu0, xu1, .bool xu.star, .bool xu.slashes, xu4, xu5, xu6, .int .i64 xu.port, xu8, xu9, .int .i64 xcode, xa13, xa14, xa15, xa16, .bool xhb, .bool xcp] : List Value).toArray 28 (0, 0)) by rw [hwb]; exact ((Below.refl _ _).alloc (Nat.le_refl _) _).block w.heap.size (by simp) |>.trans (heap_alloc_new w _))
 have HX2 := hid (show wb.heap[w.heap.size + 1]? = some (.cells ([.bool yresp, ya1, yu0, yu1, .bool yu.star, .bool yu.slashes, yu4, yu5, yu6, .int .i64 yu.port, yu8, yu9, .int .i64 ycode, ya13, ya14, ya15, ya16, .bool yhb, .bool ycp] : List Value).toArray 28 (0, 0)) by rw [hwb]; have := heap_alloc_new (w.alloc (.cells #[.bool xresp, xa1, xu0, xu1, .bool xu.star, .bool xu.slashes, xu4, xu5, xu6, .int .i64 xu.port, xu8, xu9, .int .i64 xcode, xa13, xa14, xa15, xa16, .bool xhb, .bool xcp] 28)) (.cells #[.bool yresp, ya1, yu0, yu1, .bool yu.star, .bool yu.slashes, yu4, yu5, yu6, .int .i64 yu.port, yu8, yu9, .int .i64 ycode, ya13, ya14, ya15, ya16, .bool yhb, .bool ycp] 28); rwa [World.size_alloc] at this)
 have HZ0 := hid (Below.refl wb.heap.size wb)
 go_enter Tryz.func10, Tryz.ntmps10
 go_upto_region 1 with fail
 rw [← hwb]
 generalize Value.agg #[.bool xresp, xa1, xu0, xu1, .bool xu.star, .bool xu.slashes, xu4, xu5, xu6, .int .i64 xu.port, xu8, xu9, .int .i64 xcode, xa13, xa14, xa15, xa16, .bool xhb, .bool xcp] = arg0
 generalize Value.agg #[.bool yresp, ya1, yu0, yu1, .bool yu.star, .bool yu.slashes, yu4, yu5, yu6, .int .i64 yu.port, yu8, yu9, .int .i64 ycode, ya13, ya14, ya15, ya16, .bool yhb, .bool ycp] = arg1
 clear hwb
 have c0 := row_at HX1.out 0 _ rfl
 have d0 := row_at HX2.out 0 _ rfl
 have c1 := row_at HX1.out 1 _ rfl
 have d1 := row_at HX2.out 1 _ rfl
 have c2 := row_at HX1.out 2 _ rfl
 have d2 := row_at HX2.out 2 _ rfl
 have c3 := row_at HX1.out 3 _ rfl
 have d3 := row_at HX2.out 3 _ rfl
 have c4 := row_at HX1.out 4 _ rfl
 have d4 := row_at HX2.out 4 _ rfl
 have c5 := row_at HX1.out 5 _ rfl
 have d5 := row_at HX2.out 5 _ rfl
 have c6 := row_at HX1.out 6 _ rfl
 have d6 := row_at HX2.out 6 _ rfl
 have c7 := row_at HX1.out 7 _ rfl
 have d7 := row_at HX2.out 7 _ rfl
 have c8 := row_at HX1.out 8 _ rfl
 have d8 := row_at HX2.out 8 _ rfl
 have c9 := row_at HX1.out 9 _ rfl
 have d9 := row_at HX2.out 9 _ rfl
 have c10 := row_at HX1.out 10 _ rfl
 have d10 := row_at HX2.out 10 _ rfl
 have c11 := row_at HX1.out 11 _ rfl
 have d11 := row_at HX2.out 11 _ rfl
 have c12 := row_at HX1.out 12 _ rfl
 have d12 := row_at HX2.out 12 _ rfl
 have c13 := row_at HX1.out 13 _ rfl
 have d13 := row_at HX2.out 13 _ rfl
 have c14 := row_at HX1.out 14 _ rfl
 have d14 := row_at HX2.out 14 _ rfl
 have c15 := row_at HX1.out 15 _ rfl
 have d15 := row_at HX2.out 15 _ rfl
 have c16 := row_at HX1.out 16 _ rfl
 have d16 := row_at HX2.out 16 _ rfl
 rcases first8 q0 q1 q2 q3 q4 q5 q6 q7 with rfl | ⟨rfl, rfl⟩ | ⟨rfl, rfl, rfl⟩ | ⟨rfl, rfl, rfl, rfl⟩ | ⟨rfl, rfl, rfl, rfl, rfl⟩ | ⟨rfl, rfl, rfl, rfl, rfl, rfl⟩ | ⟨rfl, rfl, rfl, rfl, rfl, rfl, rfl⟩ | ⟨rfl, rfl, rfl, rfl, rfl, rfl, rfl, rfl⟩ | ⟨rfl, rfl, rfl, rfl, rfl, rfl, rfl, rfl⟩
 all_goals
  (go_wp2_with (first | (go_at_call_of 9 xa1; refine (HE1.out _ (by first | exact HZ.out | exact below_drewN HZ.out _ | exact H2.out | exact below_drewN H2.out _ | exact H6.out | exact below_drewN H6.out _)).mono ?_; rintro e w21 ⟨rfl, n1, rfl⟩) | (go_at_call 26; refine (HE2.out _ (by first | exact HZ.out | exact below_drewN HZ.out _ | exact H2.out | exact below_drewN H2.out _ | exact H6.out | exact below_drewN H6.out _)).mono ?_; rintro e w2 ⟨rfl, hb2⟩; have HW2 := hid (show Below wb.heap.size wb w2 from Below.trans (by first | exact HZ0.out | exact below_drewN HZ0.out _ | exact HW2.out | exact below_drewN HW2.out _) (hb2.mono (by first | exact HZ0.out.size | exact HW2.out.size | (simp; done) | (simp; exact HW2.out.size)))); have H2 := hid (show Below w.heap.size w w2 from HZ.out.trans (HW2.out.mono (by have := HSZ.out; omega))); have e2_12 := row_at ((HW2.out.block w.heap.size (by have := HSZ.out; omega)).trans HX1.out) 12 _ rfl; have f2_12 := row_at ((HW2.out.block (w.heap.size + 1) (by have := HSZ.out; omega)).trans HX2.out) 12 _ rfl; have e2_13 := row_at ((HW2.out.block w.heap.size (by have := HSZ.out; omega)).trans HX1.out) 13 _ rfl; have f2_13 := row_at ((HW2.out.block (w.heap.size + 1) (by have := HSZ.out; omega)).trans HX2.out) 13 _ rfl; have e2_14 := row_at ((HW2.out.block w.heap.size (by have := HSZ.out; omega)).trans HX1.out) 14 _ rfl; have f2_14 := row_at ((HW2.out.block (w.heap.size + 1) (by have := HSZ.out; omega)).trans HX2.out) 14 _ rfl; have e2_15 := row_at ((HW2.out.block w.heap.size (by have := HSZ.out; omega)).trans HX1.out) 15 _ rfl; have f2_15 := row_at ((HW2.out.block (w.heap.size + 1) (by have := HSZ.out; omega)).trans HX2.out) 15 _ rfl; have e2_16 := row_at ((HW2.out.block w.heap.size (by have := HSZ.out; omega)).trans HX1.out) 16 _ rfl; have f2_16 := row_at ((HW2.out.block (w.heap.size + 1) (by have := HSZ.out; omega)).trans HX2.out) 16 _ rfl; clear hb2) | (go_at_call_of 9 xa13; refine (HE4.out _ (by first | exact HZ.out | exact below_drewN HZ.out _ | exact H2.out | exact below_drewN H2.out _ | exact H6.out | exact below_drewN H6.out _)).mono ?_; rintro e w24 ⟨rfl, n4, rfl⟩) | (go_at_call_of 9 xa14; refine (HE5.out _ (by first | exact HZ.out | exact below_drewN HZ.out _ | exact H2.out | exact below_drewN H2.out _ | exact H6.out | exact below_drewN H6.out _)).mono ?_; rintro e w25 ⟨rfl, n5, rfl⟩) | (go_at_call 29; refine (HE6.out _ (by first | exact HZ.out | exact below_drewN HZ.out _ | exact H2.out | exact below_drewN H2.out _ | exact H6.out | exact below_drewN H6.out _)).mono ?_; rintro e w6 ⟨rfl, hb6⟩; have HW6 := hid (show Below wb.heap.size wb w6 from Below.trans (by first | exact HZ0.out | exact below_drewN HZ0.out _ | exact HW2.out | exact below_drewN HW2.out _) (hb6.mono (by first | exact HZ0.out.size | exact HW2.out.size | (simp; done) | (simp; exact HW2.out.size)))); have H6 := hid (show Below w.heap.size w w6 from HZ.out.trans (HW6.out.mono (by have := HSZ.out; omega))); have e6_16 := row_at ((HW6.out.block w.heap.size (by have := HSZ.out; omega)).trans HX1.out) 16 _ rfl; have f6_16 := row_at ((HW6.out.block (w.heap.size + 1) (by have := HSZ.out; omega)).trans HX2.out) 16 _ rfl; clear hb6) | (go_at_call_of 9 xa16; refine (HE7.out _ (by first | exact HZ.out | exact below_drewN HZ.out _ | exact H2.out | exact below_drewN H2.out _ | exact H6.out | exact below_drewN H6.out _)).mono ?_; rintro e w27 ⟨rfl, n7, rfl⟩) | fail)
   go_ret
   refine ⟨ret_bool ?_, by first | exact HZ.out | exact below_drewN HZ.out _ | exact H2.out | exact below_drewN H2.out _ | exact H6.out | exact below_drewN H6.out _⟩
   rw [HR.out, sameM]
   simp only [← HQ0.out, ← HQ1.out, ← HQ2.out, ← HQ3.out, ← HQ4.out, ← HQ5.out, ← HQ6.out, ← HQ7.out, Bool.false_and, Bool.and_false, Bool.true_and, Bool.and_true])
def readM (m : LMsg) : LMsg := ⟨m.resp, if m.resp then [] else m.method, if m.resp then emptyU else m.uri, if m.resp then m.code else 0, if m.resp then m.reason else [], m.version, readHs m, m.body, false, false⟩
theorem OHs.shs {w0 w : World} {base : Nat} {v : Value} {hs : List LHead} (H : OHs w0 base w v hs) (hb : Sub w0 w) : SHs w v hs := by
 have HH := H
 obtain ⟨css, h1, h2, h3⟩ := H
 rcases h2.2 with ⟨rfl, h0⟩ | ⟨g, cap, cur, rfl, _, hg, hn, hc, _, _⟩
 ·obtain rfl := List.length_eq_zero_iff.1 h0
  exact ⟨none, 0, rfl, Nat.le_refl _, by omega, fun _ => ⟨rfl, rfl⟩, fun i hi => absurd hi (by simp)⟩
 ·refine ⟨some ⟨g, 0, none⟩, cap, rfl, hn, by simpa [maxLen] using hc, fun e => by simp at e, fun i hi => ?_⟩
  obtain ⟨b, c, cs, pre, suf, post, hv, _, hg2, hp, hs, rfl, hx, _⟩ := HH.at_ i hi
  obtain rfl : g = b := by
   injection hv with e1 _ _
   injection e1 with e1
   injection e1
  refine ⟨_, suf, rfl, hx.lh hb, fun j u hj => ?_⟩
  rw [Addr.add_lit, Nat.zero_add]
  exact row_sub hg2 (i * 21) hp j u hj
theorem read_lm (m : LMsg) (cs : List Value) (w : World) (hM : LM w m cs) (ht : ∀ h ∈ m.heads, 0 ≤ h.t ∧ h.t ≤ 14) (hl : m.heads.length ≤ 64) (hbl : m.body.length ≤ 8192) :
  Calls Tryz.prog 11 #[.agg cs.toArray] w fun e w' => ∃ l, e = .returned (.agg l.toArray) ∧ LM w' (readM m) l ∧ Below w.heap.size w w' := by
 obtain ⟨resp, method, u, code, reason, version, heads, body, hasBody, compact⟩ := m
 dsimp only at ht hl hbl
 have hlen : cs.length = 19 := by
  obtain ⟨va, ul, vb, vc, vh, vd, rfl, hm, hu, _⟩ := hM
  simp [hu.len]
 have hcode : I64 code := by
  obtain ⟨va, ul, vb, vc, vh, vd, rfl, _, _, _, _, _, _, h⟩ := hM
  exact h
 have hts := made_ts ht body.length
 have hw := Sub.refl w
 cases resp
 ·obtain ⟨a, ul, c, d, h1, h2, h3, h4, h5⟩ := made_req w method u code reason version heads body hasBody compact cs hM ht hl hbl
  have e : ∀ v : Value, ([.bool false, a] ++ ul ++ [.int .i64 0, .slice none 0 0, c]) ++ v :: [d, .bool false, .bool false] = .bool false :: a :: (ul ++ [.int .i64 0, .slice none 0 0, c, v, d, .bool false, .bool false]) := fun v => by simp
  have key := read_of w cs ([.bool false, a] ++ ul ++ [.int .i64 0, .slice none 0 0, c]) [d, .bool false, .bool false] w (heads.map plainH ++ [lenH body.length]) hlen (by simp [h2.len]) rfl (fun A n c' => by
    have o1 := h2.one
    simp only [List.all_append, List.all_cons, List.all_nil, h1.one, h3.one, h4.one, o1]
    rfl) hw hts (by simp; omega) (fun wz hz => (h5 wz (hw.trans (hz.mono hw.size))).mono (fun e1 w' ⟨v, k1, k2⟩ => ⟨v, by rw [e v]; exact k1, k2⟩))
  refine key.mono (fun e1 w' ⟨v, k1, k2, k3⟩ => ⟨_, k1, ?_, k3⟩)
  rw [e v]
  have hs := Sub.of_below k3
  exact ⟨a, ul, .slice none 0 0, c, v, d, rfl, h1.sub hs, h2.sub hs, SB.nil _, h3.sub hs, k2.shs hs, h4.sub hs, by show I64 0; unfold I64; omega⟩
 ·obtain ⟨b, c, d, h1, h3, h4, h5⟩ := made_res w method u code reason version heads body hasBody compact cs hM ht hl hbl
  have key := read_of w cs [.bool true, .slice none 0 0, .slice none 0 0, .slice none 0 0, .bool false, .bool false, .slice none 0 0, .slice none 0 0, .slice none 0 0, .int .i64 0, .slice none 0 0, .slice none 0 0, .int .i64 code, b, c] [d, .bool false, .bool false] w (heads.map plainH ++ [lenH body.length]) hlen rfl rfl (fun A n c' => by
    simp only [List.all_append, List.all_cons, List.all_nil, h1.one, h3.one, h4.one]
    rfl) hw hts (by simp; omega) (fun wz hz => (h5 wz (hw.trans (hz.mono hw.size))).mono (fun e1 w' ⟨v, k1, k2⟩ => ⟨v, k1, k2⟩))
  refine key.mono (fun e1 w' ⟨v, k1, k2, k3⟩ => ⟨_, k1, ?_, k3⟩)
  have hs := Sub.of_below k3
  exact ⟨.slice none 0 0, [.slice none 0 0, .slice none 0 0, .bool false, .bool false, .slice none 0 0, .slice none 0 0, .slice none 0 0, .int .i64 0, .slice none 0 0, .slice none 0 0], b, c, v, d, rfl, SB.nil _, LU.empty _, h1.sub hs, h3.sub hs, k2.shs hs, h4.sub hs, hcode⟩
theorem LH.ck {N : Nat} {w w' : World} {h : LHead} {l : List Value} (H : LH w h l) (k : CK N w w') : LH w' h l := by
 obtain ⟨a, b, c, ul, p, d, e, f, g, h0, h1, h2, h3, h4, h5, h6, h7, h8, h9, h10⟩ := H
 exact ⟨a, b, c, ul, p, d, e, f, g, h0, h1.ck k, h2.ck k, h3.ck k, h4.ck k, h5.ck k, h6.ck k, h7.ck k, h8.ck k, h9.ck k, h10⟩
theorem SHs.ck {N : Nat} {w w' : World} {v : Value} {l : List LHead} (h : SHs w v l) (k : CK N w w') : SHs w' v l := by
 obtain ⟨A, c, h1, h2, h3, h4, h5⟩ := h
 refine ⟨A, c, h1, h2, h3, h4, fun i hi => ?_⟩
 obtain ⟨a, cs, e, hc, hd⟩ := h5 i hi
 exact ⟨a, cs, e, hc.ck k, fun j u hj => k.cell (hd j u hj)⟩
theorem LM.ck {N : Nat} {w w' : World} {m : LMsg} {l : List Value} (h : LM w m l) (k : CK N w w') : LM w' m l := by
 obtain ⟨a, ul, b, c, hs, d, h0, h1, h2, h3, h4, h5, h6, h7⟩ := h
 exact ⟨a, ul, b, c, hs, d, h0, h1.ck k, h2.ck k, h3.ck k, h4.ck k, h5.ck k, h6.ck k, h7⟩
theorem bool_eqn (p q : Bool) (h : p = q) : (p == q) = true := by rw [h]; cases q <;> rfl
theorem apart_any (N : Nat) (ma mb : LMsg) (ca cb : List Value) (w : World) (hG : Gl N w) (hA : LM w ma ca) (hB : LM w mb cb) (IA : MIn N ma) (IB : MIn N mb)
  (law : RMsg ma → RMsg mb → ∀ ha hb : List (Nat × SH), ha.map (·.2) = ma.heads.map hdrS ++ [.clen ma.body.length] → hb.map (·.2) = mb.heads.map hdrS ++ [.clen mb.body.length] → decide (msgT (msgS ma ha) = msgT (msgS mb hb)) = sameM (readM ma) (readM mb)) :
  Calls Tryz.prog 3 #[.agg ca.toArray, .agg cb.toArray] w fun e w' => e = .returned (.bool true) ∧ Below w.heap.size w w' := by
 obtain ⟨x0, x1, x2, x3, x4, x5, x6, x7, x8, x9, x10, x11, x12, x13, x14, x15, x16, x17, x18, rfl⟩ := list19 hA.len
 obtain ⟨y0, y1, y2, y3, y4, y5, y6, y7, y8, y9, y10, y11, y12, y13, y14, y15, y16, y17, y18, rfl⟩ := list19 hB.len
 obtain ⟨wb, hwb⟩ : ∃ wb, wb = (w.alloc (.cells #[x0, x1, x2, x3, x4, x5, x6, x7, x8, x9, x10, x11, x12, x13, x14, x15, x16, x17, x18] 28)).alloc (.cells #[y0, y1, y2, y3, y4, y5, y6, y7, y8, y9, y10, y11, y12, y13, y14, y15, y16, y17, y18] 28) := ⟨_, rfl⟩
 have HB0 := hid (show Below w.heap.size w wb by rw [hwb]; exact below_two _ _)
 have HSZ := hid (show wb.heap.size = w.heap.size + 2 by rw [hwb]; simp)
 have HX1 := hid (show ∀ wx, Below wb.heap.size wb wx → wx.heap[w.heap.size]? = some (.cells ([x0, x1, x2, x3, x4, x5, x6, x7, x8, x9, x10, x11, x12, x13, x14, x15, x16, x17, x18] : List Value).toArray 28 (0, 0)) by
  intro wx h
  rw [h.block _ (by have := HSZ.out; omega), hwb]
  exact ((Below.refl _ _).alloc (Nat.le_refl _) _).block w.heap.size (by simp) |>.trans (heap_alloc_new w _))
 have HX2 := hid (show ∀ wx, Below wb.heap.size wb wx → wx.heap[w.heap.size + 1]? = some (.cells ([y0, y1, y2, y3, y4, y5, y6, y7, y8, y9, y10, y11, y12, y13, y14, y15, y16, y17, y18] : List Value).toArray 28 (0, 0)) by
  intro wx h
  rw [h.block _ (by have := HSZ.out; omega), hwb]
  have := heap_alloc_new (w.alloc (.cells #[x0, x1, x2, x3, x4, x5, x6, x7, x8, x9, x10, x11, x12, x13, x14, x15, x16, x17, x18] 28)) (.cells #[y0, y1, y2, y3, y4, y5, y6, y7, y8, y9, y10, y11, y12, y13, y14, y15, y16, y17, y18] 28)
  rwa [World.size_alloc] at this)
 have HBW := hid (show ∀ wx, Below wb.heap.size wb wx → Below w.heap.size w wx from fun wx h => HB0.out.trans (h.mono (by have := HSZ.out; omega)))
 have HLA := hid (show ∀ wx, Below wb.heap.size wb wx → LM wx ma [x0, x1, x2, x3, x4, x5, x6, x7, x8, x9, x10, x11, x12, x13, x14, x15, x16, x17, x18] from fun wx h => hA.below (HBW.out wx h))
 have HLB := hid (show ∀ wx, Below wb.heap.size wb wx → LM wx mb [y0, y1, y2, y3, y4, y5, y6, y7, y8, y9, y10, y11, y12, y13, y14, y15, y16, y17, y18] from fun wx h => hB.below (HBW.out wx h))
 have HGL := hid (show ∀ wx, Below wb.heap.size wb wx → Gl N wx from fun wx h => hG.below (HBW.out wx h) hG.le)
 have HA := hid IA
 have HB := hid IB
 have LAW := hid law
 have HZ := hid (Below.refl wb.heap.size wb)
 have HFA := hid (fits1_any ma _ wb (HLA.out wb HZ.out))
 have HFB := hid (show ∀ wx, Below wb.heap.size wb wx → Calls Tryz.prog 5 #[.agg #[y0, y1, y2, y3, y4, y5, y6, y7, y8, y9, y10, y11, y12, y13, y14, y15, y16, y17, y18]] wx (SomeB wx) from fun wx h => fits1_any mb _ wx (HLB.out wx h))
 clear hG hA hB IA IB law
 go_enter Tryz.func3, Tryz.ntmps3
 go_upto_region 1 with fail
 rw [← hwb]
 generalize Value.agg #[x0, x1, x2, x3, x4, x5, x6, x7, x8, x9, x10, x11, x12, x13, x14, x15, x16, x17, x18] = arg0
 generalize Value.agg #[y0, y1, y2, y3, y4, y5, y6, y7, y8, y9, y10, y11, y12, y13, y14, y15, y16, y17, y18] = arg1
 clear hwb
 go_upto_if 16 with (first
  | (refine wpList_load_blk (by rfl) 28 (.tmp 2) (by rfl) w.heap.size 28 (0, 0) _ (by rfl) (HX1.out _ HZ.out) _ Tryz.underlying28 rfl 19 msg_size rfl ?_)
  | (go_at_call_of 5 x1; refine HFA.out.mono ?_; rintro e w1 ⟨⟨b, rfl⟩, hb1⟩; have HB1 := hid hb1; clear hb1; cases b)
  | (refine wpList_load_any_w (by rfl) 28 (.tmp 3) (by rfl) ⟨(w.heap.size + 1), 0, none⟩ (by rfl) [y0, y1, y2, y3, y4, y5, y6, y7, y8, y9, y10, y11, y12, y13, y14, y15, y16, y17, y18] _ (row_cells (HX2.out _ HB1.out)) Tryz.underlying28 (by rfl) (by rw [msg_size]; rfl) ?_)
  | (go_at_call_of 5 y1; refine (HFB.out _ HB1.out).mono ?_; rintro e w2 ⟨⟨b, rfl⟩, hb2⟩; have HB2 := hid (HB1.out.trans (hb2.mono HB1.out.size)); clear hb2; cases b)
  | fail)
 ·go_wp2_with fail
  go_ret
  exact ⟨rfl, HBW.out _ HB1.out⟩
 ·go_wp2_with fail
  go_ret
  exact ⟨rfl, HBW.out _ HB2.out⟩
 have HMA := hid (ismsg_any ma _ w2 (HLA.out w2 HB2.out) HA.out.bd)
 have HMB := hid (show ∀ wx, Below wb.heap.size wb wx → Calls Tryz.prog 6 #[.agg #[y0, y1, y2, y3, y4, y5, y6, y7, y8, y9, y10, y11, y12, y13, y14, y15, y16, y17, y18]] wx (Says (RMsg mb) wx) from fun wx h => ismsg_any mb _ wx (HLB.out wx h) HB.out.bd)
 go_upto_if 24 with (first
  | (refine wpList_load_blk (by rfl) 28 (.tmp 2) (by rfl) w.heap.size 28 (0, 0) _ (by rfl) (HX1.out _ HB2.out) _ Tryz.underlying28 rfl 19 msg_size rfl ?_)
  | (go_at_call_of 6 x1; refine HMA.out.mono ?_; rintro e w3 ⟨⟨b, rfl, hra⟩, hb3⟩; have HRA := hid hra; have HB3 := hid (HB2.out.trans (hb3.mono HB2.out.size)); clear hra hb3; cases b)
  | (refine wpList_load_any_w (by rfl) 28 (.tmp 3) (by rfl) ⟨(w.heap.size + 1), 0, none⟩ (by rfl) [y0, y1, y2, y3, y4, y5, y6, y7, y8, y9, y10, y11, y12, y13, y14, y15, y16, y17, y18] _ (row_cells (HX2.out _ HB3.out)) Tryz.underlying28 (by rfl) (by rw [msg_size]; rfl) ?_)
  | (go_at_call_of 6 y1; refine (HMB.out _ HB3.out).mono ?_; rintro e w4 ⟨⟨b, rfl, hrb⟩, hb4⟩; have HRB := hid hrb; have HB4 := hid (HB3.out.trans (hb4.mono HB3.out.size)); clear hrb hb4; cases b)
  | fail)
 ·have HK := hid (known_any N w3 (HGL.out _ HB3.out))
  go_wp2_with (go_at_call 7; refine HK.out.mono ?_; rintro e w9 ⟨rfl, hb⟩)
  go_ret
  exact ⟨rfl, HBW.out _ (HB3.out.trans (hb.mono HB3.out.size))⟩
 ·have HK := hid (known_any N w4 (HGL.out _ HB4.out))
  go_wp2_with (go_at_call 7; refine HK.out.mono ?_; rintro e w9 ⟨rfl, hb⟩)
  go_ret
  exact ⟨rfl, HBW.out _ (HB4.out.trans (hb.mono HB4.out.size))⟩
 have RA := hid (HRA.out trivial)
 have RB := hid (HRB.out trivial)
 have HTA := hid (text_any N ma _ w4 (HGL.out _ HB4.out) (HLA.out _ HB4.out) (msok_of ma RA.out HA.out.code (HA.out.htx RA.out)) ⟨RA.out.hasBody, RA.out.compact, RA.out.version⟩ HA.out.len (by have := RA.out.body; omega) RA.out.many
  (fun h hh => hms_of (RA.out.heads h hh).1 (HA.out.nums h hh) (HA.out.heads h hh) (RA.out.heads h hh).2) (fun hr => ⟨HA.out.uri, (RA.out.req hr).2.raw⟩))
 have HTB := hid (show ∀ wx, Below wb.heap.size wb wx → Calls Tryz.prog 8 #[.agg #[y0, y1, y2, y3, y4, y5, y6, y7, y8, y9, y10, y11, y12, y13, y14, y15, y16, y17, y18]] wx (TextPost mb wx) from fun wx h => text_any N mb _ wx (HGL.out _ h) (HLB.out _ h) (msok_of mb RB.out HB.out.code (HB.out.htx RB.out)) ⟨RB.out.hasBody, RB.out.compact, RB.out.version⟩ HB.out.len (by have := RB.out.body; omega) RB.out.many
  (fun h hh => hms_of (RB.out.heads h hh).1 (HB.out.nums h hh) (HB.out.heads h hh) (RB.out.heads h hh).2) (fun hr => ⟨HB.out.uri, (RB.out.req hr).2.raw⟩))
 go_upto_region 6 with (first
  | (refine wpList_load_blk (by rfl) 28 (.tmp 2) (by rfl) w.heap.size 28 (0, 0) _ (by rfl) (HX1.out _ HB4.out) _ Tryz.underlying28 rfl 19 msg_size rfl ?_)
  | (go_at_call 8; refine HTA.out.mono ?_; rintro e w5 ⟨ha, v1, v2, hmapa, rfl, hv1, hv2, hb5⟩)
  | fail)
 have HV1 := hid hv1.sb
 have HPA := hid hmapa
 have HB5 := hid (HB4.out.trans (hb5.mono HB4.out.size))
 obtain ⟨k1, c1, cs1, fz1, rfl, -⟩ := hv1
 obtain ⟨k2, c2, cs2, fz2, rfl, -⟩ := hv2
 clear hb5 hmapa
 go_upto_region 7 with (first
  | (refine wpList_load_blk (by rfl) 28 (.tmp 3) (by rfl) (w.heap.size + 1) 28 (0, 0) _ (by rfl) (HX2.out _ HB5.out) _ Tryz.underlying28 rfl 19 msg_size rfl ?_)
  | (go_at_call 8; refine (HTB.out _ HB5.out).mono ?_; rintro e w6 ⟨hb, v3, v4, hmapb, rfl, hv3, hv4, hb6⟩)
  | fail)
 have HV3 := hid hv3.sb
 have HV1' := hid (HV1.out.below hb6)
 have HPB := hid hmapb
 have HB6 := hid (HB5.out.trans (hb6.mono HB5.out.size))
 obtain ⟨k3, c3, cs3, fz3, rfl, -⟩ := hv3
 obtain ⟨k4, c4, cs4, fz4, rfl, -⟩ := hv4
 clear hb6 hmapb
 have HLW := hid (LAW.out RA.out RB.out ha hb HPA.out HPB.out)
 obtain ⟨TA, hTA⟩ : ∃ T, T = msgT (msgS ma ha) := ⟨_, rfl⟩
 obtain ⟨TB, hTB⟩ : ∃ T, T = msgT (msgS mb hb) := ⟨_, rfl⟩
 rw [← hTA] at HLW HV1' HV1 ⊢
 rw [← hTB] at HLW HV3 ⊢
 clear hTA hTB
 go_wp2_with fail
 refine wp_region_grow 9 (CK w6.heap.size) (IW w6)
  (fun i v w' => match i with
   | 0 => v = .slice (some ⟨k1, 0, none⟩) TA.length c1
   | 1 => v = .slice (some ⟨k3, 0, none⟩) TB.length c3
   | 2 => v = .bool (decide (TA = TB))
   | 3 => v = .agg #[x0, x1, x2, x3, x4, x5, x6, x7, x8, x9, x10, x11, x12, x13, x14, x15, x16, x17, x18]
   | 4 => ∃ l : List Value, v = .agg l.toArray ∧ LM w' (readM ma) l
   | 5 => v = .agg #[y0, y1, y2, y3, y4, y5, y6, y7, y8, y9, y10, y11, y12, y13, y14, y15, y16, y17, y18]
   | 6 => ∃ l : List Value, v = .agg l.toArray ∧ LM w' (readM mb) l
   | 7 => v = .bool (sameM (readM ma) (readM mb))
   | 8 => v = .bool (decide (TA = TB) == sameM (readM ma) (readM mb))
   | _ => True)
  [[], [], [0, 1], [], [3], [], [5], [4, 6], [2, 7]] rfl (by kernel_rfl) (by kernel_rfl) (fun _ _ => IW.step) ?_ ?_ ?_ ?_
 ·intro j hj v w'
  match j, hj with
  | j + 9, _ => trivial
 ·exact CK.of_below (Below.refl _ _).drew (Nat.le_refl _)
 ·simp only [List.take_succ_cons, List.take_zero, fillAll]
  refine ⟨⟨?_, ?_⟩, ⟨?_, ?_⟩, ⟨?_, ?_⟩, ⟨?_, ?_⟩, ⟨?_, ?_⟩, ⟨?_, ?_⟩, ⟨?_, ?_⟩, ⟨?_, ?_⟩, ⟨?_, ?_⟩, trivial⟩
  ·exact fun v w1 w2 h k => h
  ·intro vals w1 hI hd
   unfold GStep
   go_wp2
   exact CK.refl _ _
  ·exact fun v w1 w2 h k => h
  ·intro vals w1 hI hd
   unfold GStep
   go_wp2
   exact CK.refl _ _
  ·exact fun v w1 w2 h k => h
  ·intro vals w1 hI hd
   have e1 : vals 0 = _ := hd.1
   have e2 : vals 1 = _ := hd.2.1
   have HP := hid (equal_any _ _ TA TB w1 (HV1'.out.ck hI) (HV3.out.ck hI))
   unfold GStep
   go_wp2_with (go_at_call 9; refine HP.out.mono ?_; rintro e w2 ⟨rfl, hb⟩)
   exact CK.of_below hb hI.size
  ·exact fun v w1 w2 h k => h
  ·intro vals w1 hI hd
   have HCE := hid (HX1.out _ (HB6.out.trans (hI.below.mono HB6.out.size)))
   clear hd
   unfold GStep
   dsimp only
   go_simp
   refine wpList_load_blk (by rfl) 28 (.tmp 2) (by rfl) w.heap.size 28 (0, 0) _ (by rfl) HCE.out _ Tryz.underlying28 rfl 19 msg_size rfl ?_
   go_wp2
   exact CK.refl _ _
  ·rintro v w1 w2 ⟨l, h1, h2⟩ k
   exact ⟨l, h1, h2.ck k⟩
  ·intro vals w1 hI hd
   have e1 : vals 3 = _ := hd.1
   have HP := hid (read_lm ma _ w1 (HLA.out _ (HB6.out.trans (hI.below.mono HB6.out.size))) (fun h hh => (RA.out.heads h hh).1.sort) RA.out.many RA.out.body)
   unfold GStep
   go_wp2_with (go_at_call 11; refine HP.out.mono ?_; rintro e w2 ⟨l, rfl, hl, hb⟩)
   have hk := CK.of_below hb hI.size
   first | exact hk | exact ⟨hk, _, rfl, hl⟩ | exact ⟨hk, hl⟩
  ·exact fun v w1 w2 h k => h
  ·intro vals w1 hI hd
   have HCE := hid (HX2.out _ (HB6.out.trans (hI.below.mono HB6.out.size)))
   clear hd
   unfold GStep
   dsimp only
   go_simp
   refine wpList_load_blk (by rfl) 28 (.tmp 3) (by rfl) (w.heap.size + 1) 28 (0, 0) _ (by rfl) HCE.out _ Tryz.underlying28 rfl 19 msg_size rfl ?_
   go_wp2
   exact CK.refl _ _
  ·rintro v w1 w2 ⟨l, h1, h2⟩ k
   exact ⟨l, h1, h2.ck k⟩
  ·intro vals w1 hI hd
   have e1 : vals 5 = _ := hd.1
   have HP := hid (read_lm mb _ w1 (HLB.out _ (HB6.out.trans (hI.below.mono HB6.out.size))) (fun h hh => (RB.out.heads h hh).1.sort) RB.out.many RB.out.body)
   unfold GStep
   go_wp2_with (go_at_call 11; refine HP.out.mono ?_; rintro e w2 ⟨l, rfl, hl, hb⟩)
   have hk := CK.of_below hb hI.size
   first | exact hk | exact ⟨hk, _, rfl, hl⟩ | exact ⟨hk, hl⟩
  ·exact fun v w1 w2 h k => h
  ·intro vals w1 hI hd
   have e1 : ∃ l : List Value, vals 4 = .agg l.toArray ∧ LM w1 (readM ma) l := hd.1
   have e2 : ∃ l : List Value, vals 6 = .agg l.toArray ∧ LM w1 (readM mb) l := hd.2.1
   clear hd
   unfold GStep
   dsimp only
   generalize vals 4 = z4 at e1 ⊢
   generalize vals 6 = z6 at e2 ⊢
   obtain ⟨l1, rfl, h1⟩ := e1
   obtain ⟨l2, rfl, h2⟩ := e2
   have HP := hid (samemsg_any _ _ l1 l2 w1 h1 h2)
   clear h1 h2
   go_wp2_with (go_at_call 10; refine HP.out.mono ?_; rintro e w2 ⟨rfl, hb⟩)
   exact CK.of_below hb hI.size
  ·exact fun v w1 w2 h k => h
  ·intro vals w1 hI hd
   have e1 : vals 2 = _ := hd.1
   have e2 : vals 7 = _ := hd.2.1
   unfold GStep
   go_wp2
   exact CK.refl _ _
 ·intro vals w7 hI hR
  simp only [List.drop_succ_cons, List.drop_zero, List.take_succ_cons, List.take_zero, fillAll]
  obtain ⟨-, -, -, -, -, -, -, -, r8, -⟩ := hR
  have e8 : vals 8 = _ := r8
  rw [e8, bool_eqn _ _ HLW.out]
  clear e8 r8
  have HB7 := hid (HB6.out.trans (hI.below.mono HB6.out.size))
  have HK := hid (known_any N w7 (HGL.out _ HB7.out))
  clear hI
  go_simp
  go_wp2_with (go_at_call 7; refine HK.out.mono ?_; rintro e w9 ⟨rfl, hb9⟩)
  go_ret
  exact ⟨rfl, HBW.out _ (HB7.out.trans (hb9.mono HB7.out.size))⟩
