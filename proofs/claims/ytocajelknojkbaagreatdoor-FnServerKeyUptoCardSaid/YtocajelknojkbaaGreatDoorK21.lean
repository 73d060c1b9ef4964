import Derived.Test.YtocajelknojkbaaGreatDoorK18
set_option maxRecDepth 100000
set_option maxHeartbeats 16000000
set_option linter.all false
namespace Go.Proofs.YtocajelknojkbaaGreatDoor
open Go.Lib (hid)
open Go.RowKit
theorem sort_ne0 {t : Int} (h : t ≠ 0) : (t == 0) = false := by rw [beq_eq_false_iff_ne]; exact h
theorem sort_rest {t : Int} (ht : 0 ≤ t ∧ t ≤ 14) (ha : addrB t = false) (hr : routB t = false) (hn : numbB t = false) : t = 0 ∨ t = 4 ∨ t = 5 ∨ t = 9 ∨ t = 10 := by
 simp [addrB] at ha
 simp [routB] at hr
 simp [numbB] at hn
 omega
theorem tab21 (j : Nat) (h : j < 21) : j = 0 ∨ j = 1 ∨ j = 2 ∨ j = 3 ∨ j = 4 ∨ j = 5 ∨ j = 6 ∨ j = 7 ∨ j = 8 ∨ j = 9 ∨ j = 10 ∨ j = 11 ∨ j = 12 ∨ j = 13 ∨ j = 14 ∨ j = 15 ∨ j = 16 ∨ j = 17 ∨ j = 18 ∨ j = 19 ∨ j = 20 := by omega
theorem plain_raw (w0 : World) (t : Int) (name text display : Bytes) (u : LUri) (params : BKVs) (num : Int) (proto version transport host : Bytes) (port : Int) (cs : List Value) (w : World) (ht : 0 ≤ t ∧ t ≤ 14) (hH : LHx w0 w ⟨t, name, text, display, u, params, num, proto, version, transport, host, port⟩ cs) (hw : Sub w0 w) : Calls Tryz.prog 23 #[.agg cs.toArray] w (PHP w0 (plainH ⟨t, name, text, display, u, params, num, proto, version, transport, host, port⟩) w) := by
 obtain ⟨a, b, c, ul0, p, d, e, f, g, rfl, ha, hb, hc, hu, hp, hd, he, hf, hg, ht64, hnum, hport⟩ := hH
 have HLU := hid hu
 obtain ⟨u0, u1, u4, u5, u6, u8, u9, rfl, q0, q1, q4, q5, q6, q8, q9, q7⟩ := hu
 dsimp only at *
 simp only [List.cons_append, List.nil_append]
 have HX := hid (And.intro ha (And.intro hb (And.intro hc (And.intro hp (And.intro hd (And.intro he (And.intro hf hg)))))))
 have HN := hid (And.intro ht64 (And.intro hnum hport))
 have HW0 := hid hw
 have HT := hid ht
 clear ht
 have HO := hid (show a.oneCell' = true ∧ b.oneCell' = true ∧ c.oneCell' = true ∧ p.oneCell' = true ∧ d.oneCell' = true ∧ e.oneCell' = true ∧ f.oneCell' = true ∧ g.oneCell' = true ∧ u0.oneCell' = true ∧ u1.oneCell' = true ∧ u4.oneCell' = true ∧ u5.oneCell' = true ∧ u6.oneCell' = true ∧ u8.oneCell' = true ∧ u9.oneCell' = true from ⟨ha.one, hb.one, hc.one, hp.one, hd.one, he.one, hf.one, hg.one, q0.one, q1.one, q4.one, q5.one, q6.one, q8.one, q9.one⟩)
 obtain ⟨Aa, ca, rfl⟩ := ha.form
 obtain ⟨Ab, cb, rfl⟩ := hb.form
 obtain ⟨Ac, cc, rfl, -⟩ := hc.form
 obtain ⟨Ap, cp, rfl, -⟩ := hp.form
 obtain ⟨Ad, cd, rfl, -⟩ := hd.form
 obtain ⟨Ae, ce, rfl, -⟩ := he.form
 obtain ⟨Af, cf, rfl, -⟩ := hf.form
 obtain ⟨Ag, cg, rfl, -⟩ := hg.form
 clear ha hb hc hp hd he hf hg ht64 hnum hport hw q0 q1 q4 q5 q6 q7 q8 q9
 obtain ⟨wb, hwb⟩ : ∃ wb, wb = (w.alloc (.cells #[.int .i64 t, .slice Aa name.length ca, .slice Ab text.length cb, .slice Ac display.length cc, u0, u1, .bool u.star, .bool u.slashes, u4, u5, u6, .int .i64 u.port, u8, u9, .slice Ap params.length cp, .int .u32 num, .slice Ad proto.length cd, .slice Ae version.length ce, .slice Af transport.length cf, .slice Ag host.length cg, .int .i64 port] 35)).alloc (.cells #[.int .i64 0, .slice none 0 0, .slice none 0 0, .slice none 0 0, .slice none 0 0, .slice none 0 0, .bool false, .bool false, .slice none 0 0, .slice none 0 0, .slice none 0 0, .int .i64 0, .slice none 0 0, .slice none 0 0, .slice none 0 0, .int .u32 0, .slice none 0 0, .slice none 0 0, .slice none 0 0, .slice none 0 0, .int .i64 0] 35) := ⟨_, rfl⟩
 have HWB1 := hid (show wb.heap[w.heap.size]? = some (.cells ([.int .i64 t, .slice Aa name.length ca, .slice Ab text.length cb, .slice Ac display.length cc, u0, u1, .bool u.star, .bool u.slashes, u4, u5, u6, .int .i64 u.port, u8, u9, .slice Ap params.length cp, .int .u32 num, .slice Ad proto.length cd, .slice Ae version.length ce, .slice Af transport.length cf, .slice Ag host.length cg, .int .i64 port] : List Value).toArray 35 (0, 0)) by rw [hwb]; exact ((Below.refl _ _).alloc (Nat.le_refl _) _).block w.heap.size (by simp) |>.trans (heap_alloc_new w _))
 have HWB2 := hid (show wb.heap[w.heap.size + 1]? = some (.cells ([.int .i64 0, .slice none 0 0, .slice none 0 0, .slice none 0 0, .slice none 0 0, .slice none 0 0, .bool false, .bool false, .slice none 0 0, .slice none 0 0, .slice none 0 0, .int .i64 0, .slice none 0 0, .slice none 0 0, .slice none 0 0, .int .u32 0, .slice none 0 0, .slice none 0 0, .slice none 0 0, .slice none 0 0, .int .i64 0] : List Value).toArray 35 (0, 0)) by rw [hwb]; have := heap_alloc_new (w.alloc (.cells #[.int .i64 t, .slice Aa name.length ca, .slice Ab text.length cb, .slice Ac display.length cc, u0, u1, .bool u.star, .bool u.slashes, u4, u5, u6, .int .i64 u.port, u8, u9, .slice Ap params.length cp, .int .u32 num, .slice Ad proto.length cd, .slice Ae version.length ce, .slice Af transport.length cf, .slice Ag host.length cg, .int .i64 port] 35)) (.cells #[.int .i64 0, .slice none 0 0, .slice none 0 0, .slice none 0 0, .slice none 0 0, .slice none 0 0, .bool false, .bool false, .slice none 0 0, .slice none 0 0, .slice none 0 0, .int .i64 0, .slice none 0 0, .slice none 0 0, .slice none 0 0, .int .u32 0, .slice none 0 0, .slice none 0 0, .slice none 0 0, .slice none 0 0, .int .i64 0] 35); rwa [World.size_alloc] at this)
 have HB0 := hid (show Below w.heap.size w wb by rw [hwb]; exact ((Below.refl _ w).alloc (Nat.le_refl _) _).alloc (by simp) _)
 have HSZ := hid (show wb.heap.size = w.heap.size + 2 by rw [hwb]; simp)
 have HNM := hid (show ((⟨(nameS t).toArray⟩ : ByteArray).size ≤ 70368744177664) from by rw [sz]; have := nameS_len t; omega)
 go_enter Tryz.func23, Tryz.ntmps23
 go_wp2_with fail
 rw [← hwb]
 generalize Value.agg #[.int .i64 t, .slice Aa name.length ca, .slice Ab text.length cb, .slice Ac display.length cc, u0, u1, .bool u.star, .bool u.slashes, u4, u5, u6, .int .i64 u.port, u8, u9, .slice Ap params.length cp, .int .u32 num, .slice Ad proto.length cd, .slice Ae version.length ce, .slice Af transport.length cf, .slice Ag host.length cg, .int .i64 port] = arg0
 clear hwb
 refine wp_region_grow 8 (CK wb.heap.size) (IW wb)
  (fun i v w' => match i with
   | 0 => v = .pointer (some ⟨w.heap.size, 0, none⟩)
   | 1 => v = .int .i64 t
   | 2 => v = .pointer (some ⟨w.heap.size, 0, none⟩)
   | 3 => v = .int .i64 t
   | 4 => v = .string ⟨(nameS t).toArray⟩
   | 5 => SBf w0.heap.size w' v (nameS t)
   | 6 => ∃ nm, v = .agg #[.int .i64 t, nm, .slice none 0 0, .slice none 0 0, .slice none 0 0, .slice none 0 0, .bool false, .bool false, .slice none 0 0, .slice none 0 0, .slice none 0 0, .int .i64 0, .slice none 0 0, .slice none 0 0, .slice none 0 0, .int .u32 0, .slice none 0 0, .slice none 0 0, .slice none 0 0, .slice none 0 0, .int .i64 0] ∧ SBf w0.heap.size w' nm (nameS t)
   | 7 => ∃ g, wb.heap.size ≤ g ∧ v = .pointer (some ⟨g, 0, none⟩) ∧ w'.heap[g]? = some (.cells ([.int .i64 0, .slice none 0 0, .slice none 0 0, .slice none 0 0, .slice none 0 0, .slice none 0 0, .bool false, .bool false, .slice none 0 0, .slice none 0 0, .slice none 0 0, .int .i64 0, .slice none 0 0, .slice none 0 0, .slice none 0 0, .int .u32 0, .slice none 0 0, .slice none 0 0, .slice none 0 0, .slice none 0 0, .int .i64 0] : List Value).toArray 35 (0, 0))
   | _ => True)
  [[], [0], [], [2], [3], [4], [1, 5], []] rfl (by kernel_rfl) (by kernel_rfl) (fun _ _ => IW.step) ?_ ?_ ?_ ?_
 ·intro j hj v w'
  match j, hj with
  | j + 8, _ => trivial
 ·exact CK.of_below (Below.refl _ _).drew (Nat.le_refl _)
 ·simp only [List.take_succ_cons, List.take_zero, fillAll]
  have c0 := row_at HWB1.out 0 _ rfl
  refine ⟨⟨?_, ?_⟩, ⟨?_, ?_⟩, ⟨?_, ?_⟩, ⟨?_, ?_⟩, ⟨?_, ?_⟩, ⟨?_, ?_⟩, ⟨?_, ?_⟩, ⟨?_, ?_⟩, trivial⟩
  ·exact fun v w1 w2 h k => h
  ·intro vals w1 hI hd
   unfold GStep
   go_wp2
   exact CK.refl _ _
  ·exact fun v w1 w2 h k => h
  ·intro vals w1 hI hd
   have h1 : vals 0 = _ := hd.1
   have dc0 := hI.cell c0
   unfold GStep
   go_wp2
   exact CK.refl _ _
  ·exact fun v w1 w2 h k => h
  ·intro vals w1 hI hd
   unfold GStep
   go_wp2
   exact CK.refl _ _
  ·exact fun v w1 w2 h k => h
  ·intro vals w1 hI hd
   have h1 : vals 2 = _ := hd.1
   have dc0 := hI.cell c0
   unfold GStep
   go_wp2
   exact CK.refl _ _
  ·exact fun v w1 w2 h k => h
  ·intro vals w1 hI hd
   have h1 : vals 3 = _ := hd.1
   unfold GStep
   go_wp2_with (go_at_call 50; refine (nameof_any t _).mono ?_; rintro e w2 ⟨rfl, rfl⟩)
   exact CK.refl _ _
  ·exact fun v w1 w2 h k => SBf.ku h k.ku
  ·intro vals w1 hI hd
   have h4 : vals 4 = _ := hd.1
   have hr := Lib.run_convert_string_bytes (P := Tryz.prog) w1 9 22 5 ⟨(nameS t).toArray⟩ Tryz.underlying9 Tryz.underlying22 Tryz.underlying5
   have X := hid (conv_sbf w0.heap.size w1 ⟨(nameS t).toArray⟩ HNM.out (Nat.le_trans (Nat.le_trans HW0.out.size (by have := HSZ.out; omega)) hI.size))
   unfold GStep
   go_wp2
   exact ⟨CK.of_below X.out.2 hI.size, X.out.1⟩
  ·rintro v w1 w2 ⟨nm, h1, h2⟩ k
   exact ⟨nm, h1, h2.ku k.ku⟩
  ·intro vals w1 hI hd
   have h1 : vals 1 = _ := hd.1
   have h5 : SBf w0.heap.size w1 (vals 5) _ := hd.2.1
   clear hd
   unfold GStep
   dsimp only
   generalize vals 5 = x5 at h5 ⊢
   have H5 := hid h5
   obtain ⟨k5, cap5, cs5, fz5, rfl, -⟩ := h5
   go_wp2
   first | exact ⟨CK.refl _ _, _, rfl, H5.out⟩ | exact ⟨CK.refl _ _, H5.out⟩
  ·rintro v w1 w2 ⟨k, h1, h2, h3⟩ h
   exact ⟨k, h1, h2, h.same h3 (by decide)⟩
  ·intro vals w1 hI hd
   unfold GStep
   go_wp2
   first | exact ⟨CK.new hI.size _, _, hI.size, rfl, heap_alloc_new w1 _⟩ | exact ⟨CK.new hI.size _, hI.size, heap_alloc_new w1 _⟩
 ·intro vals w1 hI hR
  simp only [List.drop_succ_cons, List.drop_zero, List.take_succ_cons, List.take_zero, fillAll]
  obtain ⟨-, -, -, -, -, -, r6, r7, -⟩ := hR
  generalize vals 6 = x6 at r6 ⊢
  generalize vals 7 = x7 at r7 ⊢
  obtain ⟨nm, rfl, hnm⟩ := r6
  obtain ⟨k, hk, rfl, hg7⟩ := r7
  have NM1 := hid hnm
  have onm := hnm.x (w0 := w0) |>.one
  have HB1 := hid ((hI.below.block w.heap.size (by have := HSZ.out; omega)).trans HWB1.out)
  have HB2 := hid ((hI.below.block (w.heap.size + 1) (by have := HSZ.out; omega)).trans HWB2.out)
  have HBW := hid (HB0.out.trans (hI.below.mono (by have := HSZ.out; omega)))
  have HK := hid (show w.heap.size + 1 < k by have := HSZ.out; omega)
  have HG7 := hid hg7
  have hone : ([.int .i64 t, nm, .slice none 0 0, .slice none 0 0, .slice none 0 0, .slice none 0 0, .bool false, .bool false, .slice none 0 0, .slice none 0 0, .slice none 0 0, .int .i64 0, .slice none 0 0, .slice none 0 0, .slice none 0 0, .int .u32 0, .slice none 0 0, .slice none 0 0, .slice none 0 0, .slice none 0 0, .int .i64 0] : List Value).all (·.oneCell') = true := by simp only [List.all_cons, List.all_nil, onm]; rfl
  have HONE := hid hone
  clear hone onm hnm hk hg7 hI
  go_simp
  go_upto_region 2 with (refine wpList_store_blk (by rfl) 35 (.tmp 3) (.tmp 10) (by rfl) k 35 _ _ (by rfl) (by rfl) (by rfl) HG7.out 21 head_size (by rfl) HONE.out ?_; intro W2 hst2)
  have NM2 := hid (NM1.out.ku (hst2.ku (N := 0) (Nat.zero_le _) HG7.out (by decide)))
  have HG2 := hid hst2.blk
  have HB21 := hid ((hst2.other w.heap.size (by have := HK.out; omega)).trans HB1.out)
  have HB22 := hid ((hst2.other (w.heap.size + 1) (by have := HK.out; omega)).trans HB2.out)
  have HBW2 := hid (HBW.out.trans (hst2.below.mono (by have := HK.out; omega)))
  clear hst2
  have c0 := row_at HB21.out 0 _ rfl
  by_cases hA : addrB t = true
  ·have hz : t ≠ 0 := fun e => by rw [e] at hA; cases hA
   have HE := hid (show ({ baseH t with display := display, uri := u, params := params } : LHead) = plainH ⟨t, name, text, display, u, params, num, proto, version, transport, host, port⟩ by rw [plainH, if_neg hz, if_pos hA])
   have h0 := sort_ne0 hz
   have Faddr := hid hA
   clear hz hA
   have c3 := row_at HB21.out 3 _ rfl
   have c4 := row_at HB21.out 4 _ rfl
   have c5 := row_at HB21.out 5 _ rfl
   have c6 := row_at HB21.out 6 _ rfl
   have c7 := row_at HB21.out 7 _ rfl
   have c8 := row_at HB21.out 8 _ rfl
   have c9 := row_at HB21.out 9 _ rfl
   have c10 := row_at HB21.out 10 _ rfl
   have c11 := row_at HB21.out 11 _ rfl
   have c12 := row_at HB21.out 12 _ rfl
   have c13 := row_at HB21.out 13 _ rfl
   have c14 := row_at HB21.out 14 _ rfl
   have HFaddr := hid (show ∀ wx, Calls Tryz.prog 51 #[.int .i64 t] wx fun e w' => e = .returned (.bool true) ∧ wx = w' from fun wx => (isaddressed_any t wx).mono (fun e w' h => ⟨by rw [h.1, show addrB t = true from Faddr.out], h.2.symm⟩))
   go_wp2_with (first | (go_at_call 51; refine (HFaddr.out _).mono ?_; rintro e w3 ⟨rfl, rfl⟩) | fail)
   refine wp_region_grow 11 (CG k 35 [.int .i64 t, nm, .slice none 0 0, .slice Ac display.length cc, u0, u1, .bool u.star, .bool u.slashes, u4, u5, u6, .int .i64 u.port, u8, u9, .slice Ap params.length cp, .int .u32 0, .slice none 0 0, .slice none 0 0, .slice none 0 0, .slice none 0 0, .int .i64 0]) (CG k 35 [.int .i64 t, nm, .slice none 0 0, .slice Ac display.length cc, u0, u1, .bool u.star, .bool u.slashes, u4, u5, u6, .int .i64 u.port, u8, u9, .slice Ap params.length cp, .int .u32 0, .slice none 0 0, .slice none 0 0, .slice none 0 0, .slice none 0 0, .int .i64 0] W2)
    (fun i v w' => match i with
     | 0 => v = .pointer (some ⟨w.heap.size, 3, none⟩)
     | 1 => v = .slice Ac display.length cc
     | 2 => v = .pointer (some ⟨w.heap.size, 4, none⟩)
     | 3 => v = .agg #[u0, u1, .bool u.star, .bool u.slashes, u4, u5, u6, .int .i64 u.port, u8, u9]
     | 4 => v = .pointer (some ⟨w.heap.size, 14, none⟩)
     | 5 => v = .slice Ap params.length cp
     | 6 => v = .pointer (some ⟨k, 3, none⟩)
     | 7 => Wr k 35 [.int .i64 t, nm, .slice none 0 0, .slice Ac display.length cc, u0, u1, .bool u.star, .bool u.slashes, u4, u5, u6, .int .i64 u.port, u8, u9, .slice Ap params.length cp, .int .u32 0, .slice none 0 0, .slice none 0 0, .slice none 0 0, .slice none 0 0, .int .i64 0] 3 w'
     | 8 => v = .pointer (some ⟨k, 4, none⟩)
     | 9 => ∀ i, i < 10 → Wr k 35 [.int .i64 t, nm, .slice none 0 0, .slice Ac display.length cc, u0, u1, .bool u.star, .bool u.slashes, u4, u5, u6, .int .i64 u.port, u8, u9, .slice Ap params.length cp, .int .u32 0, .slice none 0 0, .slice none 0 0, .slice none 0 0, .slice none 0 0, .int .i64 0] (4 + i) w'
     | 10 => v = .pointer (some ⟨k, 14, none⟩)
     | _ => True)
    [[], [0], [], [2], [], [4], [], [6, 1], [], [8, 3], []] rfl (by kernel_rfl) (by kernel_rfl) (fun _ _ h k => h.trans k) ?_ ?_ ?_ ?_
   ·intro j hj v w'
    match j, hj with
    | j + 11, _ => trivial
   ·exact CG.of_below (Below.refl _ _).drew (heap_lt HG2.out)
   ·simp only [List.take_succ_cons, List.take_zero, fillAll]
    refine ⟨⟨?_, ?_⟩, ⟨?_, ?_⟩, ⟨?_, ?_⟩, ⟨?_, ?_⟩, ⟨?_, ?_⟩, ⟨?_, ?_⟩, ⟨?_, ?_⟩, ⟨?_, ?_⟩, ⟨?_, ?_⟩, ⟨?_, ?_⟩, ⟨?_, ?_⟩, trivial⟩
    ·exact fun v w1 w2 h k => h
    ·intro vals w1 hI hd
     unfold GStep
     go_wp2
     exact CG.refl _ _ _ _
    ·exact fun v w1 w2 h k => h
    ·intro vals w1 hI hd
     have h1 : vals 0 = _ := hd.1
     have d3 := row_at ((hI.1.block w.heap.size (by have := HK.out; omega)).trans HB21.out) 3 _ rfl
     unfold GStep
     go_wp2
     exact CG.refl _ _ _ _
    ·exact fun v w1 w2 h k => h
    ·intro vals w1 hI hd
     unfold GStep
     go_wp2
     exact CG.refl _ _ _ _
    ·exact fun v w1 w2 h k => h
    ·intro vals w1 hI hd
     have h1 : vals 2 = _ := hd.1
     have d4 := row_at ((hI.1.block w.heap.size (by have := HK.out; omega)).trans HB21.out) 4 _ rfl
     have d5 := row_at ((hI.1.block w.heap.size (by have := HK.out; omega)).trans HB21.out) 5 _ rfl
     have d6 := row_at ((hI.1.block w.heap.size (by have := HK.out; omega)).trans HB21.out) 6 _ rfl
     have d7 := row_at ((hI.1.block w.heap.size (by have := HK.out; omega)).trans HB21.out) 7 _ rfl
     have d8 := row_at ((hI.1.block w.heap.size (by have := HK.out; omega)).trans HB21.out) 8 _ rfl
     have d9 := row_at ((hI.1.block w.heap.size (by have := HK.out; omega)).trans HB21.out) 9 _ rfl
     have d10 := row_at ((hI.1.block w.heap.size (by have := HK.out; omega)).trans HB21.out) 10 _ rfl
     have d11 := row_at ((hI.1.block w.heap.size (by have := HK.out; omega)).trans HB21.out) 11 _ rfl
     have d12 := row_at ((hI.1.block w.heap.size (by have := HK.out; omega)).trans HB21.out) 12 _ rfl
     have d13 := row_at ((hI.1.block w.heap.size (by have := HK.out; omega)).trans HB21.out) 13 _ rfl
     unfold GStep
     go_wp2
     exact CG.refl _ _ _ _
    ·exact fun v w1 w2 h k => h
    ·intro vals w1 hI hd
     unfold GStep
     go_wp2
     exact CG.refl _ _ _ _
    ·exact fun v w1 w2 h k => h
    ·intro vals w1 hI hd
     have h1 : vals 4 = _ := hd.1
     have d14 := row_at ((hI.1.block w.heap.size (by have := HK.out; omega)).trans HB21.out) 14 _ rfl
     unfold GStep
     go_wp2
     exact CG.refl _ _ _ _
    ·exact fun v w1 w2 h k => h
    ·intro vals w1 hI hd
     unfold GStep
     go_wp2
     exact CG.refl _ _ _ _
    ·exact fun v w1 w2 h k => h.cg k
    ·intro vals w1 hI hd
     have h1 : vals 6 = _ := hd.1
     have h2 : vals 1 = _ := hd.2.1
     obtain ⟨l, hl, hlen, -⟩ := hI.2.2 ([.int .i64 t, nm, .slice none 0 0, .slice none 0 0, .slice none 0 0, .slice none 0 0, .bool false, .bool false, .slice none 0 0, .slice none 0 0, .slice none 0 0, .int .i64 0, .slice none 0 0, .slice none 0 0, .slice none 0 0, .int .u32 0, .slice none 0 0, .slice none 0 0, .slice none 0 0, .slice none 0 0, .int .i64 0] : List Value) HG2.out
     have f0 := blk_frozen hl 3
     have g0 : ∃ x, w1.cell? ⟨k, 3, none⟩ = some x := ⟨l[3]'(by rw [hlen]; simp), row_at hl 3 _ (List.getElem?_eq_getElem _)⟩
     obtain ⟨x, g0⟩ := g0
     have X := hid (CG.set (tgt := [.int .i64 t, nm, .slice none 0 0, .slice Ac display.length cc, u0, u1, .bool u.star, .bool u.slashes, u4, u5, u6, .int .i64 u.port, u8, u9, .slice Ap params.length cp, .int .u32 0, .slice none 0 0, .slice none 0 0, .slice none 0 0, .slice none 0 0, .int .i64 0]) hl 3 (.slice Ac display.length cc : Value) rfl (by rw [hlen]; simp))
     clear hlen hl
     unfold GStep
     go_wp2
     exact X.out
    ·exact fun v w1 w2 h k => h
    ·intro vals w1 hI hd
     unfold GStep
     go_wp2
     exact CG.refl _ _ _ _
    ·exact fun v w1 w2 h k i hi => (h i hi).cg k
    ·intro vals w1 hI hd
     have h1 : vals 8 = _ := hd.1
     have h2 : vals 3 = _ := hd.2.1
     obtain ⟨l, hl, hlen, -⟩ := hI.2.2 ([.int .i64 t, nm, .slice none 0 0, .slice none 0 0, .slice none 0 0, .slice none 0 0, .bool false, .bool false, .slice none 0 0, .slice none 0 0, .slice none 0 0, .int .i64 0, .slice none 0 0, .slice none 0 0, .slice none 0 0, .int .u32 0, .slice none 0 0, .slice none 0 0, .slice none 0 0, .slice none 0 0, .int .i64 0] : List Value) HG2.out
     have hl2 : l = l.take 4 ++ (l.drop 4).take 10 ++ l.drop (4 + 10) := by rw [List.append_assoc, ← List.drop_drop, List.take_append_drop, List.take_append_drop]
     have HS1 := hid (show (l.take 4).length = 4 by rw [List.length_take, hlen]; rfl)
     have HS2 := hid (show ((l.drop 4).take 10).length = ([u0, u1, .bool u.star, .bool u.slashes, u4, u5, u6, .int .i64 u.port, u8, u9] : List Value).length by rw [List.length_take, List.length_drop, hlen]; rfl)
     have HL := hid (show w1.heap[k]? = some (.cells (l.take 4 ++ (l.drop 4).take 10 ++ l.drop (4 + 10)).toArray 35 (0, 0)) from hl2 ▸ hl)
     have HOU := hid (LU.one HLU.out)
     have HLN := hid hlen
     have HHL := hid hl
     clear hlen hl hl2
     unfold GStep
     dsimp only
     rw [h1, h2]
     go_simp
     refine wpList_store_part (by rfl) 25 (.tmp 32) (.tmp 28) (by rfl) k 4 35 _ _ _ [u0, u1, .bool u.star, .bool u.slashes, u4, u5, u6, .int .i64 u.port, u8, u9] (by rfl) (by rfl) HS2.out HS1.out.symm HL.out 10 uri_size rfl HOU.out ?_
     intro w2 hst
     have X := hid (CG.part (tgt := [.int .i64 t, nm, .slice none 0 0, .slice Ac display.length cc, u0, u1, .bool u.star, .bool u.slashes, u4, u5, u6, .int .i64 u.port, u8, u9, .slice Ap params.length cp, .int .u32 0, .slice none 0 0, .slice none 0 0, .slice none 0 0, .slice none 0 0, .int .i64 0]) (cells := [u0, u1, .bool u.star, .bool u.slashes, u4, u5, u6, .int .i64 u.port, u8, u9]) HHL.out hst (by rw [HLN.out]; simp) (fun i hi => by
      match i, hi with
      | 0, _ => rfl
      | 1, _ => rfl
      | 2, _ => rfl
      | 3, _ => rfl
      | 4, _ => rfl
      | 5, _ => rfl
      | 6, _ => rfl
      | 7, _ => rfl
      | 8, _ => rfl
      | 9, _ => rfl
      | i + 10, hi => exact absurd hi (by simp)))
     go_wp2
     exact X.out
    ·exact fun v w1 w2 h k => h
    ·intro vals w1 hI hd
     unfold GStep
     go_wp2
     exact CG.refl _ _ _ _
   ·intro vals w1 hI hR
    simp only [List.drop_succ_cons, List.drop_zero, List.take_succ_cons, List.take_zero, fillAll]
    obtain ⟨-, -, -, -, -, rv, -, z3, -, z4, ra, -⟩ := hR
    have ea : vals 10 = _ := ra
    have ev : vals 5 = _ := rv
    rw [ea, ev]
    clear ea ev ra rv
    have HI := hid hI
    have HWR := hid (show ∀ j ∈ ([3, 4, 5, 6, 7, 8, 9, 10, 11, 12, 13] : List Nat), Wr k 35 [.int .i64 t, nm, .slice none 0 0, .slice Ac display.length cc, u0, u1, .bool u.star, .bool u.slashes, u4, u5, u6, .int .i64 u.port, u8, u9, .slice Ap params.length cp, .int .u32 0, .slice none 0 0, .slice none 0 0, .slice none 0 0, .slice none 0 0, .int .i64 0] j w1 from fun j hj => by
     simp only [List.mem_cons, List.not_mem_nil, or_false] at hj
     rcases hj with rfl | rfl | rfl | rfl | rfl | rfl | rfl | rfl | rfl | rfl | rfl
     ·exact z3
     ·exact z4 0 (by decide)
     ·exact z4 1 (by decide)
     ·exact z4 2 (by decide)
     ·exact z4 3 (by decide)
     ·exact z4 4 (by decide)
     ·exact z4 5 (by decide)
     ·exact z4 6 (by decide)
     ·exact z4 7 (by decide)
     ·exact z4 8 (by decide)
     ·exact z4 9 (by decide))
    have HST := hid (CG.done (tgt := [.int .i64 t, nm, .slice none 0 0, .slice Ac display.length cc, u0, u1, .bool u.star, .bool u.slashes, u4, u5, u6, .int .i64 u.port, u8, u9, .slice Ap params.length cp, .int .u32 0, .slice none 0 0, .slice none 0 0, .slice none 0 0, .slice none 0 0, .int .i64 0]) HI.out HG2.out [3, 4, 5, 6, 7, 8, 9, 10, 11, 12, 13] HWR.out 14 (.slice Ap params.length cp : Value) rfl rfl (fun j h1 h2 h3 => by
     rcases tab21 j h1 with rfl | rfl | rfl | rfl | rfl | rfl | rfl | rfl | rfl | rfl | rfl | rfl | rfl | rfl | rfl | rfl | rfl | rfl | rfl | rfl | rfl <;> first | rfl | exact absurd rfl h3 | exact absurd (by decide) h2))
    obtain ⟨l, hl, hlen, -⟩ := HI.out.2.2 ([.int .i64 t, nm, .slice none 0 0, .slice none 0 0, .slice none 0 0, .slice none 0 0, .bool false, .bool false, .slice none 0 0, .slice none 0 0, .slice none 0 0, .int .i64 0, .slice none 0 0, .slice none 0 0, .slice none 0 0, .int .u32 0, .slice none 0 0, .slice none 0 0, .slice none 0 0, .slice none 0 0, .int .i64 0] : List Value) HG2.out
    have HGL := hid hl
    have f0 := blk_frozen hl 14
    have g0 : ∃ x, w1.cell? ⟨k, 14, none⟩ = some x := ⟨l[14]'(by rw [hlen]; simp), row_at hl 14 _ (List.getElem?_eq_getElem _)⟩
    obtain ⟨x, g0⟩ := g0
    have HZ1 := hid ((HI.out.1.block (w.heap.size + 1) (by have := HK.out; omega)).trans HB22.out)
    obtain ⟨W3, hW3⟩ : ∃ W3, W3 = w1.setCell ⟨k, 14, none⟩ (.slice Ap params.length cp : Value) := ⟨_, rfl⟩
    rw [← hW3] at HST
    have HW3 := hid hW3
    clear hW3 hl hlen hI z3 z4 c0 c3 c4 c5 c6 c7 c8 c9 c10 c11 c12 c13 c14
    have HROW := hid HST.out.blk
    have HZ3 := hid ((HST.out.other (w.heap.size + 1) (by have := HK.out; omega)).trans HZ1.out)
    have NM3 := hid ((NM2.out.ku (HI.out.ku (N := 0) (Nat.zero_le _) HG2.out (by decide))).ku (HST.out.ku (N := 0) (Nat.zero_le _) HGL.out (by decide)))
    have HBW3 := hid (HBW2.out.trans ((HI.out.1.mono (by have := HK.out; omega)).trans (HST.out.below.mono (by have := HK.out; omega))))
    have HONE3 := hid (show ([.int .i64 t, nm, .slice none 0 0, .slice Ac display.length cc, u0, u1, .bool u.star, .bool u.slashes, u4, u5, u6, .int .i64 u.port, u8, u9, .slice Ap params.length cp, .int .u32 0, .slice none 0 0, .slice none 0 0, .slice none 0 0, .slice none 0 0, .int .i64 0] : List Value).all (·.oneCell') = true by
     obtain ⟨onm2, oa, ob, oc, op, od, oe, of, og, o0, o1, o4, o5, o6, o8, o9⟩ := And.intro (SBf.x (w0 := w0) NM3.out).one HO.out
     simp only [List.all_cons, List.all_nil, onm2, oa, ob, oc, op, od, oe, of, og, o0, o1, o4, o5, o6, o8, o9]
     rfl)
    go_simp
    go_upto_region 16 with fail
    rw [← HW3.out]
    clear HW3 g0 f0
    have HLX := hid (show ∀ wz, KU 0 W3 wz → LHx w0 wz (plainH ⟨t, name, text, display, u, params, num, proto, version, transport, host, port⟩) [.int .i64 t, nm, .slice none 0 0, .slice Ac display.length cc, u0, u1, .bool u.star, .bool u.slashes, u4, u5, u6, .int .i64 u.port, u8, u9, .slice Ap params.length cp, .int .u32 0, .slice none 0 0, .slice none 0 0, .slice none 0 0, .slice none 0 0, .int .i64 0] from fun wz hz => HE.out ▸ (show LHx w0 wz { baseH t with display := display, uri := u, params := params } [.int .i64 t, nm, .slice none 0 0, .slice Ac display.length cc, u0, u1, .bool u.star, .bool u.slashes, u4, u5, u6, .int .i64 u.port, u8, u9, .slice Ap params.length cp, .int .u32 0, .slice none 0 0, .slice none 0 0, .slice none 0 0, .slice none 0 0, .int .i64 0] from ⟨nm, .slice none 0 0, .slice Ac display.length cc, [u0, u1, .bool u.star, .bool u.slashes, u4, u5, u6, .int .i64 u.port, u8, u9], .slice Ap params.length cp, .slice none 0 0, .slice none 0 0, .slice none 0 0, .slice none 0 0, rfl, .inr (NM3.out.ku hz), .inl (SB.nil _), HX.out.2.2.1, HLU.out, HX.out.2.2.2.1, SB.nil _, SB.nil _, SB.nil _, SB.nil _, HN.out.1, ⟨(by show (0 : Int) ≤ 0; omega), (by show (0 : Int) < 4294967296; omega)⟩, (by show I64 0; unfold I64; omega)⟩))
    go_wp2_with (first
     | (refine wpList_load_blk (by rfl) 35 (.tmp 3) (by rfl) k 35 (0, 0) _ (by rfl) HROW.out _ Tryz.underlying35 rfl 21 head_size rfl ?_)
     | (refine wpList_store_blk (by rfl) 35 (.tmp 2) (.tmp 92) (by rfl) (w.heap.size + 1) 35 _ _ (by rfl) (by rfl) (by rfl) HZ3.out 21 head_size (by rfl) HONE3.out ?_; intro W4 hst4; have HST4 := hid hst4; clear hst4))
    exact ret_cell 2 35 ⟨(w.heap.size + 1), 0, none⟩ _ _ rfl rfl (row_cells HST4.out.blk) Tryz.underlying35 rfl 21 head_size rfl rfl ⟨_, rfl, HLX.out _ (HST4.out.ku (Nat.zero_le _) HZ3.out (by decide)), HBW3.out.trans (HST4.out.below.mono (by omega))⟩
  ·have hA' : addrB t = false := by simpa using hA
   by_cases hR : routB t = true
   ·have hz : t ≠ 0 := fun e => by rw [e] at hR; cases hR
    have HE := hid (show ({ baseH t with uri := u } : LHead) = plainH ⟨t, name, text, display, u, params, num, proto, version, transport, host, port⟩ by rw [plainH, if_neg hz, if_neg hA, if_pos hR])
    have h0 := sort_ne0 hz
    have Faddr := hid hA'
    have Frout := hid hR
    clear hz hR hA hA'
    have c4 := row_at HB21.out 4 _ rfl
    have c5 := row_at HB21.out 5 _ rfl
    have c6 := row_at HB21.out 6 _ rfl
    have c7 := row_at HB21.out 7 _ rfl
    have c8 := row_at HB21.out 8 _ rfl
    have c9 := row_at HB21.out 9 _ rfl
    have c10 := row_at HB21.out 10 _ rfl
    have c11 := row_at HB21.out 11 _ rfl
    have c12 := row_at HB21.out 12 _ rfl
    have c13 := row_at HB21.out 13 _ rfl
    have HFaddr := hid (show ∀ wx, Calls Tryz.prog 51 #[.int .i64 t] wx fun e w' => e = .returned (.bool false) ∧ wx = w' from fun wx => (isaddressed_any t wx).mono (fun e w' h => ⟨by rw [h.1, show addrB t = false from Faddr.out], h.2.symm⟩))
    have HFrout := hid (show ∀ wx, Calls Tryz.prog 52 #[.int .i64 t] wx fun e w' => e = .returned (.bool true) ∧ wx = w' from fun wx => (isrouted_any t wx).mono (fun e w' h => ⟨by rw [h.1, show routB t = true from Frout.out], h.2.symm⟩))
    have HZ1 := hid HB22.out
    have HGL := hid HG2.out
    have HOU := hid (LU.one HLU.out)
    go_upto_region 16 with (first | (go_at_call 51; refine (HFaddr.out _).mono ?_; rintro e w3 ⟨rfl, rfl⟩) | (go_at_call 52; refine (HFrout.out _).mono ?_; rintro e w3 ⟨rfl, rfl⟩) | (refine wpList_store_part (by rfl) 25 (.tmp 40) (.tmp 39) (by rfl) k 4 35 [.int .i64 t, nm, .slice none 0 0, .slice none 0 0] [.slice none 0 0, .slice none 0 0, .bool false, .bool false, .slice none 0 0, .slice none 0 0, .slice none 0 0, .int .i64 0, .slice none 0 0, .slice none 0 0] [.slice none 0 0, .int .u32 0, .slice none 0 0, .slice none 0 0, .slice none 0 0, .slice none 0 0, .int .i64 0] [u0, u1, .bool u.star, .bool u.slashes, u4, u5, u6, .int .i64 u.port, u8, u9] (by rfl) (by rfl) rfl rfl HG2.out 10 uri_size rfl HOU.out ?_; intro W3 hst3; have HST := hid (show Stored k 35 [.int .i64 t, nm, .slice none 0 0, .slice none 0 0, u0, u1, .bool u.star, .bool u.slashes, u4, u5, u6, .int .i64 u.port, u8, u9, .slice none 0 0, .int .u32 0, .slice none 0 0, .slice none 0 0, .slice none 0 0, .slice none 0 0, .int .i64 0] W2 W3 from hst3); clear hst3) | fail)
    clear c0 c4 c5 c6 c7 c8 c9 c10 c11 c12 c13
    have HROW := hid HST.out.blk
    have HZ3 := hid ((HST.out.other (w.heap.size + 1) (by have := HK.out; omega)).trans HZ1.out)
    have NM3 := hid ((NM2.out.ku (KU.refl 0 _)).ku (HST.out.ku (N := 0) (Nat.zero_le _) HGL.out (by decide)))
    have HBW3 := hid (HBW2.out.trans ((Below.refl _ _).trans (HST.out.below.mono (by have := HK.out; omega))))
    have HONE3 := hid (show ([.int .i64 t, nm, .slice none 0 0, .slice none 0 0, u0, u1, .bool u.star, .bool u.slashes, u4, u5, u6, .int .i64 u.port, u8, u9, .slice none 0 0, .int .u32 0, .slice none 0 0, .slice none 0 0, .slice none 0 0, .slice none 0 0, .int .i64 0] : List Value).all (·.oneCell') = true by
     obtain ⟨onm2, oa, ob, oc, op, od, oe, of, og, o0, o1, o4, o5, o6, o8, o9⟩ := And.intro (SBf.x (w0 := w0) NM3.out).one HO.out
     simp only [List.all_cons, List.all_nil, onm2, oa, ob, oc, op, od, oe, of, og, o0, o1, o4, o5, o6, o8, o9]
     rfl)
    have HLX := hid (show ∀ wz, KU 0 W3 wz → LHx w0 wz (plainH ⟨t, name, text, display, u, params, num, proto, version, transport, host, port⟩) [.int .i64 t, nm, .slice none 0 0, .slice none 0 0, u0, u1, .bool u.star, .bool u.slashes, u4, u5, u6, .int .i64 u.port, u8, u9, .slice none 0 0, .int .u32 0, .slice none 0 0, .slice none 0 0, .slice none 0 0, .slice none 0 0, .int .i64 0] from fun wz hz => HE.out ▸ (show LHx w0 wz { baseH t with uri := u } [.int .i64 t, nm, .slice none 0 0, .slice none 0 0, u0, u1, .bool u.star, .bool u.slashes, u4, u5, u6, .int .i64 u.port, u8, u9, .slice none 0 0, .int .u32 0, .slice none 0 0, .slice none 0 0, .slice none 0 0, .slice none 0 0, .int .i64 0] from ⟨nm, .slice none 0 0, .slice none 0 0, [u0, u1, .bool u.star, .bool u.slashes, u4, u5, u6, .int .i64 u.port, u8, u9], .slice none 0 0, .slice none 0 0, .slice none 0 0, .slice none 0 0, .slice none 0 0, rfl, .inr (NM3.out.ku hz), .inl (SB.nil _), SB.nil _, HLU.out, SK.nil _, SB.nil _, SB.nil _, SB.nil _, SB.nil _, HN.out.1, ⟨(by show (0 : Int) ≤ 0; omega), (by show (0 : Int) < 4294967296; omega)⟩, (by show I64 0; unfold I64; omega)⟩))
    go_wp2_with (first
     | (refine wpList_load_blk (by rfl) 35 (.tmp 3) (by rfl) k 35 (0, 0) _ (by rfl) HROW.out _ Tryz.underlying35 rfl 21 head_size rfl ?_)
     | (refine wpList_store_blk (by rfl) 35 (.tmp 2) (.tmp 92) (by rfl) (w.heap.size + 1) 35 _ _ (by rfl) (by rfl) (by rfl) HZ3.out 21 head_size (by rfl) HONE3.out ?_; intro W4 hst4; have HST4 := hid hst4; clear hst4))
    exact ret_cell 2 35 ⟨(w.heap.size + 1), 0, none⟩ _ _ rfl rfl (row_cells HST4.out.blk) Tryz.underlying35 rfl 21 head_size rfl rfl ⟨_, rfl, HLX.out _ (HST4.out.ku (Nat.zero_le _) HZ3.out (by decide)), HBW3.out.trans (HST4.out.below.mono (by omega))⟩
   ·have hR' : routB t = false := by simpa using hR
    by_cases hN : numbB t = true
    ·have hz : t ≠ 0 := fun e => by rw [e] at hN; cases hN
     have HE := hid (show ({ baseH t with num := num } : LHead) = plainH ⟨t, name, text, display, u, params, num, proto, version, transport, host, port⟩ by rw [plainH, if_neg hz, if_neg hA, if_neg hR, if_pos hN])
     have h0 := sort_ne0 hz
     have Faddr := hid hA'
     have Frout := hid hR'
     have Fnumb := hid hN
     clear hz hR hA hA' hR' hN
     have c15 := row_at HB21.out 15 _ rfl
     have HFaddr := hid (show ∀ wx, Calls Tryz.prog 51 #[.int .i64 t] wx fun e w' => e = .returned (.bool false) ∧ wx = w' from fun wx => (isaddressed_any t wx).mono (fun e w' h => ⟨by rw [h.1, show addrB t = false from Faddr.out], h.2.symm⟩))
     have HFrout := hid (show ∀ wx, Calls Tryz.prog 52 #[.int .i64 t] wx fun e w' => e = .returned (.bool false) ∧ wx = w' from fun wx => (isrouted_any t wx).mono (fun e w' h => ⟨by rw [h.1, show routB t = false from Frout.out], h.2.symm⟩))
     have HFnumb := hid (show ∀ wx, Calls Tryz.prog 53 #[.int .i64 t] wx fun e w' => e = .returned (.bool true) ∧ wx = w' from fun wx => (isnumbered_any t wx).mono (fun e w' h => ⟨by rw [h.1, show numbB t = true from Fnumb.out], h.2.symm⟩))
     have HST := hid (CG.done (tgt := [.int .i64 t, nm, .slice none 0 0, .slice none 0 0, .slice none 0 0, .slice none 0 0, .bool false, .bool false, .slice none 0 0, .slice none 0 0, .slice none 0 0, .int .i64 0, .slice none 0 0, .slice none 0 0, .slice none 0 0, .int .u32 num, .slice none 0 0, .slice none 0 0, .slice none 0 0, .slice none 0 0, .int .i64 0]) (CG.refl k _ _ W2) HG2.out [] (fun _ h => by simp at h) 15 (.int .u32 num : Value) rfl rfl (fun j h1 h2 h3 => by
      rcases tab21 j h1 with rfl | rfl | rfl | rfl | rfl | rfl | rfl | rfl | rfl | rfl | rfl | rfl | rfl | rfl | rfl | rfl | rfl | rfl | rfl | rfl | rfl <;> first | rfl | exact absurd rfl h3 | exact absurd (by decide) h2))
     have g0 := row_at HG2.out 15 _ rfl
     have f0 := blk_frozen HG2.out 15
     have HZ1 := hid HB22.out
     have HGL := hid HG2.out
     obtain ⟨W3, hW3⟩ : ∃ W3, W3 = W2.setCell ⟨k, 15, none⟩ (.int .u32 num : Value) := ⟨_, rfl⟩
     rw [← hW3] at HST
     have HW3 := hid hW3
     clear hW3
     have HROW := hid HST.out.blk
     have HZ3 := hid ((HST.out.other (w.heap.size + 1) (by have := HK.out; omega)).trans HZ1.out)
     have NM3 := hid ((NM2.out.ku (KU.refl 0 _)).ku (HST.out.ku (N := 0) (Nat.zero_le _) HGL.out (by decide)))
     have HBW3 := hid (HBW2.out.trans ((Below.refl _ _).trans (HST.out.below.mono (by have := HK.out; omega))))
     have HONE3 := hid (show ([.int .i64 t, nm, .slice none 0 0, .slice none 0 0, .slice none 0 0, .slice none 0 0, .bool false, .bool false, .slice none 0 0, .slice none 0 0, .slice none 0 0, .int .i64 0, .slice none 0 0, .slice none 0 0, .slice none 0 0, .int .u32 num, .slice none 0 0, .slice none 0 0, .slice none 0 0, .slice none 0 0, .int .i64 0] : List Value).all (·.oneCell') = true by
      obtain ⟨onm2, oa, ob, oc, op, od, oe, of, og, o0, o1, o4, o5, o6, o8, o9⟩ := And.intro (SBf.x (w0 := w0) NM3.out).one HO.out
      simp only [List.all_cons, List.all_nil, onm2, oa, ob, oc, op, od, oe, of, og, o0, o1, o4, o5, o6, o8, o9]
      rfl)
     go_upto_region 16 with (first | (go_at_call 51; refine (HFaddr.out _).mono ?_; rintro e w3 ⟨rfl, rfl⟩) | (go_at_call 52; refine (HFrout.out _).mono ?_; rintro e w3 ⟨rfl, rfl⟩) | (go_at_call 53; refine (HFnumb.out _).mono ?_; rintro e w3 ⟨rfl, rfl⟩) | fail)
     rw [← HW3.out]
     clear HW3 c0 c15 g0 f0
     have HLX := hid (show ∀ wz, KU 0 W3 wz → LHx w0 wz (plainH ⟨t, name, text, display, u, params, num, proto, version, transport, host, port⟩) [.int .i64 t, nm, .slice none 0 0, .slice none 0 0, .slice none 0 0, .slice none 0 0, .bool false, .bool false, .slice none 0 0, .slice none 0 0, .slice none 0 0, .int .i64 0, .slice none 0 0, .slice none 0 0, .slice none 0 0, .int .u32 num, .slice none 0 0, .slice none 0 0, .slice none 0 0, .slice none 0 0, .int .i64 0] from fun wz hz => HE.out ▸ (show LHx w0 wz { baseH t with num := num } [.int .i64 t, nm, .slice none 0 0, .slice none 0 0, .slice none 0 0, .slice none 0 0, .bool false, .bool false, .slice none 0 0, .slice none 0 0, .slice none 0 0, .int .i64 0, .slice none 0 0, .slice none 0 0, .slice none 0 0, .int .u32 num, .slice none 0 0, .slice none 0 0, .slice none 0 0, .slice none 0 0, .int .i64 0] from ⟨nm, .slice none 0 0, .slice none 0 0, [.slice none 0 0, .slice none 0 0, .bool false, .bool false, .slice none 0 0, .slice none 0 0, .slice none 0 0, .int .i64 0, .slice none 0 0, .slice none 0 0], .slice none 0 0, .slice none 0 0, .slice none 0 0, .slice none 0 0, .slice none 0 0, rfl, .inr (NM3.out.ku hz), .inl (SB.nil _), SB.nil _, LU.empty _, SK.nil _, SB.nil _, SB.nil _, SB.nil _, SB.nil _, HN.out.1, HN.out.2.1, (by show I64 0; unfold I64; omega)⟩))
     go_wp2_with (first
      | (refine wpList_load_blk (by rfl) 35 (.tmp 3) (by rfl) k 35 (0, 0) _ (by rfl) HROW.out _ Tryz.underlying35 rfl 21 head_size rfl ?_)
      | (refine wpList_store_blk (by rfl) 35 (.tmp 2) (.tmp 92) (by rfl) (w.heap.size + 1) 35 _ _ (by rfl) (by rfl) (by rfl) HZ3.out 21 head_size (by rfl) HONE3.out ?_; intro W4 hst4; have HST4 := hid hst4; clear hst4))
     exact ret_cell 2 35 ⟨(w.heap.size + 1), 0, none⟩ _ _ rfl rfl (row_cells HST4.out.blk) Tryz.underlying35 rfl 21 head_size rfl rfl ⟨_, rfl, HLX.out _ (HST4.out.ku (Nat.zero_le _) HZ3.out (by decide)), HBW3.out.trans (HST4.out.below.mono (by omega))⟩
    ·have hq := sort_rest HT.out hA' hR' (by simpa using hN)
     clear hA hR hN hA' hR'
     rcases hq with rfl | rfl | rfl | rfl | rfl
     ·have HE := hid (show ({ baseH 0 with name := name, text := text } : LHead) = plainH ⟨0, name, text, display, u, params, num, proto, version, transport, host, port⟩ by rfl)
      have c1 := row_at HB21.out 1 _ rfl
      have c2 := row_at HB21.out 2 _ rfl
      go_wp2_with (first | fail | fail)
      refine wp_region_grow 7 (CG k 35 [.int .i64 0, .slice Aa name.length ca, .slice Ab text.length cb, .slice none 0 0, .slice none 0 0, .slice none 0 0, .bool false, .bool false, .slice none 0 0, .slice none 0 0, .slice none 0 0, .int .i64 0, .slice none 0 0, .slice none 0 0, .slice none 0 0, .int .u32 0, .slice none 0 0, .slice none 0 0, .slice none 0 0, .slice none 0 0, .int .i64 0]) (CG k 35 [.int .i64 0, .slice Aa name.length ca, .slice Ab text.length cb, .slice none 0 0, .slice none 0 0, .slice none 0 0, .bool false, .bool false, .slice none 0 0, .slice none 0 0, .slice none 0 0, .int .i64 0, .slice none 0 0, .slice none 0 0, .slice none 0 0, .int .u32 0, .slice none 0 0, .slice none 0 0, .slice none 0 0, .slice none 0 0, .int .i64 0] W2)
       (fun i v w' => match i with
        | 0 => v = .pointer (some ⟨w.heap.size, 1, none⟩)
        | 1 => v = .slice Aa name.length ca
        | 2 => v = .pointer (some ⟨w.heap.size, 2, none⟩)
        | 3 => v = .slice Ab text.length cb
        | 4 => v = .pointer (some ⟨k, 1, none⟩)
        | 5 => Wr k 35 [.int .i64 0, .slice Aa name.length ca, .slice Ab text.length cb, .slice none 0 0, .slice none 0 0, .slice none 0 0, .bool false, .bool false, .slice none 0 0, .slice none 0 0, .slice none 0 0, .int .i64 0, .slice none 0 0, .slice none 0 0, .slice none 0 0, .int .u32 0, .slice none 0 0, .slice none 0 0, .slice none 0 0, .slice none 0 0, .int .i64 0] 1 w'
        | 6 => v = .pointer (some ⟨k, 2, none⟩)
        | _ => True)
       [[], [0], [], [2], [], [4, 1], []] rfl (by kernel_rfl) (by kernel_rfl) (fun _ _ h k => h.trans k) ?_ ?_ ?_ ?_
      ·intro j hj v w'
       match j, hj with
       | j + 7, _ => trivial
      ·exact CG.of_below (Below.refl _ _).drew (heap_lt HG2.out)
      ·simp only [List.take_succ_cons, List.take_zero, fillAll]
       refine ⟨⟨?_, ?_⟩, ⟨?_, ?_⟩, ⟨?_, ?_⟩, ⟨?_, ?_⟩, ⟨?_, ?_⟩, ⟨?_, ?_⟩, ⟨?_, ?_⟩, trivial⟩
       ·exact fun v w1 w2 h k => h
       ·intro vals w1 hI hd
        unfold GStep
        go_wp2
        exact CG.refl _ _ _ _
       ·exact fun v w1 w2 h k => h
       ·intro vals w1 hI hd
        have h1 : vals 0 = _ := hd.1
        have d1 := row_at ((hI.1.block w.heap.size (by have := HK.out; omega)).trans HB21.out) 1 _ rfl
        unfold GStep
        go_wp2
        exact CG.refl _ _ _ _
       ·exact fun v w1 w2 h k => h
       ·intro vals w1 hI hd
        unfold GStep
        go_wp2
        exact CG.refl _ _ _ _
       ·exact fun v w1 w2 h k => h
       ·intro vals w1 hI hd
        have h1 : vals 2 = _ := hd.1
        have d2 := row_at ((hI.1.block w.heap.size (by have := HK.out; omega)).trans HB21.out) 2 _ rfl
        unfold GStep
        go_wp2
        exact CG.refl _ _ _ _
       ·exact fun v w1 w2 h k => h
       ·intro vals w1 hI hd
        unfold GStep
        go_wp2
        exact CG.refl _ _ _ _
       ·exact fun v w1 w2 h k => h.cg k
       ·intro vals w1 hI hd
        have h1 : vals 4 = _ := hd.1
        have h2 : vals 1 = _ := hd.2.1
        obtain ⟨l, hl, hlen, -⟩ := hI.2.2 ([.int .i64 0, nm, .slice none 0 0, .slice none 0 0, .slice none 0 0, .slice none 0 0, .bool false, .bool false, .slice none 0 0, .slice none 0 0, .slice none 0 0, .int .i64 0, .slice none 0 0, .slice none 0 0, .slice none 0 0, .int .u32 0, .slice none 0 0, .slice none 0 0, .slice none 0 0, .slice none 0 0, .int .i64 0] : List Value) HG2.out
        have f0 := blk_frozen hl 1
        have g0 : ∃ x, w1.cell? ⟨k, 1, none⟩ = some x := ⟨l[1]'(by rw [hlen]; simp), row_at hl 1 _ (List.getElem?_eq_getElem _)⟩
        obtain ⟨x, g0⟩ := g0
        have X := hid (CG.set (tgt := [.int .i64 0, .slice Aa name.length ca, .slice Ab text.length cb, .slice none 0 0, .slice none 0 0, .slice none 0 0, .bool false, .bool false, .slice none 0 0, .slice none 0 0, .slice none 0 0, .int .i64 0, .slice none 0 0, .slice none 0 0, .slice none 0 0, .int .u32 0, .slice none 0 0, .slice none 0 0, .slice none 0 0, .slice none 0 0, .int .i64 0]) hl 1 (.slice Aa name.length ca : Value) rfl (by rw [hlen]; simp))
        clear hlen hl
        unfold GStep
        go_wp2
        exact X.out
       ·exact fun v w1 w2 h k => h
       ·intro vals w1 hI hd
        unfold GStep
        go_wp2
        exact CG.refl _ _ _ _
      ·intro vals w1 hI hR
       simp only [List.drop_succ_cons, List.drop_zero, List.take_succ_cons, List.take_zero, fillAll]
       obtain ⟨-, -, -, rv, -, z1, ra, -⟩ := hR
       have ea : vals 6 = _ := ra
       have ev : vals 3 = _ := rv
       rw [ea, ev]
       clear ea ev ra rv
       have HI := hid hI
       have HWR := hid (show ∀ j ∈ ([1] : List Nat), Wr k 35 [.int .i64 0, .slice Aa name.length ca, .slice Ab text.length cb, .slice none 0 0, .slice none 0 0, .slice none 0 0, .bool false, .bool false, .slice none 0 0, .slice none 0 0, .slice none 0 0, .int .i64 0, .slice none 0 0, .slice none 0 0, .slice none 0 0, .int .u32 0, .slice none 0 0, .slice none 0 0, .slice none 0 0, .slice none 0 0, .int .i64 0] j w1 from fun j hj => by
        simp only [List.mem_cons, List.not_mem_nil, or_false] at hj
        rcases hj with rfl
        ·exact z1)
       have HST := hid (CG.done (tgt := [.int .i64 0, .slice Aa name.length ca, .slice Ab text.length cb, .slice none 0 0, .slice none 0 0, .slice none 0 0, .bool false, .bool false, .slice none 0 0, .slice none 0 0, .slice none 0 0, .int .i64 0, .slice none 0 0, .slice none 0 0, .slice none 0 0, .int .u32 0, .slice none 0 0, .slice none 0 0, .slice none 0 0, .slice none 0 0, .int .i64 0]) HI.out HG2.out [1] HWR.out 2 (.slice Ab text.length cb : Value) rfl rfl (fun j h1 h2 h3 => by
        rcases tab21 j h1 with rfl | rfl | rfl | rfl | rfl | rfl | rfl | rfl | rfl | rfl | rfl | rfl | rfl | rfl | rfl | rfl | rfl | rfl | rfl | rfl | rfl <;> first | rfl | exact absurd rfl h3 | exact absurd (by decide) h2))
       obtain ⟨l, hl, hlen, -⟩ := HI.out.2.2 ([.int .i64 0, nm, .slice none 0 0, .slice none 0 0, .slice none 0 0, .slice none 0 0, .bool false, .bool false, .slice none 0 0, .slice none 0 0, .slice none 0 0, .int .i64 0, .slice none 0 0, .slice none 0 0, .slice none 0 0, .int .u32 0, .slice none 0 0, .slice none 0 0, .slice none 0 0, .slice none 0 0, .int .i64 0] : List Value) HG2.out
       have HGL := hid hl
       have f0 := blk_frozen hl 2
       have g0 : ∃ x, w1.cell? ⟨k, 2, none⟩ = some x := ⟨l[2]'(by rw [hlen]; simp), row_at hl 2 _ (List.getElem?_eq_getElem _)⟩
       obtain ⟨x, g0⟩ := g0
       have HZ1 := hid ((HI.out.1.block (w.heap.size + 1) (by have := HK.out; omega)).trans HB22.out)
       obtain ⟨W3, hW3⟩ : ∃ W3, W3 = w1.setCell ⟨k, 2, none⟩ (.slice Ab text.length cb : Value) := ⟨_, rfl⟩
       rw [← hW3] at HST
       have HW3 := hid hW3
       clear hW3 hl hlen hI z1 c0 c1 c2
       have HROW := hid HST.out.blk
       have HZ3 := hid ((HST.out.other (w.heap.size + 1) (by have := HK.out; omega)).trans HZ1.out)
       have NM3 := hid ((NM2.out.ku (HI.out.ku (N := 0) (Nat.zero_le _) HG2.out (by decide))).ku (HST.out.ku (N := 0) (Nat.zero_le _) HGL.out (by decide)))
       have HBW3 := hid (HBW2.out.trans ((HI.out.1.mono (by have := HK.out; omega)).trans (HST.out.below.mono (by have := HK.out; omega))))
       have HONE3 := hid (show ([.int .i64 0, .slice Aa name.length ca, .slice Ab text.length cb, .slice none 0 0, .slice none 0 0, .slice none 0 0, .bool false, .bool false, .slice none 0 0, .slice none 0 0, .slice none 0 0, .int .i64 0, .slice none 0 0, .slice none 0 0, .slice none 0 0, .int .u32 0, .slice none 0 0, .slice none 0 0, .slice none 0 0, .slice none 0 0, .int .i64 0] : List Value).all (·.oneCell') = true by
        obtain ⟨onm2, oa, ob, oc, op, od, oe, of, og, o0, o1, o4, o5, o6, o8, o9⟩ := And.intro (SBf.x (w0 := w0) NM3.out).one HO.out
        simp only [List.all_cons, List.all_nil, onm2, oa, ob, oc, op, od, oe, of, og, o0, o1, o4, o5, o6, o8, o9]
        rfl)
       go_simp
       go_upto_region 16 with fail
       rw [← HW3.out]
       clear HW3 g0 f0
       have HLX := hid (show ∀ wz, KU 0 W3 wz → LHx w0 wz (plainH ⟨0, name, text, display, u, params, num, proto, version, transport, host, port⟩) [.int .i64 0, .slice Aa name.length ca, .slice Ab text.length cb, .slice none 0 0, .slice none 0 0, .slice none 0 0, .bool false, .bool false, .slice none 0 0, .slice none 0 0, .slice none 0 0, .int .i64 0, .slice none 0 0, .slice none 0 0, .slice none 0 0, .int .u32 0, .slice none 0 0, .slice none 0 0, .slice none 0 0, .slice none 0 0, .int .i64 0] from fun wz hz => HE.out ▸ (show LHx w0 wz { baseH 0 with name := name, text := text } [.int .i64 0, .slice Aa name.length ca, .slice Ab text.length cb, .slice none 0 0, .slice none 0 0, .slice none 0 0, .bool false, .bool false, .slice none 0 0, .slice none 0 0, .slice none 0 0, .int .i64 0, .slice none 0 0, .slice none 0 0, .slice none 0 0, .int .u32 0, .slice none 0 0, .slice none 0 0, .slice none 0 0, .slice none 0 0, .int .i64 0] from ⟨.slice Aa name.length ca, .slice Ab text.length cb, .slice none 0 0, [.slice none 0 0, .slice none 0 0, .bool false, .bool false, .slice none 0 0, .slice none 0 0, .slice none 0 0, .int .i64 0, .slice none 0 0, .slice none 0 0], .slice none 0 0, .slice none 0 0, .slice none 0 0, .slice none 0 0, .slice none 0 0, rfl, (HX.out.1.ku (KU.of_below HBW3.out (Nat.zero_le _))).ku hz, (HX.out.2.1.ku (KU.of_below HBW3.out (Nat.zero_le _))).ku hz, SB.nil _, LU.empty _, SK.nil _, SB.nil _, SB.nil _, SB.nil _, SB.nil _, HN.out.1, ⟨(by show (0 : Int) ≤ 0; omega), (by show (0 : Int) < 4294967296; omega)⟩, (by show I64 0; unfold I64; omega)⟩))
       go_wp2_with (first
        | (refine wpList_load_blk (by rfl) 35 (.tmp 3) (by rfl) k 35 (0, 0) _ (by rfl) HROW.out _ Tryz.underlying35 rfl 21 head_size rfl ?_)
        | (refine wpList_store_blk (by rfl) 35 (.tmp 2) (.tmp 92) (by rfl) (w.heap.size + 1) 35 _ _ (by rfl) (by rfl) (by rfl) HZ3.out 21 head_size (by rfl) HONE3.out ?_; intro W4 hst4; have HST4 := hid hst4; clear hst4))
       exact ret_cell 2 35 ⟨(w.heap.size + 1), 0, none⟩ _ _ rfl rfl (row_cells HST4.out.blk) Tryz.underlying35 rfl 21 head_size rfl rfl ⟨_, rfl, HLX.out _ (HST4.out.ku (Nat.zero_le _) HZ3.out (by decide)), HBW3.out.trans (HST4.out.below.mono (by omega))⟩
     ·have HE := hid (show ({ baseH 4 with text := text } : LHead) = plainH ⟨4, name, text, display, u, params, num, proto, version, transport, host, port⟩ by rfl)
      have c2 := row_at HB21.out 2 _ rfl
      have HFaddr := hid (show ∀ wx, Calls Tryz.prog 51 #[.int .i64 4] wx fun e w' => e = .returned (.bool false) ∧ wx = w' from fun wx => (isaddressed_any (4 : Int) wx).mono (fun e w' h => ⟨by rw [h.1, show addrB (4 : Int) = false from rfl], h.2.symm⟩))
      have HFrout := hid (show ∀ wx, Calls Tryz.prog 52 #[.int .i64 4] wx fun e w' => e = .returned (.bool false) ∧ wx = w' from fun wx => (isrouted_any (4 : Int) wx).mono (fun e w' h => ⟨by rw [h.1, show routB (4 : Int) = false from rfl], h.2.symm⟩))
      have HFnumb := hid (show ∀ wx, Calls Tryz.prog 53 #[.int .i64 4] wx fun e w' => e = .returned (.bool false) ∧ wx = w' from fun wx => (isnumbered_any (4 : Int) wx).mono (fun e w' h => ⟨by rw [h.1, show numbB (4 : Int) = false from rfl], h.2.symm⟩))
      have HST := hid (CG.done (tgt := [.int .i64 4, nm, .slice Ab text.length cb, .slice none 0 0, .slice none 0 0, .slice none 0 0, .bool false, .bool false, .slice none 0 0, .slice none 0 0, .slice none 0 0, .int .i64 0, .slice none 0 0, .slice none 0 0, .slice none 0 0, .int .u32 0, .slice none 0 0, .slice none 0 0, .slice none 0 0, .slice none 0 0, .int .i64 0]) (CG.refl k _ _ W2) HG2.out [] (fun _ h => by simp at h) 2 (.slice Ab text.length cb : Value) rfl rfl (fun j h1 h2 h3 => by
       rcases tab21 j h1 with rfl | rfl | rfl | rfl | rfl | rfl | rfl | rfl | rfl | rfl | rfl | rfl | rfl | rfl | rfl | rfl | rfl | rfl | rfl | rfl | rfl <;> first | rfl | exact absurd rfl h3 | exact absurd (by decide) h2))
      have g0 := row_at HG2.out 2 _ rfl
      have f0 := blk_frozen HG2.out 2
      have HZ1 := hid HB22.out
      have HGL := hid HG2.out
      obtain ⟨W3, hW3⟩ : ∃ W3, W3 = W2.setCell ⟨k, 2, none⟩ (.slice Ab text.length cb : Value) := ⟨_, rfl⟩
      rw [← hW3] at HST
      have HW3 := hid hW3
      clear hW3
      have HROW := hid HST.out.blk
      have HZ3 := hid ((HST.out.other (w.heap.size + 1) (by have := HK.out; omega)).trans HZ1.out)
      have NM3 := hid ((NM2.out.ku (KU.refl 0 _)).ku (HST.out.ku (N := 0) (Nat.zero_le _) HGL.out (by decide)))
      have HBW3 := hid (HBW2.out.trans ((Below.refl _ _).trans (HST.out.below.mono (by have := HK.out; omega))))
      have HONE3 := hid (show ([.int .i64 4, nm, .slice Ab text.length cb, .slice none 0 0, .slice none 0 0, .slice none 0 0, .bool false, .bool false, .slice none 0 0, .slice none 0 0, .slice none 0 0, .int .i64 0, .slice none 0 0, .slice none 0 0, .slice none 0 0, .int .u32 0, .slice none 0 0, .slice none 0 0, .slice none 0 0, .slice none 0 0, .int .i64 0] : List Value).all (·.oneCell') = true by
       obtain ⟨onm2, oa, ob, oc, op, od, oe, of, og, o0, o1, o4, o5, o6, o8, o9⟩ := And.intro (SBf.x (w0 := w0) NM3.out).one HO.out
       simp only [List.all_cons, List.all_nil, onm2, oa, ob, oc, op, od, oe, of, og, o0, o1, o4, o5, o6, o8, o9]
       rfl)
      go_upto_region 16 with (first | (go_at_call 51; refine (HFaddr.out _).mono ?_; rintro e w3 ⟨rfl, rfl⟩) | (go_at_call 52; refine (HFrout.out _).mono ?_; rintro e w3 ⟨rfl, rfl⟩) | (go_at_call 53; refine (HFnumb.out _).mono ?_; rintro e w3 ⟨rfl, rfl⟩) | fail)
      rw [← HW3.out]
      clear HW3 c0 c2 g0 f0
      have HLX := hid (show ∀ wz, KU 0 W3 wz → LHx w0 wz (plainH ⟨4, name, text, display, u, params, num, proto, version, transport, host, port⟩) [.int .i64 4, nm, .slice Ab text.length cb, .slice none 0 0, .slice none 0 0, .slice none 0 0, .bool false, .bool false, .slice none 0 0, .slice none 0 0, .slice none 0 0, .int .i64 0, .slice none 0 0, .slice none 0 0, .slice none 0 0, .int .u32 0, .slice none 0 0, .slice none 0 0, .slice none 0 0, .slice none 0 0, .int .i64 0] from fun wz hz => HE.out ▸ (show LHx w0 wz { baseH 4 with text := text } [.int .i64 4, nm, .slice Ab text.length cb, .slice none 0 0, .slice none 0 0, .slice none 0 0, .bool false, .bool false, .slice none 0 0, .slice none 0 0, .slice none 0 0, .int .i64 0, .slice none 0 0, .slice none 0 0, .slice none 0 0, .int .u32 0, .slice none 0 0, .slice none 0 0, .slice none 0 0, .slice none 0 0, .int .i64 0] from ⟨nm, .slice Ab text.length cb, .slice none 0 0, [.slice none 0 0, .slice none 0 0, .bool false, .bool false, .slice none 0 0, .slice none 0 0, .slice none 0 0, .int .i64 0, .slice none 0 0, .slice none 0 0], .slice none 0 0, .slice none 0 0, .slice none 0 0, .slice none 0 0, .slice none 0 0, rfl, .inr (NM3.out.ku hz), (HX.out.2.1.ku (KU.of_below HBW3.out (Nat.zero_le _))).ku hz, SB.nil _, LU.empty _, SK.nil _, SB.nil _, SB.nil _, SB.nil _, SB.nil _, HN.out.1, ⟨(by show (0 : Int) ≤ 0; omega), (by show (0 : Int) < 4294967296; omega)⟩, (by show I64 0; unfold I64; omega)⟩))
      go_wp2_with (first
       | (refine wpList_load_blk (by rfl) 35 (.tmp 3) (by rfl) k 35 (0, 0) _ (by rfl) HROW.out _ Tryz.underlying35 rfl 21 head_size rfl ?_)
       | (refine wpList_store_blk (by rfl) 35 (.tmp 2) (.tmp 92) (by rfl) (w.heap.size + 1) 35 _ _ (by rfl) (by rfl) (by rfl) HZ3.out 21 head_size (by rfl) HONE3.out ?_; intro W4 hst4; have HST4 := hid hst4; clear hst4))
      exact ret_cell 2 35 ⟨(w.heap.size + 1), 0, none⟩ _ _ rfl rfl (row_cells HST4.out.blk) Tryz.underlying35 rfl 21 head_size rfl rfl ⟨_, rfl, HLX.out _ (HST4.out.ku (Nat.zero_le _) HZ3.out (by decide)), HBW3.out.trans (HST4.out.below.mono (by omega))⟩
     ·have HE := hid (show ({ baseH 5 with num := num, text := text } : LHead) = plainH ⟨5, name, text, display, u, params, num, proto, version, transport, host, port⟩ by rfl)
      have c2 := row_at HB21.out 2 _ rfl
      have c15 := row_at HB21.out 15 _ rfl
      have HFaddr := hid (show ∀ wx, Calls Tryz.prog 51 #[.int .i64 5] wx fun e w' => e = .returned (.bool false) ∧ wx = w' from fun wx => (isaddressed_any (5 : Int) wx).mono (fun e w' h => ⟨by rw [h.1, show addrB (5 : Int) = false from rfl], h.2.symm⟩))
      have HFrout := hid (show ∀ wx, Calls Tryz.prog 52 #[.int .i64 5] wx fun e w' => e = .returned (.bool false) ∧ wx = w' from fun wx => (isrouted_any (5 : Int) wx).mono (fun e w' h => ⟨by rw [h.1, show routB (5 : Int) = false from rfl], h.2.symm⟩))
      have HFnumb := hid (show ∀ wx, Calls Tryz.prog 53 #[.int .i64 5] wx fun e w' => e = .returned (.bool false) ∧ wx = w' from fun wx => (isnumbered_any (5 : Int) wx).mono (fun e w' h => ⟨by rw [h.1, show numbB (5 : Int) = false from rfl], h.2.symm⟩))
      go_wp2_with (first | (go_at_call 51; refine (HFaddr.out _).mono ?_; rintro e w3 ⟨rfl, rfl⟩) | (go_at_call 52; refine (HFrout.out _).mono ?_; rintro e w3 ⟨rfl, rfl⟩) | (go_at_call 53; refine (HFnumb.out _).mono ?_; rintro e w3 ⟨rfl, rfl⟩) | fail)
      refine wp_region_grow 7 (CG k 35 [.int .i64 5, nm, .slice Ab text.length cb, .slice none 0 0, .slice none 0 0, .slice none 0 0, .bool false, .bool false, .slice none 0 0, .slice none 0 0, .slice none 0 0, .int .i64 0, .slice none 0 0, .slice none 0 0, .slice none 0 0, .int .u32 num, .slice none 0 0, .slice none 0 0, .slice none 0 0, .slice none 0 0, .int .i64 0]) (CG k 35 [.int .i64 5, nm, .slice Ab text.length cb, .slice none 0 0, .slice none 0 0, .slice none 0 0, .bool false, .bool false, .slice none 0 0, .slice none 0 0, .slice none 0 0, .int .i64 0, .slice none 0 0, .slice none 0 0, .slice none 0 0, .int .u32 num, .slice none 0 0, .slice none 0 0, .slice none 0 0, .slice none 0 0, .int .i64 0] W2)
       (fun i v w' => match i with
        | 0 => v = .pointer (some ⟨w.heap.size, 15, none⟩)
        | 1 => v = .int .u32 num
        | 2 => v = .pointer (some ⟨w.heap.size, 2, none⟩)
        | 3 => v = .slice Ab text.length cb
        | 4 => v = .pointer (some ⟨k, 15, none⟩)
        | 5 => Wr k 35 [.int .i64 5, nm, .slice Ab text.length cb, .slice none 0 0, .slice none 0 0, .slice none 0 0, .bool false, .bool false, .slice none 0 0, .slice none 0 0, .slice none 0 0, .int .i64 0, .slice none 0 0, .slice none 0 0, .slice none 0 0, .int .u32 num, .slice none 0 0, .slice none 0 0, .slice none 0 0, .slice none 0 0, .int .i64 0] 15 w'
        | 6 => v = .pointer (some ⟨k, 2, none⟩)
        | _ => True)
       [[], [0], [], [2], [], [4, 1], []] rfl (by kernel_rfl) (by kernel_rfl) (fun _ _ h k => h.trans k) ?_ ?_ ?_ ?_
      ·intro j hj v w'
       match j, hj with
       | j + 7, _ => trivial
      ·exact CG.of_below (Below.refl _ _).drew (heap_lt HG2.out)
      ·simp only [List.take_succ_cons, List.take_zero, fillAll]
       refine ⟨⟨?_, ?_⟩, ⟨?_, ?_⟩, ⟨?_, ?_⟩, ⟨?_, ?_⟩, ⟨?_, ?_⟩, ⟨?_, ?_⟩, ⟨?_, ?_⟩, trivial⟩
       ·exact fun v w1 w2 h k => h
       ·intro vals w1 hI hd
        unfold GStep
        go_wp2
        exact CG.refl _ _ _ _
       ·exact fun v w1 w2 h k => h
       ·intro vals w1 hI hd
        have h1 : vals 0 = _ := hd.1
        have d15 := row_at ((hI.1.block w.heap.size (by have := HK.out; omega)).trans HB21.out) 15 _ rfl
        unfold GStep
        go_wp2
        exact CG.refl _ _ _ _
       ·exact fun v w1 w2 h k => h
       ·intro vals w1 hI hd
        unfold GStep
        go_wp2
        exact CG.refl _ _ _ _
       ·exact fun v w1 w2 h k => h
       ·intro vals w1 hI hd
        have h1 : vals 2 = _ := hd.1
        have d2 := row_at ((hI.1.block w.heap.size (by have := HK.out; omega)).trans HB21.out) 2 _ rfl
        unfold GStep
        go_wp2
        exact CG.refl _ _ _ _
       ·exact fun v w1 w2 h k => h
       ·intro vals w1 hI hd
        unfold GStep
        go_wp2
        exact CG.refl _ _ _ _
       ·exact fun v w1 w2 h k => h.cg k
       ·intro vals w1 hI hd
        have h1 : vals 4 = _ := hd.1
        have h2 : vals 1 = _ := hd.2.1
        obtain ⟨l, hl, hlen, -⟩ := hI.2.2 ([.int .i64 5, nm, .slice none 0 0, .slice none 0 0, .slice none 0 0, .slice none 0 0, .bool false, .bool false, .slice none 0 0, .slice none 0 0, .slice none 0 0, .int .i64 0, .slice none 0 0, .slice none 0 0, .slice none 0 0, .int .u32 0, .slice none 0 0, .slice none 0 0, .slice none 0 0, .slice none 0 0, .int .i64 0] : List Value) HG2.out
        have f0 := blk_frozen hl 15
        have g0 : ∃ x, w1.cell? ⟨k, 15, none⟩ = some x := ⟨l[15]'(by rw [hlen]; simp), row_at hl 15 _ (List.getElem?_eq_getElem _)⟩
        obtain ⟨x, g0⟩ := g0
        have X := hid (CG.set (tgt := [.int .i64 5, nm, .slice Ab text.length cb, .slice none 0 0, .slice none 0 0, .slice none 0 0, .bool false, .bool false, .slice none 0 0, .slice none 0 0, .slice none 0 0, .int .i64 0, .slice none 0 0, .slice none 0 0, .slice none 0 0, .int .u32 num, .slice none 0 0, .slice none 0 0, .slice none 0 0, .slice none 0 0, .int .i64 0]) hl 15 (.int .u32 num : Value) rfl (by rw [hlen]; simp))
        clear hlen hl
        unfold GStep
        go_wp2
        exact X.out
       ·exact fun v w1 w2 h k => h
       ·intro vals w1 hI hd
        unfold GStep
        go_wp2
        exact CG.refl _ _ _ _
      ·intro vals w1 hI hR
       simp only [List.drop_succ_cons, List.drop_zero, List.take_succ_cons, List.take_zero, fillAll]
       obtain ⟨-, -, -, rv, -, z15, ra, -⟩ := hR
       have ea : vals 6 = _ := ra
       have ev : vals 3 = _ := rv
       rw [ea, ev]
       clear ea ev ra rv
       have HI := hid hI
       have HWR := hid (show ∀ j ∈ ([15] : List Nat), Wr k 35 [.int .i64 5, nm, .slice Ab text.length cb, .slice none 0 0, .slice none 0 0, .slice none 0 0, .bool false, .bool false, .slice none 0 0, .slice none 0 0, .slice none 0 0, .int .i64 0, .slice none 0 0, .slice none 0 0, .slice none 0 0, .int .u32 num, .slice none 0 0, .slice none 0 0, .slice none 0 0, .slice none 0 0, .int .i64 0] j w1 from fun j hj => by
        simp only [List.mem_cons, List.not_mem_nil, or_false] at hj
        rcases hj with rfl
        ·exact z15)
       have HST := hid (CG.done (tgt := [.int .i64 5, nm, .slice Ab text.length cb, .slice none 0 0, .slice none 0 0, .slice none 0 0, .bool false, .bool false, .slice none 0 0, .slice none 0 0, .slice none 0 0, .int .i64 0, .slice none 0 0, .slice none 0 0, .slice none 0 0, .int .u32 num, .slice none 0 0, .slice none 0 0, .slice none 0 0, .slice none 0 0, .int .i64 0]) HI.out HG2.out [15] HWR.out 2 (.slice Ab text.length cb : Value) rfl rfl (fun j h1 h2 h3 => by
        rcases tab21 j h1 with rfl | rfl | rfl | rfl | rfl | rfl | rfl | rfl | rfl | rfl | rfl | rfl | rfl | rfl | rfl | rfl | rfl | rfl | rfl | rfl | rfl <;> first | rfl | exact absurd rfl h3 | exact absurd (by decide) h2))
       obtain ⟨l, hl, hlen, -⟩ := HI.out.2.2 ([.int .i64 5, nm, .slice none 0 0, .slice none 0 0, .slice none 0 0, .slice none 0 0, .bool false, .bool false, .slice none 0 0, .slice none 0 0, .slice none 0 0, .int .i64 0, .slice none 0 0, .slice none 0 0, .slice none 0 0, .int .u32 0, .slice none 0 0, .slice none 0 0, .slice none 0 0, .slice none 0 0, .int .i64 0] : List Value) HG2.out
       have HGL := hid hl
       have f0 := blk_frozen hl 2
       have g0 : ∃ x, w1.cell? ⟨k, 2, none⟩ = some x := ⟨l[2]'(by rw [hlen]; simp), row_at hl 2 _ (List.getElem?_eq_getElem _)⟩
       obtain ⟨x, g0⟩ := g0
       have HZ1 := hid ((HI.out.1.block (w.heap.size + 1) (by have := HK.out; omega)).trans HB22.out)
       obtain ⟨W3, hW3⟩ : ∃ W3, W3 = w1.setCell ⟨k, 2, none⟩ (.slice Ab text.length cb : Value) := ⟨_, rfl⟩
       rw [← hW3] at HST
       have HW3 := hid hW3
       clear hW3 hl hlen hI z15 c0 c2 c15
       have HROW := hid HST.out.blk
       have HZ3 := hid ((HST.out.other (w.heap.size + 1) (by have := HK.out; omega)).trans HZ1.out)
       have NM3 := hid ((NM2.out.ku (HI.out.ku (N := 0) (Nat.zero_le _) HG2.out (by decide))).ku (HST.out.ku (N := 0) (Nat.zero_le _) HGL.out (by decide)))
       have HBW3 := hid (HBW2.out.trans ((HI.out.1.mono (by have := HK.out; omega)).trans (HST.out.below.mono (by have := HK.out; omega))))
       have HONE3 := hid (show ([.int .i64 5, nm, .slice Ab text.length cb, .slice none 0 0, .slice none 0 0, .slice none 0 0, .bool false, .bool false, .slice none 0 0, .slice none 0 0, .slice none 0 0, .int .i64 0, .slice none 0 0, .slice none 0 0, .slice none 0 0, .int .u32 num, .slice none 0 0, .slice none 0 0, .slice none 0 0, .slice none 0 0, .int .i64 0] : List Value).all (·.oneCell') = true by
        obtain ⟨onm2, oa, ob, oc, op, od, oe, of, og, o0, o1, o4, o5, o6, o8, o9⟩ := And.intro (SBf.x (w0 := w0) NM3.out).one HO.out
        simp only [List.all_cons, List.all_nil, onm2, oa, ob, oc, op, od, oe, of, og, o0, o1, o4, o5, o6, o8, o9]
        rfl)
       go_simp
       go_upto_region 16 with fail
       rw [← HW3.out]
       clear HW3 g0 f0
       have HLX := hid (show ∀ wz, KU 0 W3 wz → LHx w0 wz (plainH ⟨5, name, text, display, u, params, num, proto, version, transport, host, port⟩) [.int .i64 5, nm, .slice Ab text.length cb, .slice none 0 0, .slice none 0 0, .slice none 0 0, .bool false, .bool false, .slice none 0 0, .slice none 0 0, .slice none 0 0, .int .i64 0, .slice none 0 0, .slice none 0 0, .slice none 0 0, .int .u32 num, .slice none 0 0, .slice none 0 0, .slice none 0 0, .slice none 0 0, .int .i64 0] from fun wz hz => HE.out ▸ (show LHx w0 wz { baseH 5 with num := num, text := text } [.int .i64 5, nm, .slice Ab text.length cb, .slice none 0 0, .slice none 0 0, .slice none 0 0, .bool false, .bool false, .slice none 0 0, .slice none 0 0, .slice none 0 0, .int .i64 0, .slice none 0 0, .slice none 0 0, .slice none 0 0, .int .u32 num, .slice none 0 0, .slice none 0 0, .slice none 0 0, .slice none 0 0, .int .i64 0] from ⟨nm, .slice Ab text.length cb, .slice none 0 0, [.slice none 0 0, .slice none 0 0, .bool false, .bool false, .slice none 0 0, .slice none 0 0, .slice none 0 0, .int .i64 0, .slice none 0 0, .slice none 0 0], .slice none 0 0, .slice none 0 0, .slice none 0 0, .slice none 0 0, .slice none 0 0, rfl, .inr (NM3.out.ku hz), (HX.out.2.1.ku (KU.of_below HBW3.out (Nat.zero_le _))).ku hz, SB.nil _, LU.empty _, SK.nil _, SB.nil _, SB.nil _, SB.nil _, SB.nil _, HN.out.1, HN.out.2.1, (by show I64 0; unfold I64; omega)⟩))
       go_wp2_with (first
        | (refine wpList_load_blk (by rfl) 35 (.tmp 3) (by rfl) k 35 (0, 0) _ (by rfl) HROW.out _ Tryz.underlying35 rfl 21 head_size rfl ?_)
        | (refine wpList_store_blk (by rfl) 35 (.tmp 2) (.tmp 92) (by rfl) (w.heap.size + 1) 35 _ _ (by rfl) (by rfl) (by rfl) HZ3.out 21 head_size (by rfl) HONE3.out ?_; intro W4 hst4; have HST4 := hid hst4; clear hst4))
       exact ret_cell 2 35 ⟨(w.heap.size + 1), 0, none⟩ _ _ rfl rfl (row_cells HST4.out.blk) Tryz.underlying35 rfl 21 head_size rfl rfl ⟨_, rfl, HLX.out _ (HST4.out.ku (Nat.zero_le _) HZ3.out (by decide)), HBW3.out.trans (HST4.out.below.mono (by omega))⟩
     ·have HE := hid (show ({ baseH 9 with proto := proto, version := version, transport := transport, host := host, port := port, params := params } : LHead) = plainH ⟨9, name, text, display, u, params, num, proto, version, transport, host, port⟩ by rfl)
      have c14 := row_at HB21.out 14 _ rfl
      have c16 := row_at HB21.out 16 _ rfl
      have c17 := row_at HB21.out 17 _ rfl
      have c18 := row_at HB21.out 18 _ rfl
      have c19 := row_at HB21.out 19 _ rfl
      have c20 := row_at HB21.out 20 _ rfl
      have HFaddr := hid (show ∀ wx, Calls Tryz.prog 51 #[.int .i64 9] wx fun e w' => e = .returned (.bool false) ∧ wx = w' from fun wx => (isaddressed_any (9 : Int) wx).mono (fun e w' h => ⟨by rw [h.1, show addrB (9 : Int) = false from rfl], h.2.symm⟩))
      have HFrout := hid (show ∀ wx, Calls Tryz.prog 52 #[.int .i64 9] wx fun e w' => e = .returned (.bool false) ∧ wx = w' from fun wx => (isrouted_any (9 : Int) wx).mono (fun e w' h => ⟨by rw [h.1, show routB (9 : Int) = false from rfl], h.2.symm⟩))
      have HFnumb := hid (show ∀ wx, Calls Tryz.prog 53 #[.int .i64 9] wx fun e w' => e = .returned (.bool false) ∧ wx = w' from fun wx => (isnumbered_any (9 : Int) wx).mono (fun e w' h => ⟨by rw [h.1, show numbB (9 : Int) = false from rfl], h.2.symm⟩))
      go_wp2_with (first | (go_at_call 51; refine (HFaddr.out _).mono ?_; rintro e w3 ⟨rfl, rfl⟩) | (go_at_call 52; refine (HFrout.out _).mono ?_; rintro e w3 ⟨rfl, rfl⟩) | (go_at_call 53; refine (HFnumb.out _).mono ?_; rintro e w3 ⟨rfl, rfl⟩) | fail)
      refine wp_region_grow 23 (CG k 35 [.int .i64 9, nm, .slice none 0 0, .slice none 0 0, .slice none 0 0, .slice none 0 0, .bool false, .bool false, .slice none 0 0, .slice none 0 0, .slice none 0 0, .int .i64 0, .slice none 0 0, .slice none 0 0, .slice Ap params.length cp, .int .u32 0, .slice Ad proto.length cd, .slice Ae version.length ce, .slice Af transport.length cf, .slice Ag host.length cg, .int .i64 port]) (CG k 35 [.int .i64 9, nm, .slice none 0 0, .slice none 0 0, .slice none 0 0, .slice none 0 0, .bool false, .bool false, .slice none 0 0, .slice none 0 0, .slice none 0 0, .int .i64 0, .slice none 0 0, .slice none 0 0, .slice Ap params.length cp, .int .u32 0, .slice Ad proto.length cd, .slice Ae version.length ce, .slice Af transport.length cf, .slice Ag host.length cg, .int .i64 port] W2)
       (fun i v w' => match i with
        | 0 => v = .pointer (some ⟨w.heap.size, 16, none⟩)
        | 1 => v = .slice Ad proto.length cd
        | 2 => v = .pointer (some ⟨w.heap.size, 17, none⟩)
        | 3 => v = .slice Ae version.length ce
        | 4 => v = .pointer (some ⟨w.heap.size, 18, none⟩)
        | 5 => v = .slice Af transport.length cf
        | 6 => v = .pointer (some ⟨w.heap.size, 19, none⟩)
        | 7 => v = .slice Ag host.length cg
        | 8 => v = .pointer (some ⟨w.heap.size, 20, none⟩)
        | 9 => v = .int .i64 port
        | 10 => v = .pointer (some ⟨w.heap.size, 14, none⟩)
        | 11 => v = .slice Ap params.length cp
        | 12 => v = .pointer (some ⟨k, 16, none⟩)
        | 13 => Wr k 35 [.int .i64 9, nm, .slice none 0 0, .slice none 0 0, .slice none 0 0, .slice none 0 0, .bool false, .bool false, .slice none 0 0, .slice none 0 0, .slice none 0 0, .int .i64 0, .slice none 0 0, .slice none 0 0, .slice Ap params.length cp, .int .u32 0, .slice Ad proto.length cd, .slice Ae version.length ce, .slice Af transport.length cf, .slice Ag host.length cg, .int .i64 port] 16 w'
        | 14 => v = .pointer (some ⟨k, 17, none⟩)
        | 15 => Wr k 35 [.int .i64 9, nm, .slice none 0 0, .slice none 0 0, .slice none 0 0, .slice none 0 0, .bool false, .bool false, .slice none 0 0, .slice none 0 0, .slice none 0 0, .int .i64 0, .slice none 0 0, .slice none 0 0, .slice Ap params.length cp, .int .u32 0, .slice Ad proto.length cd, .slice Ae version.length ce, .slice Af transport.length cf, .slice Ag host.length cg, .int .i64 port] 17 w'
        | 16 => v = .pointer (some ⟨k, 18, none⟩)
        | 17 => Wr k 35 [.int .i64 9, nm, .slice none 0 0, .slice none 0 0, .slice none 0 0, .slice none 0 0, .bool false, .bool false, .slice none 0 0, .slice none 0 0, .slice none 0 0, .int .i64 0, .slice none 0 0, .slice none 0 0, .slice Ap params.length cp, .int .u32 0, .slice Ad proto.length cd, .slice Ae version.length ce, .slice Af transport.length cf, .slice Ag host.length cg, .int .i64 port] 18 w'
        | 18 => v = .pointer (some ⟨k, 19, none⟩)
        | 19 => Wr k 35 [.int .i64 9, nm, .slice none 0 0, .slice none 0 0, .slice none 0 0, .slice none 0 0, .bool false, .bool false, .slice none 0 0, .slice none 0 0, .slice none 0 0, .int .i64 0, .slice none 0 0, .slice none 0 0, .slice Ap params.length cp, .int .u32 0, .slice Ad proto.length cd, .slice Ae version.length ce, .slice Af transport.length cf, .slice Ag host.length cg, .int .i64 port] 19 w'
        | 20 => v = .pointer (some ⟨k, 20, none⟩)
        | 21 => Wr k 35 [.int .i64 9, nm, .slice none 0 0, .slice none 0 0, .slice none 0 0, .slice none 0 0, .bool false, .bool false, .slice none 0 0, .slice none 0 0, .slice none 0 0, .int .i64 0, .slice none 0 0, .slice none 0 0, .slice Ap params.length cp, .int .u32 0, .slice Ad proto.length cd, .slice Ae version.length ce, .slice Af transport.length cf, .slice Ag host.length cg, .int .i64 port] 20 w'
        | 22 => v = .pointer (some ⟨k, 14, none⟩)
        | _ => True)
       [[], [0], [], [2], [], [4], [], [6], [], [8], [], [10], [], [12, 1], [], [14, 3], [], [16, 5], [], [18, 7], [], [20, 9], []] rfl (by kernel_rfl) (by kernel_rfl) (fun _ _ h k => h.trans k) ?_ ?_ ?_ ?_
      ·intro j hj v w'
       match j, hj with
       | j + 23, _ => trivial
      ·exact CG.of_below (Below.refl _ _).drew (heap_lt HG2.out)
      ·simp only [List.take_succ_cons, List.take_zero, fillAll]
       refine ⟨⟨?_, ?_⟩, ⟨?_, ?_⟩, ⟨?_, ?_⟩, ⟨?_, ?_⟩, ⟨?_, ?_⟩, ⟨?_, ?_⟩, ⟨?_, ?_⟩, ⟨?_, ?_⟩, ⟨?_, ?_⟩, ⟨?_, ?_⟩, ⟨?_, ?_⟩, ⟨?_, ?_⟩, ⟨?_, ?_⟩, ⟨?_, ?_⟩, ⟨?_, ?_⟩, ⟨?_, ?_⟩, ⟨?_, ?_⟩, ⟨?_, ?_⟩, ⟨?_, ?_⟩, ⟨?_, ?_⟩, ⟨?_, ?_⟩, ⟨?_, ?_⟩, ⟨?_, ?_⟩, trivial⟩
       ·exact fun v w1 w2 h k => h
       ·intro vals w1 hI hd
        unfold GStep
        go_wp2
        exact CG.refl _ _ _ _
       ·exact fun v w1 w2 h k => h
       ·intro vals w1 hI hd
        have h1 : vals 0 = _ := hd.1
        have d16 := row_at ((hI.1.block w.heap.size (by have := HK.out; omega)).trans HB21.out) 16 _ rfl
        unfold GStep
        go_wp2
        exact CG.refl _ _ _ _
       ·exact fun v w1 w2 h k => h
       ·intro vals w1 hI hd
        unfold GStep
        go_wp2
        exact CG.refl _ _ _ _
       ·exact fun v w1 w2 h k => h
       ·intro vals w1 hI hd
        have h1 : vals 2 = _ := hd.1
        have d17 := row_at ((hI.1.block w.heap.size (by have := HK.out; omega)).trans HB21.out) 17 _ rfl
        unfold GStep
        go_wp2
        exact CG.refl _ _ _ _
       ·exact fun v w1 w2 h k => h
       ·intro vals w1 hI hd
        unfold GStep
        go_wp2
        exact CG.refl _ _ _ _
       ·exact fun v w1 w2 h k => h
       ·intro vals w1 hI hd
        have h1 : vals 4 = _ := hd.1
        have d18 := row_at ((hI.1.block w.heap.size (by have := HK.out; omega)).trans HB21.out) 18 _ rfl
        unfold GStep
        go_wp2
        exact CG.refl _ _ _ _
       ·exact fun v w1 w2 h k => h
       ·intro vals w1 hI hd
        unfold GStep
        go_wp2
        exact CG.refl _ _ _ _
       ·exact fun v w1 w2 h k => h
       ·intro vals w1 hI hd
        have h1 : vals 6 = _ := hd.1
        have d19 := row_at ((hI.1.block w.heap.size (by have := HK.out; omega)).trans HB21.out) 19 _ rfl
        unfold GStep
        go_wp2
        exact CG.refl _ _ _ _
       ·exact fun v w1 w2 h k => h
       ·intro vals w1 hI hd
        unfold GStep
        go_wp2
        exact CG.refl _ _ _ _
       ·exact fun v w1 w2 h k => h
       ·intro vals w1 hI hd
        have h1 : vals 8 = _ := hd.1
        have d20 := row_at ((hI.1.block w.heap.size (by have := HK.out; omega)).trans HB21.out) 20 _ rfl
        unfold GStep
        go_wp2
        exact CG.refl _ _ _ _
       ·exact fun v w1 w2 h k => h
       ·intro vals w1 hI hd
        unfold GStep
        go_wp2
        exact CG.refl _ _ _ _
       ·exact fun v w1 w2 h k => h
       ·intro vals w1 hI hd
        have h1 : vals 10 = _ := hd.1
        have d14 := row_at ((hI.1.block w.heap.size (by have := HK.out; omega)).trans HB21.out) 14 _ rfl
        unfold GStep
        go_wp2
        exact CG.refl _ _ _ _
       ·exact fun v w1 w2 h k => h
       ·intro vals w1 hI hd
        unfold GStep
        go_wp2
        exact CG.refl _ _ _ _
       ·exact fun v w1 w2 h k => h.cg k
       ·intro vals w1 hI hd
        have h1 : vals 12 = _ := hd.1
        have h2 : vals 1 = _ := hd.2.1
        obtain ⟨l, hl, hlen, -⟩ := hI.2.2 ([.int .i64 9, nm, .slice none 0 0, .slice none 0 0, .slice none 0 0, .slice none 0 0, .bool false, .bool false, .slice none 0 0, .slice none 0 0, .slice none 0 0, .int .i64 0, .slice none 0 0, .slice none 0 0, .slice none 0 0, .int .u32 0, .slice none 0 0, .slice none 0 0, .slice none 0 0, .slice none 0 0, .int .i64 0] : List Value) HG2.out
        have f0 := blk_frozen hl 16
        have g0 : ∃ x, w1.cell? ⟨k, 16, none⟩ = some x := ⟨l[16]'(by rw [hlen]; simp), row_at hl 16 _ (List.getElem?_eq_getElem _)⟩
        obtain ⟨x, g0⟩ := g0
        have X := hid (CG.set (tgt := [.int .i64 9, nm, .slice none 0 0, .slice none 0 0, .slice none 0 0, .slice none 0 0, .bool false, .bool false, .slice none 0 0, .slice none 0 0, .slice none 0 0, .int .i64 0, .slice none 0 0, .slice none 0 0, .slice Ap params.length cp, .int .u32 0, .slice Ad proto.length cd, .slice Ae version.length ce, .slice Af transport.length cf, .slice Ag host.length cg, .int .i64 port]) hl 16 (.slice Ad proto.length cd : Value) rfl (by rw [hlen]; simp))
        clear hlen hl
        unfold GStep
        go_wp2
        exact X.out
       ·exact fun v w1 w2 h k => h
       ·intro vals w1 hI hd
        unfold GStep
        go_wp2
        exact CG.refl _ _ _ _
       ·exact fun v w1 w2 h k => h.cg k
       ·intro vals w1 hI hd
        have h1 : vals 14 = _ := hd.1
        have h2 : vals 3 = _ := hd.2.1
        obtain ⟨l, hl, hlen, -⟩ := hI.2.2 ([.int .i64 9, nm, .slice none 0 0, .slice none 0 0, .slice none 0 0, .slice none 0 0, .bool false, .bool false, .slice none 0 0, .slice none 0 0, .slice none 0 0, .int .i64 0, .slice none 0 0, .slice none 0 0, .slice none 0 0, .int .u32 0, .slice none 0 0, .slice none 0 0, .slice none 0 0, .slice none 0 0, .int .i64 0] : List Value) HG2.out
        have f0 := blk_frozen hl 17
        have g0 : ∃ x, w1.cell? ⟨k, 17, none⟩ = some x := ⟨l[17]'(by rw [hlen]; simp), row_at hl 17 _ (List.getElem?_eq_getElem _)⟩
        obtain ⟨x, g0⟩ := g0
        have X := hid (CG.set (tgt := [.int .i64 9, nm, .slice none 0 0, .slice none 0 0, .slice none 0 0, .slice none 0 0, .bool false, .bool false, .slice none 0 0, .slice none 0 0, .slice none 0 0, .int .i64 0, .slice none 0 0, .slice none 0 0, .slice Ap params.length cp, .int .u32 0, .slice Ad proto.length cd, .slice Ae version.length ce, .slice Af transport.length cf, .slice Ag host.length cg, .int .i64 port]) hl 17 (.slice Ae version.length ce : Value) rfl (by rw [hlen]; simp))
        clear hlen hl
        unfold GStep
        go_wp2
        exact X.out
       ·exact fun v w1 w2 h k => h
       ·intro vals w1 hI hd
        unfold GStep
        go_wp2
        exact CG.refl _ _ _ _
       ·exact fun v w1 w2 h k => h.cg k
       ·intro vals w1 hI hd
        have h1 : vals 16 = _ := hd.1
        have h2 : vals 5 = _ := hd.2.1
        obtain ⟨l, hl, hlen, -⟩ := hI.2.2 ([.int .i64 9, nm, .slice none 0 0, .slice none 0 0, .slice none 0 0, .slice none 0 0, .bool false, .bool false, .slice none 0 0, .slice none 0 0, .slice none 0 0, .int .i64 0, .slice none 0 0, .slice none 0 0, .slice none 0 0, .int .u32 0, .slice none 0 0, .slice none 0 0, .slice none 0 0, .slice none 0 0, .int .i64 0] : List Value) HG2.out
        have f0 := blk_frozen hl 18
        have g0 : ∃ x, w1.cell? ⟨k, 18, none⟩ = some x := ⟨l[18]'(by rw [hlen]; simp), row_at hl 18 _ (List.getElem?_eq_getElem _)⟩
        obtain ⟨x, g0⟩ := g0
        have X := hid (CG.set (tgt := [.int .i64 9, nm, .slice none 0 0, .slice none 0 0, .slice none 0 0, .slice none 0 0, .bool false, .bool false, .slice none 0 0, .slice none 0 0, .slice none 0 0, .int .i64 0, .slice none 0 0, .slice none 0 0, .slice Ap params.length cp, .int .u32 0, .slice Ad proto.length cd, .slice Ae version.length ce, .slice Af transport.length cf, .slice Ag host.length cg, .int .i64 port]) hl 18 (.slice Af transport.length cf : Value) rfl (by rw [hlen]; simp))
        clear hlen hl
        unfold GStep
        go_wp2
        exact X.out
       ·exact fun v w1 w2 h k => h
       ·intro vals w1 hI hd
        unfold GStep
        go_wp2
        exact CG.refl _ _ _ _
       ·exact fun v w1 w2 h k => h.cg k
       ·intro vals w1 hI hd
        have h1 : vals 18 = _ := hd.1
        have h2 : vals 7 = _ := hd.2.1
        obtain ⟨l, hl, hlen, -⟩ := hI.2.2 ([.int .i64 9, nm, .slice none 0 0, .slice none 0 0, .slice none 0 0, .slice none 0 0, .bool false, .bool false, .slice none 0 0, .slice none 0 0, .slice none 0 0, .int .i64 0, .slice none 0 0, .slice none 0 0, .slice none 0 0, .int .u32 0, .slice none 0 0, .slice none 0 0, .slice none 0 0, .slice none 0 0, .int .i64 0] : List Value) HG2.out
        have f0 := blk_frozen hl 19
        have g0 : ∃ x, w1.cell? ⟨k, 19, none⟩ = some x := ⟨l[19]'(by rw [hlen]; simp), row_at hl 19 _ (List.getElem?_eq_getElem _)⟩
        obtain ⟨x, g0⟩ := g0
        have X := hid (CG.set (tgt := [.int .i64 9, nm, .slice none 0 0, .slice none 0 0, .slice none 0 0, .slice none 0 0, .bool false, .bool false, .slice none 0 0, .slice none 0 0, .slice none 0 0, .int .i64 0, .slice none 0 0, .slice none 0 0, .slice Ap params.length cp, .int .u32 0, .slice Ad proto.length cd, .slice Ae version.length ce, .slice Af transport.length cf, .slice Ag host.length cg, .int .i64 port]) hl 19 (.slice Ag host.length cg : Value) rfl (by rw [hlen]; simp))
        clear hlen hl
        unfold GStep
        go_wp2
        exact X.out
       ·exact fun v w1 w2 h k => h
       ·intro vals w1 hI hd
        unfold GStep
        go_wp2
        exact CG.refl _ _ _ _
       ·exact fun v w1 w2 h k => h.cg k
       ·intro vals w1 hI hd
        have h1 : vals 20 = _ := hd.1
        have h2 : vals 9 = _ := hd.2.1
        obtain ⟨l, hl, hlen, -⟩ := hI.2.2 ([.int .i64 9, nm, .slice none 0 0, .slice none 0 0, .slice none 0 0, .slice none 0 0, .bool false, .bool false, .slice none 0 0, .slice none 0 0, .slice none 0 0, .int .i64 0, .slice none 0 0, .slice none 0 0, .slice none 0 0, .int .u32 0, .slice none 0 0, .slice none 0 0, .slice none 0 0, .slice none 0 0, .int .i64 0] : List Value) HG2.out
        have f0 := blk_frozen hl 20
        have g0 : ∃ x, w1.cell? ⟨k, 20, none⟩ = some x := ⟨l[20]'(by rw [hlen]; simp), row_at hl 20 _ (List.getElem?_eq_getElem _)⟩
        obtain ⟨x, g0⟩ := g0
        have X := hid (CG.set (tgt := [.int .i64 9, nm, .slice none 0 0, .slice none 0 0, .slice none 0 0, .slice none 0 0, .bool false, .bool false, .slice none 0 0, .slice none 0 0, .slice none 0 0, .int .i64 0, .slice none 0 0, .slice none 0 0, .slice Ap params.length cp, .int .u32 0, .slice Ad proto.length cd, .slice Ae version.length ce, .slice Af transport.length cf, .slice Ag host.length cg, .int .i64 port]) hl 20 (.int .i64 port : Value) rfl (by rw [hlen]; simp))
        clear hlen hl
        unfold GStep
        go_wp2
        exact X.out
       ·exact fun v w1 w2 h k => h
       ·intro vals w1 hI hd
        unfold GStep
        go_wp2
        exact CG.refl _ _ _ _
      ·intro vals w1 hI hR
       simp only [List.drop_succ_cons, List.drop_zero, List.take_succ_cons, List.take_zero, fillAll]
       obtain ⟨-, -, -, -, -, -, -, -, -, -, -, rv, -, z16, -, z17, -, z18, -, z19, -, z20, ra, -⟩ := hR
       have ea : vals 22 = _ := ra
       have ev : vals 11 = _ := rv
       rw [ea, ev]
       clear ea ev ra rv
       have HI := hid hI
       have HWR := hid (show ∀ j ∈ ([16, 17, 18, 19, 20] : List Nat), Wr k 35 [.int .i64 9, nm, .slice none 0 0, .slice none 0 0, .slice none 0 0, .slice none 0 0, .bool false, .bool false, .slice none 0 0, .slice none 0 0, .slice none 0 0, .int .i64 0, .slice none 0 0, .slice none 0 0, .slice Ap params.length cp, .int .u32 0, .slice Ad proto.length cd, .slice Ae version.length ce, .slice Af transport.length cf, .slice Ag host.length cg, .int .i64 port] j w1 from fun j hj => by
        simp only [List.mem_cons, List.not_mem_nil, or_false] at hj
        rcases hj with rfl | rfl | rfl | rfl | rfl
        ·exact z16
        ·exact z17
        ·exact z18
        ·exact z19
        ·exact z20)
       have HST := hid (CG.done (tgt := [.int .i64 9, nm, .slice none 0 0, .slice none 0 0, .slice none 0 0, .slice none 0 0, .bool false, .bool false, .slice none 0 0, .slice none 0 0, .slice none 0 0, .int .i64 0, .slice none 0 0, .slice none 0 0, .slice Ap params.length cp, .int .u32 0, .slice Ad proto.length cd, .slice Ae version.length ce, .slice Af transport.length cf, .slice Ag host.length cg, .int .i64 port]) HI.out HG2.out [16, 17, 18, 19, 20] HWR.out 14 (.slice Ap params.length cp : Value) rfl rfl (fun j h1 h2 h3 => by
        rcases tab21 j h1 with rfl | rfl | rfl | rfl | rfl | rfl | rfl | rfl | rfl | rfl | rfl | rfl | rfl | rfl | rfl | rfl | rfl | rfl | rfl | rfl | rfl <;> first | rfl | exact absurd rfl h3 | exact absurd (by decide) h2))
       obtain ⟨l, hl, hlen, -⟩ := HI.out.2.2 ([.int .i64 9, nm, .slice none 0 0, .slice none 0 0, .slice none 0 0, .slice none 0 0, .bool false, .bool false, .slice none 0 0, .slice none 0 0, .slice none 0 0, .int .i64 0, .slice none 0 0, .slice none 0 0, .slice none 0 0, .int .u32 0, .slice none 0 0, .slice none 0 0, .slice none 0 0, .slice none 0 0, .int .i64 0] : List Value) HG2.out
       have HGL := hid hl
       have f0 := blk_frozen hl 14
       have g0 : ∃ x, w1.cell? ⟨k, 14, none⟩ = some x := ⟨l[14]'(by rw [hlen]; simp), row_at hl 14 _ (List.getElem?_eq_getElem _)⟩
       obtain ⟨x, g0⟩ := g0
       have HZ1 := hid ((HI.out.1.block (w.heap.size + 1) (by have := HK.out; omega)).trans HB22.out)
       obtain ⟨W3, hW3⟩ : ∃ W3, W3 = w1.setCell ⟨k, 14, none⟩ (.slice Ap params.length cp : Value) := ⟨_, rfl⟩
       rw [← hW3] at HST
       have HW3 := hid hW3
       clear hW3 hl hlen hI z16 z17 z18 z19 z20 c0 c14 c16 c17 c18 c19 c20
       have HROW := hid HST.out.blk
       have HZ3 := hid ((HST.out.other (w.heap.size + 1) (by have := HK.out; omega)).trans HZ1.out)
       have NM3 := hid ((NM2.out.ku (HI.out.ku (N := 0) (Nat.zero_le _) HG2.out (by decide))).ku (HST.out.ku (N := 0) (Nat.zero_le _) HGL.out (by decide)))
       have HBW3 := hid (HBW2.out.trans ((HI.out.1.mono (by have := HK.out; omega)).trans (HST.out.below.mono (by have := HK.out; omega))))
       have HONE3 := hid (show ([.int .i64 9, nm, .slice none 0 0, .slice none 0 0, .slice none 0 0, .slice none 0 0, .bool false, .bool false, .slice none 0 0, .slice none 0 0, .slice none 0 0, .int .i64 0, .slice none 0 0, .slice none 0 0, .slice Ap params.length cp, .int .u32 0, .slice Ad proto.length cd, .slice Ae version.length ce, .slice Af transport.length cf, .slice Ag host.length cg, .int .i64 port] : List Value).all (·.oneCell') = true by
        obtain ⟨onm2, oa, ob, oc, op, od, oe, of, og, o0, o1, o4, o5, o6, o8, o9⟩ := And.intro (SBf.x (w0 := w0) NM3.out).one HO.out
        simp only [List.all_cons, List.all_nil, onm2, oa, ob, oc, op, od, oe, of, og, o0, o1, o4, o5, o6, o8, o9]
        rfl)
       go_simp
       go_upto_region 16 with fail
       rw [← HW3.out]
       clear HW3 g0 f0
       have HLX := hid (show ∀ wz, KU 0 W3 wz → LHx w0 wz (plainH ⟨9, name, text, display, u, params, num, proto, version, transport, host, port⟩) [.int .i64 9, nm, .slice none 0 0, .slice none 0 0, .slice none 0 0, .slice none 0 0, .bool false, .bool false, .slice none 0 0, .slice none 0 0, .slice none 0 0, .int .i64 0, .slice none 0 0, .slice none 0 0, .slice Ap params.length cp, .int .u32 0, .slice Ad proto.length cd, .slice Ae version.length ce, .slice Af transport.length cf, .slice Ag host.length cg, .int .i64 port] from fun wz hz => HE.out ▸ (show LHx w0 wz { baseH 9 with proto := proto, version := version, transport := transport, host := host, port := port, params := params } [.int .i64 9, nm, .slice none 0 0, .slice none 0 0, .slice none 0 0, .slice none 0 0, .bool false, .bool false, .slice none 0 0, .slice none 0 0, .slice none 0 0, .int .i64 0, .slice none 0 0, .slice none 0 0, .slice Ap params.length cp, .int .u32 0, .slice Ad proto.length cd, .slice Ae version.length ce, .slice Af transport.length cf, .slice Ag host.length cg, .int .i64 port] from ⟨nm, .slice none 0 0, .slice none 0 0, [.slice none 0 0, .slice none 0 0, .bool false, .bool false, .slice none 0 0, .slice none 0 0, .slice none 0 0, .int .i64 0, .slice none 0 0, .slice none 0 0], .slice Ap params.length cp, .slice Ad proto.length cd, .slice Ae version.length ce, .slice Af transport.length cf, .slice Ag host.length cg, rfl, .inr (NM3.out.ku hz), .inl (SB.nil _), SB.nil _, LU.empty _, HX.out.2.2.2.1, HX.out.2.2.2.2.1, HX.out.2.2.2.2.2.1, HX.out.2.2.2.2.2.2.1, HX.out.2.2.2.2.2.2.2, HN.out.1, ⟨(by show (0 : Int) ≤ 0; omega), (by show (0 : Int) < 4294967296; omega)⟩, HN.out.2.2⟩))
       go_wp2_with (first
        | (refine wpList_load_blk (by rfl) 35 (.tmp 3) (by rfl) k 35 (0, 0) _ (by rfl) HROW.out _ Tryz.underlying35 rfl 21 head_size rfl ?_)
        | (refine wpList_store_blk (by rfl) 35 (.tmp 2) (.tmp 92) (by rfl) (w.heap.size + 1) 35 _ _ (by rfl) (by rfl) (by rfl) HZ3.out 21 head_size (by rfl) HONE3.out ?_; intro W4 hst4; have HST4 := hid hst4; clear hst4))
       exact ret_cell 2 35 ⟨(w.heap.size + 1), 0, none⟩ _ _ rfl rfl (row_cells HST4.out.blk) Tryz.underlying35 rfl 21 head_size rfl rfl ⟨_, rfl, HLX.out _ (HST4.out.ku (Nat.zero_le _) HZ3.out (by decide)), HBW3.out.trans (HST4.out.below.mono (by omega))⟩
     ·have HE := hid (show ({ baseH 10 with text := text } : LHead) = plainH ⟨10, name, text, display, u, params, num, proto, version, transport, host, port⟩ by rfl)
      have c2 := row_at HB21.out 2 _ rfl
      have HFaddr := hid (show ∀ wx, Calls Tryz.prog 51 #[.int .i64 10] wx fun e w' => e = .returned (.bool false) ∧ wx = w' from fun wx => (isaddressed_any (10 : Int) wx).mono (fun e w' h => ⟨by rw [h.1, show addrB (10 : Int) = false from rfl], h.2.symm⟩))
      have HFrout := hid (show ∀ wx, Calls Tryz.prog 52 #[.int .i64 10] wx fun e w' => e = .returned (.bool false) ∧ wx = w' from fun wx => (isrouted_any (10 : Int) wx).mono (fun e w' h => ⟨by rw [h.1, show routB (10 : Int) = false from rfl], h.2.symm⟩))
      have HFnumb := hid (show ∀ wx, Calls Tryz.prog 53 #[.int .i64 10] wx fun e w' => e = .returned (.bool false) ∧ wx = w' from fun wx => (isnumbered_any (10 : Int) wx).mono (fun e w' h => ⟨by rw [h.1, show numbB (10 : Int) = false from rfl], h.2.symm⟩))
      have HST := hid (CG.done (tgt := [.int .i64 10, nm, .slice Ab text.length cb, .slice none 0 0, .slice none 0 0, .slice none 0 0, .bool false, .bool false, .slice none 0 0, .slice none 0 0, .slice none 0 0, .int .i64 0, .slice none 0 0, .slice none 0 0, .slice none 0 0, .int .u32 0, .slice none 0 0, .slice none 0 0, .slice none 0 0, .slice none 0 0, .int .i64 0]) (CG.refl k _ _ W2) HG2.out [] (fun _ h => by simp at h) 2 (.slice Ab text.length cb : Value) rfl rfl (fun j h1 h2 h3 => by
       rcases tab21 j h1 with rfl | rfl | rfl | rfl | rfl | rfl | rfl | rfl | rfl | rfl | rfl | rfl | rfl | rfl | rfl | rfl | rfl | rfl | rfl | rfl | rfl <;> first | rfl | exact absurd rfl h3 | exact absurd (by decide) h2))
      have g0 := row_at HG2.out 2 _ rfl
      have f0 := blk_frozen HG2.out 2
      have HZ1 := hid HB22.out
      have HGL := hid HG2.out
      obtain ⟨W3, hW3⟩ : ∃ W3, W3 = W2.setCell ⟨k, 2, none⟩ (.slice Ab text.length cb : Value) := ⟨_, rfl⟩
      rw [← hW3] at HST
      have HW3 := hid hW3
      clear hW3
      have HROW := hid HST.out.blk
      have HZ3 := hid ((HST.out.other (w.heap.size + 1) (by have := HK.out; omega)).trans HZ1.out)
      have NM3 := hid ((NM2.out.ku (KU.refl 0 _)).ku (HST.out.ku (N := 0) (Nat.zero_le _) HGL.out (by decide)))
      have HBW3 := hid (HBW2.out.trans ((Below.refl _ _).trans (HST.out.below.mono (by have := HK.out; omega))))
      have HONE3 := hid (show ([.int .i64 10, nm, .slice Ab text.length cb, .slice none 0 0, .slice none 0 0, .slice none 0 0, .bool false, .bool false, .slice none 0 0, .slice none 0 0, .slice none 0 0, .int .i64 0, .slice none 0 0, .slice none 0 0, .slice none 0 0, .int .u32 0, .slice none 0 0, .slice none 0 0, .slice none 0 0, .slice none 0 0, .int .i64 0] : List Value).all (·.oneCell') = true by
       obtain ⟨onm2, oa, ob, oc, op, od, oe, of, og, o0, o1, o4, o5, o6, o8, o9⟩ := And.intro (SBf.x (w0 := w0) NM3.out).one HO.out
       simp only [List.all_cons, List.all_nil, onm2, oa, ob, oc, op, od, oe, of, og, o0, o1, o4, o5, o6, o8, o9]
       rfl)
      go_upto_region 16 with (first | (go_at_call 51; refine (HFaddr.out _).mono ?_; rintro e w3 ⟨rfl, rfl⟩) | (go_at_call 52; refine (HFrout.out _).mono ?_; rintro e w3 ⟨rfl, rfl⟩) | (go_at_call 53; refine (HFnumb.out _).mono ?_; rintro e w3 ⟨rfl, rfl⟩) | fail)
      rw [← HW3.out]
      clear HW3 c0 c2 g0 f0
      have HLX := hid (show ∀ wz, KU 0 W3 wz → LHx w0 wz (plainH ⟨10, name, text, display, u, params, num, proto, version, transport, host, port⟩) [.int .i64 10, nm, .slice Ab text.length cb, .slice none 0 0, .slice none 0 0, .slice none 0 0, .bool false, .bool false, .slice none 0 0, .slice none 0 0, .slice none 0 0, .int .i64 0, .slice none 0 0, .slice none 0 0, .slice none 0 0, .int .u32 0, .slice none 0 0, .slice none 0 0, .slice none 0 0, .slice none 0 0, .int .i64 0] from fun wz hz => HE.out ▸ (show LHx w0 wz { baseH 10 with text := text } [.int .i64 10, nm, .slice Ab text.length cb, .slice none 0 0, .slice none 0 0, .slice none 0 0, .bool false, .bool false, .slice none 0 0, .slice none 0 0, .slice none 0 0, .int .i64 0, .slice none 0 0, .slice none 0 0, .slice none 0 0, .int .u32 0, .slice none 0 0, .slice none 0 0, .slice none 0 0, .slice none 0 0, .int .i64 0] from ⟨nm, .slice Ab text.length cb, .slice none 0 0, [.slice none 0 0, .slice none 0 0, .bool false, .bool false, .slice none 0 0, .slice none 0 0, .slice none 0 0, .int .i64 0, .slice none 0 0, .slice none 0 0], .slice none 0 0, .slice none 0 0, .slice none 0 0, .slice none 0 0, .slice none 0 0, rfl, .inr (NM3.out.ku hz), (HX.out.2.1.ku (KU.of_below HBW3.out (Nat.zero_le _))).ku hz, SB.nil _, LU.empty _, SK.nil _, SB.nil _, SB.nil _, SB.nil _, SB.nil _, HN.out.1, ⟨(by show (0 : Int) ≤ 0; omega), (by show (0 : Int) < 4294967296; omega)⟩, (by show I64 0; unfold I64; omega)⟩))
      go_wp2_with (first
       | (refine wpList_load_blk (by rfl) 35 (.tmp 3) (by rfl) k 35 (0, 0) _ (by rfl) HROW.out _ Tryz.underlying35 rfl 21 head_size rfl ?_)
       | (refine wpList_store_blk (by rfl) 35 (.tmp 2) (.tmp 92) (by rfl) (w.heap.size + 1) 35 _ _ (by rfl) (by rfl) (by rfl) HZ3.out 21 head_size (by rfl) HONE3.out ?_; intro W4 hst4; have HST4 := hid hst4; clear hst4))
      exact ret_cell 2 35 ⟨(w.heap.size + 1), 0, none⟩ _ _ rfl rfl (row_cells HST4.out.blk) Tryz.underlying35 rfl 21 head_size rfl rfl ⟨_, rfl, HLX.out _ (HST4.out.ku (Nat.zero_le _) HZ3.out (by decide)), HBW3.out.trans (HST4.out.below.mono (by omega))⟩
