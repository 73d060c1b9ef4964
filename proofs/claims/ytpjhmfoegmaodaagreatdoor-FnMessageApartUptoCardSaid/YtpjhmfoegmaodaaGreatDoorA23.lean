import Derived.Test.YtpjhmfoegmaodaaGreatDoorA22
set_option maxRecDepth 100000
set_option maxHeartbeats 16000000
set_option linter.all false
namespace Go.Proofs.YtpjhmfoegmaodaaGreatDoor
open Go.Lib (hid)
open Go.RowKit
theorem plain_any (w0 : World) (h : LHead) (cs : List Value) (w : World) (ht : 0 ≤ h.t ∧ h.t ≤ 14) (hH : LHx w0 w h cs) (hw : Sub w0 w) : Calls Tryz.prog 61 #[.agg cs.toArray] w (PHP w0 (plainH h) w) :=
 plain_raw w0 h.t h.name h.text h.display h.uri h.params h.num h.proto h.version h.transport h.host h.port cs w ht hH hw
theorem list21 {l : List Value} (h : l.length = 21) : ∃ x0 x1 x2 x3 x4 x5 x6 x7 x8 x9 x10 x11 x12 x13 x14 x15 x16 x17 x18 x19 x20, l = [x0, x1, x2, x3, x4, x5, x6, x7, x8, x9, x10, x11, x12, x13, x14, x15, x16, x17, x18, x19, x20] := by
 match l, h with
 | [x0, x1, x2, x3, x4, x5, x6, x7, x8, x9, x10, x11, x12, x13, x14, x15, x16, x17, x18, x19, x20], _ => exact ⟨x0, x1, x2, x3, x4, x5, x6, x7, x8, x9, x10, x11, x12, x13, x14, x15, x16, x17, x18, x19, x20, rfl⟩
def zeroH : List Value := [.int .i64 0, (), (), (), (), (), false, false, (), (), (), .int .i64 0, (), (), (), .int .u32 0, (), (), (), (), .int .i64 0]
theorem head_info : (Tryz.prog.info? 41).map (fun i => (i.zero, i.size, i.bytes)) = some (some (.agg zeroH.toArray), 21, 400) := by kernel_rfl
def OHs (w0 : World) (base : Nat) (w : World) (v : Value) (hs : List LHead) : Prop := ∃ css : List (List Value), css.length = hs.length ∧ w.ownsRow base 41 21 v hs.length css.flatten ∧ ∀ i (h : i < hs.length), ∃ cs, css[i]? = some cs ∧ LHx w0 w hs[i] cs
theorem OHs.nil (w0 : World) (base : Nat) (w : World) : OHs w0 base w (.slice none 0 0) [] := ⟨[], rfl, World.ownsRow_nil _ _ _ _, fun i h => absurd h (by simp)⟩
theorem OHs.snoc {w0 w w1 : World} {base : Nat} {v1 : Value} {hs : List LHead} {h : LHead} {css : List (List Value)} {cs : List Value} (hl : css.length = hs.length) (hall : ∀ i (h : i < hs.length), ∃ cs, css[i]? = some cs ∧ LHx w0 w hs[i] cs) (hx : LHx w0 w h cs) (k : KU 0 w w1)
  (ho : w1.ownsRow base 41 21 v1 (hs.length + 1) (css.flatten ++ cs)) : OHs w0 base w1 v1 (hs ++ [h]) := by
 refine ⟨css ++ [cs], by simp [hl], by simpa using ho, fun i hi => ?_⟩
 by_cases h1 : i < hs.length
 ·obtain ⟨c, h2, h3⟩ := hall i h1
  exact ⟨c, by rw [List.getElem?_append_left (by omega)]; exact h2, by rw [List.getElem_append_left h1]; exact h3.ku k⟩
 ·have : i = hs.length := by simp at hi; omega
  subst this
  exact ⟨cs, by rw [List.getElem?_append_right (by omega)]; simp [hl], by simpa using hx.ku k⟩
theorem OHs.kept {w0 w w1 : World} {base : Nat} {v : Value} {hs : List LHead} (h : OHs w0 base w v hs) (hb : Below w.heap.size w w1) : OHs w0 base w1 v hs := by
 obtain ⟨css, h1, h2, h3⟩ := h
 refine ⟨css, h1, World.ownsRow.kept (row := none) h2 ⟨hb.os, hb.tape, hb.output, hb.size, fun k hk _ => hb.block k hk⟩ (by cases v.ownBlock <;> simp), fun i hi => ?_⟩
 obtain ⟨cs, h4, h5⟩ := h3 i hi
 exact ⟨cs, h4, h5.ku (KU.of_below hb (Nat.zero_le _))⟩
theorem grown_ku {w w' : World} {base size n : Nat} {e : TypeId} {v : Value} {xs : List Value} (hg : w.grownBy w' v.ownBlock) (ho : w.ownsRow base e size v n xs) (he : e ≠ 5) : KU 0 w w' := by
 refine ⟨⟨hg.os, hg.tape, hg.output, hg.size, fun k hk => absurd hk (by omega)⟩, fun k cs fz hk => ⟨fz, ?_⟩⟩
 rw [hg.block k (heap_lt hk) (own_ne_block ho hk he)]
 exact hk
def AllPost (w0 : World) (hs : List LHead) (w : World) (e : Ending) (w' : World) : Prop := ∃ v, e = .returned v ∧ OHs w0 w.heap.size w' v hs ∧ Below w.heap.size w w'
theorem plainall_any (w0 : World) (v : Value) (l : List LHead) (w : World) (hS : SHs w0 v l) (hw : Sub w0 w) (ht : ∀ h ∈ l, 0 ≤ h.t ∧ h.t ≤ 14) (hl : l.length ≤ 1000) : Calls Tryz.prog 59 #[v] w (AllPost w0 (l.map plainH) w) := by
 have HS := hid hS
 have HW := hid hw
 have HL := hid hl
 have HT := hid ht
 obtain ⟨A, c, rfl, hlen⟩ := hS.form
 clear hS hw ht hl
 go_enter Tryz.func59, Tryz.ntmps59
 go_wp2_with fail
 go_loopw [3, 4] (fun o i wr => ∃ k : Nat, k ≤ l.length ∧ i = .int .i64 k ∧ OHs w0 w.heap.size wr o ((l.take k).map plainH) ∧ Below w.heap.size w wr) (fun _ i _ => l.length - (intOf i).toNat)
 case atStart => exact ⟨0, Nat.zero_le _, rfl, OHs.nil _ _ _, Below.refl _ _⟩
 case round =>
  obtain ⟨k, hk, rfl, ho, hb⟩ := hrel
  have HB := hid hb
  obtain ⟨wo, rfl⟩ : ∃ wo : World, wo = wr := ⟨_, rfl⟩
  have HO0 := hid ho
  obtain ⟨css, hc1, hc2, hc3⟩ := ho
  have HC1 := hid hc1
  have HC2 := hid hc2
  have HC3 := hid hc3
  clear hb hc1 hc3
  by_cases hlt : k < l.length
  ·obtain ⟨a, c', cs, h, e1, hh, hLH, hcell⟩ := HS.out.at_ k hlt
   cases e1
   have hx := hLH.x wo
   have HX := hid hx
   have HTK := hid (show ((l.take k).map plainH).length = k by rw [List.length_map, List.length_take]; omega)
   rw [HTK.out] at hc2
   obtain ⟨A3, k3, rfl⟩ := own_slice hc2
   have HC4 := hid (show ∀ wz, Below wo.heap.size wo wz → wz.ownsRow w.heap.size 41 21 (.slice A3 k k3) k css.flatten from fun wz hz => World.ownsRow.kept (row := none) hc2 ⟨hz.os, hz.tape, hz.output, hz.size, fun q hq _ => hz.block q hq⟩ (by cases A3 <;> simp [Value.ownBlock]))
   clear hc2
   have HCE := hid (show ∀ j u, cs[j]? = some u → wo.cell? ((a.add (k * 21)).add j) = some u from fun j u hj => cell_at_below (HW.out.cell _ _ (hcell j u hj)) HB.out)
   have hLT := hid (And.intro (Nat.succ_le_of_lt hlt) hh)
   have HTH := hid (HT.out h (List.mem_of_getElem? hh))
   have HWO := hid (HW.out.trans (HB.out.mono HW.out.size))
   have hk1 : (k : Int) < l.length := by omega
   have hk2 : (0 : Int) ≤ k := by omega
   have HLE := hid hx.len
   have HP := hid (plain_any w0 h cs wo HTH.out HX.out HWO.out)
   have HBN := hid (show ∀ wz, Below wo.heap.size wo wz → w.heap.size ≤ wz.heap.size ∧ Below w.heap.size w wz from fun wz hz => ⟨Nat.le_trans HB.out.size hz.size, HB.out.trans (hz.mono HB.out.size)⟩)
   have HKB := hid (show (k + 1) * 400 ≤ 140737488355328 by have := HL.out; omega)
   clear hcell hLH hx hlt hh
   go_wp2_with (first
    | (refine wpList_load_any (by rfl) 41 (.tmp 14) (by rfl) (a.add (k * 21)) (by rfl) cs _ HCE.out Tryz.underlying41 rfl (by rw [head_size, HLE.out]) ?_)
    | (go_at_call 61; refine HP.out.mono ?_; rintro e w2 ⟨cs2, rfl, hlx2, hb2⟩; have HLX := hid hlx2; have HB2 := hid hb2; have HONE := hid hlx2.one; obtain ⟨x0, x1, x2, x3, x4, x5, x6, x7, x8, x9, x10, x11, x12, x13, x14, x15, x16, x17, x18, x19, x20, rfl⟩ := list21 hlx2.len; clear hlx2 hb2; obtain ⟨h0, h1, h2, h3, h4, h5, h6, h7, h8, h9, h10, h11, h12, h13, h14, h15, h16, h17, h18, h19, h20, -⟩ : x0.oneCell' = true ∧ x1.oneCell' = true ∧ x2.oneCell' = true ∧ x3.oneCell' = true ∧ x4.oneCell' = true ∧ x5.oneCell' = true ∧ x6.oneCell' = true ∧ x7.oneCell' = true ∧ x8.oneCell' = true ∧ x9.oneCell' = true ∧ x10.oneCell' = true ∧ x11.oneCell' = true ∧ x12.oneCell' = true ∧ x13.oneCell' = true ∧ x14.oneCell' = true ∧ x15.oneCell' = true ∧ x16.oneCell' = true ∧ x17.oneCell' = true ∧ x18.oneCell' = true ∧ x19.oneCell' = true ∧ x20.oneCell' = true ∧ True := by simpa [List.all_cons] using HONE.out)
    | (at_builtin; refine app_one w.heap.size rfl (.tmp 11) (.tmp 17) 26 41 (.agg zeroH.toArray) 21 400 rfl Tryz.underlying26 head_info rfl (by decide) (by decide) (.slice A3 k k3) k css.flatten [x0, x1, x2, x3, x4, x5, x6, x7, x8, x9, x10, x11, x12, x13, x14, x15, x16, x17, x18, x19, x20] (0, 0) rfl rfl rfl (List.all_eq_true.1 HONE.out) (HC4.out _ HB2.out) (HBN.out _ HB2.out).1 HKB.out ?_; intro v1 w3 ho3 hg3)
    | fail)
   have HK3 := hid (grown_ku hg3 (HC4.out _ HB2.out) (by decide))
   have HB3 := hid ((HBN.out _ HB2.out).2.grown hg3 (HBN.out _ HB2.out).1 (fun q hq => ((HC4.out _ HB2.out).lt q hq).1))
   have HO3 := hid (show OHs w0 w.heap.size w3 v1 ((l.take (k + 1)).map plainH) by
    have e : (l.take (k + 1)).map plainH = (l.take k).map plainH ++ [plainH h] := by rw [List.take_add_one, hLT.out.2]; simp
    rw [e]
    refine OHs.snoc (w := w2) HC1.out (fun i hi => ?_) HLX.out HK3.out (by rw [HTK.out]; exact ho3)
    obtain ⟨c1, e1, e2⟩ := HC3.out i hi
    exact ⟨c1, e1, e2.ku (KU.of_below HB2.out (Nat.zero_le _))⟩)
   obtain ⟨A4, k4, rfl⟩ := own_slice ho3
   clear ho3 hg3 h0 h1 h2 h3 h4 h5 h6 h7 h8 h9 h10 h11 h12 h13 h14 h15 h16 h17 h18 h19 h20
   go_wp2
   go_roundw
   case rel => exact ⟨k + 1, hLT.out.1, by simp, HO3.out, HB3.out⟩
   case measure => exact meas_step hLT.out.1 (by simp)
  ·have hke : k = l.length := by omega
   subst hke
   have HO := HO0
   rw [List.take_length] at HO
   clear HO0
   obtain ⟨A3, k3, rfl⟩ := own_slice hc2
   clear hc2
   go_wp2
   go_ret
   exact ⟨_, rfl, by first | exact HO.out | simpa using HO.out, HB.out⟩
def heardH (h : LHead) : LHead := if h.t = 7 then ⟨0, nameS 7, Lib.itoa h.num, [], emptyU, [], 0, [], [], [], [], 0⟩ else plainH h
theorem heard_7 (w0 : World) (name text display : Bytes) (u : LUri) (params : BKVs) (num : Int) (proto version transport host : Bytes) (port : Int) (cs : List Value) (w : World) (hH : LHx w0 w ⟨7, name, text, display, u, params, num, proto, version, transport, host, port⟩ cs) (hw : Sub w0 w) : Calls Tryz.prog 31 #[.agg cs.toArray] w (PHP w0 ⟨0, nameS 7, Lib.itoa num, [], emptyU, [], 0, [], [], [], [], 0⟩ w) := by
 have hlen := hH.len
 have hone := hH.one
 obtain ⟨x0, x1, x2, x3, x4, x5, x6, x7, x8, x9, x10, x11, x12, x13, x14, x15, x16, x17, x18, x19, x20, rfl⟩ := list21 hlen
 obtain ⟨hx0, hx15, hnum⟩ : x0 = .int .i64 7 ∧ x15 = .int .u32 num ∧ (0 ≤ num ∧ num < 4294967296) := by
  obtain ⟨a, b, c, ul, p, d, e, f, g, h0, -, -, -, hu, -, -, -, -, -, -, hn, -⟩ := hH
  obtain ⟨u0, u1, u4, u5, u6, u8, u9, rfl, -⟩ := hu
  simp only [List.cons_append, List.nil_append, List.cons.injEq] at h0
  exact ⟨h0.1, h0.2.2.2.2.2.2.2.2.2.2.2.2.2.2.2.1, hn⟩
 subst hx0 hx15
 clear hlen hone hH
 have HWZ := hid hw.size
 clear hw
 have HNU := hid hnum
 have HNM := hid (show ((⟨(nameS 7).toArray⟩ : ByteArray).size ≤ 70368744177664) from by rw [sz]; have := nameS_len 7; omega)
 have b1 : (0 : Int) ≤ num := hnum.1
 have b2 : num < 4294967296 := hnum.2
 clear hnum
 obtain ⟨wb, hwb⟩ : ∃ wb, wb = (w.alloc (.cells #[.int .i64 7, x1, x2, x3, x4, x5, x6, x7, x8, x9, x10, x11, x12, x13, x14, .int .u32 num, x16, x17, x18, x19, x20] 41)).alloc (.cells #[.int .i64 0, (), (), (), (), (), false, false, (), (), (), .int .i64 0, (), (), (), .int .u32 0, (), (), (), (), .int .i64 0] 41) := ⟨_, rfl⟩
 have HWB1 := hid (show wb.heap[w.heap.size]? = some (.cells (_ : List Value).toArray 41 (0, 0)) by rw [hwb]; exact ((Below.refl _ _).alloc (Nat.le_refl _) _).block w.heap.size (by simp) |>.trans (heap_alloc_new w _))
 have HWB2 := hid (show wb.heap[w.heap.size + 1]? = some (.cells (_ : List Value).toArray 41 (0, 0)) by rw [hwb]; have := heap_alloc_new (w.alloc (.cells #[.int .i64 7, x1, x2, x3, x4, x5, x6, x7, x8, x9, x10, x11, x12, x13, x14, .int .u32 num, x16, x17, x18, x19, x20] 41)) (.cells #[.int .i64 0, (), (), (), (), (), false, false, (), (), (), .int .i64 0, (), (), (), .int .u32 0, (), (), (), (), .int .i64 0] 41); rwa [World.size_alloc] at this)
 have HB0 := hid (show Below w.heap.size w wb by rw [hwb]; exact ((Below.refl _ w).alloc (Nat.le_refl _) _).alloc (by simp) _)
 have HSZ := hid (show wb.heap.size = w.heap.size + 2 by rw [hwb]; simp)
 have HWS := hid (show w0.heap.size ≤ wb.heap.size by have := HWZ.out; have := HSZ.out; omega)
 go_enter Tryz.func31, Tryz.ntmps31
 go_wp2_with fail
 rw [← hwb]
 generalize Value.agg _ = arg0
 clear hwb
 refine wp_region_grow 7 (CK wb.heap.size) (IW wb)
  (fun i v w' => match i with
   | 0 => v = .string ⟨(nameS 7).toArray⟩
   | 1 => SBf w0.heap.size w' v (nameS 7)
   | 2 => v = .pointer (some ⟨w.heap.size, 15, none⟩)
   | 3 => v = .int .u32 num
   | 4 => v = .int .i64 num
   | 5 => SBx w0 w' v (Lib.itoa num)
   | 6 => ∃ nm tx, v = .agg #[.int .i64 0, nm, tx, (), (), (), false, false, (), (), (), .int .i64 0, (), (), (), .int .u32 0, (), (), (), (), .int .i64 0] ∧ SBf w0.heap.size w' nm (nameS 7) ∧ SBx w0 w' tx (Lib.itoa num)
   | _ => True)
  [[], [0], [], [2], [3], [4], [1, 5]] rfl (by kernel_rfl) (by kernel_rfl) (fun _ _ => IW.step) ?_ ?_ ?_ ?_
 ·intro j hj v w'
  match j, hj with
  | j + 7, _ => trivial
 ·exact CK.of_below (Below.refl _ _).drew (Nat.le_refl _)
 ·simp only [List.take_succ_cons, List.take_zero, fillAll]
  have c15 := row_at HWB1.out 15 _ rfl
  refine ⟨⟨?_, ?_⟩, ⟨?_, ?_⟩, ⟨?_, ?_⟩, ⟨?_, ?_⟩, ⟨?_, ?_⟩, ⟨?_, ?_⟩, ⟨?_, ?_⟩, trivial⟩
  ·exact fun v w1 w2 h k => h
  ·intro vals w1 hI hd
   unfold GStep
   go_wp2_with (go_at_call 60; refine (nameof_any 7 _).mono ?_; rintro e w2 ⟨rfl, rfl⟩)
   exact CK.refl _ _
  ·exact fun v w1 w2 h k => SBf.ku h k.ku
  ·intro vals w1 hI hd
   have h4 : vals 0 = _ := hd.1
   have hr := Lib.run_convert_string_bytes (P := Tryz.prog) w1 9 22 5 ⟨(nameS 7).toArray⟩ Tryz.underlying9 Tryz.underlying22 Tryz.underlying5
   have X := hid (conv_sbf w0.heap.size w1 ⟨(nameS 7).toArray⟩ HNM.out (Nat.le_trans HWS.out hI.size))
   unfold GStep
   go_wp2
   exact ⟨CK.of_below X.out.2 hI.size, X.out.1⟩
  ·exact fun v w1 w2 h k => h
  ·intro vals w1 hI hd
   unfold GStep
   go_wp2
   exact CK.refl _ _
  ·exact fun v w1 w2 h k => h
  ·intro vals w1 hI hd
   have h1 : vals 2 = _ := hd.1
   have dc15 := hI.cell c15
   unfold GStep
   go_wp2
   exact CK.refl _ _
  ·exact fun v w1 w2 h k => h
  ·intro vals w1 hI hd
   have h3 : vals 3 = _ := hd.1
   unfold GStep
   go_wp2
   exact CK.refl _ _
  ·exact fun v w1 w2 h k => SBx.ku h k.ku
  ·intro vals w1 hI hd
   have h1 : vals 4 = _ := hd.1
   have HD := hid (decimal_any num w1 (by have := HNU.out; unfold I64; omega))
   unfold GStep
   go_wp2_with (go_at_call 32; refine HD.out.mono ?_; rintro e w2 ⟨v, l, rfl, hO, hl, hn, hb⟩)
   rw [hl HNU.out.1] at hO
   exact ⟨CK.of_below hb hI.size, hO.sbx (Nat.le_trans HWS.out hI.size)⟩
  ·rintro v w1 w2 ⟨nm, tx, h1, h2, h3⟩ k
   exact ⟨nm, tx, h1, h2.ku k.ku, h3.ku k.ku⟩
  ·intro vals w1 hI hd
   have h1 : SBf w0.heap.size w1 (vals 1) _ := hd.1
   have h5 : SBx w0 w1 (vals 5) _ := hd.2.1
   clear hd
   unfold GStep
   dsimp only
   generalize vals 1 = x1 at h1 ⊢
   generalize vals 5 = x5 at h5 ⊢
   have H1 := hid h1
   have H5 := hid h5
   obtain ⟨k1, cap1, cs1, fz1, rfl, -⟩ := h1
   obtain ⟨A5, c5, rfl⟩ := h5.form
   clear h5
   go_wp2
   first | exact ⟨CK.refl _ _, _, _, rfl, H1.out, H5.out⟩ | exact ⟨CK.refl _ _, _, _, ⟨rfl, rfl⟩, H1.out, H5.out⟩ | exact ⟨CK.refl _ _, H1.out, H5.out⟩
 ·intro vals w1 hI hR
  simp only [List.drop_succ_cons, List.drop_zero, List.take_succ_cons, List.take_zero, fillAll]
  obtain ⟨-, -, -, -, -, -, r6, -⟩ := hR
  generalize vals 6 = x6 at r6 ⊢
  obtain ⟨nm, tx, rfl, hnm, htx⟩ := r6
  have NM := hid hnm
  have TX := hid htx
  have HB2 := hid ((hI.below.block (w.heap.size + 1) (by have := HSZ.out; omega)).trans HWB2.out)
  have HBW := hid (HB0.out.trans (hI.below.mono (by have := HSZ.out; omega)))
  have HONE := hid (show ([.int .i64 0, nm, tx, (), (), (), false, false, (), (), (), .int .i64 0, (), (), (), .int .u32 0, (), (), (), (), .int .i64 0] : List Value).all (·.oneCell') = true by simp only [List.all_cons, List.all_nil, (SBf.x (w0 := w0) hnm).one, htx.one]; rfl)
  clear hnm htx hI
  go_simp
  go_wp2_with (refine wpList_store_blk (by rfl) 41 (.tmp 2) (.tmp 12) (by rfl) (w.heap.size + 1) 41 _ _ (by rfl) (by rfl) (by rfl) HB2.out 21 head_size (by rfl) HONE.out ?_; intro W4 hst4; have HST4 := hid hst4; clear hst4)
  have HKU := hid (HST4.out.ku (N := 0) (Nat.zero_le _) HB2.out (by decide))
  exact ret_cell 2 41 ⟨w.heap.size + 1, 0, none⟩ _ _ rfl rfl (row_cells HST4.out.blk) Tryz.underlying41 rfl 21 head_size rfl rfl ⟨_, rfl,
   ⟨nm, tx, .slice none 0 0, _, .slice none 0 0, .slice none 0 0, .slice none 0 0, .slice none 0 0, .slice none 0 0, rfl, .inr (NM.out.ku HKU.out), TX.out.ku HKU.out, SB.nil _, LU.empty _, SK.nil _, SB.nil _, SB.nil _, SB.nil _, SB.nil _, (by show I64 0; unfold I64; omega), ⟨(by show (0 : Int) ≤ 0; omega), (by show (0 : Int) < 4294967296; omega)⟩, (by show I64 0; unfold I64; omega)⟩,
   HBW.out.trans (HST4.out.below.mono (by omega))⟩
theorem heard_x (w0 : World) (h : LHead) (cs : List Value) (w : World) (hH : LHx w0 w h cs) (hw : Sub w0 w) (ht : 0 ≤ h.t ∧ h.t ≤ 14) (h7 : h.t ≠ 7) : Calls Tryz.prog 31 #[.agg cs.toArray] w (PHP w0 (plainH h) w) := by
 have HH := hid hH
 have HW := hid hw
 have HT := hid ht
 have hlen := hH.len
 obtain ⟨x0, x1, x2, x3, x4, x5, x6, x7, x8, x9, x10, x11, x12, x13, x14, x15, x16, x17, x18, x19, x20, rfl⟩ := list21 hlen
 have hx0 : x0 = .int .i64 h.t := by
  obtain ⟨a, b, c, ul, p, d, e, f, g, h0, -⟩ := hH
  simp only [List.cons.injEq] at h0
  exact h0.1
 subst hx0
 have g7 : ((h.t : Int) == 7) = false := by simpa using h7
 clear hlen hH hw ht h7
 obtain ⟨wb, hwb⟩ : ∃ wb, wb = (w.alloc (.cells #[.int .i64 h.t, x1, x2, x3, x4, x5, x6, x7, x8, x9, x10, x11, x12, x13, x14, x15, x16, x17, x18, x19, x20] 41)).alloc (.cells #[.int .i64 0, (), (), (), (), (), false, false, (), (), (), .int .i64 0, (), (), (), .int .u32 0, (), (), (), (), .int .i64 0] 41) := ⟨_, rfl⟩
 have HWB1 := hid (show wb.heap[w.heap.size]? = some (.cells (_ : List Value).toArray 41 (0, 0)) by rw [hwb]; exact ((Below.refl _ _).alloc (Nat.le_refl _) _).block w.heap.size (by simp) |>.trans (heap_alloc_new w _))
 have HWB2 := hid (show wb.heap[w.heap.size + 1]? = some (.cells (_ : List Value).toArray 41 (0, 0)) by rw [hwb]; have := heap_alloc_new (w.alloc (.cells #[.int .i64 h.t, x1, x2, x3, x4, x5, x6, x7, x8, x9, x10, x11, x12, x13, x14, x15, x16, x17, x18, x19, x20] 41)) (.cells #[.int .i64 0, (), (), (), (), (), false, false, (), (), (), .int .i64 0, (), (), (), .int .u32 0, (), (), (), (), .int .i64 0] 41); rwa [World.size_alloc] at this)
 have HB0 := hid (show Below w.heap.size w wb by rw [hwb]; exact ((Below.refl _ w).alloc (Nat.le_refl _) _).alloc (by simp) _)
 have HSZ := hid (show wb.heap.size = w.heap.size + 2 by rw [hwb]; simp)
 have HP := hid (fun wz hz =>
  plain_any w0 h _ wz HT.out (HH.out.ku ((KU.of_below HB0.out (Nat.zero_le _)).trans (KU.of_below hz (Nat.zero_le _)))) (HW.out.trans ((HB0.out.trans (hz.mono (by have := HSZ.out; omega))).mono HW.out.size)))
 have c0 := row_at HWB1.out 0 _ rfl
 go_enter Tryz.func31, Tryz.ntmps31
 go_upto_region 1 with fail
 rw [← hwb]
 generalize Value.agg _ = arg0
 clear hwb
 go_wp2_with (first
  | (refine wpList_load_blk (by rfl) 41 (.tmp 1) (by rfl) w.heap.size 41 (0, 0) _ (by rfl) HWB1.out _ Tryz.underlying41 rfl 21 head_size rfl ?_)
  | (go_at_call 61; refine (HP.out _ (Below.refl _ _)).mono ?_; rintro e w2 ⟨cs2, rfl, hlx, hb⟩; have HLX := hid hlx; have HB := hid hb; have HB2 := hid ((hb.block (w.heap.size + 1) (by have := HSZ.out; omega)).trans HWB2.out); clear hlx hb)
  | (refine wpList_store_blk (by rfl) 41 (.tmp 2) (.tmp 14) (by rfl) (w.heap.size + 1) 41 _ cs2 (by rfl) (by rfl) (by rw [HLX.out.len]; rfl) HB2.out 21 head_size HLX.out.len HLX.out.one ?_; intro W4 hst4; have HST4 := hid hst4; clear hst4)
  | fail)
 exact ret_cell 2 41 ⟨w.heap.size + 1, 0, none⟩ cs2 _ rfl rfl (row_cells HST4.out.blk) Tryz.underlying41 rfl 21 head_size HLX.out.len rfl ⟨_, rfl, HLX.out.ku (HST4.out.ku (N := 0) (Nat.zero_le _) HB2.out (by decide)), (HB0.out.trans (HB.out.mono (by have := HSZ.out; omega))).trans (HST4.out.below.mono (by omega))⟩
theorem heard_any (w0 : World) (h : LHead) (cs : List Value) (w : World) (hH : LHx w0 w h cs) (hw : Sub w0 w) (ht : 0 ≤ h.t ∧ h.t ≤ 14) : Calls Tryz.prog 31 #[.agg cs.toArray] w (PHP w0 (heardH h) w) := by
 by_cases h7 : h.t = 7
 ·rw [heardH, if_pos h7]
  obtain ⟨t, name, text, display, u, params, num, proto, version, transport, host, port⟩ := h
  dsimp only at h7 ⊢
  subst h7
  exact heard_7 w0 name text display u params num proto version transport host port cs w hH hw
 ·rw [heardH, if_neg h7]
  exact heard_x w0 h cs w hH hw ht h7
theorem CG.done_part {g : Nat} {ty : TypeId} {tgt l0 l : List Value} {w w1 w2 : World} (hI : CG g ty tgt w w1) (hg : w.heap[g]? = some (Obj.cells l0.toArray ty (0, 0))) (h1 : w1.heap[g]? = some (Obj.cells l.toArray ty (0, 0))) (S : List Nat) (hS : ∀ j ∈ S, Wr g ty tgt j w1) (o : Nat) (cells : List Value)
  (hs : Stored g ty (l.take o ++ cells ++ l.drop (o + cells.length)) w1 w2) (hc : ∀ i, i < cells.length → tgt[o + i]? = cells[i]?) (hlen : l0.length = tgt.length) (hol : o + cells.length ≤ l0.length) (heq : ∀ j, j < tgt.length → j ∉ S → ¬ (o ≤ j ∧ j < o + cells.length) → l0[j]? = tgt[j]?) : Stored g ty tgt w1 w2 := by
 obtain ⟨l', k1, k2, k3⟩ := hI.2.2 _ hg
 have hl : l = l' := by
  rw [h1] at k1
  injection k1 with k1
  injection k1 with k1 _ _
  simpa using congrArg Array.toList k1
 subst hl
 have ht : (l.take o).length = o := by rw [List.length_take]; omega
 have e : l.take o ++ cells ++ l.drop (o + cells.length) = tgt := by
  apply List.ext_getElem?
  intro j
  have hget : (l.take o ++ cells ++ l.drop (o + cells.length))[j]? = if o ≤ j ∧ j < o + cells.length then cells[j - o]? else l[j]? := by
   by_cases h1 : j < o
   ·rw [List.append_assoc, List.getElem?_append_left (by omega), List.getElem?_take_of_lt h1, if_neg (by omega)]
   ·by_cases h2 : j < o + cells.length
    ·rw [List.getElem?_append_left (by simp; omega), List.getElem?_append_right (by omega), ht, if_pos (by omega)]
    ·rw [List.getElem?_append_right (by simp; omega), List.getElem?_drop, if_neg (by omega)]
     congr 1
     simp
     omega
  rw [hget]
  split
  ·rename_i hj
   have := hc (j - o) (by omega)
   rw [show o + (j - o) = j by omega] at this
   exact this.symm
  ·rename_i hj
   by_cases hjt : j < tgt.length
   ·by_cases hjs : j ∈ S
    ·obtain ⟨l2, m1, m2⟩ := hS j hjs
     rw [h1] at m1
     injection m1 with m1
     injection m1 with m1 _ _
     have m3 : l = l2 := by simpa using congrArg Array.toList m1
     rw [m3]
     exact m2
    ·rcases k3 j with e | e
     ·rw [e]
      exact heq j hjt hjs hj
     ·exact e
   ·rw [List.getElem?_eq_none (by omega), List.getElem?_eq_none (by omega)]
 rw [e] at hs
 exact hs
def lenH (n : Int) : LHead := { baseH 8 with num := n }
theorem msg_size : (Tryz.prog.info? 28).map (·.size) = some 19 := by kernel_rfl
theorem own_ck {w w' : World} {N base size n : Nat} {e : TypeId} {v : Value} {xs : List Value} (h : w.ownsRow base e size v n xs) (k : CK N w w') (he : e ≠ 5) : w'.ownsRow base e size v n xs := by
 rcases h with ⟨h1, h2 | ⟨g, cap, cur, h3, h4, h5, h6⟩⟩
 ·exact ⟨h1, .inl h2⟩
 ·exact ⟨h1, .inr ⟨g, cap, cur, h3, h4, k.same h5 he, h6⟩⟩
theorem OHs.ck {w0 w w' : World} {N base : Nat} {v : Value} {hs : List LHead} (h : OHs w0 base w v hs) (k : CK N w w') : OHs w0 base w' v hs := by
 obtain ⟨css, h1, h2, h3⟩ := h
 refine ⟨css, h1, own_ck h2 k (by decide), fun i hi => ?_⟩
 obtain ⟨cs, h4, h5⟩ := h3 i hi
 exact ⟨cs, h4, h5.ku k.ku⟩
theorem own_stored {w w' : World} {g base size n : Nat} {ty e : TypeId} {l l0 : List Value} {v : Value} {xs : List Value} (h : w.ownsRow base e size v n xs) (hs : Stored g ty l w w') (hg : w.heap[g]? = some (Obj.cells l0.toArray ty (0, 0))) (hne : e ≠ ty) : w'.ownsRow base e size v n xs := by
 rcases h with ⟨h1, h2 | ⟨k, cap, cur, h3, h4, h5, h6⟩⟩
 ·exact ⟨h1, .inl h2⟩
 ·refine ⟨h1, .inr ⟨k, cap, cur, h3, h4, ?_, h6⟩⟩
  rw [hs.other k]
  ·exact h5
  ·rintro rfl
   rw [hg] at h5
   injection h5 with h5
   injection h5 with _ h5 _
   exact hne h5.symm
theorem OHs.stored {w0 w w' : World} {g base : Nat} {ty : TypeId} {l l0 : List Value} {v : Value} {hs : List LHead} (h : OHs w0 base w v hs) (k : Stored g ty l w w') (hg : w.heap[g]? = some (Obj.cells l0.toArray ty (0, 0))) (hne : 41 ≠ ty) (hu : ty ≠ 5) : OHs w0 base w' v hs := by
 obtain ⟨css, h1, h2, h3⟩ := h
 refine ⟨css, h1, own_stored h2 k hg hne, fun i hi => ?_⟩
 obtain ⟨cs, h4, h5⟩ := h3 i hi
 exact ⟨cs, h4, h5.ku (k.ku (N := 0) (Nat.zero_le _) hg hu)⟩
theorem OHs.cg {w0 w w' : World} {g base : Nat} {ty : TypeId} {tgt l0 : List Value} {v : Value} {hs : List LHead} (h : OHs w0 base w v hs) (k : CG g ty tgt w w') (hg : w.heap[g]? = some (Obj.cells l0.toArray ty (0, 0))) (hne : 41 ≠ ty) (hu : ty ≠ 5) : OHs w0 base w' v hs := by
 obtain ⟨css, h1, h2, h3⟩ := h
 refine ⟨css, h1, ?_, fun i hi => ?_⟩
 ·rcases h2 with ⟨k1, k2 | ⟨b, cap, cur, k3, k4, k5, k6⟩⟩
  ·exact ⟨k1, .inl k2⟩
  ·refine ⟨k1, .inr ⟨b, cap, cur, k3, k4, ?_, k6⟩⟩
   have hbg : b ≠ g := by
    rintro rfl
    rw [hg] at k5
    injection k5 with k5
    injection k5 with _ k5 _
    exact hne k5.symm
   obtain ⟨fz', e1, e2⟩ := k.2.1 b cur _ _ hbg k5
   rw [e1, e2 (by decide)]
 ·obtain ⟨cs, h4, h5⟩ := h3 i hi
  exact ⟨cs, h4, h5.ku (k.ku (N := 0) (Nat.zero_le _) hg hu)⟩
theorem OHs.form {w0 w : World} {base : Nat} {v : Value} {hs : List LHead} (h : OHs w0 base w v hs) : ∃ A c, v = .slice A hs.length c := by
 obtain ⟨css, h1, h2, h3⟩ := h
 exact own_slice h2
theorem OHs.less {w0 w : World} {base b2 : Nat} {v : Value} {hs : List LHead} (h : OHs w0 base w v hs) (hb : b2 ≤ base) : OHs w0 b2 w v hs := by
 obtain ⟨css, h1, h2, h3⟩ := h
 refine ⟨css, h1, ?_, h3⟩
 rcases h2 with ⟨k1, k2 | ⟨g, cap, cur, k3, k4, k5⟩⟩
 ·exact ⟨k1, .inl k2⟩
 ·exact ⟨k1, .inr ⟨g, cap, cur, k3, Nat.le_trans hb k4, k5⟩⟩
section
variable {P : Program} {ops : Array Oper} {rest : List Oper} {o : Oper} {a : Act} {Q : Exit → Act → World → Prop}
theorem app_box {W : World} (base : Nat) (hgd : o.guard = none) (s x : Operand) (t e : TypeId) (z : Value) (size bytes : Nat)
  (ho : o.op = .call { callee := .builtin .append, args := #[s, x], argTypes := #[t, t] })
  (ht : P.underlying t = some (.slice e)) (hinfo : (P.info? e).map (fun i => (i.zero, i.size, i.bytes)) = some (some z, size, bytes)) (hz : z.cells.size = size) (hs0 : 0 < size) (hb0 : 0 < bytes)
  (v : Value) (n : Nat) (xs ys : List Value) (g : Nat) (t' : TypeId) (fz : Nat × Nat) (hs : a.eval s = v) (hx : a.eval x = .slice (some ⟨g, 0, none⟩) 1 1) (hg : W.heap[g]? = some (Obj.cells ys.toArray t' fz)) (hy : ys.length = size) (h1 : ∀ u ∈ ys, u.oneCell' = true)
  (HO : W.ownsRow base e size v n xs) (hbase : base ≤ W.heap.size) (hl : (n + 1) * bytes ≤ 140737488355328)
  (h : ∀ v1 w1, w1.ownsRow base e size v1 (n + 1) (xs ++ ys) → W.grownBy w1 v.ownBlock → wpList P ops Q rest (a.put o.dst v1) w1) :
  wpList P ops Q (o :: rest) a W := by
 obtain ⟨i0, hi, hzz⟩ := Option.map_eq_some_iff.1 hinfo
 simp only [Prod.mk.injEq] at hzz
 obtain ⟨hz0, hz1, hz2⟩ := hzz
 have hlen : n + 1 ≤ 140737488355328 := Nat.le_trans (Nat.le_mul_of_pos_right _ hb0) hl
 refine wpList_append_own W hgd s x t ho base e i0 z size bytes ht hi hz0 hz1 hz2 hz hs0 v n xs hs HO ⟨g, 0, none⟩ 1 1 ys hx (by omega) ?_ h1 (by simp only [maxLen]; omega) hl hbase ?_
 ·intro j u hj
  exact row_cells hg j u hj
 ·intro v1 w1 hown hgr _
  exact h v1 w1 hown hgr
end
theorem tab19 (j : Nat) (h : j < 19) : j = 0 ∨ j = 1 ∨ j = 2 ∨ j = 3 ∨ j = 4 ∨ j = 5 ∨ j = 6 ∨ j = 7 ∨ j = 8 ∨ j = 9 ∨ j = 10 ∨ j = 11 ∨ j = 12 ∨ j = 13 ∨ j = 14 ∨ j = 15 ∨ j = 16 ∨ j = 17 ∨ j = 18 := by omega
theorem made_res (w0 : World) (method : Bytes) (u : LUri) (code : Int) (reason version : Bytes) (heads : List LHead) (body : Bytes) (hasBody compact : Bool) (cs : List Value) (hM : LM w0 ⟨true, method, u, code, reason, version, heads, body, hasBody, compact⟩ cs) (ht : ∀ h ∈ heads, 0 ≤ h.t ∧ h.t ≤ 14) (hl : heads.length ≤ 64) (hbl : body.length ≤ 8192) :
  ∃ b c d, SB w0 b reason ∧ SB w0 c version ∧ SB w0 d body ∧ ∀ w : World, Sub w0 w → Calls Tryz.prog 30 #[.agg cs.toArray] w fun e w' => ∃ v, e = .returned (.agg ([true, (), (), (), false, false, (), (), (), .int .i64 0, (), (), .int .i64 code, b, c, v, d, false, false] : List Value).toArray) ∧ OHs w0 w.heap.size w' v ((heads.map plainH) ++ [lenH body.length]) ∧ Below w.heap.size w w' := by
 obtain ⟨va, ul, vb, vc, vh, vd, rfl, hm, hu, hrs, hv, hh, hbo, hcode⟩ := hM
 have HLU := hid hu
 refine ⟨vb, vc, vd, hrs, hv, hbo, fun w hw => ?_⟩
 obtain ⟨u0, u1, u4, u5, u6, u8, u9, rfl, k1, k2, k3, k4, k5, k6, k7, k8⟩ := hu
 dsimp only at *
 have HHS := hid hh
 have HW := hid hw
 have HT := hid ht
 have HL := hid (And.intro hl hbl)
 obtain ⟨Am, cm, rfl, -⟩ := hm.form
 obtain ⟨Ar, cr, rfl, -⟩ := hrs.form
 obtain ⟨Av, cv, rfl, -⟩ := hv.form
 obtain ⟨Ah, ch, rfl, -⟩ := hh.form
 obtain ⟨Ab, cb, rfl, -⟩ := hbo.form
 simp only [List.cons_append, List.nil_append]
 clear k1 k2 k3 k4 k5 k6 k7 k8 hm hrs hv hh hbo hcode hw ht hl hbl
 obtain ⟨wb, hwb⟩ : ∃ wb, wb = (w.alloc (.cells #[true, .slice Am method.length cm, u0, u1, .bool u.star, .bool u.slashes, u4, u5, u6, .int .i64 u.port, u8, u9, .int .i64 code, .slice Ar reason.length cr, .slice Av version.length cv, .slice Ah heads.length ch, .slice Ab body.length cb, .bool hasBody, .bool compact] 28)).alloc (.cells #[false, (), (), (), false, false, (), (), (), .int .i64 0, (), (), .int .i64 0, (), (), (), (), false, false] 28) := ⟨_, rfl⟩
 have HWB1 := hid (show wb.heap[w.heap.size]? = some (.cells (_ : List Value).toArray 28 (0, 0)) by rw [hwb]; exact ((Below.refl _ _).alloc (Nat.le_refl _) _).block w.heap.size (by simp) |>.trans (heap_alloc_new w _))
 have HWB2 := hid (show wb.heap[w.heap.size + 1]? = some (.cells (_ : List Value).toArray 28 (0, 0)) by rw [hwb]; have := heap_alloc_new (w.alloc (.cells #[true, .slice Am method.length cm, u0, u1, .bool u.star, .bool u.slashes, u4, u5, u6, .int .i64 u.port, u8, u9, .int .i64 code, .slice Ar reason.length cr, .slice Av version.length cv, .slice Ah heads.length ch, .slice Ab body.length cb, .bool hasBody, .bool compact] 28)) (.cells #[false, (), (), (), false, false, (), (), (), .int .i64 0, (), (), .int .i64 0, (), (), (), (), false, false] 28); rwa [World.size_alloc] at this)
 have HB0 := hid (show Below w.heap.size w wb by rw [hwb]; exact ((Below.refl _ w).alloc (Nat.le_refl _) _).alloc (by simp) _)
 have HSZ := hid (show wb.heap.size = w.heap.size + 2 by rw [hwb]; simp)
 have HNM := hid (show ((⟨(nameS 8).toArray⟩ : ByteArray).size ≤ 70368744177664) from by rw [sz]; have := nameS_len 8; omega)
 go_enter Tryz.func30, Tryz.ntmps30
 go_wp2_with fail
 rw [← hwb]
 generalize Value.agg _ = arg0
 clear hwb
 refine wp_region_grow 11 (CK wb.heap.size) (IW wb)
  (fun i v w' => match i with
   | 0 => v = .pointer (some ⟨w.heap.size, 0, none⟩)
   | 1 => v = .bool true
   | 2 => v = .pointer (some ⟨w.heap.size, 14, none⟩)
   | 3 => v = .slice Av version.length cv
   | 4 => v = .pointer (some ⟨w.heap.size, 16, none⟩)
   | 5 => v = .slice Ab body.length cb
   | 6 => v = .pointer (some ⟨w.heap.size, 15, none⟩)
   | 7 => v = .slice Ah heads.length ch
   | 8 => OHs w0 wb.heap.size w' v (heads.map plainH)
   | 9 => ∃ v', v = .agg #[true, (), (), (), false, false, (), (), (), .int .i64 0, (), (), .int .i64 0, (), .slice Av version.length cv, v', .slice Ab body.length cb, false, false] ∧ OHs w0 wb.heap.size w' v' (heads.map plainH)
   | 10 => ∃ g, wb.heap.size ≤ g ∧ v = .pointer (some ⟨g, 0, none⟩) ∧ w'.heap[g]? = some (.cells ([false, (), (), (), false, false, (), (), (), .int .i64 0, (), (), .int .i64 0, (), (), (), (), false, false] : List Value).toArray 28 (0, 0))
   | _ => True)
  [[], [0], [], [2], [], [4], [], [6], [7], [1, 3, 5, 8], []] rfl (by kernel_rfl) (by kernel_rfl) (fun _ _ => IW.step) ?_ ?_ ?_ ?_
 ·intro j hj v w'
  match j, hj with
  | j + 11, _ => trivial
 ·exact CK.of_below (Below.refl _ _).drew (Nat.le_refl _)
 ·simp only [List.take_succ_cons, List.take_zero, fillAll]
  have c0 := row_at HWB1.out 0 _ rfl
  have c14 := row_at HWB1.out 14 _ rfl
  have c15 := row_at HWB1.out 15 _ rfl
  have c16 := row_at HWB1.out 16 _ rfl
  refine ⟨⟨?_, ?_⟩, ⟨?_, ?_⟩, ⟨?_, ?_⟩, ⟨?_, ?_⟩, ⟨?_, ?_⟩, ⟨?_, ?_⟩, ⟨?_, ?_⟩, ⟨?_, ?_⟩, ⟨?_, ?_⟩, ⟨?_, ?_⟩, ⟨?_, ?_⟩, trivial⟩
  ·exact fun v w1 w2 h k => h
  ·intro vals w1 hI hd
   unfold GStep
   go_wp2
   exact CK.refl _ _
  ·exact fun v w1 w2 h k => h
  ·intro vals w1 hI hd
   have h1 : vals 0 = _ := hd.1
   have dc0 := hI.cell c0
   unfold GStep
   go_wp2
   exact CK.refl _ _
  ·exact fun v w1 w2 h k => h
  ·intro vals w1 hI hd
   unfold GStep
   go_wp2
   exact CK.refl _ _
  ·exact fun v w1 w2 h k => h
  ·intro vals w1 hI hd
   have h1 : vals 2 = _ := hd.1
   have dc14 := hI.cell c14
   unfold GStep
   go_wp2
   exact CK.refl _ _
  ·exact fun v w1 w2 h k => h
  ·intro vals w1 hI hd
   unfold GStep
   go_wp2
   exact CK.refl _ _
  ·exact fun v w1 w2 h k => h
  ·intro vals w1 hI hd
   have h1 : vals 4 = _ := hd.1
   have dc16 := hI.cell c16
   unfold GStep
   go_wp2
   exact CK.refl _ _
  ·exact fun v w1 w2 h k => h
  ·intro vals w1 hI hd
   unfold GStep
   go_wp2
   exact CK.refl _ _
  ·exact fun v w1 w2 h k => h
  ·intro vals w1 hI hd
   have h1 : vals 6 = _ := hd.1
   have dc15 := hI.cell c15
   unfold GStep
   go_wp2
   exact CK.refl _ _
  ·exact fun v w1 w2 h k => h.ck k
  ·intro vals w1 hI hd
   have h1 : vals 7 = _ := hd.1
   have HP := hid (plainall_any w0 _ heads w1 HHS.out (HW.out.trans ((HB0.out.trans (hI.below.mono (by have := HSZ.out; omega))).mono HW.out.size)) HT.out (by have := HL.out; omega))
   unfold GStep
   go_wp2_with (go_at_call 59; refine HP.out.mono ?_; rintro e w2 ⟨v2, rfl, ho, hb⟩)
   exact ⟨CK.of_below hb hI.size, ho.less hI.size⟩
  ·rintro v w1 w2 ⟨v', h1, h2⟩ k
   exact ⟨v', h1, h2.ck k⟩
  ·intro vals w1 hI hd
   have h1 : vals 1 = _ := hd.1
   have h3 : vals 3 = _ := hd.2.1
   have h5 : vals 5 = _ := hd.2.2.1
   have h8 : OHs w0 wb.heap.size w1 (vals 8) _ := hd.2.2.2.1
   clear hd
   unfold GStep
   dsimp only
   rw [h1, h3, h5]
   clear h1 h3 h5
   generalize vals 8 = x8 at h8 ⊢
   have H8 := hid h8
   obtain ⟨A8, c8, e8⟩ := h8.form
   rw [List.length_map] at e8
   clear h8
   subst e8
   go_wp2
   first | exact ⟨CK.refl _ _, _, rfl, H8.out⟩ | exact ⟨CK.refl _ _, H8.out⟩
  ·rintro v w1 w2 ⟨k, h1, h2, h3⟩ h
   exact ⟨k, h1, h2, h.same h3 (by decide)⟩
  ·intro vals w1 hI hd
   unfold GStep
   go_wp2
   first | exact ⟨CK.new hI.size _, _, hI.size, rfl, heap_alloc_new w1 _⟩ | exact ⟨CK.new hI.size _, hI.size, heap_alloc_new w1 _⟩
 ·intro vals w1 hI hR
  simp only [List.drop_succ_cons, List.drop_zero, List.take_succ_cons, List.take_zero, fillAll]
  obtain ⟨-, -, -, -, -, -, -, -, -, r9, r10, -⟩ := hR
  generalize vals 9 = x9 at r9 ⊢
  generalize vals 10 = x10 at r10 ⊢
  obtain ⟨v8, rfl, hoh⟩ := r9
  obtain ⟨k, hk, rfl, hg7⟩ := r10
  obtain ⟨A8, c8, e8⟩ := hoh.form
  rw [List.length_map] at e8
  subst e8
  have OH1 := hid hoh
  have HB1 := hid ((hI.below.block w.heap.size (by have := HSZ.out; omega)).trans HWB1.out)
  have HB2 := hid ((hI.below.block (w.heap.size + 1) (by have := HSZ.out; omega)).trans HWB2.out)
  have HBW := hid (HB0.out.trans (hI.below.mono (by have := HSZ.out; omega)))
  have HK := hid (show w.heap.size + 1 < k by have := HSZ.out; omega)
  have HG7 := hid hg7
  have HONE := hid (show ([true, (), (), (), false, false, (), (), (), .int .i64 0, (), (), .int .i64 0, (), .slice Av version.length cv, .slice A8 heads.length c8, .slice Ab body.length cb, false, false] : List Value).all (·.oneCell') = true from rfl)
  clear hoh hk hg7 hI
  go_simp
  go_upto_region 2 with (refine wpList_store_blk (by rfl) 28 (.tmp 3) (.tmp 13) (by rfl) k 28 _ _ (by rfl) (by rfl) (by rfl) HG7.out 19 msg_size (by rfl) HONE.out ?_; intro W2 hst2)
  have OH2 := hid (OH1.out.stored hst2 HG7.out (by decide) (by decide))
  have HG2 := hid hst2.blk
  have HB21 := hid ((hst2.other w.heap.size (by have := HK.out; omega)).trans HB1.out)
  have HB22 := hid ((hst2.other (w.heap.size + 1) (by have := HK.out; omega)).trans HB2.out)
  have HBW2 := hid (HBW.out.trans (hst2.below.mono (by have := HK.out; omega)))
  clear hst2
  have c0 := row_at HB21.out 0 _ rfl
  go_wp2_with fail
  clear c0
  refine wp_region_grow 7 (CG k 28 _) (CG k 28 [true, (), (), (), false, false, (), (), (), .int .i64 0, (), (), .int .i64 code, .slice Ar reason.length cr, .slice Av version.length cv, .slice A8 heads.length c8, .slice Ab body.length cb, false, false] W2)
   (fun i v w' => match i with
    | 0 => v = .pointer (some ⟨w.heap.size, 12, none⟩)
    | 1 => v = .int .i64 code
    | 2 => v = .pointer (some ⟨w.heap.size, 13, none⟩)
    | 3 => v = .slice Ar reason.length cr
    | 4 => v = .pointer (some ⟨k, 12, none⟩)
    | 5 => Wr k 28 [true, (), (), (), false, false, (), (), (), .int .i64 0, (), (), .int .i64 code, .slice Ar reason.length cr, .slice Av version.length cv, .slice A8 heads.length c8, .slice Ab body.length cb, false, false] 12 w'
    | 6 => v = .pointer (some ⟨k, 13, none⟩)
    | _ => True)
   [[], [0], [], [2], [], [4, 1], []] rfl (by kernel_rfl) (by kernel_rfl) (fun _ _ h k => h.trans k) ?_ ?_ ?_ ?_
  ·intro j hj v w'
   match j, hj with
   | j + 7, _ => trivial
  ·exact CG.of_below (Below.refl _ _).drew (heap_lt HG2.out)
  ·simp only [List.take_succ_cons, List.take_zero, fillAll]
   refine ⟨⟨?_, ?_⟩, ⟨?_, ?_⟩, ⟨?_, ?_⟩, ⟨?_, ?_⟩, ⟨?_, ?_⟩, ⟨?_, ?_⟩, ⟨?_, ?_⟩, trivial⟩
   ·exact fun v w1 w2 h k => h
   ·intro vals w1 hI hd
    unfold GStep
    go_wp2
    exact CG.refl _ _ _ _
   ·exact fun v w1 w2 h k => h
   ·intro vals w1 hI hd
    have h1 : vals 0 = _ := hd.1
    have d12 := row_at ((hI.1.block w.heap.size (by have := HK.out; omega)).trans HB21.out) 12 _ rfl
    unfold GStep
    go_wp2
    exact CG.refl _ _ _ _
   ·exact fun v w1 w2 h k => h
   ·intro vals w1 hI hd
    unfold GStep
    go_wp2
    exact CG.refl _ _ _ _
   ·exact fun v w1 w2 h k => h
   ·intro vals w1 hI hd
    have h1 : vals 2 = _ := hd.1
    have d13 := row_at ((hI.1.block w.heap.size (by have := HK.out; omega)).trans HB21.out) 13 _ rfl
    unfold GStep
    go_wp2
    exact CG.refl _ _ _ _
   ·exact fun v w1 w2 h k => h
   ·intro vals w1 hI hd
    unfold GStep
    go_wp2
    exact CG.refl _ _ _ _
   ·exact fun v w1 w2 h k => h.cg k
   ·intro vals w1 hI hd
    have h1 : vals 4 = _ := hd.1
    have h2 : vals 1 = _ := hd.2.1
    obtain ⟨l, hl, hlen, -⟩ := hI.2.2 (_ : List Value) HG2.out
    have f0 := blk_frozen hl 12
    have g0 : ∃ x, w1.cell? ⟨k, 12, none⟩ = some x := ⟨l[12]'(by rw [hlen]; simp), row_at hl 12 _ (List.getElem?_eq_getElem _)⟩
    obtain ⟨x, g0⟩ := g0
    have X := hid (CG.set (tgt := [true, (), (), (), false, false, (), (), (), .int .i64 0, (), (), .int .i64 code, .slice Ar reason.length cr, .slice Av version.length cv, .slice A8 heads.length c8, .slice Ab body.length cb, false, false]) hl 12 (.int .i64 code : Value) rfl (by rw [hlen]; simp))
    clear hlen hl
    unfold GStep
    go_wp2
    exact X.out
   ·exact fun v w1 w2 h k => h
   ·intro vals w1 hI hd
    unfold GStep
    go_wp2
    exact CG.refl _ _ _ _
  ·intro vals w1 hI hR
   simp only [List.drop_succ_cons, List.drop_zero, List.take_succ_cons, List.take_zero, fillAll]
   obtain ⟨-, -, -, rv, -, z0, ra, -⟩ := hR
   have ea : vals 6 = _ := ra
   have ev : vals 3 = _ := rv
   rw [ea, ev]
   clear ea ev ra rv
   have HI := hid hI
   have HWR := hid (show ∀ j ∈ ([12] : List Nat), Wr k 28 _ j w1 from fun j hj => by
    simp only [List.mem_cons, List.not_mem_nil, or_false] at hj
    subst hj
    exact z0)
   obtain ⟨l, hl, hlen, -⟩ := HI.out.2.2 (_ : List Value) HG2.out
   have HGL := hid hl
   have HZ1 := hid ((HI.out.1.block (w.heap.size + 1) (by have := HK.out; omega)).trans HB22.out)
   have HY1 := hid ((HI.out.1.block w.heap.size (by have := HK.out; omega)).trans HB21.out)
   have OH3 := hid (OHs.cg OH2.out HI.out HG2.out (by decide) (by decide))
   have HST := hid (CG.done (tgt := _) (l0 := _) (ty := 28) HI.out HG2.out [12] HWR.out 13 (.slice Ar reason.length cr : Value) rfl rfl (fun j h1 h2 h3 => by
    rcases tab19 j h1 with rfl | rfl | rfl | rfl | rfl | rfl | rfl | rfl | rfl | rfl | rfl | rfl | rfl | rfl | rfl | rfl | rfl | rfl | rfl <;> first | rfl | exact absurd rfl h3 | exact absurd (by decide) h2 | exact absurd (by simp) h3))
   have f0 := blk_frozen hl 13
   have g0 : ∃ x, w1.cell? ⟨k, 13, none⟩ = some x := ⟨l[13]'(by rw [hlen]; simp), row_at hl 13 _ (List.getElem?_eq_getElem _)⟩
   obtain ⟨x, g0⟩ := g0
   obtain ⟨W3, hW3⟩ : ∃ W3, W3 = w1.setCell ⟨k, 13, none⟩ (.slice Ar reason.length cr : Value) := ⟨_, rfl⟩
   rw [← hW3] at HST
   have HW3 := hid hW3
   clear hW3 hl hlen hI z0
   go_simp
   go_upto_region 5 with fail
   rw [← HW3.out]
   clear HW3 g0 f0
   have HG3 := hid HST.out.blk
   have OH4 := hid (OH3.out.stored HST.out HGL.out (by decide) (by decide))
   have HB31 := hid ((HST.out.other w.heap.size (by have := HK.out; omega)).trans HY1.out)
   have HB32 := hid ((HST.out.other (w.heap.size + 1) (by have := HK.out; omega)).trans HZ1.out)
   have HBW3 := hid ((HBW2.out.trans (HI.out.1.mono (by have := HK.out; omega))).trans (HST.out.below.mono (by have := HK.out; omega)))
   clear HST HI HWR HGL HZ1 HY1 OH3
   have HKL := hid (heap_lt HG3.out)
   go_wp2_with fail
   refine wp_region_grow 10 (CK W3.heap.size) (IW W3)
    (fun i v w' => match i with
     | 0 => v = .pointer (some ⟨k, 15, none⟩)
     | 1 => v = .slice A8 heads.length c8
     | 2 => v = .string ⟨(nameS 8).toArray⟩
     | 3 => SBf w0.heap.size w' v (nameS 8)
     | 4 => v = .pointer (some ⟨w.heap.size, 16, none⟩)
     | 5 => v = .slice Ab body.length cb
     | 6 => v = .int .i64 (body.length : Int)
     | 7 => v = .int .u32 (body.length : Int)
     | 8 => ∃ nm, v = .agg #[.int .i64 8, nm, (), (), (), (), false, false, (), (), (), .int .i64 0, (), (), (), .int .u32 (body.length : Int), (), (), (), (), .int .i64 0] ∧ SBf w0.heap.size w' nm (nameS 8)
     | 9 => ∃ g2 nm, v = .slice (some ⟨g2, 0, none⟩) 1 1 ∧ w'.heap[g2]? = some (.cells ([.int .i64 8, nm, (), (), (), (), false, false, (), (), (), .int .i64 0, (), (), (), .int .u32 (body.length : Int), (), (), (), (), .int .i64 0] : List Value).toArray 41 (0, 0)) ∧ SBf w0.heap.size w' nm (nameS 8)
     | _ => True)
    [[], [0], [], [2], [], [4], [5], [6], [3, 7], [8]] rfl (by kernel_rfl) (by kernel_rfl) (fun _ _ => IW.step) ?_ ?_ ?_ ?_
   ·intro j hj v w'
    match j, hj with
    | j + 10, _ => trivial
   ·exact CK.of_below (Below.refl _ _).drew (Nat.le_refl _)
   ·simp only [List.take_succ_cons, List.take_zero, fillAll]
    have c15 := row_at HG3.out 15 _ rfl
    have c16 := row_at HB31.out 16 _ rfl
    refine ⟨⟨?_, ?_⟩, ⟨?_, ?_⟩, ⟨?_, ?_⟩, ⟨?_, ?_⟩, ⟨?_, ?_⟩, ⟨?_, ?_⟩, ⟨?_, ?_⟩, ⟨?_, ?_⟩, ⟨?_, ?_⟩, ⟨?_, ?_⟩, trivial⟩
    ·exact fun v w1 w2 h k => h
    ·intro vals w1 hI hd
     unfold GStep
     go_wp2
     exact CK.refl _ _
    ·exact fun v w1 w2 h k => h
    ·intro vals w1 hI hd
     have h1 : vals 0 = _ := hd.1
     have dc15 := hI.cell c15
     unfold GStep
     go_wp2
     exact CK.refl _ _
    ·exact fun v w1 w2 h k => h
    ·intro vals w1 hI hd
     unfold GStep
     go_wp2_with (go_at_call 60; refine (nameof_any 8 _).mono ?_; rintro e w2 ⟨rfl, rfl⟩)
     exact CK.refl _ _
    ·exact fun v w1 w2 h k => SBf.ku h k.ku
    ·intro vals w1 hI hd
     have h4 : vals 2 = _ := hd.1
     have hr := Lib.run_convert_string_bytes (P := Tryz.prog) w1 9 22 5 ⟨(nameS 8).toArray⟩ Tryz.underlying9 Tryz.underlying22 Tryz.underlying5
     have X := hid (conv_sbf w0.heap.size w1 ⟨(nameS 8).toArray⟩ HNM.out (Nat.le_trans (Nat.le_trans HW.out.size HBW3.out.size) hI.size))
     unfold GStep
     go_wp2
     exact ⟨CK.of_below X.out.2 hI.size, X.out.1⟩
    ·exact fun v w1 w2 h k => h
    ·intro vals w1 hI hd
     unfold GStep
     go_wp2
     exact CK.refl _ _
    ·exact fun v w1 w2 h k => h
    ·intro vals w1 hI hd
     have h1 : vals 4 = _ := hd.1
     have dc16 := hI.cell c16
     unfold GStep
     go_wp2
     exact CK.refl _ _
    ·exact fun v w1 w2 h k => h
    ·intro vals w1 hI hd
     have h1 : vals 5 = _ := hd.1
     unfold GStep
     go_wp2
     exact CK.refl _ _
    ·exact fun v w1 w2 h k => h
    ·intro vals w1 hI hd
     have h1 : vals 6 = _ := hd.1
     have b1 : (body.length : Int) ≤ 8192 := by have := HL.out; omega
     unfold GStep
     go_wp2
     exact CK.refl _ _
    ·rintro v w1 w2 ⟨nm, h1, h2⟩ k
     exact ⟨nm, h1, h2.ku k.ku⟩
    ·intro vals w1 hI hd
     have h3 : SBf w0.heap.size w1 (vals 3) _ := hd.1
     have h7 : vals 7 = _ := hd.2.1
     clear hd
     unfold GStep
     dsimp only
     rw [h7]
     clear h7
     generalize vals 3 = x3 at h3 ⊢
     have H3 := hid h3
     obtain ⟨k1, cap1, cs1, fz1, rfl, -⟩ := h3
     go_wp2
     first | exact ⟨CK.refl _ _, _, rfl, H3.out⟩ | exact ⟨CK.refl _ _, H3.out⟩
    ·rintro v w1 w2 ⟨g2, nm, h1, h2, h3⟩ k
     exact ⟨g2, nm, h1, k.same h2 (by decide), h3.ku k.ku⟩
    ·intro vals w1 hI hd
     obtain ⟨nm, h8, hn⟩ := hd.1
     have H3 := hid hn
     obtain ⟨k1, cap1, cs1, fz1, rfl, -⟩ := hn
     clear hd
     unfold GStep
     dsimp only
     rw [h8]
     clear h8
     go_wp2
     have hk := CK.new hI.size (.cells #[.int .i64 8, .slice (some ⟨k1, 0, none⟩) (nameS 8).length cap1, (), (), (), (), false, false, (), (), (), .int .i64 0, (), (), (), .int .u32 (body.length : Int), (), (), (), (), .int .i64 0] 41)
     first | exact ⟨hk, _, _, rfl, heap_alloc_new w1 _, H3.out.ku hk.ku⟩ | exact ⟨hk, _, rfl, _, heap_alloc_new w1 _, H3.out.ku hk.ku⟩ | exact ⟨hk, _, (Array.getElem?_eq_some_iff.1 (heap_alloc_new w1 _)).2, H3.out.ku hk.ku⟩
   ·intro vals w4 hI4 hR
    simp only [List.drop_succ_cons, List.drop_zero, List.take_succ_cons, List.take_zero, fillAll]
    obtain ⟨-, r1, -, -, -, -, -, -, -, r9, -⟩ := hR
    have e1 : vals 1 = _ := r1
    rw [e1]
    clear e1 r1
    generalize vals 9 = x9 at r9 ⊢
    obtain ⟨g2, nm, rfl, hg2, hnm⟩ := r9
    have HG2B := hid hg2
    have NM := hid hnm
    have OH5 := hid (OH4.out.ck hI4)
    have HG4 := hid ((hI4.below.block k HKL.out).trans HG3.out)
    have HB42 := hid ((hI4.below.block (w.heap.size + 1) (by have := HKL.out; have := HK.out; omega)).trans HB32.out)
    have HBW4 := hid (HBW3.out.trans (hI4.below.mono (by have := HKL.out; have := HK.out; omega)))
    have HKL4 := hid (heap_lt HG4.out)
    obtain ⟨css, hc1, hc2, hc3⟩ := OH5.out
    rw [List.length_map] at hc2
    have HC1 := hid hc1
    have HC2 := hid hc2
    have HC3 := hid hc3
    have HONE := hid (show ([.int .i64 8, nm, (), (), (), (), false, false, (), (), (), .int .i64 0, (), (), (), .int .u32 (body.length : Int), (), (), (), (), .int .i64 0] : List Value).all (·.oneCell') = true by simp only [List.all_cons, List.all_nil, (SBf.x (w0 := w0) hnm).one]; rfl)
    have HKB := hid (show (heads.length + 1) * 400 ≤ 140737488355328 by have := HL.out; omega)
    have HBS := hid (show wb.heap.size ≤ w4.heap.size by have := HKL4.out; have := HK.out; have := HSZ.out; omega)
    clear hg2 hnm hI4 hc1 hc2 hc3
    have d15 := row_at HG4.out 15 _ rfl
    have f15 := blk_frozen HG4.out 15
    go_simp
    go_upto_region 6 with (at_builtin; refine app_box wb.heap.size rfl (.tmp 29) (.tmp 37) 26 41 (.agg zeroH.toArray) 21 400 rfl Tryz.underlying26 head_info rfl (by decide) (by decide) (.slice A8 heads.length c8) heads.length css.flatten _ g2 41 (0, 0) rfl rfl HG2B.out rfl (List.all_eq_true.1 HONE.out) HC2.out HBS.out HKB.out ?_; intro v5 w5 ho5 hg5; have HG5 := hid ((hg5.block k HKL4.out (own_ne_block HC2.out HG4.out (by decide))).trans HG4.out); have d15 := row_at HG5.out 15 _ rfl; have f15 := blk_frozen HG5.out 15; have HO5 := hid ho5; have HGR := hid hg5; obtain ⟨A5, c5, rfl⟩ := own_slice ho5; clear ho5 hg5)
    have HST := hid (CG.done (tgt := [true, (), (), (), false, false, (), (), (), .int .i64 0, (), (), .int .i64 code, .slice Ar reason.length cr, .slice Av version.length cv, .slice A5 (heads.length + 1) c5, .slice Ab body.length cb, false, false]) (l0 := _) (ty := 28) (CG.refl k _ _ w5) HG5.out [] (fun _ h => by simp at h) 15 (.slice A5 (heads.length + 1) c5 : Value) rfl rfl (fun j h1 h2 h3 => by
     rcases tab19 j h1 with rfl | rfl | rfl | rfl | rfl | rfl | rfl | rfl | rfl | rfl | rfl | rfl | rfl | rfl | rfl | rfl | rfl | rfl | rfl <;> first | rfl | exact absurd rfl h3 | exact absurd (by decide) h2 | exact absurd (by simp) h3))
    obtain ⟨W6, hW6⟩ : ∃ W6, W6 = w5.setCell ⟨k, 15, none⟩ (.slice A5 (heads.length + 1) c5 : Value) := ⟨_, rfl⟩
    rw [← hW6] at HST ⊢
    have HROW := hid HST.out.blk
    have HB52 := hid ((HGR.out.block (w.heap.size + 1) (by have := HKL4.out; have := HK.out; omega) (own_ne_block HC2.out HB42.out (by decide))).trans HB42.out)
    have HZ3 := hid ((HST.out.other (w.heap.size + 1) (by have := HK.out; omega)).trans HB52.out)
    have HBW5 := hid ((HBW4.out.grown HGR.out (by have := HBS.out; have := HSZ.out; omega) (fun q hq => Nat.le_trans (by have := HSZ.out; omega) (HC2.out.lt q hq).1)).trans (HST.out.below.mono (by have := HK.out; omega)))
    have HKU5 := hid (grown_ku HGR.out HC2.out (by decide))
    have OH6 := hid (show OHs w0 wb.heap.size w5 (.slice A5 (heads.length + 1) c5) ((heads.map plainH) ++ [lenH body.length]) from
     OHs.snoc (w := w4) (h := lenH body.length) HC1.out HC3.out ⟨nm, .slice none 0 0, .slice none 0 0, _, .slice none 0 0, .slice none 0 0, .slice none 0 0, .slice none 0 0, .slice none 0 0, rfl, .inr NM.out, .inl (SB.nil _), SB.nil _, LU.empty _, SK.nil _, SB.nil _, SB.nil _, SB.nil _, SB.nil _, (by show I64 8; unfold I64; omega), ⟨(by show (0 : Int) ≤ (body.length : Int); omega), (by show (body.length : Int) < 4294967296; have := HL.out; omega)⟩, (by show I64 0; unfold I64; omega)⟩ HKU5.out (by rw [List.length_map]; exact HO5.out))
    have OH7 := hid ((OH6.out.stored HST.out HG5.out (by decide) (by decide)).less (b2 := w.heap.size) (by have := HSZ.out; omega))
    have HONE3 := hid (show ([true, (), (), (), false, false, (), (), (), .int .i64 0, (), (), .int .i64 code, .slice Ar reason.length cr, .slice Av version.length cv, .slice A5 (heads.length + 1) c5, .slice Ab body.length cb, false, false] : List Value).all (·.oneCell') = true by
     rfl)
    clear hW6 d15 f15
    go_wp2_with (first
     | (refine wpList_load_blk (by rfl) 28 (.tmp 3) (by rfl) k 28 (0, 0) _ (by rfl) HROW.out _ Tryz.underlying28 rfl 19 msg_size rfl ?_)
     | (refine wpList_store_blk (by rfl) 28 (.tmp 2) (.tmp 40) (by rfl) (w.heap.size + 1) 28 _ _ (by rfl) (by rfl) (by rfl) HZ3.out 19 msg_size (by rfl) HONE3.out ?_; intro W4 hst4; have HST4 := hid hst4; clear hst4))
    exact ret_cell 2 28 ⟨(w.heap.size + 1), 0, none⟩ _ _ rfl rfl (row_cells HST4.out.blk) Tryz.underlying28 rfl 19 msg_size rfl rfl ⟨_, rfl, OH7.out.stored HST4.out HZ3.out (by decide) (by decide), HBW5.out.trans (HST4.out.below.mono (by omega))⟩
