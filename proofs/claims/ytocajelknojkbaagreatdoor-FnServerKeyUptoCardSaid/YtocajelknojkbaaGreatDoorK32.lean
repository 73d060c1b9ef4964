import Derived.Test.YtocajelknojkbaaGreatDoorK28
set_option maxRecDepth 100000
set_option maxHeartbeats 16000000
set_option linter.all false
namespace Go.Proofs.YtocajelknojkbaaGreatDoor
open Go.Lib (hid)
open Go.RowKit
theorem SHs.take {w : World} {A : Option Addr} {n c : Nat} {l : List LHead} (h : SHs w (.slice A n c) l) {k : Nat} (hk : k ≤ l.length) : SHs w (.slice A k c) (l.take k) := by
 obtain ⟨A1, c1, e, h2, h3, h4, h5⟩ := h
 injection e with e1 e2 e3
 subst e1 e2 e3
 refine ⟨A, c, by rw [List.length_take, Nat.min_eq_left hk], by rw [List.length_take]; omega, h3, fun hA => ?_, fun i hi => ?_⟩
 ·obtain ⟨rfl, h⟩ := h4 hA
  exact ⟨by simp, h⟩
 ·have hi2 : i < l.length := by rw [List.length_take] at hi; omega
  obtain ⟨a, cs, q1, q2, q3⟩ := h5 i hi2
  exact ⟨a, cs, q1, by rw [List.getElem_take]; exact q2, q3⟩
theorem SHs.drop {w : World} {a : Addr} {n c : Nat} {l : List LHead} (h : SHs w (.slice (some a) n c) l) {k : Nat} (hk : k ≤ l.length) : SHs w (.slice (some (a.add (k * 21))) (l.length - k) (c - k)) (l.drop k) := by
 obtain ⟨A1, c1, e, h2, h3, h4, h5⟩ := h
 injection e with e1 e2 e3
 subst e1 e2 e3
 refine ⟨some (a.add (k * 21)), c - k, by rw [List.length_drop], by rw [List.length_drop]; omega, by omega, (fun hA => by simp at hA), fun i hi => ?_⟩
 have hi2 : k + i < l.length := by rw [List.length_drop] at hi; omega
 obtain ⟨a2, cs, q1, q2, q3⟩ := h5 (k + i) hi2
 injection q1 with q1
 subst q1
 refine ⟨_, cs, rfl, by rw [List.getElem_drop]; exact q2, fun j u hj => ?_⟩
 have := q3 j u hj
 rw [add_add] at this ⊢
 rw [add_add]
 rw [show k * 21 + (i * 21 + j) = (k + i) * 21 + j by omega]
 exact this
theorem SHs.empty (w : World) (a : Option Addr) (c : Nat) (hc : c ≤ 9223372036854775807) (ha : a = none → c = 0) : SHs w (.slice a 0 c) [] := ⟨a, c, rfl, Nat.zero_le _, hc, fun h => ⟨rfl, ha h⟩, fun i hi => absurd hi (by simp)⟩
theorem ismany_any (v : Value) (l : List LHead) (w : World) (hS : SHs w v l) : Calls Tryz.prog 9 #[v] w (Says ((∀ h ∈ l, RHead h) ∧ l.length ≤ 64) w) := by
 have HS := hid hS
 obtain ⟨A, c, rfl, hlen⟩ := hS.form
 clear hS
 by_cases hbig : (64 : Int) < l.length
 ·go_enter Tryz.func9, Tryz.ntmps9
  go_wp2
  go_ret
  exact ⟨⟨_, rfl, fun h => by cases h⟩, Below.refl _ _⟩
 ·go_enter Tryz.func9, Tryz.ntmps9
  go_wp2_with fail
  go_loopw [3] (fun i wr => ∃ k : Nat, k ≤ l.length ∧ i = .int .i64 k ∧ Below w.heap.size w wr ∧ ∀ h ∈ l.take k, RHead h) (fun i _ => l.length - (intOf i).toNat)
  case atStart => exact ⟨0, Nat.zero_le _, rfl, Below.refl _ _, fun h hh => by simp at hh⟩
  case round =>
   obtain ⟨k, hk, rfl, hb, hr⟩ := hrel
   have HB := hid hb
   have HR := hid hr
   obtain ⟨wo, rfl⟩ : ∃ wo : World, wo = wr := ⟨_, rfl⟩
   clear hb hr
   by_cases hlt : k < l.length
   ·obtain ⟨a, c', cs, h, e1, hh, hLH, hcell⟩ := HS.out.at_ k hlt
    cases e1
    have HCE := hid (show ∀ j u, cs[j]? = some u → wo.cell? ((a.add (k * 21)).add j) = some u from fun j u hj => cell_at_below (hcell j u hj) HB.out)
    have HLE := hid (hLH.x w).len
    have HLT := hid (Nat.succ_le_of_lt hlt)
    have HH := hid hh
    have HP := hid (ishead_any h cs wo (hLH.below HB.out))
    have hk1 : (k : Int) < l.length := by omega
    have hk2 : (0 : Int) ≤ k := by omega
    clear hcell hLH hlt hh
    go_wp2_with (first
     | (refine wpList_load_any (by rfl) 35 (.tmp 15) (by rfl) (a.add (k * 21)) (by rfl) cs _ HCE.out Tryz.underlying35 rfl (by rw [head_size, HLE.out]) ?_)
     | (go_at_call 36; refine HP.out.mono ?_; rintro e w1 ⟨⟨b, rfl, hbr⟩, hb1⟩; have HB2 := hid (HB.out.trans (hb1.mono HB.out.size)); have HBR := hid hbr; clear hb1 hbr; cases b)
     | fail)
    ·go_ret
     exact ⟨⟨_, rfl, fun h => by cases h⟩, HB2.out⟩
    ·go_roundw
     case rel =>
      refine ⟨k + 1, HLT.out, by simp, HB2.out, fun x hx => ?_⟩
      rw [List.take_add_one, HH.out] at hx
      rcases List.mem_append.1 hx with hx | hx
      ·exact HR.out x hx
      ·obtain rfl : x = h := by simpa using hx
       exact HBR.out (by first | rfl | trivial)
     case measure => exact meas_step HLT.out (by simp)
   ·have hke : k = l.length := by omega
    have HAL := hid (show (∀ h ∈ l, RHead h) ∧ l.length ≤ 64 by
     have := HR.out
     rw [hke, List.take_length] at this
     exact ⟨this, by omega⟩)
    go_wp2
    go_ret
    exact ⟨⟨_, rfl, fun _ => HAL.out⟩, HB.out⟩
def Rws (w : World) (css : List (List Value)) (l : List LHead) : Prop := css.length = l.length ∧ ∀ i (h : i < l.length), ∃ cs, css[i]? = some cs ∧ LH w l[i] cs
theorem Rws.append {w : World} {c1 c2 : List (List Value)} {l1 l2 : List LHead} (h1 : Rws w c1 l1) (h2 : Rws w c2 l2) : Rws w (c1 ++ c2) (l1 ++ l2) := by
 refine ⟨by rw [List.length_append, List.length_append, h1.1, h2.1], fun i hi => ?_⟩
 by_cases h : i < l1.length
 ·obtain ⟨cs, e1, e2⟩ := h1.2 i h
  exact ⟨cs, by rw [List.getElem?_append_left (by rw [h1.1]; exact h)]; exact e1, by rw [List.getElem_append_left h]; exact e2⟩
 ·have hi2 : i - l1.length < l2.length := by rw [List.length_append] at hi; omega
  obtain ⟨cs, e1, e2⟩ := h2.2 _ hi2
  exact ⟨cs, by rw [List.getElem?_append_right (by rw [h1.1]; omega), h1.1]; exact e1, by rw [List.getElem_append_right (by omega)]; exact e2⟩
theorem Rws.own {w0 w : World} {base : Nat} {v : Value} {css : List (List Value)} {l : List LHead} (h : Rws w0 css l) (ho : w.ownsRow base 35 21 v l.length css.flatten) : OHs w0 base w v l :=
 ⟨css, h.1, ho, fun i hi => (h.2 i hi).imp fun _ ⟨a, b⟩ => ⟨a, b.x w⟩⟩
theorem SHs.rws {w : World} {A : Option Addr} {n c : Nat} {l : List LHead} (h : SHs w (.slice A n c) l) : ∃ css, Rws w css l ∧ n = l.length ∧ (A = none → n = 0 ∧ c = 0) ∧ css.flatten.length = n * 21 ∧ (∀ u ∈ css.flatten, u.oneCell' = true) ∧ ∀ ad, A = some ad → ∀ j u, css.flatten[j]? = some u → w.cell? (ad.add j) = some u := by
 obtain ⟨hn, hA, css, k1, k2, k3, k4⟩ := h.rows
 refine ⟨css, ⟨k1, k2⟩, hn, hA, by rw [flat_len 21 css (fun x hx => (k3 x hx).1), k1, hn], fun u hu => ?_, k4⟩
 obtain ⟨x, hx, hux⟩ := List.mem_flatten.1 hu
 exact List.all_eq_true.1 (k3 x hx).2 u hux
theorem opt_cases (A : Option Addr) : A = none ∨ ∃ a, A = some a := by cases A <;> simp
theorem put_x (w0 : World) (v vm : Value) (l more : List LHead) (at_ : Nat) (w : World) (hS : SHs w0 v l) (hM : SHs w0 vm more) (hw : Sub w0 w) (hat : at_ ≤ l.length) (hl : l.length + more.length ≤ 100000) :
  Calls Tryz.prog 15 #[v, .int .i64 at_, vm] w fun e w' => ∃ u, e = .returned u ∧ OHs w0 w.heap.size w' u (l.take at_ ++ more ++ l.drop at_) ∧ Below w.heap.size w w' := by
 have HW := hid hw
 clear hw
 obtain ⟨A, c, rfl, hlen⟩ := hS.form
 obtain ⟨B, d, rfl, hlen2⟩ := hM.form
 have hcap : l.length ≤ c ∧ c ≤ 9223372036854775807 ∧ (A = none → l = [] ∧ c = 0) := by
  obtain ⟨A1, c1, e, q1, q2, q3, -⟩ := hS
  injection e with e1 e2 e3
  subst e1 e3
  exact ⟨q1, q2, q3⟩
 have htl : (l.take at_).length = at_ := by rw [List.length_take]; omega
 have hdl : (l.drop at_).length = l.length - at_ := by rw [List.length_drop]
 obtain ⟨C1, r1, -, n1, f1, o1, c1⟩ := (hS.take hat).rws
 obtain ⟨C2, r2, -, n2, f2, o2, c2⟩ := hM.rws
 have hD : ∃ (A3 : Option Addr) (c3 : Nat), SHs w0 (.slice A3 (l.length - at_) c3) (l.drop at_) ∧ ((∃ a, A = some a ∧ A3 = some (a.add (at_ * 21)) ∧ c3 = c - at_ ∧ at_ < c) ∨ (∃ a, A = some a ∧ A3 = some a ∧ c3 = 0 ∧ c = at_ ∧ at_ = l.length) ∨ A = none ∧ A3 = none ∧ c3 = 0 ∧ at_ = 0 ∧ l = [] ∧ c = 0) := by
  rcases opt_cases A with rfl | ⟨a, rfl⟩
  ·obtain ⟨rfl, rfl⟩ := hcap.2.2 rfl
   have : at_ = 0 := by simpa using hat
   subst this
   exact ⟨none, 0, by simpa using hS, .inr (.inr ⟨rfl, rfl, rfl, rfl, rfl, rfl⟩)⟩
  ·by_cases h1 : at_ < c
   ·exact ⟨_, _, hS.drop hat, .inl ⟨a, rfl, rfl, rfl, h1⟩⟩
   ·have e1 : at_ = l.length := by omega
    have e2 : c = at_ := by omega
    refine ⟨some a, 0, ?_, .inr (.inl ⟨a, rfl, rfl, rfl, e2, e1⟩)⟩
    rw [e1, List.drop_length, Nat.sub_self]
    exact SHs.empty _ _ _ (by omega) (fun h => by simp at h)
 obtain ⟨A3, c3, hS3, hA3⟩ := hD
 obtain ⟨C3, r3, -, n3, f3, o3, cc3⟩ := hS3.rws
 have HR := hid (And.intro r1 (And.intro r2 r3))
 have HF := hid (And.intro f1 (And.intro f2 f3))
 have HO := hid (And.intro o1 (And.intro o2 o3))
 have HN := hid (And.intro n1 (And.intro n2 n3))
 have HC1 := hid c1
 have HC2 := hid c2
 have HC3 := hid cc3
 have HCP := hid hcap
 have HLL := hid (And.intro hat hl)
 have HLE := hid (And.intro htl hdl)
 have HB0 := hid (show Below w.heap.size w (w.alloc (.cells #[] 35)) from (Below.refl _ w).alloc (Nat.le_refl _) _)
 have HE := hid (show (w.alloc (.cells #[] 35)).ownsRow w.heap.size 35 21 (.slice (some ⟨w.heap.size, 0, none⟩) 0 0) 0 [] from own_empty _ _ _ _ _ (heap_alloc_new w _) (Nat.le_refl _))
 have hk1 : (at_ : Int) ≤ l.length := by omega
 have hk0 : (0 : Int) ≤ at_ := by omega
 have hk2 : (at_ : Int) ≤ c := by have := hcap.1; omega
 have hk3 : (l.length : Int) ≤ c := by have := hcap.1; omega
 clear r1 r2 r3 f1 f2 f3 o1 o2 o3 n1 n2 n3 c1 c2 cc3 hcap hat hl htl hdl hS hM hS3
 go_enter Tryz.func15, Tryz.ntmps15
 go_upto_region 2 with (at_builtin; refine app_all w.heap.size rfl (.tmp 8) (.tmp 11) 26 35 (.agg zeroH.toArray) 21 400 rfl Tryz.underlying26 head_info rfl (by decide) (by decide) (.slice (some ⟨w.heap.size, 0, none⟩) 0 0) 0 [] C1.flatten A at_ c rfl rfl HF.out.1 HN.out.1 (fun ad hA j u hj => cell_at_below (HW.out.cell _ _ (HC1.out ad hA j u hj)) HB0.out) HO.out.1 HE.out (by simp) (by have := HLL.out; omega) ?_; intro v1 w1 ho1 hg1)
 have hb1 := HB0.out.grown hg1 (by simp) (fun k hk => by simp [Value.ownBlock] at hk; omega)
 have HB1 := hid hb1
 have HO1 := hid (show w1.ownsRow w.heap.size 35 21 v1 at_ C1.flatten by simpa using ho1)
 obtain ⟨A1, k1, rfl⟩ := own_slice HO1.out
 clear ho1 hg1 hb1
 go_upto_region 3 with (at_builtin; refine app_all w.heap.size rfl (.tmp 13) (.tmp 14) 26 35 (.agg zeroH.toArray) 21 400 rfl Tryz.underlying26 head_info rfl (by decide) (by decide) (.slice A1 at_ k1) at_ C1.flatten C2.flatten B more.length d rfl rfl HF.out.2.1 HN.out.2.1 (fun ad hA j u hj => cell_at_below (HW.out.cell _ _ (HC2.out ad hA j u hj)) HB1.out) HO.out.2.1 HO1.out HB1.out.size (by have := HLL.out; omega) ?_; intro v2 w2 ho2 hg2)
 have HB2 := hid (HB1.out.grown hg2 HB1.out.size (fun q hq => (HO1.out.lt q hq).1))
 have HO2 := hid ho2
 obtain ⟨A2, k2, rfl⟩ := own_slice ho2
 clear ho2 hg2
 rcases hA3 with ⟨a, rfl, rfl, rfl, h1⟩ | ⟨a, rfl, rfl, rfl, h1, h2⟩ | ⟨rfl, rfl, rfl, h1, h2, h3⟩
 ·have hz1 : ¬ (c - at_ = 0) := by omega
  have hz2 : ¬ ((c : Int) - (at_ : Int) = 0) := by omega
  have hz3 : (c - at_ == 0) = false := by simp; omega
  go_wp2_with (at_builtin; refine app_all w.heap.size rfl (.tmp 16) (.tmp 19) 26 35 (.agg zeroH.toArray) 21 400 rfl Tryz.underlying26 head_info rfl (by decide) (by decide) (.slice A2 (at_ + more.length) k2) (at_ + more.length) (C1.flatten ++ C2.flatten) C3.flatten (some (a.add (at_ * 21))) (l.length - at_) (c - at_) rfl (by first | rfl | simp) HF.out.2.2 HN.out.2.2 (fun ad hA j u hj => cell_at_below (HW.out.cell _ _ (HC3.out ad hA j u hj)) HB2.out) HO.out.2.2 HO2.out HB2.out.size (by have := HLL.out; omega) ?_; intro v3 w3 ho3 hg3)
  have HB3 := hid (HB2.out.grown hg3 HB2.out.size (fun q hq => (HO2.out.lt q hq).1))
  have HO3 := hid (show OHs w0 w.heap.size w3 v3 (l.take at_ ++ more ++ l.drop at_) from ((HR.out.1.append HR.out.2.1).append HR.out.2.2).own (by
   rw [List.length_append, List.length_append, HLE.out.1, HLE.out.2]
   simpa using ho3))
  obtain ⟨A4, k4, rfl⟩ := own_slice ho3
  clear ho3 hg3
  go_wp2
  go_ret
  exact ⟨_, rfl, HO3.out, HB3.out⟩
 ·subst h1 h2
  have hdr : l.drop l.length = [] := List.drop_length
  go_wp2_with (at_builtin; refine app_all w.heap.size rfl (.tmp 16) (.tmp 19) 26 35 (.agg zeroH.toArray) 21 400 rfl Tryz.underlying26 head_info rfl (by decide) (by decide) (.slice A2 (l.length + more.length) k2) (l.length + more.length) (C1.flatten ++ C2.flatten) [] (some a) 0 0 (by first | rfl | simp) (by first | rfl | simp) rfl (fun _ => ⟨rfl, rfl⟩) (fun ad hA j u hj => by simp at hj) (fun u hu => by simp at hu) HO2.out HB2.out.size (by have := HLL.out; omega) ?_; intro v3 w3 ho3 hg3)
  have HB3 := hid (HB2.out.grown hg3 HB2.out.size (fun q hq => (HO2.out.lt q hq).1))
  have HO3 := hid (show OHs w0 w.heap.size w3 v3 (l.take l.length ++ more ++ l.drop l.length) by
   rw [hdr, List.append_nil]
   exact (HR.out.1.append HR.out.2.1).own (by
    rw [List.length_append, HLE.out.1]
    simpa using ho3))
  obtain ⟨A4, k4, rfl⟩ := own_slice ho3
  clear ho3 hg3
  go_wp2
  go_ret
  exact ⟨_, rfl, by simpa using HO3.out, HB3.out⟩
 ·subst h1 h2 h3
  have hdr : ([] : List LHead).drop 0 = [] := rfl
  go_wp2_with (at_builtin; refine app_all w.heap.size rfl (.tmp 16) (.tmp 19) 26 35 (.agg zeroH.toArray) 21 400 rfl Tryz.underlying26 head_info rfl (by decide) (by decide) (.slice A2 (0 + more.length) k2) (0 + more.length) (C1.flatten ++ C2.flatten) [] none 0 0 (by first | rfl | simp) (by first | rfl | simp) rfl (fun _ => ⟨rfl, rfl⟩) (fun ad hA j u hj => by simp at hj) (fun u hu => by simp at hu) HO2.out HB2.out.size (by have := HLL.out; omega) ?_; intro v3 w3 ho3 hg3)
  have HB3 := hid (HB2.out.grown hg3 HB2.out.size (fun q hq => (HO2.out.lt q hq).1))
  have HO3 := hid (show OHs w0 w.heap.size w3 v3 (([] : List LHead).take 0 ++ more ++ ([] : List LHead).drop 0) by
   rw [hdr, List.append_nil]
   exact (HR.out.1.append HR.out.2.1).own (by
    rw [List.length_append, HLE.out.1]
    simpa using ho3))
  obtain ⟨A4, k4, rfl⟩ := own_slice ho3
  clear ho3 hg3
  go_wp2
  go_ret
  exact ⟨_, rfl, by simpa using HO3.out, HB3.out⟩
theorem lazy_via (m : Nat) (hs : List (Nat × SH)) (fv hp : Value) (g : Nat) (fz : Nat × Nat) (w : World) (hA : HSeq w m hs) (h0 : hfind hs [118, 105, 97] = .nilIface) (h1 : hfind hs [118] = .nilIface) (hn : w.heap[g]? = some (.cells #[.string ⟨#[118, 105, 97]⟩, .string ⟨#[118]⟩] 9 fz)) :
  Calls Tryz.prog 262 #[.pointer (some ⟨m, 0, none⟩), fv, .slice (some ⟨g, 0, none⟩) 2 2, hp] w fun e w' => e = .returned (.bool false) ∧ Below w.heap.size w w' := by
 have HA := hid hA
 have HN := hid (show ∀ wx, Below w.heap.size w wx → wx.heap[g]? = some (.cells ([.string ⟨#[118, 105, 97]⟩, .string ⟨#[118]⟩] : List Value).toArray 9 fz) from fun wx h => by rw [h.block _ (heap_lt hn)]; exact hn)
 have HG0 := hid (show ∀ wx, Below w.heap.size w wx → Calls Tryz.prog 255 #[.pointer (some ⟨m, 0, none⟩), .string ⟨#[118, 105, 97]⟩] wx (fun e w' => e = .returned .nilIface ∧ Below wx.heap.size wx w') from fun wx h => by
  have q := geth_any m hs ⟨#[118, 105, 97]⟩ wx (hA.below h)
  rw [show hfind hs (⟨#[118, 105, 97]⟩ : ByteArray).data.toList = .nilIface from h0] at q
  exact q)
 have HG1 := hid (show ∀ wx, Below w.heap.size w wx → Calls Tryz.prog 255 #[.pointer (some ⟨m, 0, none⟩), .string ⟨#[118]⟩] wx (fun e w' => e = .returned .nilIface ∧ Below wx.heap.size wx w') from fun wx h => by
  have q := geth_any m hs ⟨#[118]⟩ wx (hA.below h)
  rw [show hfind hs (⟨#[118]⟩ : ByteArray).data.toList = .nilIface from h1] at q
  exact q)
 clear hA hn h0 h1
 go_enter Tryz.func262, Tryz.ntmps262
 go_wp2_with fail
 go_loopw [10, 11, 15] (fun _ _ i wr => ∃ k : Nat, k ≤ 2 ∧ i = .int .i64 k ∧ Below w.heap.size w wr) (fun _ _ i _ => 2 - (intOf i).toNat)
 case atStart => exact ⟨0, by omega, rfl, Below.refl _ _⟩
 case round =>
  obtain ⟨k, hk, rfl, hb⟩ := hrel
  obtain ⟨wo, rfl⟩ : ∃ wo : World, wo = wr := ⟨_, rfl⟩
  have HB := hid hb
  clear hb
  have hk3 : k = 0 ∨ k = 1 ∨ k = 2 := by omega
  rcases hk3 with rfl | rfl | rfl
  ·have c0 := row_at (HN.out _ HB.out) 0 _ rfl
   go_wp2_with (go_at_call 255; refine (HG0.out _ HB.out).mono ?_; rintro e w1 ⟨rfl, hb⟩; have HB2 := hid (HB.out.trans (hb.mono HB.out.size)); clear hb)
   go_roundw
   case rel => exact ⟨1, by omega, rfl, HB2.out⟩
   case measure => first | decide | (simp [intOf])
  ·have c1 := row_at (HN.out _ HB.out) 1 _ rfl
   go_wp2_with (go_at_call 255; refine (HG1.out _ HB.out).mono ?_; rintro e w1 ⟨rfl, hb⟩; have HB2 := hid (HB.out.trans (hb.mono HB.out.size)); clear hb)
   go_roundw
   case rel => exact ⟨2, by omega, rfl, HB2.out⟩
   case measure => first | decide | (simp [intOf])
  ·go_wp2_with fail
   go_ret
   exact ⟨rfl, HB.out⟩
theorem getvia_none (m : Nat) (hs : List (Nat × SH)) (w : World) (h : w.cell? ⟨m, 1, none⟩ = some (refV none)) (hA : HSeq w m hs) (h0 : hfind hs [118, 105, 97] = .nilIface) (h1 : hfind hs [118] = .nilIface) : Calls Tryz.prog 246 #[.pointer (some ⟨m, 0, none⟩)] w fun e w' => e = .returned (.pointer none) ∧ Below w.heap.size w w' := by
 have c0 : w.cell? ⟨m, 1, none⟩ = some (.pointer none) := h
 have HC := hid c0
 have HL := hid (show ∀ wx fv hp g fz, Below w.heap.size w wx → wx.heap[g]? = some (.cells #[.string ⟨#[118, 105, 97]⟩, .string ⟨#[118]⟩] 9 fz) → Calls Tryz.prog 262 #[.pointer (some ⟨m, 0, none⟩), fv, .slice (some ⟨g, 0, none⟩) 2 2, hp] wx (fun e w' => e = .returned (.bool false) ∧ Below wx.heap.size wx w') from fun wx fv hp g fz hb hg => lazy_via m hs fv hp g fz wx (hA.below hb) h0 h1 hg)
 have HB2 := hid (show ∀ o1 o2, Below w.heap.size w ((w.alloc o1).alloc o2) from fun o1 o2 => ((Below.refl _ w).alloc (Nat.le_refl _) _).alloc (by simp) _)
 have HN2 := hid (show ∀ o1 o2, ((w.alloc o1).alloc o2).heap[w.heap.size + 1]? = some o2 from fun o1 o2 => by have h := heap_alloc_new (w.alloc o1) o2; rwa [World.size_alloc] at h)
 clear h hA h0 h1
 go_enter Tryz.func246, Tryz.ntmps246
 go_wp2_with (go_at_call 262; refine (HL.out _ _ _ _ (0, 0) (HB2.out _ _) (HN2.out _ _)).mono ?_; rintro e w1 ⟨rfl, hb⟩; have HB := hid ((HB2.out _ _).trans (hb.mono (HB2.out _ _).size)); have c1 := cell_at_below HC.out HB.out; clear hb)
 go_ret
 exact ⟨rfl, HB.out⟩
theorem lazy_cseq (m : Nat) (hs : List (Nat × SH)) (fv hp : Value) (g : Nat) (fz : Nat × Nat) (w : World) (hA : HSeq w m hs) (h0 : hfind hs [99, 115, 101, 113] = .nilIface) (hn : w.heap[g]? = some (.cells #[.string ⟨#[99, 115, 101, 113]⟩] 9 fz)) :
  Calls Tryz.prog 248 #[.pointer (some ⟨m, 0, none⟩), fv, .slice (some ⟨g, 0, none⟩) 1 1, hp] w fun e w' => e = .returned (.bool false) ∧ Below w.heap.size w w' := by
 have HA := hid hA
 have HN := hid (show ∀ wx, Below w.heap.size w wx → wx.heap[g]? = some (.cells ([.string ⟨#[99, 115, 101, 113]⟩] : List Value).toArray 9 fz) from fun wx h => by rw [h.block _ (heap_lt hn)]; exact hn)
 have HG0 := hid (show ∀ wx, Below w.heap.size w wx → Calls Tryz.prog 255 #[.pointer (some ⟨m, 0, none⟩), .string ⟨#[99, 115, 101, 113]⟩] wx (fun e w' => e = .returned .nilIface ∧ Below wx.heap.size wx w') from fun wx h => by
  have q := geth_any m hs ⟨#[99, 115, 101, 113]⟩ wx (hA.below h)
  rw [show hfind hs (⟨#[99, 115, 101, 113]⟩ : ByteArray).data.toList = .nilIface from h0] at q
  exact q)
 clear hA hn h0
 go_enter Tryz.func248, Tryz.ntmps248
 go_wp2_with fail
 go_loopw [10, 11, 15] (fun _ _ i wr => ∃ k : Nat, k ≤ 1 ∧ i = .int .i64 k ∧ Below w.heap.size w wr) (fun _ _ i _ => 1 - (intOf i).toNat)
 case atStart => exact ⟨0, by omega, rfl, Below.refl _ _⟩
 case round =>
  obtain ⟨k, hk, rfl, hb⟩ := hrel
  obtain ⟨wo, rfl⟩ : ∃ wo : World, wo = wr := ⟨_, rfl⟩
  have HB := hid hb
  clear hb
  have hk3 : k = 0 ∨ k = 1 := by omega
  rcases hk3 with rfl | rfl
  ·have c0 := row_at (HN.out _ HB.out) 0 _ rfl
   go_wp2_with (go_at_call 255; refine (HG0.out _ HB.out).mono ?_; rintro e w1 ⟨rfl, hb⟩; have HB2 := hid (HB.out.trans (hb.mono HB.out.size)); clear hb)
   go_roundw
   case rel => exact ⟨1, by omega, rfl, HB2.out⟩
   case measure => first | decide | (simp [intOf])
  ·go_wp2_with fail
   go_ret
   exact ⟨rfl, HB.out⟩
theorem getcseq_none (m : Nat) (hs : List (Nat × SH)) (w : World) (h : w.cell? ⟨m, 6, none⟩ = some (refV none)) (hA : HSeq w m hs) (h0 : hfind hs [99, 115, 101, 113] = .nilIface) : Calls Tryz.prog 220 #[.pointer (some ⟨m, 0, none⟩)] w fun e w' => e = .returned (.pointer none) ∧ Below w.heap.size w w' := by
 have c0 : w.cell? ⟨m, 6, none⟩ = some (.pointer none) := h
 have HC := hid c0
 have HL := hid (show ∀ wx fv hp g fz, Below w.heap.size w wx → wx.heap[g]? = some (.cells #[.string ⟨#[99, 115, 101, 113]⟩] 9 fz) → Calls Tryz.prog 248 #[.pointer (some ⟨m, 0, none⟩), fv, .slice (some ⟨g, 0, none⟩) 1 1, hp] wx (fun e w' => e = .returned (.bool false) ∧ Below wx.heap.size wx w') from fun wx fv hp g fz hb hg => lazy_cseq m hs fv hp g fz wx (hA.below hb) h0 hg)
 have HB2 := hid (show ∀ o1 o2, Below w.heap.size w ((w.alloc o1).alloc o2) from fun o1 o2 => ((Below.refl _ w).alloc (Nat.le_refl _) _).alloc (by simp) _)
 have HN2 := hid (show ∀ o1 o2, ((w.alloc o1).alloc o2).heap[w.heap.size + 1]? = some o2 from fun o1 o2 => by have h := heap_alloc_new (w.alloc o1) o2; rwa [World.size_alloc] at h)
 clear h hA h0
 go_enter Tryz.func220, Tryz.ntmps220
 go_wp2_with (go_at_call 248; refine (HL.out _ _ _ _ (0, 0) (HB2.out _ _) (HN2.out _ _)).mono ?_; rintro e w1 ⟨rfl, hb⟩; have HB := hid ((HB2.out _ _).trans (hb.mono (HB2.out _ _).size)); have c1 := cell_at_below HC.out HB.out; clear hb)
 go_ret
 exact ⟨rfl, HB.out⟩
theorem lazy_callid (m : Nat) (hs : List (Nat × SH)) (fv hp : Value) (g : Nat) (fz : Nat × Nat) (w : World) (hA : HSeq w m hs) (h0 : hfind hs [99, 97, 108, 108, 45, 105, 100] = .nilIface) (h1 : hfind hs [105] = .nilIface) (hn : w.heap[g]? = some (.cells #[.string ⟨#[99, 97, 108, 108, 45, 105, 100]⟩, .string ⟨#[105]⟩] 9 fz)) :
  Calls Tryz.prog 250 #[.pointer (some ⟨m, 0, none⟩), fv, .slice (some ⟨g, 0, none⟩) 2 2, hp] w fun e w' => e = .returned (.bool false) ∧ Below w.heap.size w w' := by
 have HA := hid hA
 have HN := hid (show ∀ wx, Below w.heap.size w wx → wx.heap[g]? = some (.cells ([.string ⟨#[99, 97, 108, 108, 45, 105, 100]⟩, .string ⟨#[105]⟩] : List Value).toArray 9 fz) from fun wx h => by rw [h.block _ (heap_lt hn)]; exact hn)
 have HG0 := hid (show ∀ wx, Below w.heap.size w wx → Calls Tryz.prog 255 #[.pointer (some ⟨m, 0, none⟩), .string ⟨#[99, 97, 108, 108, 45, 105, 100]⟩] wx (fun e w' => e = .returned .nilIface ∧ Below wx.heap.size wx w') from fun wx h => by
  have q := geth_any m hs ⟨#[99, 97, 108, 108, 45, 105, 100]⟩ wx (hA.below h)
  rw [show hfind hs (⟨#[99, 97, 108, 108, 45, 105, 100]⟩ : ByteArray).data.toList = .nilIface from h0] at q
  exact q)
 have HG1 := hid (show ∀ wx, Below w.heap.size w wx → Calls Tryz.prog 255 #[.pointer (some ⟨m, 0, none⟩), .string ⟨#[105]⟩] wx (fun e w' => e = .returned .nilIface ∧ Below wx.heap.size wx w') from fun wx h => by
  have q := geth_any m hs ⟨#[105]⟩ wx (hA.below h)
  rw [show hfind hs (⟨#[105]⟩ : ByteArray).data.toList = .nilIface from h1] at q
  exact q)
 clear hA hn h0 h1
 go_enter Tryz.func250, Tryz.ntmps250
 go_wp2_with fail
 go_loopw [10, 11, 15] (fun _ _ i wr => ∃ k : Nat, k ≤ 2 ∧ i = .int .i64 k ∧ Below w.heap.size w wr) (fun _ _ i _ => 2 - (intOf i).toNat)
 case atStart => exact ⟨0, by omega, rfl, Below.refl _ _⟩
 case round =>
  obtain ⟨k, hk, rfl, hb⟩ := hrel
  obtain ⟨wo, rfl⟩ : ∃ wo : World, wo = wr := ⟨_, rfl⟩
  have HB := hid hb
  clear hb
  have hk3 : k = 0 ∨ k = 1 ∨ k = 2 := by omega
  rcases hk3 with rfl | rfl | rfl
  ·have c0 := row_at (HN.out _ HB.out) 0 _ rfl
   go_wp2_with (go_at_call 255; refine (HG0.out _ HB.out).mono ?_; rintro e w1 ⟨rfl, hb⟩; have HB2 := hid (HB.out.trans (hb.mono HB.out.size)); clear hb)
   go_roundw
   case rel => exact ⟨1, by omega, rfl, HB2.out⟩
   case measure => first | decide | (simp [intOf])
  ·have c1 := row_at (HN.out _ HB.out) 1 _ rfl
   go_wp2_with (go_at_call 255; refine (HG1.out _ HB.out).mono ?_; rintro e w1 ⟨rfl, hb⟩; have HB2 := hid (HB.out.trans (hb.mono HB.out.size)); clear hb)
   go_roundw
   case rel => exact ⟨2, by omega, rfl, HB2.out⟩
   case measure => first | decide | (simp [intOf])
  ·go_wp2_with fail
   go_ret
   exact ⟨rfl, HB.out⟩
theorem getcallid_none (m : Nat) (hs : List (Nat × SH)) (w : World) (h : w.cell? ⟨m, 4, none⟩ = some (refV none)) (hA : HSeq w m hs) (h0 : hfind hs [99, 97, 108, 108, 45, 105, 100] = .nilIface) (h1 : hfind hs [105] = .nilIface) : Calls Tryz.prog 221 #[.pointer (some ⟨m, 0, none⟩)] w fun e w' => e = .returned (.pointer none) ∧ Below w.heap.size w w' := by
 have c0 : w.cell? ⟨m, 4, none⟩ = some (.pointer none) := h
 have HC := hid c0
 have HL := hid (show ∀ wx fv hp g fz, Below w.heap.size w wx → wx.heap[g]? = some (.cells #[.string ⟨#[99, 97, 108, 108, 45, 105, 100]⟩, .string ⟨#[105]⟩] 9 fz) → Calls Tryz.prog 250 #[.pointer (some ⟨m, 0, none⟩), fv, .slice (some ⟨g, 0, none⟩) 2 2, hp] wx (fun e w' => e = .returned (.bool false) ∧ Below wx.heap.size wx w') from fun wx fv hp g fz hb hg => lazy_callid m hs fv hp g fz wx (hA.below hb) h0 h1 hg)
 have HB2 := hid (show ∀ o1 o2, Below w.heap.size w ((w.alloc o1).alloc o2) from fun o1 o2 => ((Below.refl _ w).alloc (Nat.le_refl _) _).alloc (by simp) _)
 have HN2 := hid (show ∀ o1 o2, ((w.alloc o1).alloc o2).heap[w.heap.size + 1]? = some o2 from fun o1 o2 => by have h := heap_alloc_new (w.alloc o1) o2; rwa [World.size_alloc] at h)
 clear h hA h0 h1
 go_enter Tryz.func221, Tryz.ntmps221
 go_wp2_with (go_at_call 250; refine (HL.out _ _ _ _ (0, 0) (HB2.out _ _) (HN2.out _ _)).mono ?_; rintro e w1 ⟨rfl, hb⟩; have HB := hid ((HB2.out _ _).trans (hb.mono (HB2.out _ _).size)); have c1 := cell_at_below HC.out HB.out; clear hb)
 go_ret
 exact ⟨rfl, HB.out⟩

def tagB : Bytes := [116, 97, 103]
structure DlgAt (m : Nat) (cid tt tf : ByteArray) (w : World) : Prop where
 ex : ∃ g2 g3 g4 df dt uf ut pf pt, w.cell? ⟨m, 2, none⟩ = some (refV (some g2)) ∧ w.cell? ⟨m, 3, none⟩ = some (refV (some g3)) ∧ w.cell? ⟨m, 4, none⟩ = some (refV (some g4)) ∧
  AddrAt 181 w g2 df uf pf ∧ AddrAt 185 w g3 dt ut pt ∧ HB w g4 154 #[.string cid] ∧ kvGet pf tagB = some tf ∧ kvGet pt tagB = some tt
theorem DlgAt.below {m : Nat} {cid tt tf : ByteArray} {w w' : World} (h : DlgAt m cid tt tf w) (hb : Below w.heap.size w w') : DlgAt m cid tt tf w' := by
 obtain ⟨g2, g3, g4, df, dt, uf, ut, pf, pt, h2, h3, h4, hf, ht, hc, e1, e2⟩ := h.ex
 exact ⟨g2, g3, g4, df, dt, uf, ut, pf, pt, cell_at_below h2 hb, cell_at_below h3 hb, cell_at_below h4 hb, hf.below hb, ht.below hb, hc.below hb, e1, e2⟩


structure No_via (m : Nat) (w : World) : Prop where
 ex : ∃ hs, w.cell? ⟨m, 1, none⟩ = some (refV none) ∧ HSeq w m hs ∧ hfind hs [118, 105, 97] = .nilIface ∧ hfind hs [118] = .nilIface
theorem No_via.below {m : Nat} {w w' : World} (h : No_via m w) (hb : Below w.heap.size w w') : No_via m w' := by
 obtain ⟨hs, h1, h2, h3⟩ := h.ex
 exact ⟨hs, cell_at_below h1 hb, h2.below hb, h3⟩
theorem No_via.get {m : Nat} {w : World} (h : No_via m w) : Calls Tryz.prog 246 #[.pointer (some ⟨m, 0, none⟩)] w fun e w' => e = .returned (.pointer none) ∧ Below w.heap.size w w' := by
 obtain ⟨hs, h1, h2, q0, q1⟩ := h.ex
 exact getvia_none m hs w h1 h2 q0 q1
structure No_cseq (m : Nat) (w : World) : Prop where
 ex : ∃ hs, w.cell? ⟨m, 6, none⟩ = some (refV none) ∧ HSeq w m hs ∧ hfind hs [99, 115, 101, 113] = .nilIface
theorem No_cseq.below {m : Nat} {w w' : World} (h : No_cseq m w) (hb : Below w.heap.size w w') : No_cseq m w' := by
 obtain ⟨hs, h1, h2, h3⟩ := h.ex
 exact ⟨hs, cell_at_below h1 hb, h2.below hb, h3⟩
theorem No_cseq.get {m : Nat} {w : World} (h : No_cseq m w) : Calls Tryz.prog 220 #[.pointer (some ⟨m, 0, none⟩)] w fun e w' => e = .returned (.pointer none) ∧ Below w.heap.size w w' := by
 obtain ⟨hs, h1, h2, q0⟩ := h.ex
 exact getcseq_none m hs w h1 h2 q0
structure No_callid (m : Nat) (w : World) : Prop where
 ex : ∃ hs, w.cell? ⟨m, 4, none⟩ = some (refV none) ∧ HSeq w m hs ∧ hfind hs [99, 97, 108, 108, 45, 105, 100] = .nilIface ∧ hfind hs [105] = .nilIface
theorem No_callid.below {m : Nat} {w w' : World} (h : No_callid m w) (hb : Below w.heap.size w w') : No_callid m w' := by
 obtain ⟨hs, h1, h2, h3⟩ := h.ex
 exact ⟨hs, cell_at_below h1 hb, h2.below hb, h3⟩
theorem No_callid.get {m : Nat} {w : World} (h : No_callid m w) : Calls Tryz.prog 221 #[.pointer (some ⟨m, 0, none⟩)] w fun e w' => e = .returned (.pointer none) ∧ Below w.heap.size w w' := by
 obtain ⟨hs, h1, h2, q0, q1⟩ := h.ex
 exact getcallid_none m hs w h1 h2 q0 q1
def NoVC (m : LMsg) : Prop := (∀ x ∈ m.heads, RHead x) ∧ (m.heads.filter (isT 5) = [] ∨ m.heads.filter (isT 9) = [] ∧ ∃ pc, m.heads.filter (isT 5) = [pc])
def NoAt (m : LMsg) (v : Value) (w : World) : Prop := ∃ mm, v = .iface (mtyI m) (.pointer (some ⟨mm, 0, none⟩)) ∧ (No_cseq mm w ∨ No_via mm w ∧ ∃ g6 num meth, w.cell? ⟨mm, 6, none⟩ = some (refV (some g6)) ∧ HB w g6 156 #[.int .u32 num, .string meth])
theorem NoAt.below {m : LMsg} {v : Value} {w w' : World} (h : NoAt m v w) (hb : Below w.heap.size w w') : NoAt m v w' := by
 obtain ⟨mm, h1, h2 | ⟨h2, g6, num, meth, h3, h4⟩⟩ := h
 ·exact ⟨mm, h1, .inl (h2.below hb)⟩
 ·exact ⟨mm, h1, .inr ⟨h2.below hb, g6, num, meth, cell_at_below h3 hb, h4.below hb⟩⟩
def dropM (m : LMsg) (t : Int) : LMsg := { m with heads := m.heads.filter fun x => !(isT t x) }
theorem PMsg.drop {m : LMsg} (P : PMsg m) (t : Int) : PMsg (dropM m t) :=
 ⟨P.hasBody, P.compact, P.version, P.len, P.body, Nat.le_trans (List.length_filter_le _ _) P.many, fun h hh => P.heads h (List.mem_filter.1 hh).1, P.uri⟩
theorem drop_nil (m : LMsg) (t : Int) : (dropM m t).heads.filter (isT t) = [] := by
 rw [List.filter_eq_nil_iff]
 intro x hx
 have := (List.mem_filter.1 hx).2
 simpa using this
theorem drop_other (m : LMsg) {t s : Int} (h : s ≠ t) : (dropM m t).heads.filter (isT s) = m.heads.filter (isT s) := by
 show (m.heads.filter fun x => !(isT t x)).filter (isT s) = _
 rw [List.filter_filter]
 congr 1
 funext x
 by_cases e : x.t = s
 ·have : ¬ x.t = t := fun e2 => h (e.symm.trans e2)
  simp [isT, e, h]
 ·simp [isT, e]
theorem drop_right {m : LMsg} (R : RMsg m) (t : Int) : ∀ x ∈ (dropM m t).heads, RHead x := fun x hx => (R.heads x (List.mem_filter.1 hx).1).1
theorem drop_vc_9 {m : LMsg} (R : RCall m) : NoVC (dropM m 9) := by
 obtain ⟨pc, h5, -⟩ := first_of (R.one 5 (by simp))
 exact ⟨drop_right R.msg 9, .inr ⟨drop_nil m 9, pc, by rw [drop_other m (by decide)]; exact h5⟩⟩
theorem drop_vc_5 {m : LMsg} (R : RCall m) : NoVC (dropM m 5) := ⟨drop_right R.msg 5, .inl (drop_nil m 5)⟩
def NoCV (m : LMsg) : Prop := (∀ x ∈ m.heads, RHead x) ∧ (m.heads.filter (isT 9) = [] ∨ m.heads.filter (isT 5) = [] ∧ ∃ pv, m.heads.filter (isT 9) = [pv])
def NoAtS (m : LMsg) (v : Value) (w : World) : Prop := ∃ mm, v = .iface (mtyI m) (.pointer (some ⟨mm, 0, none⟩)) ∧ (No_via mm w ∨ No_cseq mm w ∧ ∃ g1, w.cell? ⟨mm, 1, none⟩ = some (refV (some g1)))
theorem NoAtS.below {m : LMsg} {v : Value} {w w' : World} (h : NoAtS m v w) (hb : Below w.heap.size w w') : NoAtS m v w' := by
 obtain ⟨mm, h1, h2 | ⟨h2, g1, h3⟩⟩ := h
 ·exact ⟨mm, h1, .inl (h2.below hb)⟩
 ·exact ⟨mm, h1, .inr ⟨h2.below hb, g1, cell_at_below h3 hb⟩⟩
theorem plain_1 {h : LHead} (ht : h.t = 1) : (plainH h).t = 1 ∧ (plainH h).params = h.params := by
 obtain ⟨t, name, text, display, u, params, num, proto, version, transport, host, port⟩ := h
 dsimp only at ht
 subst ht
 exact ⟨rfl, rfl⟩
theorem plain_2 {h : LHead} (ht : h.t = 2) : (plainH h).t = 2 ∧ (plainH h).params = h.params := by
 obtain ⟨t, name, text, display, u, params, num, proto, version, transport, host, port⟩ := h
 dsimp only at ht
 subst ht
 exact ⟨rfl, rfl⟩
theorem plain_4 {h : LHead} (ht : h.t = 4) : (plainH h).t = 4 ∧ (plainH h).text = h.text := by
 obtain ⟨t, name, text, display, u, params, num, proto, version, transport, host, port⟩ := h
 dsimp only at ht
 subst ht
 exact ⟨rfl, rfl⟩
structure CallD (m : LMsg) (fr tq id pf pt pi : LHead) : Prop where
 p : PMsg m
 h2 : m.heads.filter (isT 2) = [pf]
 h1 : m.heads.filter (isT 1) = [pt]
 h4 : m.heads.filter (isT 4) = [pi]
 f2 : firstH 2 m.heads = fr
 f1 : firstH 1 m.heads = tq
 f4 : firstH 4 m.heads = id
 t2 : fr.t = 2
 t1 : tq.t = 1
 t4 : id.t = 4
 ms2 : HMs fr
 ms1 : HMs tq
 ms4 : HMs id
 par2 : pf.params = fr.params
 par1 : pt.params = tq.params
 txt : pi.text = id.text
 txl : id.text.length ≤ 8192
 val2 : ∀ q ∈ fr.params, q.2.length ≤ 8192
 val1 : ∀ q ∈ tq.params, q.2.length ≤ 8192
 sorts : ∀ h ∈ m.heads, 0 ≤ h.t ∧ h.t ≤ 14
theorem vals_ok {l : BKVs} (h : ParOK false l) : ∀ q ∈ l, q.2.length ≤ 8192 := by
 intro p hp
 have h1 := h.2 p hp
 simp only [parB, Bool.and_eq_true, Bool.or_eq_true, decide_eq_true_eq] at h1
 rcases h1.2 with h2 | h2
 ·exact (wordS_ok h2).2
 ·rw [h2.2]; simp
theorem CallD.of {N : Nat} {m : LMsg} (H : MIn N m) (R : RCall m) : ∃ fr tq id pf pt pi, CallD m fr tq id pf pt pi := by
 obtain ⟨pf, h2, m2, t2, f2⟩ := first_of (R.one 2 (by simp))
 obtain ⟨pt, h1, m1, t1, f1⟩ := first_of (R.one 1 (by simp))
 obtain ⟨pi, h4, m4, t4, f4⟩ := first_of (R.one 4 (by simp))
 have P := PMsg.of H R.msg
 have q2 := plain_2 t2
 have q1 := plain_1 t1
 have q4 := plain_4 t4
 have r2 := (R.msg.heads pf m2).1.addr (by rw [t2]; rfl)
 have r1 := (R.msg.heads pt m1).1.addr (by rw [t1]; rfl)
 have r4 := (R.msg.heads pi m4).1.callid t4
 exact ⟨plainH pf, plainH pt, plainH pi, pf, pt, pi, P, h2, h1, h4, f2, f1, f4, q2.1, q1.1, q4.1, (P.heads pf m2).plain, (P.heads pt m1).plain, (P.heads pi m4).plain, q2.2.symm, q1.2.symm, q4.2.symm,
  by rw [q4.2]; exact (wordS_ok r4).2, by rw [q2.2]; exact vals_ok r2.2.2, by rw [q1.2]; exact vals_ok r1.2.2, fun h hh => (P.heads h hh).t⟩
theorem run_storeVar_cell {P : Program} (w : World) (g j : Nat) (ty : TypeId) (v : Value) (h1 : v.oneCell' = true) (ht : w.there g j 1) (hi : (P.info? ty).map (·.size) = some 1) : (storeVar ty ⟨g, j, none⟩ v).run P w = .ok () (w.setCell ⟨g, j, none⟩ v) := by
 have := run_storeCells_cells (P := P) g j [v] 0 w (fun k hk => by simpa using (ht k (by simpa using hk)).1) (fun k hk => by simpa using (ht k (by simpa using hk)).2)
  (fun x hx => by simp at hx; subst hx; exact h1)
 have hc : v.cells = #[v] := by cases v <;> first | rfl | cases h1
 cases hq : P.info? ty with
 | none => simp [hq] at hi
 | some i =>
  have hs : i.size = 1 := by simpa [hq] using hi
  simp only [Nat.add_zero] at this
  simp [storeVar, sizeOf, typeInfo, hq, hc, hs, this, World.setCells]
theorem wpList_store_cell {P : Program} {ops : Array Oper} {rest : List Oper} {op : Oper} {a : Act} {W : World} {Q : Exit → Act → World → Prop} (hgd : op.guard = none) (ty : TypeId) (x y : Operand) (ho : op.op = .store ty x y)
  (g j : Nat) (ty' : TypeId) (l : List Value) (v : Value) (hx : a.eval x = .pointer (some ⟨g, j, none⟩)) (hy : a.eval y = v) (hg : W.heap[g]? = some (Obj.cells l.toArray ty' (0, 0)))
  (hj : j < l.length) (h1 : v.oneCell' = true) (hi : (P.info? ty).map (·.size) = some 1)
  (h : ∀ W', Stored g ty' (l.set j v) W W' → wpList P ops Q rest (a.put op.dst undef) W') : wpList P ops Q (op :: rest) a W :=
 wpList_plain hgd fun _ hK => by
  unfold Oper.wp execOp
  simp only [ho, hx, hy, Instr.storeAt, Instr.sureAddr, Sem.run_bind, Sem.run_pure, Result.andThen_ok, run_storeVar_cell W g j ty v h1 (there_row hg j 1 (by omega)) hi]
  exact hK _ _ (h _ (stored_set hg j v))
theorem bs_size : (Tryz.prog.info? 22).map (·.size) = some 1 := by kernel_rfl
theorem LH.txt {w : World} {h : LHead} {l : List Value} (H : LH w h l) {v : Value} {x : Bytes} (hv : SB w v x) : LH w { h with text := x } (l.set 2 v) := by
 obtain ⟨a, b, c, ul, p, d, e, f, g, rfl, h1, h2, h3, h4, h5, h6, h7, h8, h9, h10, h11, h12⟩ := H
 exact ⟨a, v, c, ul, p, d, e, f, g, rfl, h1, hv, h3, h4, h5, h6, h7, h8, h9, h10, h11, h12⟩
theorem Stored.keep {g : Nat} {ty : TypeId} {l : List Value} {w w' : World} (h : Stored g ty l w w') {k : Nat} {o : Obj} (hk : w.heap[k]? = some o) (hne : k ≠ g) : w'.heap[k]? = some o := (h.other k hne).trans hk
theorem LH.two {w : World} {h : LHead} {l : List Value} (H : LH w h l) : ∃ x0 x1 r, l = x0 :: x1 :: r ∧ r.length = 19 := by
 obtain ⟨a, b, c, ul, p, d, e, f, g, rfl, h1, h2, h3, hu, -⟩ := H
 exact ⟨_, _, _, rfl, by simp [hu.len]⟩
def TL (N : Nat) (l : List Value) (w w' : World) : Prop := Below N w w' ∧ ∀ (k : Nat) (zs : List Value), w.heap[k]? = some (Obj.cells zs.toArray 35 (0, 0)) → zs.length = 21 → ∃ zs' : List Value, w'.heap[k]? = some (Obj.cells zs'.toArray 35 (0, 0)) ∧ zs'.length = 21 ∧ (zs = l → zs' = l)
theorem TL.refl (N : Nat) (l : List Value) (w : World) : TL N l w w := ⟨Below.refl _ _, fun _ zs h h2 => ⟨zs, h, h2, fun e => e⟩⟩
theorem TL.new {N : Nat} {w : World} (l : List Value) (h : N ≤ w.heap.size) (o : Obj) : TL N l w (w.alloc o) :=
 ⟨(Below.refl _ _).alloc h _, fun k zs hk h2 => ⟨zs, (((Below.refl w.heap.size w).alloc (Nat.le_refl _) o).block k (heap_lt hk)).trans hk, h2, fun e => e⟩⟩
theorem TL.stored {N g : Nat} {l : List Value} {w w' : World} (h : Stored g 35 l w w') (hn : N ≤ g) (hl : l.length = 21) : TL N l w w' := by
 refine ⟨h.below.mono hn, fun k zs hk h2 => ?_⟩
 by_cases e : k = g
 ·subst e
  exact ⟨l, h.blk, hl, fun _ => rfl⟩
 ·exact ⟨zs, (h.other k e).trans hk, h2, fun e => e⟩
theorem LM.set_heads {w : World} {m : LMsg} {l : List Value} (h : LM w m l) {v : Value} {hs : List LHead} (hv : SHs w v hs) : LM w { m with heads := hs } (l.set 15 v) := by
 obtain ⟨a, ul, b, c, x, d, rfl, h1, h2, h3, h4, h5, h6, h7⟩ := h
 obtain ⟨u0, u1, u4, u5, u6, u8, u9, rfl, k⟩ := h2
 exact ⟨a, _, b, c, v, d, rfl, h1, ⟨u0, u1, u4, u5, u6, u8, u9, rfl, k⟩, h3, h4, hv, h6, h7⟩
theorem LM.set_body {w : World} {m : LMsg} {l : List Value} (h : LM w m l) {v : Value} {x : Bytes} (hv : SB w v x) : LM w { m with body := x } (l.set 16 v) := by
 obtain ⟨a, ul, b, c, y, d, rfl, h1, h2, h3, h4, h5, h6, h7⟩ := h
 obtain ⟨u0, u1, u4, u5, u6, u8, u9, rfl, k⟩ := h2
 exact ⟨a, _, b, c, y, v, rfl, h1, ⟨u0, u1, u4, u5, u6, u8, u9, rfl, k⟩, h3, h4, h5, hv, h7⟩
theorem drop_vs_9 {m : LMsg} (R : RCall m) : NoCV (dropM m 9) := ⟨drop_right R.msg 9, .inl (drop_nil m 9)⟩
theorem drop_vs_5 {m : LMsg} (R : RCall m) : NoCV (dropM m 5) := by
 obtain ⟨pv, h9, -⟩ := first_of (R.one 9 (by simp))
 exact ⟨drop_right R.msg 5, .inr ⟨drop_nil m 5, pv, by rw [drop_other m (by decide)]; exact h9⟩⟩
theorem hs_size : (Tryz.prog.info? 26).map (·.size) = some 1 := by kernel_rfl
def T3 (t : Int) : Prop := t = 9 ∨ t = 5 ∨ t = 4
theorem T3.vc {m : LMsg} (R : RCall m) {t : Int} (h : T3 t) (h4 : t ≠ 4) : NoVC (dropM m t) ∧ NoCV (dropM m t) := by
 rcases h with rfl | rfl | rfl
 ·exact ⟨drop_vc_9 R, drop_vs_9 R⟩
 ·exact ⟨drop_vc_5 R, drop_vs_5 R⟩
 ·exact absurd rfl h4
theorem put_end (w0 : World) (v vm : Value) (l more : List LHead) (w : World) (hS : SHs w0 v l) (hM : SHs w0 vm more) (hw : Sub w0 w) (hl : l.length + more.length ≤ 100000) :
  Calls Tryz.prog 15 #[v, .int .i64 l.length, vm] w fun e w' => ∃ A c, e = .returned (.slice A (l.length + more.length) c) ∧ OHs w0 w.heap.size w' (.slice A (l.length + more.length) c) (l ++ more) ∧ Below w.heap.size w w' :=
 (put_x w0 v vm l more l.length w hS hM hw (Nat.le_refl _) hl).mono fun e w' ⟨u, h1, h2, h3⟩ => by
  rw [List.take_length, List.drop_length, List.append_nil] at h2
  obtain ⟨A, c, rfl⟩ := h2.form
  rw [List.length_append] at h1 h2
  exact ⟨A, c, h1, h2, h3⟩
def MagB (N : Nat) (v : Value) (w : World) : Prop := ∃ g fz, v = .slice (some ⟨g, 0, none⟩) 7 7 ∧ N ≤ g ∧ w.heap[g]? = some (Obj.cells (Lib.byteCells magicB).toArray 5 fz)
theorem MagB.ck {N M : Nat} {v : Value} {w w' : World} (h : MagB N v w) (k : CK M w w') : MagB N v w' := by
 obtain ⟨g, fz, h1, h2, h3⟩ := h
 obtain ⟨fz', h4, -⟩ := k.2 _ _ _ _ h3
 exact ⟨g, fz', h1, h2, h4⟩
theorem MagB.new {N : Nat} {w : World} (h : N ≤ w.heap.size) : MagB N (.slice (some ⟨w.heap.size, 0, none⟩) 7 7) (w.alloc (.cells #[.int .u8 122, .int .u8 57, .int .u8 104, .int .u8 71, .int .u8 52, .int .u8 98, .int .u8 75] 5)) :=
 ⟨w.heap.size, (0, 0), rfl, h, heap_alloc_new w _⟩
theorem MagB.conv {N : Nat} {v : Value} {w : World} (h : MagB N v w) : ∃ g w', v = .slice (some ⟨g, 0, none⟩) 7 7 ∧ Sem.run Tryz.prog (convert 22 22 (.slice (some ⟨g, 0, none⟩) 7 7)) w = .ok (.slice (some ⟨g, 0, none⟩) 7 7) w' ∧ CK N w w' ∧ SB w' (.slice (some ⟨g, 0, none⟩) 7 7) magicB := by
 obtain ⟨g, fz, h1, h2, h3⟩ := h
 obtain ⟨w', hr, hk⟩ := conv_lit h3 N 7 7 h2
 exact ⟨g, w', h1, hr, hk, SB.litB (l := magicB) (hk.blk ⟨_, h3⟩) (by decide)⟩
theorem portK_same {a b : LHead} (h1 : a.port = b.port) (h2 : a.transport = b.transport) : portK (viaS a) = portK (viaS b) := by
 unfold portK viaS
 dsimp only
 rw [h1, h2]
theorem sub_f {w w' : World} {n : Nat} (h : Below w.heap.size w w') : Sub (filterW w n) w' := (filt_sub w n).trans (by rw [filt_size]; exact h)
theorem sub_tr {a b c : World} (h : Sub a b) (k : Sub b c) : Sub a c := ⟨Nat.le_trans h.size k.size, fun x v hc => k.cell x v (h.cell x v hc)⟩
theorem OKs.filt {n base : Nat} {w0 w : World} {v : Value} {l : BKVs} (H : OKs w0 base w v l) : OKs w0 base (filterW w n) v l := by
 obtain ⟨css, h1, h2, h3⟩ := H
 refine ⟨css, h1, ?_, h3⟩
 rcases h2 with ⟨k1, k2 | ⟨b, cap, cur, k3, k4, k5, k6⟩⟩
 ·exact ⟨k1, .inl k2⟩
 ·exact ⟨k1, .inr ⟨b, cap, cur, k3, k4, filt_keep k5 (.inr (by decide)), k6⟩⟩
theorem OKs.skS {w0 w : World} {base : Nat} {v : Value} {l : BKVs} (H : OKs w0 base w v l) (hw : Sub w0 w) : SK w v l := by
 have H0 := H
 obtain ⟨css, h1, h2, h3⟩ := H
 rcases h2 with ⟨k1, ⟨rfl, k3⟩ | ⟨b, cap, cur, rfl, k4, k5, k6, k7, k8, k9⟩⟩
 ·have hl0 : l = [] := List.eq_nil_of_length_eq_zero k3
  subst hl0
  exact SK.nil _
 ·refine ⟨some ⟨b, 0, none⟩, cap, rfl, k6, by simpa [maxLen] using k7, fun h => (by cases h), fun i hi => ?_⟩
  obtain ⟨b2, c2, vk, vv, lc, e1, _, _, e4, e5, e6, e7, _⟩ := H0.at_ i _ (List.getElem?_eq_getElem hi)
  injection e1 with e1 _ _
  injection e1 with e1
  injection e1 with e1 _ _
  subst e1
  refine ⟨⟨b, 0, none⟩, vk, vv, rfl, ?_, ?_, e6.sub hw, e7.sub hw⟩
  ·rw [Addr.add_lit, Nat.zero_add]; exact e4
  ·rw [Addr.add_lit, Nat.zero_add]; exact e5
theorem OB.filt {base n : Nat} {w : World} {v : Value} {l : Bytes} (h : OB base w v l) : OB base (filterW w n) v l := by
 rcases h with ⟨k1, k2 | ⟨b, cap, cur, k3, k4, k5, k6⟩⟩
 ·exact ⟨k1, .inl k2⟩
 ·exact ⟨k1, .inr ⟨b, cap, cur, k3, k4, filt_keep k5 (.inr (by decide)), k6⟩⟩
theorem branched_h (n : Nat) (m : LMsg) (mcs : List Value) (x : Value) (tx : Bytes) (w : World) (hn : n ≤ w.heap.size) (hM : LMh n w m mcs) (hx : SB (filterW w n) x tx) (ht : ∀ h ∈ m.heads, 0 ≤ h.t ∧ h.t ≤ 14) (hl : m.heads.length ≤ 1000) (hl2 : (firstH 9 m.heads).params.length ≤ 1073741824) : Calls Tryz.prog 16 #[.agg mcs.toArray, x] w (ChgH n (chgM m (parH (firstH 9 m.heads) branchK tx)) w) := by
 have hM : LM (filterW w n) m mcs := hM
 have hlen : mcs.length = 19 := by
  obtain ⟨va, ul, vb, vc, vh, vd, rfl, hm, hu, _⟩ := hM
  simp [hu.len]
 obtain ⟨vh, hvh, hsh⟩ := hM.heads_at
 have HNW := hid hn
 clear hn
 obtain ⟨Ah, ch, rfl, hhl⟩ := hsh.form
 have HSH := hid hsh
 have HM := hid hM
 have HL := hid hl2
 have HLM := hid (And.intro hl ht)
 have HSX := hid hx
 obtain ⟨Ax, cx, rfl, hxl⟩ := hx.form
 clear hM hsh hl ht hl2 hx
 obtain ⟨x0, x1, x2, x3, x4, x5, x6, x7, x8, x9, x10, x11, x12, x13, x14, x15, x16, x17, x18, rfl⟩ := list19 hlen
 obtain rfl : x15 = .slice Ah m.heads.length ch := by simpa using hvh
 clear hvh hlen
 obtain ⟨wb, hwb⟩ : ∃ wb, wb = (w.alloc (.cells #[x0, x1, x2, x3, x4, x5, x6, x7, x8, x9, x10, x11, x12, x13, x14, .slice Ah m.heads.length ch, x16, x17, x18] 28)).alloc (.cells #[.bool false, .slice none 0 0, .slice none 0 0, .slice none 0 0, .bool false, .bool false, .slice none 0 0, .slice none 0 0, .slice none 0 0, .int .i64 0, .slice none 0 0, .slice none 0 0, .int .i64 0, .slice none 0 0, .slice none 0 0, .slice none 0 0, .slice none 0 0, .bool false, .bool false] 28) := ⟨_, rfl⟩
 have HWB1 := hid (show wb.heap[w.heap.size]? = some (.cells ([x0, x1, x2, x3, x4, x5, x6, x7, x8, x9, x10, x11, x12, x13, x14, .slice Ah m.heads.length ch, x16, x17, x18] : List Value).toArray 28 (0, 0)) by rw [hwb]; exact ((Below.refl _ _).alloc (Nat.le_refl _) _).block w.heap.size (by simp) |>.trans (heap_alloc_new w _))
 have HWB2 := hid (show wb.heap[w.heap.size + 1]? = some (.cells zeroM.toArray 28 (0, 0)) by rw [hwb]; have := heap_alloc_new (w.alloc (.cells #[x0, x1, x2, x3, x4, x5, x6, x7, x8, x9, x10, x11, x12, x13, x14, .slice Ah m.heads.length ch, x16, x17, x18] 28)) (.cells #[.bool false, .slice none 0 0, .slice none 0 0, .slice none 0 0, .bool false, .bool false, .slice none 0 0, .slice none 0 0, .slice none 0 0, .int .i64 0, .slice none 0 0, .slice none 0 0, .int .i64 0, .slice none 0 0, .slice none 0 0, .slice none 0 0, .slice none 0 0, .bool false, .bool false] 28); rwa [World.size_alloc] at this)
 have HB0 := hid (show Below w.heap.size w wb by rw [hwb]; exact ((Below.refl _ w).alloc (Nat.le_refl _) _).alloc (by simp) _)
 have HSZ := hid (show wb.heap.size = w.heap.size + 2 by rw [hwb]; simp)
 have HFI := hid (firsts_x (filterW w n) _ m.heads 9 wb HSH.out (sub_f HB0.out) HLM.out.2 HLM.out.1)
 obtain ⟨via, hvia⟩ : ∃ via, via = firstH 9 m.heads := ⟨_, rfl⟩
 rw [← hvia] at HL ⊢
 have HVI := hid hvia
 clear hvia
 go_enter Tryz.func16, Tryz.ntmps16
 go_upto_region 1 with fail
 rw [← hwb]
 generalize Value.agg #[x0, x1, x2, x3, x4, x5, x6, x7, x8, x9, x10, x11, x12, x13, x14, .slice Ah m.heads.length ch, x16, x17, x18] = arg0
 clear hwb
 have c15 := row_at HWB1.out 15 _ rfl
 go_upto_region 2 with (first
  | (go_at_call 12; refine HFI.out.mono ?_; rintro e w3 ⟨cs, rfl, hx, hb3⟩; have HX := hid hx; have HB3 := hid hb3; clear hx hb3)
  | (refine wpList_store_blk (by rfl) 35 (.tmp 6) (.tmp 14) (by rfl) w3.heap.size 35 zeroH cs (by rfl) (by rfl) (by rw [HX.out.len]; rfl) (heap_alloc_new w3 _) 21 head_size HX.out.len HX.out.one ?_; intro W2 hst2; have HST2 := hid hst2; clear hst2)
  | fail)
 clear c15
 obtain ⟨g6, hg6⟩ : ∃ g6, g6 = w3.heap.size := ⟨_, rfl⟩
 have hb32 : Below w3.heap.size w3 W2 := (((Below.refl _ w3).alloc (Nat.le_refl _) _).trans HST2.out.below)
 have HLX := hid (show LHx (filterW w n) W2 via cs by have h := HX.out.ku (KU.of_below (N := 0) hb32 (Nat.zero_le _)); rw [← HVI.out] at h; exact h)
 have HB2 := hid (show Below wb.heap.size wb W2 from HB3.out.trans (hb32.mono HB3.out.size))
 have HGV := hid (show W2.heap[g6]? = some (.cells cs.toArray 35 (0, 0)) by rw [hg6]; exact HST2.out.blk)
 have HG6 := hid (show wb.heap.size ≤ g6 by rw [hg6]; exact HB3.out.size)
 have HSV := hid HSX.out
 rw [← hg6]
 clear hb32 HST2 HX hg6 HFI
 have hone := HLX.out.one
 have hlen := HLX.out.len
 obtain ⟨vp, hvp, hsk⟩ := HLX.out.params_at
 obtain ⟨Ap, cp, rfl, hpl⟩ := hsk.form
 obtain ⟨-, hA0, css, hc1, hc2, hc4⟩ := hsk.rows
 have HC1 := hid hc1
 have HC2 := hid hc2
 have HC4 := hid (And.intro hA0 hc4)
 have HONE := hid hone
 clear hA0 hc1 hc2 hc4 hsk hone
 obtain ⟨y0, y1, y2, y3, y4, y5, y6, y7, y8, y9, y10, y11, y12, y13, y14, y15, y16, y17, y18, y19, y20, hhe⟩ := list21 hlen
 obtain rfl : y14 = .slice Ap via.params.length cp := by rw [hhe] at hvp; simpa using hvp
 subst hhe
 clear hvp hlen
 have HAE := hid (show (W2.alloc (.cells #[] 73)).ownsRow W2.heap.size 73 2 (.slice (some ⟨W2.heap.size, 0, none⟩) 0 0) 0 [] from own_empty _ _ _ _ _ (heap_alloc_new W2 _) (Nat.le_refl _))
 have HCA := hid (show ∀ ad, Ap = some ad → ∀ j u, css.flatten[j]? = some u → (W2.alloc (.cells #[] 73)).cell? (ad.add j) = some u from fun ad hA j u hj => cell_at_below ((filt_sub w n).cell _ _ (HC4.out.2 ad hA j u hj)) ((HB0.out.trans (HB2.out.mono HB0.out.size)).trans (((Below.refl _ W2).alloc (Nat.le_refl _) _).mono (HB0.out.trans (HB2.out.mono HB0.out.size)).size)))
 have HFL := hid (show css.flatten.length = via.params.length * 2 by rw [flat_len 2 css (OKs.all2 HC1.out HC2.out), HC1.out])
 have HF1 := hid (show ∀ u ∈ css.flatten, u.oneCell' = true from fun u hu => by
  obtain ⟨x, hx, hux⟩ := List.mem_flatten.1 hu
  obtain ⟨i, hi, rfl⟩ := List.mem_iff_getElem.1 hx
  obtain ⟨vk, vv, e1, e2, e3⟩ := HC2.out i (by have := HC1.out; omega)
  rw [List.getElem?_eq_getElem hi] at e1
  injection e1 with e1
  rw [e1] at hux
  simp only [List.mem_cons, List.not_mem_nil, or_false] at hux
  rcases hux with rfl | rfl
  ·exact e2.one
  ·exact e3.one)
 have c14 := row_at HGV.out 14 _ rfl
 have hltb : g6 < W2.heap.size := heap_lt HGV.out
 go_upto_region 3 with (at_builtin; refine app_all W2.heap.size rfl (.tmp 15) (.tmp 17) 23 73 (.agg zeroKV.toArray) 2 48 rfl Tryz.underlying23 lkv_info rfl (by decide) (by decide) (.slice (some ⟨W2.heap.size, 0, none⟩) 0 0) 0 [] css.flatten Ap via.params.length cp rfl rfl HFL.out HC4.out.1 HCA.out HF1.out HAE.out (by simp) (by have := HL.out; omega) ?_; intro v1 w1 ho1 hg1)
 have hb1 : Below W2.heap.size W2 w1 := ((Below.refl _ W2).alloc (Nat.le_refl _) _).grown hg1 (by simp) (fun k hk => by simp [Value.ownBlock] at hk; omega)
 have HO := hid (show OKs (filterW w n) W2.heap.size w1 v1 via.params from ⟨css, HC1.out, by simpa using ho1, HC2.out⟩)
 obtain ⟨A1, c1, rfl⟩ := HO.out.form
 have HB1 := hid hb1
 clear ho1 hg1 hb1 c14 hltb
 go_wp2_with fail
 go_loopw [8] (fun i wr => ∃ j : Nat, j ≤ via.params.length ∧ i = .int .i64 j ∧ OKs (filterW w n) W2.heap.size wr (.slice A1 via.params.length c1) ((via.params.take j).map (setK branchK tx) ++ via.params.drop j) ∧ Below W2.heap.size W2 wr) (fun i _ => via.params.length - (intOf i).toNat)
 case atStart => exact ⟨0, Nat.zero_le _, rfl, by simpa using HO.out, HB1.out⟩
 case round =>
  obtain ⟨j, hj, rfl, hoh, hb⟩ := hrel
  obtain ⟨wo, rfl⟩ : ∃ wo : World, wo = wr := ⟨_, rfl⟩
  have OKJ := hid hoh
  have HBJ := hid hb
  have HBW := hid ((HB0.out.trans (HB2.out.mono HB0.out.size)).trans (hb.mono (HB0.out.trans (HB2.out.mono HB0.out.size)).size))
  have hln : (via.params.length : Int) ≤ 1073741824 := by have := HL.out; omega
  clear hoh hb
  by_cases hlt : j < via.params.length
  ·have hi1 : (j : Int) < via.params.length := by omega
   have hi0 : (0 : Int) ≤ j := by omega
   obtain ⟨p, hp⟩ : ∃ p, via.params[j]? = some p := ⟨_, List.getElem?_eq_getElem hlt⟩
   have hjl : ((via.params.take j).map (setK branchK tx) ++ via.params.drop j).length = via.params.length := by simp; omega
   obtain ⟨rb, rc, vk, vv, lc, hv, hbl, hbh, d0, d1, hk1, hv1, -⟩ := OKJ.out.at_ j p (setK_at hp)
   rw [hjl] at hv
   obtain ⟨rfl, rfl⟩ : A1 = some ⟨rb, 0, none⟩ ∧ c1 = rc := by simpa using hv
   have HIS := hid (is_any vk p.1 ⟨#[98, 114, 97, 110, 99, 104]⟩ wo (hk1.sub (sub_f HBW.out)) (by show (6 : Nat) ≤ _; omega))
   have HLT := hid (And.intro (Nat.succ_le_of_lt hlt) hp)
   have HBL := hid hbl
   obtain ⟨Ak, ck, rfl, nk⟩ := hk1.form
   clear hk1 hv1 hp hbh hv hbl hlt hj
   by_cases hm : p.1 = branchK
   ·have HD := hid (show ∀ e : Ending, e = .returned (.bool (decide (p.1 = (⟨#[98, 114, 97, 110, 99, 104]⟩ : ByteArray).data.toList))) → e = .returned (.bool true) from fun e h => by rw [h]; exact ret_bool (by simpa [branchK] using hm))
    have HM := hid (show setK branchK tx p = (p.1, tx) by unfold setK; rw [if_pos hm])
    clear hm
    go_upto_region 7 with (go_at_call 35; refine HIS.out.mono ?_; rintro e w1 ⟨he, hb1⟩; have he' := HD.out e he; subst he'; have HB2 := hid hb1; clear he hb1)
    obtain ⟨rb2, rc2, vk2, vv2, lc2, hv2, hbl2, hbh2, f0, f1, -, -, hput⟩ := (OKJ.out.kept HB2.out).at_ j p (setK_at HLT.out.2)
    obtain rfl : rb = rb2 := by
     injection hv2 with h1 _ _
     injection h1 with h1
     injection h1
    have fz := blk_frozen hbh2 (j * 2 + 1)
    have HPUT := hid (hput _ tx HSV.out)
    have HBZ := hid (show Below W2.heap.size W2 (w1.setCell ⟨rb, j * 2 + 1, none⟩ (.slice Ax tx.length cx)) from (HBJ.out.trans (HB2.out.mono HBJ.out.size)).setCell (p := ⟨rb, j * 2 + 1, none⟩) HBL.out _)
    clear hput hbh2 hbl2 hv2 d0 d1 hjl
    go_wp2
    go_roundw
    case rel =>
     refine ⟨j + 1, HLT.out.1, by simp, ?_, HBZ.out⟩
     rw [setK_step HLT.out.2, HM.out]
     exact HPUT.out
    case measure => exact meas_step HLT.out.1 (by simp)
   ·have HD := hid (show ∀ e : Ending, e = .returned (.bool (decide (p.1 = (⟨#[98, 114, 97, 110, 99, 104]⟩ : ByteArray).data.toList))) → e = .returned (.bool false) from fun e h => by rw [h]; exact ret_bool (by simpa [branchK] using hm))
    have HM := hid (show setK branchK tx p = p by unfold setK; rw [if_neg hm])
    clear hm hjl
    go_wp2_with (go_at_call 35; refine HIS.out.mono ?_; rintro e w1 ⟨he, hb1⟩; have he' := HD.out e he; subst he'; have HB2 := hid hb1; clear he hb1)
    go_roundw
    case rel =>
     refine ⟨j + 1, HLT.out.1, by simp, ?_, HBJ.out.trans (HB2.out.mono HBJ.out.size)⟩
     rw [setK_step HLT.out.2, HM.out, set_same (setK_at HLT.out.2)]
     exact OKJ.out.kept HB2.out
    case measure => exact meas_step HLT.out.1 (by simp)
  ·have hke : j = via.params.length := by omega
   subst hke
   have HOF := hid (show OKs (filterW w n) W2.heap.size wo (.slice A1 via.params.length c1) (via.params.map (setK branchK tx)) by simpa using OKJ.out)
   have hnl : ¬ ((via.params.length : Nat) : Int) < via.params.length := by omega
   clear hlt hj
   have HG1 := hid ((HBJ.out.block g6 (heap_lt HGV.out)).trans HGV.out)
   have HBT := hid (HB2.out.trans (HBJ.out.mono HB2.out.size))
   have HM1 := hid ((HBT.out.block w.heap.size (by have := HSZ.out; omega)).trans HWB1.out)
   have HM2 := hid ((HBT.out.block (w.heap.size + 1) (by have := HSZ.out; omega)).trans HWB2.out)
   have k14 := row_at HG1.out 14 _ rfl
   have z14 := blk_frozen HG1.out 14
   have hlt0 := heap_lt HG1.out
   obtain ⟨wq, hwq⟩ : ∃ wq, wq = wo.setCell ⟨g6, 14, none⟩ (.slice A1 via.params.length c1) := ⟨_, rfl⟩
   have HS1 := hid (show Stored g6 35 [y0, y1, y2, y3, y4, y5, y6, y7, y8, y9, y10, y11, y12, y13, .slice A1 via.params.length c1, y15, y16, y17, y18, y19, y20] wo wq by rw [hwq]; exact stored_set HG1.out 14 _)
   have HGN := hid (show g6 ≠ w.heap.size ∧ g6 ≠ w.heap.size + 1 by have := HSZ.out; have := HG6.out; omega)
   have HN1 := hid ((HS1.out.other w.heap.size (Ne.symm HGN.out.1)).trans HM1.out)
   have HN2 := hid ((HS1.out.other (w.heap.size + 1) (Ne.symm HGN.out.2)).trans HM2.out)
   have HBQ := hid (show Below wb.heap.size wb wq from HBT.out.trans (HS1.out.below.mono HG6.out))
   have HBWQ := hid (show Below w.heap.size w wq from HB0.out.trans (HBQ.out.mono HB0.out.size))
   have HOZ := hid (show OKs (filterW w n) W2.heap.size wq (.slice A1 via.params.length c1) (via.params.map (setK branchK tx)) from HOF.out.stored HS1.out HG1.out (by decide))
   have HZW := hid (show Sub (filterW w n) (filterW wq n) from filt_below HBWQ.out)
   have HKZ := hid (show OKs (filterW w n) W2.heap.size (filterW wq n) (.slice A1 via.params.length c1) (via.params.map (setK branchK tx)) from HOZ.out.filt)
   have HLV := hid (show LH (filterW wq n) (parH via branchK tx) [y0, y1, y2, y3, y4, y5, y6, y7, y8, y9, y10, y11, y12, y13, .slice A1 via.params.length c1, y15, y16, y17, y18, y19, y20] from
    ((((HLX.out.ku (KU.of_below (N := 0) HBJ.out (Nat.zero_le _))).ku (HS1.out.ku (N := 0) (Nat.zero_le _) HG1.out (by decide))).filt.lh HZW.out).set_params (HKZ.out.skS HZW.out)))
   have HCH := hid (changed_x (filterW wq n) m _ _ _ wq (LM.sub HM.out HZW.out) HLV.out (filt_sub wq n) HLM.out.1)
   clear hnl
   go_upto_region 9 with fail
   rw [← hwq]
   clear hwq
   go_wp2_with (first
    | (refine wpList_load_blk (by rfl) 28 (.tmp 2) (by rfl) w.heap.size 28 (0, 0) [x0, x1, x2, x3, x4, x5, x6, x7, x8, x9, x10, x11, x12, x13, x14, .slice Ah m.heads.length ch, x16, x17, x18] (by rfl) HN1.out _ Tryz.underlying28 rfl 19 msg_size rfl ?_)
    | (refine wpList_load_blk (by rfl) 35 (.tmp 6) (by rfl) g6 35 (0, 0) [y0, y1, y2, y3, y4, y5, y6, y7, y8, y9, y10, y11, y12, y13, .slice A1 via.params.length c1, y15, y16, y17, y18, y19, y20] (by rfl) HS1.out.blk _ Tryz.underlying35 rfl 21 head_size rfl ?_)
    | (go_at_call 43; refine HCH.out.mono ?_; rintro e w5 ⟨rs, rfl, hrx, hb5⟩; have HRX := hid hrx; have HRM := hid (hrx.lm (sub_f hb5)); have HB5 := hid hb5; have HN5 := hid ((hb5.block _ (heap_lt HN2.out)).trans HN2.out); clear hrx hb5)
    | (refine wpList_store_blk (by rfl) 28 (.tmp 4) (.tmp 40) (by rfl) (w.heap.size + 1) 28 zeroM rs (by rfl) (by rfl) (by rw [HRM.out.len19]; rfl) HN5.out 19 msg_size HRM.out.len19 HRM.out.one19 ?_; intro W6 hst6; have HST6 := hid hst6; clear hst6)
    | fail)
   have HBF := hid (show Below w.heap.size w W6 from HBWQ.out.trans ((HB5.out.mono HBWQ.out.size).trans (HST6.out.below.mono (by omega))))
   have HSF := hid (show Sub (filterW wq n) (filterW W6 n) from sub_tr (filt_below HB5.out) (filt_stored HST6.out HN5.out (by have := HNW.out; omega)))
   refine ret_cell 4 28 ⟨w.heap.size + 1, 0, none⟩ rs _ rfl rfl (row_cells HST6.out.blk) Tryz.underlying28 rfl 19 msg_size HRM.out.len19 rfl ⟨_, rfl, ?_, HBF.out⟩
   have h := HRX.out.stored HST6.out HN5.out (by decide) (by decide)
   rw [← HVI.out] at *
   have hs := HSF.out
   obtain ⟨a, ul, b, c, hs', d, k0, k1, k2, k3, k4, k5, k6, k7⟩ := h
   exact ⟨a, ul, b, c, hs', d, k0, k1.sub hs, k2.sub hs, k3.sub hs, k4.sub hs, k5.filt.shs hs, k6.sub hs, k7⟩
