import Derived.Test.YtglhcpmaiogdjaaGreatDoorP10
set_option maxRecDepth 100000
set_option maxHeartbeats 16000000
set_option linter.all false
namespace Go.Proofs.YtglhcpmaiogdjaaGreatDoor
open Go.Lib (hid)
open Go.RowKit
theorem choose_list {α : Type} {P : Nat → α → Prop} : ∀ (n : Nat), (∀ i, i < n → ∃ x, P i x) → ∃ xs : List α, xs.length = n ∧ ∀ i, i < n → ∃ x, xs[i]? = some x ∧ P i x
 | 0, _ => ⟨[], rfl, fun i h => absurd h (by omega)⟩
 | n + 1, h => by
  obtain ⟨xs, h1, h2⟩ := choose_list n (fun i hi => h i (by omega))
  obtain ⟨x, hx⟩ := h n (by omega)
  refine ⟨xs ++ [x], by simp [h1], fun i hi => ?_⟩
  by_cases hin : i < n
  ·obtain ⟨y, h3, h4⟩ := h2 i hin
   exact ⟨y, by rw [List.getElem?_append_left (by omega)]; exact h3, h4⟩
  ·obtain rfl : i = n := by omega
   exact ⟨x, by rw [List.getElem?_append_right (by omega), h1, Nat.sub_self]; rfl, hx⟩
theorem flat_get (s : Nat) : ∀ (css : List (List Value)), (∀ c ∈ css, c.length = s) → ∀ (i j : Nat), j < s → css.flatten[i * s + j]? = (css[i]?).bind (fun c => c[j]?)
 | [], _, i, j, _ => by simp
 | c :: r, h, 0, j, hj => by
  have h1 := h c (by simp)
  rw [List.flatten_cons, Nat.zero_mul, Nat.zero_add, List.getElem?_append_left (by omega)]
  rfl
 | c :: r, h, i + 1, j, hj => by
  have h1 := h c (by simp)
  rw [List.flatten_cons, List.getElem?_append_right (by rw [Nat.succ_mul]; omega), h1, show (i + 1) * s + j - s = i * s + j by rw [Nat.succ_mul]; omega, flat_get s r (fun c hc => h c (by simp [hc])) i j hj]
  rfl
theorem add_add (a : Addr) (m n : Nat) : (a.add m).add n = a.add (m + n) := by
 unfold Addr.add
 by_cases hm : m = 0
 ·subst hm; simp
 ·by_cases hn : n = 0
  ·subst hn; simp
  ·rw [if_neg hm, if_neg hn, if_neg (by omega)]
   simp [Nat.add_assoc]
section
variable {P : Program} {ops : Array Oper} {rest : List Oper} {o : Oper} {a : Act} {Q : Exit → Act → World → Prop}
theorem app_all {W : World} (base : Nat) (hgd : o.guard = none) (s x : Operand) (t e : TypeId) (z : Value) (size bytes : Nat)
  (ho : o.op = .call { callee := .builtin .append, args := #[s, x], argTypes := #[t, t] })
  (ht : P.underlying t = some (.slice e)) (hinfo : (P.info? e).map (fun i => (i.zero, i.size, i.bytes)) = some (some z, size, bytes)) (hz : z.cells.size = size) (hs0 : 0 < size) (hb0 : 0 < bytes)
  (v : Value) (n : Nat) (xs ys : List Value) (A : Option Addr) (k c : Nat) (hs : a.eval s = v) (hx : a.eval x = .slice A k c) (hy : ys.length = k * size) (hA : A = none → k = 0 ∧ c = 0) (hc : ∀ ad, A = some ad → ∀ j u, ys[j]? = some u → W.cell? (ad.add j) = some u) (h1 : ∀ u ∈ ys, u.oneCell' = true)
  (HO : W.ownsRow base e size v n xs) (hbase : base ≤ W.heap.size) (hl : (n + k) * bytes ≤ 140737488355328)
  (h : ∀ v1 w1, w1.ownsRow base e size v1 (n + k) (xs ++ ys) → W.grownBy w1 v.ownBlock → wpList P ops Q rest (a.put o.dst v1) w1) :
  wpList P ops Q (o :: rest) a W := by
 obtain ⟨i0, hi, hzz⟩ := Option.map_eq_some_iff.1 hinfo
 simp only [Prod.mk.injEq] at hzz
 obtain ⟨hz0, hz1, hz2⟩ := hzz
 have hlen : n + k ≤ 140737488355328 := Nat.le_trans (Nat.le_mul_of_pos_right _ hb0) hl
 cases A with
 | none =>
  obtain ⟨rfl, rfl⟩ := hA rfl
  obtain rfl : ys = [] := List.eq_nil_of_length_eq_zero (by simpa using hy)
  refine wpList_append_own_none hgd s x t ho base e i0 size ht hi v n xs hs HO hx ?_
  exact h v W (by simpa using HO) (World.grownBy.refl W _)
 | some ad =>
  refine wpList_append_own W hgd s x t ho base e i0 z size bytes ht hi hz0 hz1 hz2 hz hs0 v n xs hs HO ad k c ys hx hy (hc ad rfl) h1 (by simp only [maxLen]; omega) hl hbase ?_
  intro v1 w1 hown hg _
  exact h v1 w1 hown hg
end
theorem own_empty (w : World) (base g size : Nat) (t : TypeId) (hg : w.heap[g]? = some (Obj.cells #[] t (0, 0))) (hb : base ≤ g) : w.ownsRow base t size (.slice (some ⟨g, 0, none⟩) 0 0) 0 [] := ⟨by simp, .inr ⟨g, 0, #[], rfl, hb, hg, Nat.le_refl _, Nat.zero_le _, by simp, by simp⟩⟩
theorem SHs.rows {w : World} {A : Option Addr} {n c : Nat} {l : List LHead} (h : SHs w (.slice A n c) l) : n = l.length ∧ (A = none → n = 0 ∧ c = 0) ∧ ∃ css : List (List Value), css.length = l.length ∧ (∀ i (h : i < l.length), ∃ cs, css[i]? = some cs ∧ LH w l[i] cs) ∧ (∀ x ∈ css, x.length = 21 ∧ x.all (·.oneCell') = true) ∧ ∀ ad, A = some ad → ∀ j u, css.flatten[j]? = some u → w.cell? (ad.add j) = some u := by
 obtain ⟨A1, c1, h1, h2, h3, h4, h5⟩ := h
 injection h1 with e1 e2 e3
 subst e1 e2 e3
 have hch : ∀ i, i < l.length → ∃ cs : List Value, ∃ hi : i < l.length, LH w l[i] cs ∧ ∀ ad, A = some ad → ∀ j u, cs[j]? = some u → w.cell? ((ad.add (i * 21)).add j) = some u := by
  intro i hi
  obtain ⟨a, cs, e, hc, hd⟩ := h5 i hi
  refine ⟨cs, hi, hc, fun ad h => ?_⟩
  rw [e] at h
  injection h with h
  subst h
  exact hd
 obtain ⟨css, k1, k2⟩ := choose_list l.length hch
 have hall : ∀ x ∈ css, x.length = 21 ∧ x.all (·.oneCell') = true := by
  intro x hx
  obtain ⟨i, hi, rfl⟩ := List.mem_iff_getElem.1 hx
  obtain ⟨y, e1, hi2, e2, _⟩ := k2 i (by omega)
  rw [List.getElem?_eq_getElem hi] at e1
  injection e1 with e1
  subst e1
  exact ⟨(e2.x w).len, (e2.x w).one⟩
 refine ⟨rfl, fun hA => ?_, css, k1, fun i hi => ?_, hall, fun ad hA j u hj => ?_⟩
 ·obtain ⟨rfl, rfl⟩ := h4 hA
  exact ⟨rfl, rfl⟩
 ·obtain ⟨y, e1, hi2, e2, _⟩ := k2 i hi
  exact ⟨y, e1, e2⟩
 ·have hjl := (List.getElem?_eq_some_iff.1 hj).1
  rw [flat_len 21 css (fun x hx => (hall x hx).1), k1] at hjl
  have hq : j / 21 < l.length := by omega
  obtain ⟨y, e1, hi2, e2, e3⟩ := k2 (j / 21) hq
  have e4 : j = j / 21 * 21 + j % 21 := by omega
  rw [e4, flat_get 21 css (fun x hx => (hall x hx).1) (j / 21) (j % 21) (by omega), e1] at hj
  have e5 := e3 ad hA (j % 21) u hj
  rw [add_add, ← e4] at e5
  exact e5
theorem row_mid {w : World} {g : Nat} {t : TypeId} {fz : Nat × Nat} {pre mid post : List Value} (hg : w.heap[g]? = some (Obj.cells (pre ++ mid ++ post).toArray t fz)) (n : Nat) (hn : pre.length = n) : ∀ j v, mid[j]? = some v → w.cell? ((⟨g, n, none⟩ : Addr).add j) = some v := by
 intro j v hj
 rw [Addr.add_lit, blk_cell hg]
 have hjl := (List.getElem?_eq_some_iff.1 hj).1
 simp only [List.getElem?_toArray]
 rw [List.append_assoc, List.getElem?_append_right (by omega), hn, Nat.add_sub_cancel_left, List.getElem?_append_left hjl]
 exact hj
theorem OHs.shs {w0 w : World} {base : Nat} {v : Value} {hs : List LHead} (H : OHs w0 base w v hs) (hw : Sub w0 w) : SHs w v hs := by
 by_cases h0 : hs = []
 ·subst h0
  obtain ⟨css, h1, h2, h3⟩ := H
  rcases h2 with ⟨k1, ⟨rfl, k3⟩ | ⟨b, cap, cur, rfl, k4, k5, k6, k7, k8, k9⟩⟩
  ·exact ⟨none, 0, rfl, Nat.le_refl _, by omega, fun _ => ⟨rfl, rfl⟩, fun i h => absurd h (by simp)⟩
  ·exact ⟨some ⟨b, 0, none⟩, cap, rfl, Nat.zero_le _, by simpa [maxLen] using k7, fun h => (by cases h), fun i h => absurd h (by simp)⟩
 ·have hpos : 0 < hs.length := List.length_pos_iff.2 h0
  obtain ⟨b, c, cs, pre, suf, post, e1, e2, e3, e4, e5, e6, e7, _⟩ := H.at_ 0 hpos
  have hc : hs.length ≤ c ∧ c ≤ 9223372036854775807 := by
   obtain ⟨css, h1, h2, h3⟩ := H
   rcases h2 with ⟨k1, ⟨k2, k3⟩ | ⟨b2, cap, cur, k3, k4, k5, k6, k7, k8, k9⟩⟩
   ·omega
   ·rw [e1] at k3
    injection k3 with _ _ k3
    subst k3
    exact ⟨k6, by simpa [maxLen] using k7⟩
  refine ⟨some ⟨b, 0, none⟩, c, e1, hc.1, hc.2, fun h => (by cases h), fun i hi => ?_⟩
  obtain ⟨b2, c2, cs2, pre2, suf2, post2, f1, f2, f3, f4, f5, f6, f7, _⟩ := H.at_ i hi
  rw [e1] at f1
  injection f1 with f1 _ _
  injection f1 with f1
  injection f1 with f1 _ _
  subst f1 f6
  refine ⟨⟨b, 0, none⟩, suf2, rfl, f7.lh hw, fun j u hj => ?_⟩
  rw [Addr.add_lit, Nat.zero_add]
  exact row_mid f3 (i * 21) f4 j u hj
theorem ret_two {P : Program} {fn : Func} {R : Ending → World → Prop} {a : Act} {w : World} (s0 s : Nat) (x : Value) (ty : TypeId) (A : Addr) (cs : List Value) (d : TypeDesc) (hres : fn.results = #[.tmp s0, .cell s ty]) (h0 : a.tmps.getD s0 undef = x) (hs : a.tmps.getD s undef = .pointer (some A))
  (hc : ∀ j v, cs[j]? = some v → w.cell? (A.add j) = some v) (hu : P.underlying ty = some d) (hd : d.isRow = true) (n : Nat) (hi : (P.info? ty).map (·.size) = some n) (hn : cs.length = n) (hdf : a.defers = []) (hR : R (.returned (.tuple #[x, .agg cs.toArray])) w) : bodyPost P fn R .ret a w := by
 refine bodyPost_ret (v := .tuple #[x, .agg cs.toArray]) ?_ hdf hR
 have hl := run_loadVar_any (P := P) w A ty cs d hc hu hd (by rw [hn]; exact hi)
 have ha : (asAddr (Value.pointer (some A))).run P w = .ok A w := rfl
 rw [Array.getD_eq_getD_getElem?] at hs h0
 simp [results, hres, hs, h0, Sem.run_bind, ha, hl]
def isT (t : Int) (h : LHead) : Bool := h.t == t
def countT (t : Int) (l : List LHead) : Nat := (l.filter (isT t)).length
def noneH : LHead := ⟨-1, [], [], [], emptyU, [], 0, [], [], [], [], 0⟩
def firstH (t : Int) (l : List LHead) : LHead := match l.find? (isT t) with
 | some h => plainH h
 | none => noneH
theorem first_cons (t : Int) (h : LHead) (l : List LHead) (e : isT t h = true) : countT t (h :: l) = countT t l + 1 ∧ firstH t (h :: l) = plainH h := by
 unfold countT firstH
 simp [e]
theorem first_skip (t : Int) (h : LHead) (l : List LHead) (e : isT t h = false) : countT t (h :: l) = countT t l ∧ firstH t (h :: l) = firstH t l := by
 unfold countT firstH
 simp [e]
def noneC : List Value := [.int .i64 (-1), .slice none 0 0, .slice none 0 0, .slice none 0 0, .slice none 0 0, .slice none 0 0, .bool false, .bool false, .slice none 0 0, .slice none 0 0, .slice none 0 0, .int .i64 0, .slice none 0 0, .slice none 0 0, .slice none 0 0, .int .u32 0, .slice none 0 0, .slice none 0 0, .slice none 0 0, .slice none 0 0, .int .i64 0]
theorem noneH_at (w0 w : World) : LHx w0 w noneH noneC :=
 ⟨.slice none 0 0, .slice none 0 0, .slice none 0 0, _, .slice none 0 0, .slice none 0 0, .slice none 0 0, .slice none 0 0, .slice none 0 0, rfl, .inl (SB.nil _), .inl (SB.nil _), SB.nil _, LU.empty _, SK.nil _, SB.nil _, SB.nil _, SB.nil _, SB.nil _, by show I64 (-1); unfold I64; omega, by decide, by show I64 0; unfold I64; omega⟩
def FirstX (w0 : World) (t : Int) (l : List LHead) (w : World) (e : Ending) (w' : World) : Prop := ∃ cs, e = .returned (.tuple #[.int .i64 (countT t l : Nat), .agg cs.toArray]) ∧ LHx w0 w' (firstH t l) cs ∧ Below w.heap.size w w'
def FirstPost (t : Int) (l : List LHead) (w : World) (e : Ending) (w' : World) : Prop := FirstX w t l w e w'
def FB (w : World) (g : Nat) (h : LHead) (wr : World) : Prop := ∃ cs : List Value, wr.heap[g]? = some (Obj.cells cs.toArray 35 (0, 0)) ∧ LHx w wr h cs
theorem firsts_x (w0 : World) (v : Value) (l : List LHead) (t : Int) (w : World) (hS : SHs w0 v l) (hw : Sub w0 w) (ht : ∀ h ∈ l, 0 ≤ h.t ∧ h.t ≤ 14) (hl : l.length ≤ 1000) : Calls Tryz.prog 11 #[v, .int .i64 t] w (FirstX w0 t l w) := by
 have HW := hid hw
 clear hw
 have HS := hid hS
 have HL := hid hl
 have HT := hid ht
 obtain ⟨A, c, rfl, hlen⟩ := hS.form
 clear hS ht
 have hl2 : (l.length : Int) ≤ 1000 := by omega
 obtain ⟨wb, hwb⟩ : ∃ wb, wb = (w.alloc (.cells zeroH.toArray 35)).alloc (.cells zeroH.toArray 35) := ⟨_, rfl⟩
 have HWB1 := hid (show wb.heap[w.heap.size]? = some (.cells zeroH.toArray 35 (0, 0)) by rw [hwb]; exact ((Below.refl _ _).alloc (Nat.le_refl _) _).block w.heap.size (by simp) |>.trans (heap_alloc_new w _))
 have HWB2 := hid (show wb.heap[w.heap.size + 1]? = some (.cells zeroH.toArray 35 (0, 0)) by rw [hwb]; have := heap_alloc_new (w.alloc (.cells zeroH.toArray 35)) (.cells zeroH.toArray 35); rwa [World.size_alloc] at this)
 have HB0 := hid (show Below w.heap.size w wb by rw [hwb]; exact ((Below.refl _ w).alloc (Nat.le_refl _) _).alloc (by simp) _)
 go_enter Tryz.func11, Tryz.ntmps11
 go_upto_region 2 with (first
  | (refine wpList_store_blk (by rfl) 35 (.tmp 7) (.tmp 9) (by rfl) (w.heap.size + 1) 35 zeroH noneC (by rfl) (by rfl) rfl (by have := heap_alloc_new (w.alloc (.cells zeroH.toArray 35)) (.cells zeroH.toArray 35); rwa [World.size_alloc] at this) 21 head_size rfl rfl ?_; intro W3 hst3)
  | fail)
 have HK3 := hid (show Stored (w.heap.size + 1) 35 noneC wb W3 by rw [hwb]; exact hst3)
 clear hst3
 have HB3 := hid (show Below w.heap.size w W3 from HB0.out.trans (HK3.out.below.mono (by omega)))
 have HZ3 := hid (show W3.heap[w.heap.size]? = some (.cells zeroH.toArray 35 (0, 0)) from (HK3.out.other w.heap.size (by omega)).trans HWB1.out)
 have HF3 := hid (show FB w0 (w.heap.size + 1) noneH W3 from ⟨noneC, HK3.out.blk, noneH_at _ _⟩)
 clear hwb HWB1 HWB2
 go_wp2_with fail
 go_loopw [6, 8] (fun n i wr => ∃ j : Nat, ∃ x : Int, j ≤ l.length ∧ i = .int .i64 x ∧ x = (j : Int) - 1 ∧ n = .int .i64 (countT t (l.drop j) : Nat) ∧ FB w0 (w.heap.size + 1) (firstH t (l.drop j)) wr ∧ wr.heap[w.heap.size]? = some (.cells zeroH.toArray 35 (0, 0)) ∧ Below w.heap.size w wr) (fun _ i _ => (intOf i + 1).toNat)
 case atStart => exact ⟨l.length, _, Nat.le_refl _, rfl, by omega, by simp [countT], by simpa [firstH] using HF3.out, HZ3.out, HB3.out⟩
 case round =>
  obtain ⟨j, x, hj, rfl, hx, rfl, hfb, hz, hb⟩ := hrel
  obtain ⟨wo, rfl⟩ : ∃ wo : World, wo = wr := ⟨_, rfl⟩
  have HFB := hid hfb
  have HZ := hid hz
  have HB := hid hb
  have HJ := hid hj
  have hcn : countT t (l.drop j) ≤ 1000 := by
   unfold countT
   have h1 := List.length_filter_le (isT t) (l.drop j)
   rw [List.length_drop] at h1
   have := HL.out
   omega
  clear hfb hz hb
  cases j with
  | zero =>
   obtain rfl : x = -1 := by omega
   clear hx hcn hj
   have hfb0 : FB w0 (w.heap.size + 1) (firstH t l) wo := by simpa using HFB.out
   obtain ⟨cs, hg, hx⟩ := hfb0
   have HX := hid hx
   have HG := hid hg
   clear hx hg
   go_wp2_with fail
   refine wp_region_grow 3 (CK wo.heap.size) (IW wo)
    (fun i v w' => match i with
     | 0 => v = .int .i64 (countT t (l.drop 0) : Nat)
     | 1 => v = .agg cs.toArray
     | 2 => v = .int .i64 (countT t (l.drop 0) : Nat)
     | _ => True)
    [[], [], [0]] rfl (by kernel_rfl) (by kernel_rfl) (fun _ _ => IW.step) ?_ ?_ ?_ ?_
   ·intro j hj v w'
    match j, hj with
    | j + 3, _ => trivial
   ·exact CK.of_below (Below.refl _ _).drew (Nat.le_refl _)
   ·simp only [List.take_succ_cons, List.take_zero, fillAll]
    refine ⟨⟨?_, ?_⟩, ⟨?_, ?_⟩, ⟨?_, ?_⟩, trivial⟩
    ·exact fun v w1 w2 h k => h
    ·intro vals w1 hI hd
     unfold GStep
     go_wp2
     exact CK.refl _ _
    ·exact fun v w1 w2 h k => h
    ·intro vals w1 hI hd
     have HGI := hid (hI.same HG.out (by decide))
     unfold GStep
     refine wpList_load_blk (by rfl) 35 (.tmp 7) (by rfl) (w.heap.size + 1) 35 (0, 0) cs (by rfl) HGI.out _ Tryz.underlying35 rfl 21 head_size HX.out.len ?_
     go_wp2
     exact CK.refl _ _
    ·exact fun v w1 w2 h k => h
    ·intro vals w1 hI hd
     have h1 : vals 0 = _ := hd.1
     unfold GStep
     go_wp2
     exact CK.refl _ _
   ·intro vals w1 hI hR
    simp only [List.drop_succ_cons, List.drop_zero, List.take_succ_cons, List.take_zero, fillAll]
    obtain ⟨r0, r1, r2, -⟩ := hR
    have e0 : vals 0 = _ := r0
    have e1 : vals 1 = _ := r1
    have e2 : vals 2 = _ := r2
    rw [e0, e1, e2]
    have HZ1 := hid (hI.same HZ.out (by decide))
    have HI := hid hI
    have HX1 := hid (HX.out.ku hI.ku)
    clear hI e0 e1 e2 r0 r1 r2
    go_wp2_with (first
     | (refine wpList_store_blk (by rfl) 35 (.tmp 5) (.tmp 32) (by rfl) w.heap.size 35 zeroH cs (by rfl) (by rfl) (by rw [HX1.out.len]; rfl) HZ1.out 21 head_size HX1.out.len HX1.out.one ?_; intro W4 hst4; have HST4 := hid hst4; clear hst4)
     | fail)
    refine ret_two 4 5 (.int .i64 (countT t l : Nat)) 35 ⟨w.heap.size, 0, none⟩ cs _ rfl rfl rfl (row_cells HST4.out.blk) Tryz.underlying35 rfl 21 head_size HX1.out.len rfl ⟨cs, rfl, ?_, ?_⟩
    ·exact HX1.out.ku (HST4.out.ku (N := 0) (Nat.zero_le _) HZ1.out (by decide))
    ·exact HB.out.trans ((HI.out.below.mono HB.out.size).trans HST4.out.below)
  | succ k =>
   obtain rfl : x = (k : Int) := by omega
   have hk1 : (0 : Int) ≤ k := by omega
   have hk2 : (k : Int) ≤ 1000 := by omega
   have hkl : k < l.length := by omega
   obtain ⟨a, c', cs0, h, e1, hh, hLH, hcell⟩ := HS.out.at_ k hkl
   cases e1
   have h0 : cs0[0]? = some (.int .i64 h.t) := by
    obtain ⟨a, b, c, ul, p, d, e, f, g, h0, -⟩ := hLH
    rw [h0]
    rfl
   have d0 := cell_at_below (HW.out.cell _ _ (hcell 0 _ h0)) HB.out
   rw [Addr.add_zero'] at d0
   have HDR := hid (show l.drop k = h :: l.drop (k + 1) by
    obtain ⟨h1, h2⟩ := List.getElem?_eq_some_iff.1 hh
    rw [List.drop_eq_getElem_cons h1, h2])
   have hk3 : (k : Int) < l.length := by omega
   have HCE := hid (show ∀ j u, cs0[j]? = some u → wo.cell? ((a.add (k * 21)).add j) = some u from fun j u hj => cell_at_below (HW.out.cell _ _ (hcell j u hj)) HB.out)
   have HLX := hid (hLH.x wo)
   have HTH := hid (HT.out h (List.mem_of_getElem? hh))
   have hn0 : (0 : Int) ≤ (countT t (l.drop (k + 1)) : Nat) := by omega
   have hn1 : ((countT t (l.drop (k + 1)) : Nat) : Int) ≤ 1000 := by omega
   have HP := hid (plain_any w0 h cs0 wo HTH.out HLX.out (HW.out.trans (HB.out.mono HW.out.size)))
   have HKL := hid (Nat.le_of_lt hkl)
   clear hcell hLH h0 hh hkl hx hj hcn
   cases hte : (h.t == t)
   ·have hit : isT t h = false := hte
    have HN := hid (first_skip t h (l.drop (k + 1)) hit)
    clear hit
    go_wp2
    go_roundw
    case rel =>
     refine ⟨k, _, HKL.out, rfl, rfl, ?_, ?_, HZ.out, HB.out⟩
     ·rw [HDR.out, HN.out.1]
     ·rw [HDR.out, HN.out.2]; exact HFB.out
    case measure => simp only [intOf]; omega
   ·have hit : isT t h = true := hte
    have HN := hid (first_cons t h (l.drop (k + 1)) hit)
    clear hit
    go_wp2_with (first
     | (refine wpList_load_any (by rfl) 35 (.tmp 28) (by rfl) (a.add (k * 21)) (by rfl) cs0 _ HCE.out Tryz.underlying35 rfl (by rw [head_size, HLX.out.len]) ?_)
     | (go_at_call 36; refine HP.out.mono ?_; rintro e w2 ⟨cs2, rfl, hlx2, hb2⟩; have HL2 := hid hlx2; have HB2 := hid hb2; obtain ⟨csf, hgf, hxf⟩ := HFB.out; have HG2 := hid ((hb2.block _ (heap_lt hgf)).trans hgf); have HCF := hid hxf.len; clear hlx2 hb2 hgf hxf)
     | (refine wpList_store_blk (by rfl) 35 (.tmp 7) (.tmp 30) (by rfl) (w.heap.size + 1) 35 csf cs2 (by rfl) (by rfl) (by rw [HL2.out.len, HCF.out]) HG2.out 21 head_size HL2.out.len HL2.out.one ?_; intro W4 hst4; have HST4 := hid hst4; clear hst4)
     | fail)
    go_roundw
    case rel =>
     refine ⟨k, _, HKL.out, rfl, rfl, ?_, ⟨cs2, HST4.out.blk, ?_⟩, ?_, ?_⟩
     ·rw [HDR.out, HN.out.1]; rfl
     ·rw [HDR.out, HN.out.2]; exact HL2.out.ku (HST4.out.ku (N := 0) (Nat.zero_le _) HG2.out (by decide))
     ·rw [HST4.out.other _ (by omega)]; exact (HB2.out.block _ (heap_lt HZ.out)).trans HZ.out
     ·exact (HB.out.trans (HB2.out.mono HB.out.size)).trans (HST4.out.below.mono (by omega))
    case measure => simp only [intOf]; omega
theorem firsts_any (v : Value) (l : List LHead) (t : Int) (w : World) (hS : SHs w v l) (ht : ∀ h ∈ l, 0 ≤ h.t ∧ h.t ≤ 14) (hl : l.length ≤ 1000) : Calls Tryz.prog 11 #[v, .int .i64 t] w (FirstPost t l w) := firsts_x w v l t w hS (Sub.refl w) ht hl
def paramV (l : BKVs) (k : Bytes) : Bytes := ((l.find? fun p => p.1 == k).map (·.2)).getD []
theorem par_drop {hs : BKVs} {nm : Bytes} {k : Nat} (h : ∀ i (hi : i < hs.length), i < k → (hs[i].1 == nm) = false) : (hs.find? fun p => p.1 == nm) = (hs.drop k).find? fun p => p.1 == nm := by
 induction k generalizing hs with
 | zero => simp
 | succ k ih =>
  cases hs with
  | nil => simp
  | cons a r =>
   have h0 := h 0 (by simp) (by omega)
   simp only [List.getElem_cons_zero] at h0
   rw [List.find?_cons_of_neg (by simp [h0]), List.drop_succ_cons]
   exact ih (fun i hi hk => h (i + 1) (by simpa using hi) (by omega))
def VPost (l : Bytes) (w : World) (e : Ending) (w' : World) : Prop := ∃ v, e = .returned v ∧ SB w' v l ∧ Below w.heap.size w w'
def branchK : Bytes := [98, 114, 97, 110, 99, 104]
theorem branch_any (h : LHead) (cs : List Value) (w : World) (hH : LH w h cs) : Calls Tryz.prog 13 #[.agg cs.toArray] w (VPost (paramV h.params branchK) w) := by
 have hlen := (hH.x w).len
 obtain ⟨t, name, text, display, u, params, num, proto, version, transport, host, port⟩ := h
 obtain ⟨a, b, c, ul0, p, d, e, f, g, rfl, ha, hb, hc, hu, hp, hd, he, hf, hg, ht64, hnum, hport⟩ := hH
 obtain ⟨u0, u1, u4, u5, u6, u8, u9, rfl, -⟩ := hu
 dsimp only at *
 simp only [List.cons_append, List.nil_append]
 have HS := hid hp
 obtain ⟨Ap, cp, rfl, hpl⟩ := hp.form
 clear hlen ha hb hc hp hd he hf hg ht64 hnum hport
 obtain ⟨wb, hwb⟩ : ∃ wb, wb = w.alloc (.cells #[.int .i64 t, a, b, c, u0, u1, .bool u.star, .bool u.slashes, u4, u5, u6, .int .i64 u.port, u8, u9, .slice Ap params.length cp, .int .u32 num, d, e, f, g, .int .i64 port] 35) := ⟨_, rfl⟩
 have HWB1 := hid (show wb.heap[w.heap.size]? = some (.cells ([.int .i64 t, a, b, c, u0, u1, .bool u.star, .bool u.slashes, u4, u5, u6, .int .i64 u.port, u8, u9, .slice Ap params.length cp, .int .u32 num, d, e, f, g, .int .i64 port] : List Value).toArray 35 (0, 0)) by rw [hwb]; exact heap_alloc_new w _)
 have HB0 := hid (show Below w.heap.size w wb by rw [hwb]; exact (Below.refl _ w).alloc (Nat.le_refl _) _)
 have HSZ := hid (show wb.heap.size = w.heap.size + 1 by rw [hwb]; simp)
 go_enter Tryz.func13, Tryz.ntmps13
 go_upto_region 1 with fail
 rw [← hwb]
 generalize Value.agg #[.int .i64 t, a, b, c, u0, u1, .bool u.star, .bool u.slashes, u4, u5, u6, .int .i64 u.port, u8, u9, .slice Ap params.length cp, .int .u32 num, d, e, f, g, .int .i64 port] = arg0
 clear hwb
 go_wp2_with fail
 go_loopw [3] (fun i wr => ∃ k : Nat, k ≤ params.length ∧ i = .int .i64 k ∧ (∀ j (hj : j < params.length), j < k → (params[j].1 == branchK) = false) ∧ Below wb.heap.size wb wr) (fun i _ => params.length - (intOf i).toNat)
 case atStart => exact ⟨0, Nat.zero_le _, rfl, fun j _ h => absurd h (by omega), Below.refl _ _⟩
 case round =>
  obtain ⟨k, hk, rfl, hno, hb⟩ := hrel
  obtain ⟨wo, rfl⟩ : ∃ wo : World, wo = wr := ⟨_, rfl⟩
  have HNO := hid hno
  have HB := hid hb
  have HG := hid ((HB.out.block w.heap.size (by have := HSZ.out; omega)).trans HWB1.out)
  have HBW := hid (HB0.out.trans (HB.out.mono (by have := HSZ.out; omega)))
  have c14 := row_at HG.out 14 _ rfl
  clear hno hb
  by_cases hlt : k < params.length
  ·obtain ⟨a', c', vk, vv, p, e1, hc0, hc1, hk1, hv1, hp⟩ := HS.out.at_ k hlt
   cases e1
   have d0 := cell_at_below hc0 HBW.out
   have d1 := cell_at_below hc1 HBW.out
   have HIS := hid (is_any vk p.1 ⟨#[98, 114, 97, 110, 99, 104]⟩ wo (hk1.below HBW.out) (by show (6 : Nat) ≤ _; omega))
   have HLT := hid (And.intro (Nat.succ_le_of_lt hlt) hp)
   have hge : params[k] = p := by rw [List.getElem?_eq_getElem hlt] at hp; exact Option.some.inj hp
   have HGE := hid hge
   have HV := hid (hv1.below HBW.out)
   obtain ⟨Ak, ck, rfl, nk⟩ := hk1.form
   obtain ⟨Av, cv, rfl, nv⟩ := hv1.form
   have hk2 : (0 : Int) ≤ k := by omega
   have hk3 : (k : Int) < params.length := by omega
   clear hk1 hv1 hp hge hc0 hc1
   by_cases hm : p.1 = branchK
   ·have HD := hid (show ∀ e : Ending, e = .returned (.bool (decide (p.1 = (⟨#[98, 114, 97, 110, 99, 104]⟩ : ByteArray).data.toList))) → e = .returned (.bool true) from fun e h => by rw [h]; exact ret_bool (by simpa [branchK] using hm))
    have HM := hid hm
    clear hm
    go_wp2_with (go_at_call 9; refine HIS.out.mono ?_; rintro e w1 ⟨he, hb1⟩; have he' := HD.out e he; subst he'; have HB1 := hid hb1; have d2 := cell_at_below d1 hb1; have d14 := cell_at_below c14 hb1; clear he hb1)
    go_ret
    refine ⟨_, rfl, ?_, HBW.out.trans (HB1.out.mono HBW.out.size)⟩
    have hfi : paramV params branchK = p.2 := by
     unfold paramV
     rw [par_drop HNO.out, List.drop_eq_getElem_cons hlt, HGE.out, List.find?_cons_of_pos (by simp [HM.out])]
     rfl
    rw [hfi]
    exact HV.out.below HB1.out
   ·have HD := hid (show ∀ e : Ending, e = .returned (.bool (decide (p.1 = (⟨#[98, 114, 97, 110, 99, 104]⟩ : ByteArray).data.toList))) → e = .returned (.bool false) from fun e h => by rw [h]; exact ret_bool (by simpa [branchK] using hm))
    have HM := hid hm
    clear hm
    go_wp2_with (go_at_call 9; refine HIS.out.mono ?_; rintro e w1 ⟨he, hb1⟩; have he' := HD.out e he; subst he'; have HB1 := hid hb1; clear he hb1)
    go_roundw
    case rel =>
     refine ⟨k + 1, HLT.out.1, by simp, fun j hj hjk => ?_, HB.out.trans (HB1.out.mono HB.out.size)⟩
     by_cases hjl : j < k
     ·exact HNO.out j hj hjl
     ·obtain rfl : j = k := by omega
      rw [HGE.out]
      simpa using HM.out
    case measure => exact meas_step HLT.out.1 (by simp)
  ·have HNL := hid hlt
   have hk3 : ¬ (k : Int) < params.length := by omega
   clear hlt
   go_wp2
   go_ret
   refine ⟨_, rfl, ?_, HBW.out⟩
   have hfi : paramV params branchK = [] := by
    unfold paramV
    rw [par_drop HNO.out, List.drop_eq_nil_of_le (by have := HNL.out; omega)]
    rfl
   rw [hfi]
   exact SB.nil _
def tagK : Bytes := [116, 97, 103]
theorem tag_any (h : LHead) (cs : List Value) (w : World) (hH : LH w h cs) : Calls Tryz.prog 19 #[.agg cs.toArray] w (VPost (paramV h.params tagK) w) := by
 have hlen := (hH.x w).len
 obtain ⟨t, name, text, display, u, params, num, proto, version, transport, host, port⟩ := h
 obtain ⟨a, b, c, ul0, p, d, e, f, g, rfl, ha, hb, hc, hu, hp, hd, he, hf, hg, ht64, hnum, hport⟩ := hH
 obtain ⟨u0, u1, u4, u5, u6, u8, u9, rfl, -⟩ := hu
 dsimp only at *
 simp only [List.cons_append, List.nil_append]
 have HS := hid hp
 obtain ⟨Ap, cp, rfl, hpl⟩ := hp.form
 clear hlen ha hb hc hp hd he hf hg ht64 hnum hport
 obtain ⟨wb, hwb⟩ : ∃ wb, wb = w.alloc (.cells #[.int .i64 t, a, b, c, u0, u1, .bool u.star, .bool u.slashes, u4, u5, u6, .int .i64 u.port, u8, u9, .slice Ap params.length cp, .int .u32 num, d, e, f, g, .int .i64 port] 35) := ⟨_, rfl⟩
 have HWB1 := hid (show wb.heap[w.heap.size]? = some (.cells ([.int .i64 t, a, b, c, u0, u1, .bool u.star, .bool u.slashes, u4, u5, u6, .int .i64 u.port, u8, u9, .slice Ap params.length cp, .int .u32 num, d, e, f, g, .int .i64 port] : List Value).toArray 35 (0, 0)) by rw [hwb]; exact heap_alloc_new w _)
 have HB0 := hid (show Below w.heap.size w wb by rw [hwb]; exact (Below.refl _ w).alloc (Nat.le_refl _) _)
 have HSZ := hid (show wb.heap.size = w.heap.size + 1 by rw [hwb]; simp)
 go_enter Tryz.func19, Tryz.ntmps19
 go_upto_region 1 with fail
 rw [← hwb]
 generalize Value.agg #[.int .i64 t, a, b, c, u0, u1, .bool u.star, .bool u.slashes, u4, u5, u6, .int .i64 u.port, u8, u9, .slice Ap params.length cp, .int .u32 num, d, e, f, g, .int .i64 port] = arg0
 clear hwb
 go_wp2_with fail
 go_loopw [3] (fun i wr => ∃ k : Nat, k ≤ params.length ∧ i = .int .i64 k ∧ (∀ j (hj : j < params.length), j < k → (params[j].1 == tagK) = false) ∧ Below wb.heap.size wb wr) (fun i _ => params.length - (intOf i).toNat)
 case atStart => exact ⟨0, Nat.zero_le _, rfl, fun j _ h => absurd h (by omega), Below.refl _ _⟩
 case round =>
  obtain ⟨k, hk, rfl, hno, hb⟩ := hrel
  obtain ⟨wo, rfl⟩ : ∃ wo : World, wo = wr := ⟨_, rfl⟩
  have HNO := hid hno
  have HB := hid hb
  have HG := hid ((HB.out.block w.heap.size (by have := HSZ.out; omega)).trans HWB1.out)
  have HBW := hid (HB0.out.trans (HB.out.mono (by have := HSZ.out; omega)))
  have c14 := row_at HG.out 14 _ rfl
  clear hno hb
  by_cases hlt : k < params.length
  ·obtain ⟨a', c', vk, vv, p, e1, hc0, hc1, hk1, hv1, hp⟩ := HS.out.at_ k hlt
   cases e1
   have d0 := cell_at_below hc0 HBW.out
   have d1 := cell_at_below hc1 HBW.out
   have HIS := hid (is_any vk p.1 ⟨#[116, 97, 103]⟩ wo (hk1.below HBW.out) (by show (3 : Nat) ≤ _; omega))
   have HLT := hid (And.intro (Nat.succ_le_of_lt hlt) hp)
   have hge : params[k] = p := by rw [List.getElem?_eq_getElem hlt] at hp; exact Option.some.inj hp
   have HGE := hid hge
   have HV := hid (hv1.below HBW.out)
   obtain ⟨Ak, ck, rfl, nk⟩ := hk1.form
   obtain ⟨Av, cv, rfl, nv⟩ := hv1.form
   have hk2 : (0 : Int) ≤ k := by omega
   have hk3 : (k : Int) < params.length := by omega
   clear hk1 hv1 hp hge hc0 hc1
   by_cases hm : p.1 = tagK
   ·have HD := hid (show ∀ e : Ending, e = .returned (.bool (decide (p.1 = (⟨#[116, 97, 103]⟩ : ByteArray).data.toList))) → e = .returned (.bool true) from fun e h => by rw [h]; exact ret_bool (by simpa [tagK] using hm))
    have HM := hid hm
    clear hm
    go_wp2_with (go_at_call 9; refine HIS.out.mono ?_; rintro e w1 ⟨he, hb1⟩; have he' := HD.out e he; subst he'; have HB1 := hid hb1; have d2 := cell_at_below d1 hb1; have d14 := cell_at_below c14 hb1; clear he hb1)
    go_ret
    refine ⟨_, rfl, ?_, HBW.out.trans (HB1.out.mono HBW.out.size)⟩
    have hfi : paramV params tagK = p.2 := by
     unfold paramV
     rw [par_drop HNO.out, List.drop_eq_getElem_cons hlt, HGE.out, List.find?_cons_of_pos (by simp [HM.out])]
     rfl
    rw [hfi]
    exact HV.out.below HB1.out
   ·have HD := hid (show ∀ e : Ending, e = .returned (.bool (decide (p.1 = (⟨#[116, 97, 103]⟩ : ByteArray).data.toList))) → e = .returned (.bool false) from fun e h => by rw [h]; exact ret_bool (by simpa [tagK] using hm))
    have HM := hid hm
    clear hm
    go_wp2_with (go_at_call 9; refine HIS.out.mono ?_; rintro e w1 ⟨he, hb1⟩; have he' := HD.out e he; subst he'; have HB1 := hid hb1; clear he hb1)
    go_roundw
    case rel =>
     refine ⟨k + 1, HLT.out.1, by simp, fun j hj hjk => ?_, HB.out.trans (HB1.out.mono HB.out.size)⟩
     by_cases hjl : j < k
     ·exact HNO.out j hj hjl
     ·obtain rfl : j = k := by omega
      rw [HGE.out]
      simpa using HM.out
    case measure => exact meas_step HLT.out.1 (by simp)
  ·have HNL := hid hlt
   have hk3 : ¬ (k : Int) < params.length := by omega
   clear hlt
   go_wp2
   go_ret
   refine ⟨_, rfl, ?_, HBW.out⟩
   have hfi : paramV params tagK = [] := by
    unfold paramV
    rw [par_drop HNO.out, List.drop_eq_nil_of_le (by have := HNL.out; omega)]
    rfl
   rw [hfi]
   exact SB.nil _
theorem issingle_any (v : Value) (l : List LHead) (w : World) (hS : SHs w v l) (ht : ∀ h ∈ l, 0 ≤ h.t ∧ h.t ≤ 14) (hl : l.length ≤ 1000) : Calls Tryz.prog 29 #[v] w (SomeB w) := by
 have HF := hid (fun (t : Int) (wz : World) (hz : Below w.heap.size w wz) => firsts_any v l t wz (hS.below hz) ht hl)
 clear ht hl
 obtain ⟨A, c, rfl, hlen⟩ := hS.form
 clear hS
 go_enter Tryz.func29, Tryz.ntmps29
 go_wp2_with fail
 go_loopw [3] (fun i wr => ∃ t : Nat, t ≤ 15 ∧ i = .int .i64 t ∧ Below w.heap.size w wr) (fun i _ => 15 - (intOf i).toNat)
 case atStart => exact ⟨1, by omega, rfl, Below.refl _ _⟩
 case round =>
  obtain ⟨t, ht, rfl, hb⟩ := hrel
  obtain ⟨wo, rfl⟩ : ∃ wo : World, wo = wr := ⟨_, rfl⟩
  have HB := hid hb
  clear hb
  by_cases hlt : t < 15
  ·have HC := hid (HF.out t wo HB.out)
   have HLT := hid (Nat.succ_le_of_lt hlt)
   have ht1 : (t : Int) < 15 := by omega
   have ht0 : (0 : Int) ≤ t := by omega
   go_wp2_with (first
    | (go_at_call 11; refine HC.out.mono ?_; rintro e w1 ⟨cs, rfl, hx, hb1⟩; have HX := hid hx; have HB1 := hid hb1; clear hx hb1)
    | (refine wpList_store_blk (by rfl) 35 (.tmp 5) (.tmp 15) (by rfl) w1.heap.size 35 [.int .i64 0, .slice none 0 0, .slice none 0 0, .slice none 0 0, .slice none 0 0, .slice none 0 0, .bool false, .bool false, .slice none 0 0, .slice none 0 0, .slice none 0 0, .int .i64 0, .slice none 0 0, .slice none 0 0, .slice none 0 0, .int .u32 0, .slice none 0 0, .slice none 0 0, .slice none 0 0, .slice none 0 0, .int .i64 0] cs (by rfl) (by rfl) (by rw [HX.out.len]; rfl) (heap_alloc_new w1 _) 21 head_size HX.out.len HX.out.one ?_; intro W2 hst2; have HB2 := hid (HB.out.trans ((HB1.out.trans ((((Below.refl _ w1).alloc (Nat.le_refl _) _).trans hst2.below).mono HB1.out.size)).mono HB.out.size)); clear hst2)
    | fail)
   ·go_ret
    exact ⟨⟨_, rfl⟩, HB2.out⟩
   ·go_roundw
    case rel => exact ⟨t + 1, HLT.out, by simp, HB2.out⟩
    case measure => exact meas_step HLT.out (by simp)
  ·have ht2 : ¬ (t : Int) < 15 := by omega
   go_wp2
   go_ret
   exact ⟨⟨_, rfl⟩, HB.out⟩
structure RCall (m : LMsg) : Prop where
 msg : RMsg m
 one : ∀ t ∈ ([9, 2, 1, 4, 5] : List Int), countT t m.heads = 1
 br : 7 < (paramV (firstH 9 m.heads).params branchK).length ∧ (paramV (firstH 9 m.heads).params branchK).take 7 = [122, 57, 104, 71, 52, 98, 75]
def callTs : List Int := [9, 2, 1, 4, 5]
theorem LM.heads_at {w : World} {m : LMsg} {l : List Value} (h : LM w m l) : ∃ v, l[15]? = some v ∧ SHs w v m.heads := by
 obtain ⟨va, ul, vb, vc, vh, vd, rfl, -, hu, -, -, hh, -⟩ := h
 obtain ⟨u0, u1, u4, u5, u6, u8, u9, rfl, -⟩ := hu
 exact ⟨vh, rfl, hh⟩
theorem iscall_any (m : LMsg) (cs : List Value) (w : World) (hM : LM w m cs) (hB : MBd m) : Calls Tryz.prog 7 #[.agg cs.toArray] w (Says (RCall m) w) := by
 have hlen : cs.length = 19 := by
  obtain ⟨va, ul, vb, vc, vh, vd, rfl, hm, hu, _⟩ := hM
  simp [hu.len]
 obtain ⟨vh, hvh, hsh⟩ := hM.heads_at
 obtain ⟨Ah, ch, rfl, hhl⟩ := hsh.form
 have HSH := hid hsh
 have HM := hid (And.intro hM hB)
 clear hM hB hsh
 obtain ⟨x0, x1, x2, x3, x4, x5, x6, x7, x8, x9, x10, x11, x12, x13, x14, x15, x16, x17, x18, rfl⟩ := list19 hlen
 obtain rfl : x15 = .slice Ah m.heads.length ch := by simpa using hvh
 clear hvh hlen
 obtain ⟨wb, hwb⟩ : ∃ wb, wb = w.alloc (.cells #[x0, x1, x2, x3, x4, x5, x6, x7, x8, x9, x10, x11, x12, x13, x14, .slice Ah m.heads.length ch, x16, x17, x18] 28) := ⟨_, rfl⟩
 have HWB1 := hid (show wb.heap[w.heap.size]? = some (.cells ([x0, x1, x2, x3, x4, x5, x6, x7, x8, x9, x10, x11, x12, x13, x14, .slice Ah m.heads.length ch, x16, x17, x18] : List Value).toArray 28 (0, 0)) by rw [hwb]; exact heap_alloc_new w _)
 have HB0 := hid (show Below w.heap.size w wb by rw [hwb]; exact (Below.refl _ w).alloc (Nat.le_refl _) _)
 have HSZ := hid (show wb.heap.size = w.heap.size + 1 by rw [hwb]; simp)
 have HBW := hid (show ∀ wx, Below wb.heap.size wb wx → Below w.heap.size w wx from fun wx h => HB0.out.trans (h.mono (by have := HSZ.out; omega)))
 have HG := hid (show ∀ wx, Below wb.heap.size wb wx → wx.heap[w.heap.size]? = some (.cells ([x0, x1, x2, x3, x4, x5, x6, x7, x8, x9, x10, x11, x12, x13, x14, .slice Ah m.heads.length ch, x16, x17, x18] : List Value).toArray 28 (0, 0)) from fun wx h => (h.block _ (by have := HSZ.out; omega)).trans HWB1.out)
 have HIM := hid (ismsg_any m _ wb (HM.out.1.below HB0.out) HM.out.2)
 have HBL := hid (Below.refl wb.heap.size wb)
 go_enter Tryz.func7, Tryz.ntmps7
 go_upto_region 1 with fail
 rw [← hwb]
 generalize Value.agg #[x0, x1, x2, x3, x4, x5, x6, x7, x8, x9, x10, x11, x12, x13, x14, .slice Ah m.heads.length ch, x16, x17, x18] = arg0
 clear hwb
 have c15 := row_at (HG.out _ HBL.out) 15 _ rfl
 go_upto_if 18 with (first
  | (refine wpList_load_blk (by rfl) 28 (.tmp 1) (by rfl) w.heap.size 28 (0, 0) [x0, x1, x2, x3, x4, x5, x6, x7, x8, x9, x10, x11, x12, x13, x14, .slice Ah m.heads.length ch, x16, x17, x18] (by rfl) (HG.out _ HBL.out) _ Tryz.underlying28 rfl 19 msg_size rfl ?_)
  | (go_at_call 28; refine HIM.out.mono ?_; rintro e w1 ⟨⟨b, rfl, hb⟩, hbb⟩; have HR := hid hb; have HBL := hid (HBL.out.trans hbb); have c15 := row_at (HG.out _ HBL.out) 15 _ rfl; clear hb hbb; cases b)
  | (go_at_call 29; refine (issingle_any _ m.heads _ (HSH.out.below (HBW.out _ HBL.out)) (fun h hh => ((HR.out (by first | rfl | trivial)).heads h hh).1.sort) (by have := (HR.out (by first | rfl | trivial)).many; omega)).mono ?_; rintro e w2 ⟨⟨b2, rfl⟩, hbb⟩; have HBL := hid (HBL.out.trans (hbb.mono HBL.out.size)); clear hbb; cases b2)
  | fail)
 any_goals
  (go_wp2_with fail
   go_ret
   exact ⟨⟨false, rfl, fun h => by simp at h⟩, HBW.out _ HBL.out⟩)
 have R := hid (HR.out (by first | rfl | trivial))
 have HFI := hid (show ∀ (t : Int) (wz : World), Below wb.heap.size wb wz → Calls Tryz.prog 11 #[.slice Ah m.heads.length ch, .int .i64 t] wz (FirstPost t m.heads wz) from fun t wz hz => firsts_any _ m.heads t wz (HSH.out.below (HBW.out _ hz)) (fun h hh => (R.out.heads h hh).1.sort) (by have := R.out.many; omega))
 obtain ⟨wc, hwc⟩ : ∃ wc, wc = w2.alloc (.cells #[.int .i64 9, .int .i64 2, .int .i64 1, .int .i64 4, .int .i64 5] 3) := ⟨_, rfl⟩
 have HWC := hid (show wc.heap[w2.heap.size]? = some (.cells (callTs.map fun x => Value.int .i64 x).toArray 3 (0, 0)) by rw [hwc]; exact heap_alloc_new w2 _)
 have HBC := hid (show Below wb.heap.size wb wc by rw [hwc]; exact HBL.out.alloc HBL.out.size _)
 have HSC := hid (show wc.heap.size = w2.heap.size + 1 by rw [hwc]; simp)
 go_upto_region 4 with fail
 rw [← hwc]
 clear hwc c15
 go_loopw [21] (fun i wr => ∃ k : Nat, k ≤ 5 ∧ i = .int .i64 k ∧ (∀ t ∈ callTs.take k, countT t m.heads = 1) ∧ Below wc.heap.size wc wr) (fun i _ => 5 - (intOf i).toNat)
 case atStart => exact ⟨0, by omega, rfl, fun t ht => (by simp at ht), Below.refl _ _⟩
 case round =>
  obtain ⟨k, hk, rfl, hall, hb⟩ := hrel
  obtain ⟨wo, rfl⟩ : ∃ wo : World, wo = wr := ⟨_, rfl⟩
  have HA := hid hall
  have HB := hid hb
  have HBL := hid (HBC.out.trans (hb.mono HBC.out.size))
  clear hall hb
  have d15 := row_at (HG.out _ HBL.out) 15 _ rfl
  by_cases hlt : k < 5
  ·obtain ⟨t, hkt⟩ : ∃ t, callTs[k]? = some t := ⟨callTs[k]'hlt, List.getElem?_eq_getElem _⟩
   have dk : wo.cell? ⟨w2.heap.size, k, none⟩ = some (.int .i64 t) := row_at ((HB.out.block _ (by have := HSC.out; omega)).trans HWC.out) k _ (by rw [List.getElem?_map, hkt]; rfl)
   have HKT := hid (And.intro hkt (Nat.succ_le_of_lt hlt))
   have HC := hid (HFI.out t wo HBL.out)
   have hk1 : (k : Int) < 5 := by omega
   have hk0 : (0 : Int) ≤ k := by omega
   clear hkt hlt hk
   by_cases hc1 : countT t m.heads = 1
   ·have hc2 : (((countT t m.heads : Nat) : Int) != 1) = false := by rw [hc1]; rfl
    have HC1 := hid hc1
    clear hc1
    go_wp2_with (first
     | (go_at_call 11; refine HC.out.mono ?_; rintro e w3 ⟨cs, rfl, hx, hb3⟩; have HX := hid hx; have HB3 := hid hb3; clear hx hb3)
     | (refine wpList_store_blk (by rfl) 35 (.tmp 6) (.tmp 31) (by rfl) w3.heap.size 35 zeroH cs (by rfl) (by rfl) (by rw [HX.out.len]; rfl) (heap_alloc_new w3 _) 21 head_size HX.out.len HX.out.one ?_; intro W4 hst4; have HB4 := hid (HB.out.trans ((HB3.out.trans ((((Below.refl _ w3).alloc (Nat.le_refl _) _).trans hst4.below).mono HB3.out.size)).mono HB.out.size)); clear hst4)
     | fail)
    go_roundw
    case rel =>
     refine ⟨k + 1, HKT.out.2, by simp, fun x hx => ?_, HB4.out⟩
     rw [List.take_add_one, HKT.out.1] at hx
     simp only [Option.toList_some, List.mem_append, List.mem_singleton] at hx
     rcases hx with hx | rfl
     ·exact HA.out x hx
     ·exact HC1.out
    case measure => exact meas_step HKT.out.2 (by simp)
   ·have hc2 : (((countT t m.heads : Nat) : Int) != 1) = true := by rw [bne_iff_ne]; omega
    clear hc1
    go_wp2_with (first
     | (go_at_call 11; refine HC.out.mono ?_; rintro e w3 ⟨cs, rfl, hx, hb3⟩; have HX := hid hx; have HB3 := hid hb3; clear hx hb3)
     | (refine wpList_store_blk (by rfl) 35 (.tmp 6) (.tmp 31) (by rfl) w3.heap.size 35 zeroH cs (by rfl) (by rfl) (by rw [HX.out.len]; rfl) (heap_alloc_new w3 _) 21 head_size HX.out.len HX.out.one ?_; intro W4 hst4; have HB4 := hid (HB.out.trans ((HB3.out.trans ((((Below.refl _ w3).alloc (Nat.le_refl _) _).trans hst4.below).mono HB3.out.size)).mono HB.out.size)); clear hst4)
     | fail)
    go_ret
    exact ⟨⟨false, rfl, fun h => by simp at h⟩, HBW.out _ (HBC.out.trans (HB4.out.mono HBC.out.size))⟩
  ·obtain rfl : k = 5 := by omega
   clear hlt hk
   have HC := hid (HFI.out 9 wo HBL.out)
   have hk1 : ¬ ((5 : Nat) : Int) < 5 := by omega
   go_upto_region 11 with (first
    | (go_at_call 11; refine HC.out.mono ?_; rintro e w3 ⟨cs, rfl, hx, hb3⟩; have HX := hid hx; have HB3 := hid hb3; clear hx hb3)
    | (refine wpList_store_blk (by rfl) 35 (.tmp 8) (.tmp 40) (by rfl) w3.heap.size 35 zeroH cs (by rfl) (by rfl) (by rw [HX.out.len]; rfl) (heap_alloc_new w3 _) 21 head_size HX.out.len HX.out.one ?_; intro W4 hst4; have HST4 := hid hst4; clear hst4)
    | fail)
   have hb34 : Below w3.heap.size w3 W4 := (((Below.refl _ w3).alloc (Nat.le_refl _) _).trans HST4.out.below)
   have HLH := hid ((HX.out.lh (Sub.of_below HB3.out)).below hb34)
   have HB4 := hid (show Below wb.heap.size wb W4 from HBL.out.trans ((HB3.out.trans (hb34.mono HB3.out.size)).mono HBL.out.size))
   have HBR := hid (branch_any _ cs W4 HLH.out)
   obtain ⟨br, hbr⟩ : ∃ br, br = paramV (firstH 9 m.heads).params branchK := ⟨_, rfl⟩
   rw [← hbr] at HBR
   have HBE := hid hbr
   clear hb34 hbr
   go_upto_region 12 with (first
    | (refine wpList_load_blk (by rfl) 35 (.tmp 8) (by rfl) w3.heap.size 35 (0, 0) cs (by rfl) HST4.out.blk _ Tryz.underlying35 rfl 21 head_size HX.out.len ?_)
    | (go_at_call 13; refine HBR.out.mono ?_; rintro e w5 ⟨v5, rfl, hs5, hb5⟩; have HS5 := hid hs5; have HB5 := hid (HB4.out.trans (hb5.mono HB4.out.size)); obtain ⟨A5, c5, rfl, hl5⟩ := hs5.form; clear hs5 hb5)
    | fail)
   by_cases h7 : 7 < br.length
   ·have h7i : (7 : Int) < br.length := by omega
    obtain ⟨a5, e5⟩ : ∃ a5, A5 = some a5 := by
     cases A5 with
     | none =>
      obtain ⟨A6, c6, e1, -, -, e4, -⟩ := HS5.out
      injection e1 with e1 _ _
      have := (e4 e1.symm).1
      rw [this] at h7
      simp at h7
     | some a5 => exact ⟨a5, rfl⟩
    subst e5
    have hc7 : (7 : Int) ≤ c5 := by
     obtain ⟨A6, c6, e1, e2, -⟩ := HS5.out
     injection e1 with _ _ e3
     omega
    have HIS := hid (is_any (.slice (some a5) 7 c5) (br.take 7) ⟨#[122, 57, 104, 71, 52, 98, 75]⟩ w5 (HS5.out.pre 7 (by omega)) (by show (7 : Nat) ≤ _; omega))
    have H7 := hid h7
    clear h7
    go_wp2_with (go_at_call 9; refine HIS.out.mono ?_; rintro e w6 ⟨rfl, hb6⟩; have HB6 := hid (HB5.out.trans (hb6.mono HB5.out.size)); clear hb6)
    go_ret
    refine ⟨⟨_, rfl, fun h => ⟨R.out, fun t ht => HA.out t ht, ?_⟩⟩, HBW.out _ HB6.out⟩
    rw [← HBE.out]
    exact ⟨H7.out, by simpa using h⟩
   ·have h7i : ¬ (7 : Int) < br.length := by omega
    go_wp2_with fail
    go_ret
    exact ⟨⟨false, rfl, fun h => by simp at h⟩, HBW.out _ HB5.out⟩
def chgH (x h : LHead) : LHead := if x.t = h.t then h else x
def chgM (m : LMsg) (h : LHead) : LMsg := { m with heads := m.heads.map fun x => chgH x h }
theorem chg_step {hs : List LHead} {h : LHead} {j : Nat} (hj : j < hs.length) : ((hs.take (j + 1)).map (fun x => chgH x h) ++ hs.drop (j + 1)) = ((hs.take j).map (fun x => chgH x h) ++ hs.drop j).set j (chgH hs[j] h) := by
 apply List.ext_getElem?
 intro q
 have h1 : ((hs.take j).map (fun x => chgH x h)).length = j := by simp; omega
 have h2 : ((hs.take (j + 1)).map (fun x => chgH x h)).length = j + 1 := by simp; omega
 by_cases hq : q = j
 ·subst hq
  rw [List.getElem?_append_left (by omega), List.getElem?_set_self (by simp; omega), List.getElem?_map, List.getElem?_take_of_lt (by omega), List.getElem?_eq_getElem hj]
  rfl
 ·rw [List.getElem?_set_ne (Ne.symm hq)]
  by_cases hl : q < j
  ·rw [List.getElem?_append_left (by omega), List.getElem?_append_left (by omega), List.getElem?_map, List.getElem?_map, List.getElem?_take_of_lt hl, List.getElem?_take_of_lt (by omega)]
  ·rw [List.getElem?_append_right (by omega), List.getElem?_append_right (by omega), h1, h2, List.getElem?_drop, List.getElem?_drop]
   congr 1
   omega
theorem chg_same {hs : List LHead} {h : LHead} {j : Nat} (hj : j < hs.length) (e : chgH hs[j] h = hs[j]) : ((hs.take (j + 1)).map (fun x => chgH x h) ++ hs.drop (j + 1)) = ((hs.take j).map (fun x => chgH x h) ++ hs.drop j) := by
 rw [chg_step hj, e]
 apply List.ext_getElem?
 intro q
 by_cases hq : q = j
 ·subst hq
  have h1 : ((hs.take q).map (fun x => chgH x h)).length = q := by simp; omega
  rw [List.getElem?_set_self (by simp; omega), List.getElem?_append_right (by omega), h1, List.getElem?_drop, Nat.sub_self, Nat.add_zero, List.getElem?_eq_getElem hj]
 ·rw [List.getElem?_set_ne (Ne.symm hq)]
def zeroM : List Value := [.bool false, .slice none 0 0, .slice none 0 0, .slice none 0 0, .bool false, .bool false, .slice none 0 0, .slice none 0 0, .slice none 0 0, .int .i64 0, .slice none 0 0, .slice none 0 0, .int .i64 0, .slice none 0 0, .slice none 0 0, .slice none 0 0, .slice none 0 0, .bool false, .bool false]
theorem stored_set {w : World} {g : Nat} {ty : TypeId} {l : List Value} (hg : w.heap[g]? = some (Obj.cells l.toArray ty (0, 0))) (i : Nat) (v : Value) : Stored g ty (l.set i v) w (w.setCell ⟨g, i, none⟩ v) :=
 ⟨blk_set hg i v, fun k hk => Below.heap_setCell _ _ _ _ (fun e => hk e), by simp [World.setCell], (Below.refl _ _).setCell (p := ⟨g, i, none⟩) (Nat.le_refl _) _⟩
def LMx (w0 : World) (base : Nat) (w : World) (m : LMsg) (l : List Value) : Prop := ∃ a ul b c hs d, l = .bool m.resp :: a :: (ul ++ [.int .i64 m.code, b, c, hs, d, .bool m.hasBody, .bool m.compact]) ∧
 SB w0 a m.method ∧ LU w0 m.uri ul ∧ SB w0 b m.reason ∧ SB w0 c m.version ∧ OHs w0 base w hs m.heads ∧ SB w0 d m.body ∧ I64 m.code
theorem SHs.one {w : World} {v : Value} {l : List LHead} (h : SHs w v l) : v.oneCell' = true := by
 obtain ⟨A, c, rfl, _⟩ := h
 rfl
theorem LM.len19 {w : World} {m : LMsg} {l : List Value} (h : LM w m l) : l.length = 19 := by
 obtain ⟨va, ul, vb, vc, vh, vd, rfl, hm, hu, _⟩ := h
 simp [hu.len]
theorem LMx.lm {w0 w : World} {base : Nat} {m : LMsg} {l : List Value} (h : LMx w0 base w m l) (hw : Sub w0 w) : LM w m l := by
 obtain ⟨a, ul, b, c, hs, d, h0, h1, h2, h3, h4, h5, h6, h7⟩ := h
 exact ⟨a, ul, b, c, hs, d, h0, h1.sub hw, h2.sub hw, h3.sub hw, h4.sub hw, h5.shs hw, h6.sub hw, h7⟩
theorem LMx.kept {w0 w w' : World} {base : Nat} {m : LMsg} {l : List Value} (h : LMx w0 base w m l) (hb : Below w.heap.size w w') : LMx w0 base w' m l := by
 obtain ⟨a, ul, b, c, hs, d, h0, h1, h2, h3, h4, h5, h6, h7⟩ := h
 exact ⟨a, ul, b, c, hs, d, h0, h1, h2, h3, h4, h5.kept hb, h6, h7⟩
theorem LMx.stored {w0 w w' : World} {base g : Nat} {ty : TypeId} {l1 l0 : List Value} {m : LMsg} {l : List Value} (h : LMx w0 base w m l) (k : Stored g ty l1 w w') (hg : w.heap[g]? = some (Obj.cells l0.toArray ty (0, 0))) (hne : 35 ≠ ty) (hu : ty ≠ 5) : LMx w0 base w' m l := by
 obtain ⟨a, ul, b, c, hs, d, h0, h1, h2, h3, h4, h5, h6, h7⟩ := h
 exact ⟨a, ul, b, c, hs, d, h0, h1, h2, h3, h4, h5.stored k hg hne hu, h6, h7⟩
def ChgPost (w0 : World) (m : LMsg) (w : World) (e : Ending) (w' : World) : Prop := ∃ cs, e = .returned (.agg cs.toArray) ∧ LMx w0 w.heap.size w' m cs ∧ Below w.heap.size w w'
theorem OHs.drewN {w0 w : World} {base : Nat} {v : Value} {hs : List LHead} (h : OHs w0 base w v hs) (n : Nat) : OHs w0 base (w.drewN n) v hs := h
theorem changed_x (w0 : World) (m : LMsg) (h : LHead) (cs hcs : List Value) (w : World) (hM : LM w0 m cs) (hH : LH w0 h hcs) (hw : Sub w0 w) (hl : m.heads.length ≤ 1000) : Calls Tryz.prog 14 #[.agg cs.toArray, .agg hcs.toArray] w (ChgPost w0 (chgM m h) w) := by
 have HW := hid hw
 clear hw
 have HLH := hid hH
 have HLM := hid hM
 have HL := hid hl
 have hhl := (hH.x w0).len
 obtain ⟨y0, y1, y2, y3, y4, y5, y6, y7, y8, y9, y10, y11, y12, y13, y14, y15, y16, y17, y18, y19, y20, hhe⟩ := list21 hhl
 obtain ⟨va, ul, vb, vc, vh, vd, rfl, hm, hu, hrs, hv, hh, hbo, hcode⟩ := hM
 obtain ⟨u0, u1, u4, u5, u6, u8, u9, rfl, k1, k2, k3, k4, k5, k6, k7, k8⟩ := hu
 simp only [List.cons_append, List.nil_append] at HLM ⊢
 obtain ⟨Ah, ch, rfl, -⟩ := hh.form
 have hy0 : y0 = .int .i64 h.t := by
  obtain ⟨a, b, c, ul, p, d, e, f, g, h0, -⟩ := hH
  rw [hhe] at h0
  exact (List.cons.inj h0).1
 subst hhe hy0
 obtain ⟨-, hA0, css, hc1, hc2, hc3, hc4⟩ := hh.rows
 have HC1 := hid hc1
 have HC2 := hid hc2
 have HC3 := hid hc3
 have HC4 := hid (And.intro hA0 hc4)
 have HONE := hid (hH.x w0).one
 have HKS := hid (And.intro hm (And.intro k1 (And.intro k2 (And.intro k3 (And.intro k4 (And.intro k5 (And.intro k6 (And.intro k7 (And.intro k8 (And.intro hrs (And.intro hv (And.intro hbo hcode))))))))))))
 have HO1 := hid (show va.oneCell' = true ∧ u0.oneCell' = true ∧ u1.oneCell' = true ∧ u4.oneCell' = true ∧ u5.oneCell' = true ∧ u6.oneCell' = true ∧ u8.oneCell' = true ∧ u9.oneCell' = true ∧ vb.oneCell' = true ∧ vc.oneCell' = true ∧ vd.oneCell' = true from ⟨hm.one, k1.one, k2.one, k3.one, k4.one, k5.one, k6.one, k7.one, hrs.one, hv.one, hbo.one⟩)
 clear hA0 hc1 hc2 hc3 hc4 hm k1 k2 k3 k4 k5 k6 k7 k8 hrs hv hh hbo hcode hH hhl hl
 obtain ⟨wb, hwb⟩ : ∃ wb, wb = ((w.alloc (.cells #[.bool m.resp, va, u0, u1, .bool m.uri.star, .bool m.uri.slashes, u4, u5, u6, .int .i64 m.uri.port, u8, u9, .int .i64 m.code, vb, vc, .slice Ah m.heads.length ch, vd, .bool m.hasBody, .bool m.compact] 28)).alloc (.cells #[.int .i64 h.t, y1, y2, y3, y4, y5, y6, y7, y8, y9, y10, y11, y12, y13, y14, y15, y16, y17, y18, y19, y20] 35)).alloc (.cells #[.bool false, .slice none 0 0, .slice none 0 0, .slice none 0 0, .bool false, .bool false, .slice none 0 0, .slice none 0 0, .slice none 0 0, .int .i64 0, .slice none 0 0, .slice none 0 0, .int .i64 0, .slice none 0 0, .slice none 0 0, .slice none 0 0, .slice none 0 0, .bool false, .bool false] 28) := ⟨_, rfl⟩
 have HWB1 := hid (show wb.heap[w.heap.size]? = some (.cells ([.bool m.resp, va, u0, u1, .bool m.uri.star, .bool m.uri.slashes, u4, u5, u6, .int .i64 m.uri.port, u8, u9, .int .i64 m.code, vb, vc, .slice Ah m.heads.length ch, vd, .bool m.hasBody, .bool m.compact] : List Value).toArray 28 (0, 0)) by rw [hwb]; exact (((Below.refl _ _).alloc (Nat.le_refl _) _).alloc (by simp) _).block w.heap.size (by simp) |>.trans (heap_alloc_new w _))
 have HWB2 := hid (show wb.heap[w.heap.size + 1]? = some (.cells ([.int .i64 h.t, y1, y2, y3, y4, y5, y6, y7, y8, y9, y10, y11, y12, y13, y14, y15, y16, y17, y18, y19, y20] : List Value).toArray 35 (0, 0)) by rw [hwb]; have := heap_alloc_new (w.alloc (.cells #[.bool m.resp, va, u0, u1, .bool m.uri.star, .bool m.uri.slashes, u4, u5, u6, .int .i64 m.uri.port, u8, u9, .int .i64 m.code, vb, vc, .slice Ah m.heads.length ch, vd, .bool m.hasBody, .bool m.compact] 28)) (.cells #[.int .i64 h.t, y1, y2, y3, y4, y5, y6, y7, y8, y9, y10, y11, y12, y13, y14, y15, y16, y17, y18, y19, y20] 35); rw [World.size_alloc] at this; exact ((Below.refl _ _).alloc (Nat.le_refl _) _).block (w.heap.size + 1) (by simp) |>.trans this)
 have HWB3 := hid (show wb.heap[w.heap.size + 2]? = some (.cells zeroM.toArray 28 (0, 0)) by rw [hwb]; have := heap_alloc_new ((w.alloc (.cells #[.bool m.resp, va, u0, u1, .bool m.uri.star, .bool m.uri.slashes, u4, u5, u6, .int .i64 m.uri.port, u8, u9, .int .i64 m.code, vb, vc, .slice Ah m.heads.length ch, vd, .bool m.hasBody, .bool m.compact] 28)).alloc (.cells #[.int .i64 h.t, y1, y2, y3, y4, y5, y6, y7, y8, y9, y10, y11, y12, y13, y14, y15, y16, y17, y18, y19, y20] 35)) (.cells #[.bool false, .slice none 0 0, .slice none 0 0, .slice none 0 0, .bool false, .bool false, .slice none 0 0, .slice none 0 0, .slice none 0 0, .int .i64 0, .slice none 0 0, .slice none 0 0, .int .i64 0, .slice none 0 0, .slice none 0 0, .slice none 0 0, .slice none 0 0, .bool false, .bool false] 28); rwa [World.size_alloc, World.size_alloc] at this)
 have HB0 := hid (show Below w.heap.size w wb by rw [hwb]; exact (((Below.refl _ w).alloc (Nat.le_refl _) _).alloc (by simp) _).alloc (by simp; omega) _)
 have HSZ := hid (show wb.heap.size = w.heap.size + 3 by rw [hwb]; simp)
 have HAE := hid (show (wb.alloc (.cells #[] 35)).ownsRow wb.heap.size 35 21 (.slice (some ⟨wb.heap.size, 0, none⟩) 0 0) 0 [] from own_empty _ _ _ _ _ (heap_alloc_new wb _) (Nat.le_refl _))
 have HCA := hid (show ∀ ad, Ah = some ad → ∀ j u, css.flatten[j]? = some u → (wb.alloc (.cells #[] 35)).cell? (ad.add j) = some u from fun ad hA j u hj => cell_at_below (HW.out.cell _ _ (HC4.out.2 ad hA j u hj)) (HB0.out.trans (((Below.refl _ wb).alloc (Nat.le_refl _) _).mono HB0.out.size)))
 have HFL := hid (show css.flatten.length = m.heads.length * 21 by rw [flat_len 21 css (fun x hx => (HC3.out x hx).1), HC1.out])
 have HF1 := hid (show ∀ u ∈ css.flatten, u.oneCell' = true from fun u hu => by
  obtain ⟨x, hx, hux⟩ := List.mem_flatten.1 hu
  exact List.all_eq_true.1 (HC3.out x hx).2 u hux)
 go_enter Tryz.func14, Tryz.ntmps14
 go_upto_region 1 with fail
 rw [← hwb]
 generalize Value.agg #[.bool m.resp, va, u0, u1, .bool m.uri.star, .bool m.uri.slashes, u4, u5, u6, .int .i64 m.uri.port, u8, u9, .int .i64 m.code, vb, vc, .slice Ah m.heads.length ch, vd, .bool m.hasBody, .bool m.compact] = arg0
 generalize Value.agg #[.int .i64 h.t, y1, y2, y3, y4, y5, y6, y7, y8, y9, y10, y11, y12, y13, y14, y15, y16, y17, y18, y19, y20] = arg1
 clear hwb
 have c15 := row_at HWB1.out 15 _ rfl
 have hltb : w.heap.size < wb.heap.size := heap_lt HWB1.out
 go_upto_region 2 with (at_builtin; refine app_all wb.heap.size rfl (.tmp 7) (.tmp 9) 26 35 (.agg zeroH.toArray) 21 400 rfl Tryz.underlying26 head_info rfl (by decide) (by decide) (.slice (some ⟨wb.heap.size, 0, none⟩) 0 0) 0 [] css.flatten Ah m.heads.length ch rfl rfl HFL.out HC4.out.1 HCA.out HF1.out HAE.out (by simp) (by have := HL.out; omega) ?_; intro v1 w1 ho1 hg1)
 have hb1 : Below wb.heap.size wb w1 := ((Below.refl _ wb).alloc (Nat.le_refl _) _).grown hg1 (by simp) (fun k hk => by simp [Value.ownBlock] at hk; omega)
 have HO := hid (show OHs w0 wb.heap.size w1 v1 m.heads from ⟨css, HC1.out, by simpa using ho1, fun i hi => by
  obtain ⟨cs, e1, e2⟩ := HC2.out i hi
  exact ⟨cs, e1, e2.x w1⟩⟩)
 obtain ⟨A1, c1, rfl⟩ := HO.out.form
 have HB1 := hid hb1
 clear ho1 hg1 hb1 c15 hltb
 go_wp2_with fail
 go_loopw [6] (fun i wr => ∃ j : Nat, j ≤ m.heads.length ∧ i = .int .i64 j ∧ OHs w0 wb.heap.size wr (.slice A1 m.heads.length c1) ((m.heads.take j).map (fun x => chgH x h) ++ m.heads.drop j) ∧ Below wb.heap.size wb wr) (fun i _ => m.heads.length - (intOf i).toNat)
 case atStart => exact ⟨0, Nat.zero_le _, rfl, by simpa using HO.out, HB1.out⟩
 case round =>
  obtain ⟨j, hj, rfl, hoh, hb⟩ := hrel
  obtain ⟨wo, rfl⟩ : ∃ wo : World, wo = wr := ⟨_, rfl⟩
  have OHJ := hid hoh
  have HBJ := hid hb
  have HG1 := hid ((hb.block w.heap.size (by have := HSZ.out; omega)).trans HWB1.out)
  have HG2 := hid ((hb.block (w.heap.size + 1) (by have := HSZ.out; omega)).trans HWB2.out)
  have HG3 := hid ((hb.block (w.heap.size + 2) (by have := HSZ.out; omega)).trans HWB3.out)
  have hln : (m.heads.length : Int) ≤ 1000 := by have := HL.out; omega
  clear hoh hb
  by_cases hlt : j < m.heads.length
  ·have hi1 : (j : Int) < m.heads.length := by omega
   have hi0 : (0 : Int) ≤ j := by omega
   have hjl : ((m.heads.take j).map (fun x => chgH x h) ++ m.heads.drop j).length = m.heads.length := by simp; omega
   obtain ⟨rb, rc, ec, rpre, rsuf, rpost, hv, hbl, hbh, hp1, hp2, hp3, hx, hput⟩ := OHJ.out.at_ j (by omega)
   rw [hjl] at hv
   obtain ⟨rfl, rfl⟩ : A1 = some ⟨rb, 0, none⟩ ∧ c1 = rc := by simpa using hv
   subst hp3
   have e0 : ((m.heads.take j).map (fun x => chgH x h) ++ m.heads.drop j)[j]'(by omega) = m.heads[j] := by
    have h1 : ((m.heads.take j).map (fun x => chgH x h)).length = j := by simp; omega
    have h2 : ((m.heads.take j).map (fun x => chgH x h) ++ m.heads.drop j)[j]? = some m.heads[j] := by rw [List.getElem?_append_right (by omega), h1, List.getElem?_drop, Nat.sub_self, Nat.add_zero, List.getElem?_eq_getElem hlt]
    rw [List.getElem?_eq_getElem (by omega)] at h2
    exact Option.some.inj h2
   rw [e0] at hx
   have hr0 : rsuf[0]? = some (.int .i64 m.heads[j].t) := by
    obtain ⟨a, b, c, ul, p, d, e, f, g, h0, -⟩ := hx
    rw [h0]
    rfl
   have d0 := row_mid hbh (j * 21) hp1 0 _ hr0
   rw [Addr.add_lit, Nat.add_zero] at d0
   have d1 := row_at HG2.out 0 _ rfl
   have HBH := hid hbh
   have HPL := hid (And.intro hp1 (And.intro hp2 (And.intro hbl hlt)))
   have HPUT := hid hput
   clear hx hbh hp1 hp2 hbl hput hv hjl e0 hr0
   obtain ⟨tj, htj⟩ : ∃ tj, tj = m.heads[j].t := ⟨_, rfl⟩
   rw [← htj] at d0
   have HTJ := hid htj
   clear htj
   go_wp2_with fail
   refine wp_region_grow 7 (CK wo.heap.size) (IW wo)
    (fun i v w' => match i with
     | 0 => v = .slice (some ⟨rb, 0, none⟩) m.heads.length c1
     | 1 => v = .int .i64 (j : Int)
     | 2 => v = .pointer (some ⟨rb, j * 21, none⟩)
     | 3 => v = .pointer (some ⟨rb, j * 21, none⟩)
     | 4 => v = .int .i64 tj
     | 5 => v = .pointer (some ⟨w.heap.size + 1, 0, none⟩)
     | 6 => v = .int .i64 h.t
     | _ => True)
    [[], [], [0, 1], [2], [3], [], [5]] rfl (by kernel_rfl) (by kernel_rfl) (fun _ _ => IW.step) ?_ ?_ ?_ ?_
   ·intro j hj v w'
    match j, hj with
    | j + 7, _ => trivial
   ·exact CK.of_below (Below.refl _ _).drew (Nat.le_refl _)
   ·simp only [List.take_succ_cons, List.take_zero, fillAll]
    have D0 := hid d0
    have D1 := hid d1
    clear d0 d1
    refine ⟨⟨?_, ?_⟩, ⟨?_, ?_⟩, ⟨?_, ?_⟩, ⟨?_, ?_⟩, ⟨?_, ?_⟩, ⟨?_, ?_⟩, ⟨?_, ?_⟩, trivial⟩
    ·exact fun v w1 w2 h k => h
    ·intro vals w1 hI hd
     unfold GStep
     go_wp2
     exact CK.refl _ _
    ·exact fun v w1 w2 h k => h
    ·intro vals w1 hI hd
     unfold GStep
     go_wp2
     exact CK.refl _ _
    ·exact fun v w1 w2 h k => h
    ·intro vals w1 hI hd
     have h1 : vals 0 = _ := hd.1
     have h2 : vals 1 = _ := hd.2.1
     unfold GStep
     go_wp2
     exact CK.refl _ _
    ·exact fun v w1 w2 h k => h
    ·intro vals w1 hI hd
     have h1 : vals 2 = _ := hd.1
     unfold GStep
     go_wp2
     exact CK.refl _ _
    ·exact fun v w1 w2 h k => h
    ·intro vals w1 hI hd
     have h1 : vals 3 = _ := hd.1
     have e0 := hI.cell D0.out
     unfold GStep
     go_wp2
     exact CK.refl _ _
    ·exact fun v w1 w2 h k => h
    ·intro vals w1 hI hd
     unfold GStep
     go_wp2
     exact CK.refl _ _
    ·exact fun v w1 w2 h k => h
    ·intro vals w1 hI hd
     have h1 : vals 5 = _ := hd.1
     have e1 := hI.cell D1.out
     unfold GStep
     go_wp2
     exact CK.refl _ _
   ·intro vals w1 hI hR
    simp only [List.drop_succ_cons, List.drop_zero, List.take_succ_cons, List.take_zero, fillAll]
    obtain ⟨-, -, -, -, r4, -, r6, -⟩ := hR
    have e4 : vals 4 = _ := r4
    have e6 : vals 6 = _ := r6
    rw [e4, e6]
    have HI := hid hI
    have HO1 := hid (OHJ.out.ck hI)
    have HK2 := hid (hI.same HG2.out (by decide))
    have HB2 := hid (show Below wb.heap.size wb w1 from HBJ.out.trans (hI.below.mono HBJ.out.size))
    clear hI e4 e6 r4 r6 d0 d1
    by_cases het : tj = h.t
    ·have hte : (tj == h.t) = true := by simpa using het
     have HET := hid (show ∀ x : LHead, x.t = tj → chgH x h = h from fun x hx => by unfold chgH; rw [if_pos (hx.trans het)])
     clear het
     have hjl : ((m.heads.take j).map (fun x => chgH x h) ++ m.heads.drop j).length = m.heads.length := by have := HPL.out.2.2.2; simp; omega
     obtain ⟨rb2, rc2, ec2, pre2, suf2, post2, hv2, hbl2, hbh2, hp21, hp22, hp23, -, hput2⟩ := HO1.out.at_ j (by have := HPL.out.2.2.2; omega)
     rw [hjl] at hv2
     obtain rfl : rb = rb2 := by
      injection hv2 with h1 _ _
      injection h1 with h1
      injection h1
     have HBH2 := hid hbh2
     have HPUT := hid hput2
     have HS1 := hid (show suf2.length = ([.int .i64 h.t, y1, y2, y3, y4, y5, y6, y7, y8, y9, y10, y11, y12, y13, y14, y15, y16, y17, y18, y19, y20] : List Value).length by rw [hp22]; rfl)
     have HS2 := hid hp21.symm
     clear hv2 hbl2 hbh2 hp21 hp22 hp23 hput2 hjl
     go_wp2_with (first
      | (refine wpList_load_blk (by rfl) 35 (.tmp 3) (by rfl) (w.heap.size + 1) 35 (0, 0) [.int .i64 h.t, y1, y2, y3, y4, y5, y6, y7, y8, y9, y10, y11, y12, y13, y14, y15, y16, y17, y18, y19, y20] (by rfl) HK2.out _ Tryz.underlying35 rfl 21 head_size rfl ?_)
      | (refine wpList_store_part (by rfl) 35 (.tmp 28) (.tmp 27) (by rfl) rb (j * 21) 35 pre2 suf2 post2 [.int .i64 h.t, y1, y2, y3, y4, y5, y6, y7, y8, y9, y10, y11, y12, y13, y14, y15, y16, y17, y18, y19, y20] (by rfl) (by rfl) HS1.out HS2.out HBH2.out 21 head_size rfl HONE.out ?_; intro W5 hst; have HST := hid hst; clear hst)
      | fail)
     have HB5 := hid (show Below wb.heap.size wb W5 from HB2.out.trans (HST.out.below.mono HPL.out.2.2.1))
     have HO5 := hid (HPUT.out W5 h [.int .i64 h.t, y1, y2, y3, y4, y5, y6, y7, y8, y9, y10, y11, y12, y13, y14, y15, y16, y17, y18, y19, y20] HST.out (HLH.out.x W5))
     go_roundw
     case rel =>
      refine ⟨j + 1, HPL.out.2.2.2, by simp, ?_, HB5.out⟩
      rw [chg_step HPL.out.2.2.2, HET.out _ HTJ.out.symm]
      exact HO5.out
     case measure => exact meas_step HPL.out.2.2.2 (by simp)
    ·have hte : (tj == h.t) = false := by simpa using het
     have HET := hid (show ∀ x : LHead, x.t = tj → chgH x h = x from fun x hx => by unfold chgH; rw [if_neg (by rw [hx]; exact het)])
     clear het
     go_wp2_with fail
     go_roundw
     case rel =>
      refine ⟨j + 1, HPL.out.2.2.2, by simp, ?_, HB2.out⟩
      rw [chg_same HPL.out.2.2.2 (HET.out _ HTJ.out.symm)]
      exact HO1.out
     case measure => exact meas_step HPL.out.2.2.2 (by simp)
  ·have hke : j = m.heads.length := by omega
   have HOF := hid (show OHs w0 wb.heap.size wo (.slice A1 m.heads.length c1) (m.heads.map fun x => chgH x h) by have := OHJ.out; rw [hke] at this; simpa using this)
   have hnl : ¬ (j : Int) < m.heads.length := by omega
   have k15 := row_at HG1.out 15 _ rfl
   have z15 := blk_frozen HG1.out 15
   have hlt0 := heap_lt HG1.out
   obtain ⟨wq, hwq⟩ : ∃ wq, wq = wo.setCell ⟨w.heap.size, 15, none⟩ (.slice A1 m.heads.length c1) := ⟨_, rfl⟩
   have HS1 := hid (show Stored w.heap.size 28 [.bool m.resp, va, u0, u1, .bool m.uri.star, .bool m.uri.slashes, u4, u5, u6, .int .i64 m.uri.port, u8, u9, .int .i64 m.code, vb, vc, .slice A1 m.heads.length c1, vd, .bool m.hasBody, .bool m.compact] wo wq by rw [hwq]; exact stored_set HG1.out 15 _)
   have HGZ := hid ((HS1.out.other (w.heap.size + 2) (by omega)).trans HG3.out)
   have HGL1 := hid HG1.out
   have HON2 := hid (show ([.bool m.resp, va, u0, u1, .bool m.uri.star, .bool m.uri.slashes, u4, u5, u6, .int .i64 m.uri.port, u8, u9, .int .i64 m.code, vb, vc, .slice A1 m.heads.length c1, vd, .bool m.hasBody, .bool m.compact] : List Value).all (·.oneCell') = true by
    obtain ⟨q0, q1, q2, q3, q4, q5, q6, q7, q8, q9, q10⟩ := HO1.out
    simp only [List.all_cons, List.all_nil, q0, q1, q2, q3, q4, q5, q6, q7, q8, q9, q10]
    rfl)
   clear hke hlt hj
   go_upto_region 8 with fail
   rw [← hwq]
   go_wp2_with (first
    | (refine wpList_load_blk (by rfl) 28 (.tmp 2) (by rfl) w.heap.size 28 (0, 0) [.bool m.resp, va, u0, u1, .bool m.uri.star, .bool m.uri.slashes, u4, u5, u6, .int .i64 m.uri.port, u8, u9, .int .i64 m.code, vb, vc, .slice A1 m.heads.length c1, vd, .bool m.hasBody, .bool m.compact] (by rfl) HS1.out.blk _ Tryz.underlying28 rfl 19 msg_size rfl ?_)
    | (refine wpList_store_blk (by rfl) 28 (.tmp 4) (.tmp 31) (by rfl) (w.heap.size + 2) 28 zeroM [.bool m.resp, va, u0, u1, .bool m.uri.star, .bool m.uri.slashes, u4, u5, u6, .int .i64 m.uri.port, u8, u9, .int .i64 m.code, vb, vc, .slice A1 m.heads.length c1, vd, .bool m.hasBody, .bool m.compact] (by rfl) (by rfl) (by rfl) HGZ.out 19 msg_size (by rfl) HON2.out ?_; intro W4 hst4; have HST4 := hid hst4; clear hst4)
    | fail)
   have HBF := hid (show Below w.heap.size w W4 from HB0.out.trans ((HBJ.out.mono HB0.out.size).trans ((HS1.out.below).trans (HST4.out.below.mono (by omega)))))
   have HOZ := hid (show OHs w0 wb.heap.size W4 (.slice A1 m.heads.length c1) (m.heads.map fun x => chgH x h) from (HOF.out.stored HS1.out HGL1.out (by decide) (by decide)).stored HST4.out HGZ.out (by decide) (by decide))
   refine ret_cell 4 28 ⟨w.heap.size + 2, 0, none⟩ [.bool m.resp, va, u0, u1, .bool m.uri.star, .bool m.uri.slashes, u4, u5, u6, .int .i64 m.uri.port, u8, u9, .int .i64 m.code, vb, vc, .slice A1 m.heads.length c1, vd, .bool m.hasBody, .bool m.compact] _ rfl rfl (row_cells HST4.out.blk) Tryz.underlying28 rfl 19 msg_size rfl rfl ⟨_, rfl, ?_, HBF.out⟩
   obtain ⟨hm, k1, k2, k3, k4, k5, k6, k7, k8, hrs, hv, hbo, hcode⟩ := HKS.out
   exact ⟨va, [u0, u1, .bool m.uri.star, .bool m.uri.slashes, u4, u5, u6, .int .i64 m.uri.port, u8, u9], vb, vc, .slice A1 m.heads.length c1, vd, by first | rfl | simp [chgM], hm, ⟨u0, u1, u4, u5, u6, u8, u9, rfl, k1, k2, k3, k4, k5, k6, k7, k8⟩, hrs, hv, HOZ.out.less (by have := HSZ.out; omega), hbo, hcode⟩
