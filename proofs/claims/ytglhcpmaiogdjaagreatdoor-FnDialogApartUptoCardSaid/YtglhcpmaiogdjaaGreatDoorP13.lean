import Derived.Test.YtglhcpmaiogdjaaGreatDoorP12
set_option maxRecDepth 100000
set_option maxHeartbeats 16000000
set_option linter.all false
namespace Go.Proofs.YtglhcpmaiogdjaaGreatDoor
open Go.Lib (hid)
open Go.RowKit
def BW (n0 b : Nat) (bs : Bytes) (w : World) : Prop := Lib.IsBuilderF 148 5 n0 b (Lib.byteCells bs) w
def WK (n0 b : Nat) (w w' : World) : Prop := Below n0 w w' ∧ Lib.OthersKept 5 (some b) w w'
theorem WK.refl (n0 b : Nat) (w : World) : WK n0 b w w := ⟨Below.refl _ _, Lib.OthersKept.refl _ _ _⟩
theorem WK.trans {n0 b : Nat} {w w1 w2 : World} (h : WK n0 b w w1) (k : WK n0 b w1 w2) : WK n0 b w w2 := ⟨h.1.trans k.1, h.2.trans k.2⟩
theorem WK.drew {n0 b : Nat} {w w1 : World} (h : WK n0 b w w1) : WK n0 b w w1.drew := ⟨h.1.drew, h.2.drew⟩
theorem WK.mono {n0 n1 b : Nat} {w w1 : World} (h : WK n0 b w w1) (hn : n1 ≤ n0) : WK n1 b w w1 := ⟨h.1.mono hn, h.2⟩
theorem WK.of_below {n0 b : Nat} {w w1 : World} (h : Below w.heap.size w w1) (hn : n0 ≤ w.heap.size) : WK n0 b w w1 :=
 ⟨h.mono hn, fun k _ hk _ _ => (h.block k (heap_lt hk)).trans hk⟩
theorem BW.lt {n0 b : Nat} {bs : Bytes} {w : World} (h : BW n0 b bs w) : n0 ≤ b ∧ b < w.heap.size := by
 rcases h with ⟨h1, v, h2, _⟩ | ⟨h1, v, h2, _⟩ <;> exact ⟨h1, heap_lt h2⟩
theorem BW.drew {n0 b : Nat} {bs : Bytes} {w : World} (h : BW n0 b bs w) : BW n0 b bs w.drew := h
theorem BW.below {n0 b : Nat} {bs : Bytes} {w w1 : World} (h : BW n0 b bs w) (hb : Below w.heap.size w w1) : BW n0 b bs w1 := by
 have key : ∀ p, Lib.BuilderAtF 148 5 n0 b p (Lib.byteCells bs) w → Lib.BuilderAtF 148 5 n0 b p (Lib.byteCells bs) w1 := by
  rintro p ⟨h1, v, h2, h3, h4⟩
  refine ⟨h1, v, (hb.block b (heap_lt h2)).trans h2, ?_, h4⟩
  obtain ⟨hl, h5⟩ := h3
  refine ⟨hl, ?_⟩
  rcases h5 with h5 | ⟨g, cap, cur, fz, e, hg, hh, r⟩
  ·exact .inl h5
  ·exact .inr ⟨g, cap, cur, fz, e, hg, (hb.block g (heap_lt hh)).trans hh, r⟩
 rcases h with h | h
 ·exact .inl (key _ h)
 ·exact .inr (key _ h)
theorem BW.fresh (w : World) : BW w.heap.size w.heap.size [] (w.alloc (.cells #[.pointer none, .slice none 0 0] 148)) := by
 have := Lib.fresh_isBuilder 148 5 w
 rcases this with h | h
 ·exact .inl (Lib.BuilderAtF.of h)
 ·exact .inr (Lib.BuilderAtF.of h)
theorem WK.blk {n0 b g : Nat} {w w1 : World} {cs : Array Value} {t : TypeId} {fz : Nat × Nat} (h : WK n0 b w w1) (hg : w.heap[g]? = some (.cells cs t fz)) (hb : g ≠ b) (ht : t ≠ 5) : w1.heap[g]? = some (.cells cs t fz) :=
 h.2 g _ hg (by simpa using hb) (fun c f e => by injection e with _ e _; exact ht e)
theorem BW.ne_blk {n0 b g : Nat} {bs : Bytes} {w : World} {cs : Array Value} {t : TypeId} {fz : Nat × Nat} (h : BW n0 b bs w) (hg : w.heap[g]? = some (.cells cs t fz)) (ht : t ≠ 148) : g ≠ b := by
 rintro rfl
 rcases h with ⟨h1, v, h2, _⟩ | ⟨h1, v, h2, _⟩ <;> (rw [h2] at hg; injection hg with hg; injection hg with _ hg _; exact ht hg.symm)
theorem builder_size : (Tryz.prog.info? 148).map (·.size) = some 2 := by kernel_rfl
theorem byte_info : (Tryz.prog.info? 5).map (fun i => (i.zero, i.size, i.bytes)) = some (some (.int .u8 0), 1, 1) := by kernel_rfl
theorem copyCheck_fresh (b : Nat) (w : World) (h0 : w.cell? ⟨b, 0, none⟩ = some (.pointer none)) (hsh : w.shape? b = some (148, 2)) (hfz : w.frozen? ⟨b, 0, none⟩ = false) :
  Calls Tryz.prog 103 #[.pointer (some ⟨b, 0, none⟩)] w fun e w' => e = .returned (.tuple #[]) ∧ w' = w.setCell ⟨b, 0, none⟩ (.pointer (some ⟨b, 0, none⟩)) := by
 obtain ⟨j, hj, hjs⟩ := Option.map_eq_some_iff.1 builder_size
 go_enter Tryz.func103, Tryz.ntmps103
 go_wp2
 rw [Lib.run_to_unsafe w ⟨b, 0, none⟩ Tryz.underlying146 Tryz.underlying199 hj (by rw [hjs]; decide) hsh (Nat.zero_lt_succ 1)]
 simp only [Result.andThen]
 rw [Oper.upon_value]
 go_wp2
 rw [run_callFunc_extern Tryz.func113 (by kernel_rfl) (by kernel_rfl) (by kernel_rfl) (e := Extern.AbiNoEscape.same) (by kernel_rfl)]
 rw [Lib.run_noEscape]
 simp only [Result.andThen]
 rw [Oper.upon_value]
 go_wp2
 rw [Lib.run_from_unsafe w ⟨b, 0, none⟩ Tryz.underlying199 Tryz.underlying146 hj hsh (by kernel_rfl)]
 simp only [Result.andThen]
 rw [Oper.upon_value]
 go_wp2
 go_end0
 exact ⟨rfl, rfl⟩
theorem copyCheck_used (b : Nat) (w : World) (h0 : w.cell? ⟨b, 0, none⟩ = some (.pointer (some ⟨b, 0, none⟩))) :
  Calls Tryz.prog 103 #[.pointer (some ⟨b, 0, none⟩)] w fun e w' => e = .returned (.tuple #[]) ∧ w' = w := by
 obtain ⟨j, hj, _⟩ := Option.map_eq_some_iff.1 builder_size
 go_enter Tryz.func103, Tryz.ntmps103
 go_wp2
 rw [Lib.run_neq_ptr_same w _ Tryz.underlying146 hj]
 go_wp2
 go_end0
 exact ⟨rfl, rfl⟩
theorem copyCheck_any (n0 b : Nat) (bs : Bytes) (w : World) (h : BW n0 b bs w) :
  Calls Tryz.prog 103 #[.pointer (some ⟨b, 0, none⟩)] w fun e w' => e = .returned (.tuple #[]) ∧
   Lib.BuilderAtF 148 5 n0 b (.pointer (some ⟨b, 0, none⟩)) (Lib.byteCells bs) w' ∧ WK n0 b w w' := by
 rcases h with h | h
 ·refine (copyCheck_fresh b w h.cell0 h.shape h.frozen0).mono ?_
  rintro e w' ⟨rfl, rfl⟩
  exact ⟨rfl, h.used _, (Below.refl n0 w).setCell (p := ⟨b, 0, none⟩) h.1 _, (Lib.OthersKept.refl _ _ w).setCell ⟨b, 0, none⟩ rfl _⟩
 ·refine (copyCheck_used b w h.cell0).mono ?_
  rintro e w' ⟨rfl, rfl⟩
  exact ⟨rfl, h, WK.refl _ _ _⟩
theorem ws_any (n0 b : Nat) (bs : Bytes) (s : ByteArray) (w : World) (h : BW n0 b bs w) (hl : bs.length + s.size ≤ 140737488355328) :
  Calls Tryz.prog 89 #[.pointer (some ⟨b, 0, none⟩), .string s] w fun e w' => e = .returned (.tuple #[.int .i64 s.size, .nilIface]) ∧ BW n0 b (bs ++ s.data.toList) w' ∧ WK n0 b w w' := by
 have hlt := h.lt
 obtain ⟨i0, hi, hz0, hz1, hz2⟩ := info_parts byte_info
 go_enter Tryz.func89, Tryz.ntmps89
 go_wp2_with (go_at_call 103; refine (copyCheck_any n0 b bs _ h).mono ?_)
 rintro e w1 ⟨rfl, h1, hk1⟩
 have hb1 := hk1.1
 obtain ⟨hB, v, hbk, hown, hne⟩ := h1
 have c0 : w1.cell? ⟨b, 0, none⟩ = some (.pointer (some ⟨b, 0, none⟩)) := by rw [Lib.cell_of_heap hbk]; rfl
 have c1 : w1.cell? ⟨b, 1, none⟩ = some v := by rw [Lib.cell_of_heap hbk]; rfl
 go_wp2_with (at_builtin; refine Lib.wpList_append_own_stringF _ rfl _ _ 22 9 rfl n0 5 i0 Tryz.underlying22 Tryz.underlying9 hi hz0 hz1 hz2 _ _ _ rfl hown s rfl ?c3 ?c4 ?c5 ?_)
 case c3 => rw [Lib.byteCells_length]; unfold maxLen; omega
 case c4 => rw [Lib.byteCells_length]; omega
 case c5 => have := hb1.size; omega
 intro v' w2 hown' hgrow _
 have hlt1 : b < w1.heap.size := heap_lt hbk
 have hb2 : w2.heap[b]? = some (.cells #[.pointer (some ⟨b, 0, none⟩), v] 148 (0, 0)) := by
  rw [hgrow.block b hlt1 (fun e => hne e.symm)]
  exact hbk
 have d0 : w2.cell? ⟨b, 0, none⟩ = some (.pointer (some ⟨b, 0, none⟩)) := by rw [Lib.cell_of_heap hb2]; rfl
 have d1 : w2.cell? ⟨b, 1, none⟩ = some v := by rw [Lib.cell_of_heap hb2]; rfl
 have f1 : w2.frozen? ⟨b, 1, none⟩ = false := Lib.frozen_of_heap hb2 1
 obtain ⟨ao, n', cap, rfl⟩ : ∃ ao n' cap, v' = .slice ao n' cap := by
  rcases hown'.2 with ⟨hv, _⟩ | ⟨g, cap, cur, fz, hv, _⟩
  ·exact ⟨_, _, _, hv⟩
  ·exact ⟨_, _, _, hv⟩
 go_wp2
 go_ret2
 refine ⟨rfl, .inr ?_, ?_, (hk1.2.grown hgrow (Lib.ownsRowF_kind hown)).setCell ⟨b, 1, none⟩ rfl _⟩
 ·rw [Lib.byteCells_append]
  exact Lib.BuilderAtF.put (T := 148) (e := 5) hB hb2 (bs' := Lib.byteCells bs ++ Lib.byteCells s.data.toList) (by simpa [Lib.strCells_length, Lib.strCells_eq, Lib.byteCells_length] using hown') (by decide)
 ·exact (hb1.grown hgrow (by have := hb1.size; omega) (fun k hk => (hown.lt k hk).1)).setCell (p := ⟨b, 1, none⟩) hB _
theorem wb_any (n0 b : Nat) (bs : Bytes) (c : UInt8) (w : World) (h : BW n0 b bs w) (hl : bs.length + 1 ≤ 140737488355328) :
  Calls Tryz.prog 107 #[.pointer (some ⟨b, 0, none⟩), .int .u8 c.toNat] w fun e w' => e = .returned .nilIface ∧ BW n0 b (bs ++ [c]) w' ∧ WK n0 b w w' := by
 have hlt := h.lt
 obtain ⟨i0, hi, hz0, hz1, hz2⟩ := info_parts byte_info
 go_enter Tryz.func107, Tryz.ntmps107
 go_wp2_with (go_at_call 103; refine (copyCheck_any n0 b bs _ h).mono ?_)
 rintro e w1 ⟨rfl, h1, hk1⟩
 have hb1 := hk1.1
 obtain ⟨hB, v, hbk, hown, hne⟩ := h1
 have c0 : w1.cell? ⟨b, 0, none⟩ = some (.pointer (some ⟨b, 0, none⟩)) := by rw [Lib.cell_of_heap hbk]; rfl
 have c1 : w1.cell? ⟨b, 1, none⟩ = some v := by rw [Lib.cell_of_heap hbk]; rfl
 go_wp2_with (at_builtin; refine wpList_append_ownF _ rfl _ _ 22 rfl n0 5 i0 (.int .u8 0) 1 1 Tryz.underlying22 hi hz0 hz1 hz2 rfl (by decide) _ _ _ rfl (hown.alloc _) ⟨w1.heap.size, 0, none⟩ 1 1 [.int .u8 c.toNat] rfl rfl ?c1 ?c2 ?c3 ?c4 ?c5 ?_)
 case c1 =>
  intro j u hj
  match j, hj with
  | 0, hj => simp at hj; subst hj; simp [Addr.add]
 case c2 => intro u hu; simp at hu; subst hu; rfl
 case c3 => rw [Lib.byteCells_length]; unfold maxLen; omega
 case c4 => rw [Lib.byteCells_length]; omega
 case c5 => have := hb1.size; simp; omega
 intro v' w2 hown' hgrow _
 have hlt1 : b < w1.heap.size := heap_lt hbk
 have hb2 : w2.heap[b]? = some (.cells #[.pointer (some ⟨b, 0, none⟩), v] 148 (0, 0)) := by
  rw [hgrow.block b (by simp; omega) (fun e => hne e.symm), Lib.alloc_old w1 _ b hlt1]
  exact hbk
 have d0 : w2.cell? ⟨b, 0, none⟩ = some (.pointer (some ⟨b, 0, none⟩)) := by rw [Lib.cell_of_heap hb2]; rfl
 have d1 : w2.cell? ⟨b, 1, none⟩ = some v := by rw [Lib.cell_of_heap hb2]; rfl
 have f1 : w2.frozen? ⟨b, 1, none⟩ = false := Lib.frozen_of_heap hb2 1
 obtain ⟨ao, n', cap, rfl⟩ : ∃ ao n' cap, v' = .slice ao n' cap := by
  rcases hown'.2 with ⟨hv, _⟩ | ⟨g, cap, cur, fz, hv, _⟩
  ·exact ⟨_, _, _, hv⟩
  ·exact ⟨_, _, _, hv⟩
 go_wp2
 go_ret
 refine ⟨rfl, .inr ?_, ?_, ((hk1.2.alloc _).grown hgrow (Lib.ownsRowF_kind (hown.alloc _))).setCell ⟨b, 1, none⟩ rfl _⟩
 ·have e : Lib.byteCells (bs ++ [c]) = Lib.byteCells bs ++ [.int .u8 c.toNat] := by rw [Lib.byteCells_append]; rfl
  rw [e]
  exact Lib.BuilderAtF.put (T := 148) (e := 5) hB hb2 (bs' := Lib.byteCells bs ++ [.int .u8 c.toNat]) (by simpa [Lib.byteCells_length] using hown') (by decide)
 ·exact ((hb1.alloc (by have := hb1.size; omega) _).grown hgrow (by have := hb1.size; simp; omega) (fun k hk => (hown.lt k hk).1)).setCell (p := ⟨b, 1, none⟩) hB _
theorem bstr_any (n0 b : Nat) (bs : Bytes) (w : World) (h : BW n0 b bs w) :
  Calls Tryz.prog 84 #[.pointer (some ⟨b, 0, none⟩)] w fun e w' => e = .returned (.string ⟨bs.toArray⟩) ∧ BW n0 b bs w' ∧ WK n0 b w w' := by
 have hlt := h.lt
 refine (Tryz.Builder_String_any_k n0 b bs w h (by omega)).mono ?_
 rintro e w' ⟨rfl, h1, h2, h3⟩
 exact ⟨rfl, h1, h2, h3⟩
theorem stail {P : Program} {id : Nat} {Q : Exit → Act → World → Prop} {a : Act} {w : World} {l : List Oper} (n : Nat) (hm : P.follows .mixedOrders = true) (hB : Region.lexTailB .any l.toArray n = true)
  (h : wpStill P l.toArray w.drew (fun a' => wpList P l.toArray Q (l.drop n) a' w.drew) (l.take n) a) : (Code.region id l.toArray true).wp P Q a w :=
 wp_region_still_tail n hm hB h
theorem below_set0 {B : Nat} {w w1 : World} (h : Below B w w1) (i : Nat) (v : Value) : Below B w (w1.setCell ⟨B, i, none⟩ v) := h.setCell (Nat.le_refl _) v
theorem ws_nilAhead : NA 146 "WriteString" := fun _ _ => by kernel_rfl
theorem ws_method : ME 146 "WriteString" 89 := fun _ _ => by kernel_rfl
structure G0 (w : World) : Prop where
 z0 : w.cell? ⟨2, 0, none⟩ = some (.pointer none)
 z4 : ∃ d o, w.cell? ⟨8, 0, none⟩ = some (.pointer (some ⟨d, o, none⟩)) ∧ w.cell? ⟨d, o, none⟩ = some (.bool false) ∧ w.cell? ⟨d, o + 1, none⟩ = some (.string ⟨#[]⟩)
 pow10 : Lib.TabIs Tryz.prog w "internal/strconv.uint64pow10" .u64 Lib.pow10Tab
 white : Lib.WhiteTab 3 w
 esyn : ∃ t p, w.cell? ⟨6, 0, none⟩ = some (.iface t p)
 eran : ∃ t p, w.cell? ⟨7, 0, none⟩ = some (.iface t p)
theorem cell_below {w w' : World} (hb : Below w.heap.size w w') {a : Addr} {v : Value} (hc : w.cell? a = some v) : w'.cell? a = some v := (hb.cell (World.block_lt_of_cell? w a hc)).trans hc
theorem tab_below {n : String} {g : Nat} {k : IntKind} {zs : List Int} {w w' : World} (hg : Tryz.prog.globalNamed n = some g) (h : Lib.TabIs Tryz.prog w n k zs) (hb : Below w.heap.size w w') : Lib.TabIs Tryz.prog w' n k zs := by
 unfold Lib.TabIs World.var? at h ⊢
 rw [hg] at h ⊢
 simp only [Option.bind_some] at h ⊢
 have hlt : g < w.heap.size := by
  rcases Nat.lt_or_ge g w.heap.size with h' | h'
  ·exact h'
  ·rw [Array.getElem?_eq_none h'] at h; cases h
 rw [hb.block g hlt]
 exact h
theorem gPow : Tryz.prog.globalNamed "internal/strconv.uint64pow10" = some 1 := by kernel_rfl
theorem G0.below {w w' : World} (h : G0 w) (hb : Below w.heap.size w w') : G0 w' := by
 obtain ⟨h1, ⟨d, o, h2, h3, h4⟩, h5, h6, ⟨t, p, h7⟩, ⟨t', p', h8⟩⟩ := h
 exact ⟨cell_below hb h1, ⟨d, o, cell_below hb h2, cell_below hb h3, cell_below hb h4⟩, tab_below gPow h5 hb, WhiteTab_below h6 hb, ⟨t, p, cell_below hb h7⟩, ⟨t', p', cell_below hb h8⟩⟩
def Gl (N : Nat) (w : World) : Prop := ∃ w0, w0.heap.size = N ∧ G0 w0 ∧ Below N w0 w
theorem Gl.get {N : Nat} {w : World} (h : Gl N w) : G0 w := by
 obtain ⟨w0, rfl, h1, h2⟩ := h
 exact h1.below h2
theorem Gl.le {N : Nat} {w : World} (h : Gl N w) : N ≤ w.heap.size := by
 obtain ⟨w0, rfl, h1, h2⟩ := h
 exact h2.size
theorem Gl.below {N n0 : Nat} {w w' : World} (h : Gl N w) (hb : Below n0 w w') (hn : N ≤ n0) : Gl N w' := by
 obtain ⟨w0, h0, h1, h2⟩ := h
 exact ⟨w0, h0, h1, h2.trans (hb.mono hn)⟩
theorem Gl.step {N : Nat} {w w' : World} (h : Gl N w) (hb : Below w.heap.size w w') : Gl N w' := h.below hb h.le
theorem as16_any (lo : Int) (z : Value) (w : World) (h0 : 281470681743360 ≤ lo) (hn : lo < 281474976710656) :
  Calls Tryz.prog 137 #[.agg #[.int .u64 0, .int .u64 lo, z]] w fun e w' => ∃ a b c d : Int,
   e = .returned (.agg #[.int .u8 0, .int .u8 0, .int .u8 0, .int .u8 0, .int .u8 0, .int .u8 0, .int .u8 0, .int .u8 0, .int .u8 0, .int .u8 0, .int .u8 255, .int .u8 255, .int .u8 a, .int .u8 b, .int .u8 c, .int .u8 d]) ∧ Below w.heap.size w w' := by
 have e0 : lo / 72057594037927936 = 0 := by omega
 have e1 : lo / 281474976710656 = 0 := by omega
 have e2 : lo / 1099511627776 = 255 := by omega
 have e3 : lo / 4294967296 % 256 = 255 := by omega
 have HE := hid (And.intro e0 (And.intro e1 (And.intro e2 e3)))
 clear e0 e1 e2 e3
 go_enter Tryz.func137, Tryz.ntmps137
 go_wp2_with fail
 refine stail 4 (by kernel_rfl) (by kernel_rfl) ?_
 simp only [List.take_succ_cons, List.take_zero, List.drop_succ_cons, List.drop_zero]
 repeat still_step
 refine wpStill_nil ?_
 go_wp2
 go_end0
 go_wp2_with fail
 refine stail 4 (by kernel_rfl) (by kernel_rfl) ?_
 simp only [List.take_succ_cons, List.take_zero, List.drop_succ_cons, List.drop_zero]
 repeat still_step
 refine wpStill_nil ?_
 go_wp2
 go_end0
 go_wp2
 obtain ⟨e0, e1, e2, e3⟩ := HE.out
 rw [e0, e1, e2, e3]
 refine bodyPost_ret (v := ?_) (by simp [results, Tryz.results137, go_sem]; rfl) rfl ⟨_, _, _, _, rfl, ?_⟩
 exact ((((Below.refl _ _).alloc (Nat.le_refl _) _).alloc (by simp) _).drew).drew
theorem or4 (a b c d : Int) (ha : 0 ≤ a ∧ a ≤ 255) (hb : 0 ≤ b ∧ b ≤ 255) (hc : 0 ≤ c ∧ c ≤ 255) (hd : 0 ≤ d ∧ d ≤ 255) :
  bits BinOp.or IntKind.u64 (bits BinOp.or IntKind.u64 (bits BinOp.or IntKind.u64 (bits BinOp.or IntKind.u64 281470681743360 (a * 16777216)) (b * 65536)) (c * 256)) d = 281470681743360 + a * 16777216 + b * 65536 + c * 256 + d := by
 have hk : ∀ n : Int, 0 ≤ n → n < 2 ^ 63 → IntKind.u64.wrap n = n := fun n h0 h1 => by rw [IntKind.wrap_u64]; omega
 rw [bits_join .u64 63 (by decide) hk 32 281470681743360 (a * 16777216) (by omega) (by omega) (by omega) (by omega) (by omega) (by omega)]
 rw [bits_join .u64 63 (by decide) hk 24 (281470681743360 + a * 16777216) (b * 65536) (by omega) (by omega) (by omega) (by omega) (by omega) (by omega)]
 rw [bits_join .u64 63 (by decide) hk 16 (281470681743360 + a * 16777216 + b * 65536) (c * 256) (by omega) (by omega) (by omega) (by omega) (by omega) (by omega)]
 rw [bits_join .u64 63 (by decide) hk 8 (281470681743360 + a * 16777216 + b * 65536 + c * 256) d (by omega) (by omega) (by omega) (by omega) (by omega) (by omega)]
theorem from4_any (a b c d : Int) (z : Option Addr) (w : World) (hz : w.cell? ⟨8, 0, none⟩ = some (.pointer z)) (ha : 0 ≤ a ∧ a ≤ 255) (hb : 0 ≤ b ∧ b ≤ 255) (hc : 0 ≤ c ∧ c ≤ 255) (hd : 0 ≤ d ∧ d ≤ 255) :
  Calls Tryz.prog 163 #[.agg #[.int .u8 a, .int .u8 b, .int .u8 c, .int .u8 d]] w fun e w' => ∃ lo : Int,
   e = .returned (.agg #[.int .u64 0, .int .u64 lo, .pointer z]) ∧ 281470681743360 ≤ lo ∧ lo < 281474976710656 ∧ Below w.heap.size w w' := by
 have l0 : 8 < w.heap.size := World.block_lt_of_cell? w _ hz
 have HE := hid (or4 a b c d ha hb hc hd)
 go_enter Tryz.func163, Tryz.ntmps163
 go_wp2
 rw [HE.out]
 refine bodyPost_ret (v := ?_) (by simp [results, Tryz.results163, go_sem]; rfl) rfl ⟨_, rfl, by omega, by omega, ?_⟩
 exact ((Below.refl _ _).alloc (Nat.le_refl _) _).alloc (by simp) _
theorem zoneField (a : Value) (w : World) : (Instr.field 240 (.agg #[a, .string ⟨#[]⟩]) 1).run Tryz.prog w = .ok (.string ⟨#[]⟩) w := by kernel_rfl
theorem eqHandle (a : Addr) (w : World) : (binOp .eql 222 (.agg #[.pointer (some a)]) (.agg #[.pointer none])).run Tryz.prog w = .ok (.bool false) w := by kernel_rfl
theorem hval_any (d o : Nat) (w : World) (h1 : w.cell? ⟨d, o, none⟩ = some (.bool false)) (h2 : w.cell? ⟨d, o + 1, none⟩ = some (.string ⟨#[]⟩)) :
  Calls Tryz.prog 150 #[.agg #[.pointer (some ⟨d, o, none⟩)]] w fun e w' =>
   e = .returned (.agg #[.bool false, .string ⟨#[]⟩]) ∧ Below w.heap.size w w' := by
 have l1 : d < w.heap.size := World.block_lt_of_cell? w _ h1
 have l2 : d < w.heap.size + 1 := by omega
 go_enter Tryz.func150, Tryz.ntmps150
 go_wp2
 refine bodyPost_ret (v := ?_) (by simp [results, Tryz.results150, go_sem]; rfl) rfl ⟨rfl, ?_⟩
 exact ((Below.refl _ _).alloc (Nat.le_refl _) _).alloc (by simp) _
theorem zone_any (hi lo : Int) (d o : Nat) (w : World) (h0 : w.cell? ⟨2, 0, none⟩ = some (.pointer none)) (h1 : w.cell? ⟨d, o, none⟩ = some (.bool false)) (h2 : w.cell? ⟨d, o + 1, none⟩ = some (.string ⟨#[]⟩)) :
  Calls Tryz.prog 136 #[.agg #[.int .u64 hi, .int .u64 lo, .pointer (some ⟨d, o, none⟩)]] w fun e w' =>
   e = .returned (.string ⟨#[]⟩) ∧ Below w.heap.size w w' := by
 have l0 : 2 < w.heap.size := World.block_lt_of_cell? w _ h0
 have l1 : d < w.heap.size := World.block_lt_of_cell? w _ h1
 have hq := eqHandle ⟨d, o, none⟩
 have hf := zoneField (.bool false)
 go_enter Tryz.func136, Tryz.ntmps136
 go_wp2_with (go_at_call 150; refine (hval_any d o _ ?_ ?_).mono ?_)
 ·rw [World.cell?_alloc_lt _ _ _ l1]; exact h1
 ·rw [World.cell?_alloc_lt _ _ _ l1]; exact h2
 rintro e w1 ⟨rfl, hb⟩
 go_wp2
 go_ret
 exact ⟨rfl, ((Below.refl _ _).alloc (Nat.le_refl _) _).trans (hb.mono (by simp))⟩
def Four (g : Nat) (w : World) : Prop := ∃ a b c d : Int, (0 ≤ a ∧ a ≤ 255) ∧ (0 ≤ b ∧ b ≤ 255) ∧ (0 ≤ c ∧ c ≤ 255) ∧ (0 ≤ d ∧ d ≤ 255) ∧ w.heap[g]? = some (.cells #[.int .u8 a, .int .u8 b, .int .u8 c, .int .u8 d] 253 (0, 0))
theorem Four.cell {g : Nat} {w : World} (h : Four g w) (i : Nat) (hi : i < 4) : ∃ x, w.cell? ⟨g, i, none⟩ = some (.int .u8 x) := by
 obtain ⟨a, b, c, d, _, _, _, _, h⟩ := h
 match i, hi with
 | 0, _ => exact ⟨a, by simp [World.cell?, h]⟩
 | 1, _ => exact ⟨b, by simp [World.cell?, h]⟩
 | 2, _ => exact ⟨c, by simp [World.cell?, h]⟩
 | 3, _ => exact ⟨d, by simp [World.cell?, h]⟩
theorem Four.frozen {g : Nat} {w : World} (h : Four g w) (i : Nat) : w.frozen? ⟨g, i, none⟩ = false := by
 obtain ⟨a, b, c, d, _, _, _, _, h⟩ := h
 simp [World.frozen?, h]
theorem Four.put {g : Nat} {w : World} (h : Four g w) (i : Nat) (hi : i < 4) (x : Int) (hx : 0 ≤ x ∧ x ≤ 255) : Four g (w.setCell ⟨g, i, none⟩ (.int .u8 x)) := by
 obtain ⟨a, b, c, d, h1, h2, h3, h4, h⟩ := h
 match i, hi with
 | 0, _ => exact ⟨x, b, c, d, hx, h2, h3, h4, by simp [World.setCell, Array.getElem?_modify, h]⟩
 | 1, _ => exact ⟨a, x, c, d, h1, hx, h3, h4, by simp [World.setCell, Array.getElem?_modify, h]⟩
 | 2, _ => exact ⟨a, b, x, d, h1, h2, hx, h4, by simp [World.setCell, Array.getElem?_modify, h]⟩
 | 3, _ => exact ⟨a, b, c, x, h1, h2, h3, hx, by simp [World.setCell, Array.getElem?_modify, h]⟩
def FieldsPost (g : Nat) (w : World) (e : Ending) (w' : World) : Prop := ∃ ev, e = .returned ev ∧ (ev = .nilIface ∨ ∃ v, ev = .iface 238 v) ∧ Four g w' ∧ Below g w w'
theorem fields_any (g : Nat) (s : ByteArray) (w : World) (hf : Four g w) (hs : s.size ≤ 9223372036854775807) :
  Calls Tryz.prog 162 #[.string s, .int .i64 0, .int .i64 s.size, .slice (some ⟨g, 0, none⟩) 4 4] w (FieldsPost g w) := by
 go_enter Tryz.func162, Tryz.ntmps162
 go_wp2_with fail
 go_loopw [9, 10, 11, 13] (fun v p d i wr => ∃ kv kp kd ki : Nat, v = .int .i64 kv ∧ p = .int .i64 kp ∧ d = .int .i64 kd ∧ i = .int .i64 ki ∧ kv ≤ 255 ∧ kp ≤ 3 ∧ kd ≤ ki ∧ ki ≤ s.size ∧ Four g wr ∧ Below g w wr) (fun _ _ _ i _ => s.size - (intOf i).toNat)
 case atStart => exact ⟨0, 0, 0, 0, rfl, rfl, rfl, rfl, by omega, by omega, by omega, by omega, hf, Below.refl _ _⟩
 case round =>
  obtain ⟨kv, kp, kd, ki, rfl, rfl, rfl, rfl, h1, h2, h3, h4, hF, hB⟩ := hrel
  have HF := hid hF
  have HB := hid hB
  by_cases hlt : ki < s.size
  ·by_cases hp3 : kp = 3
   ·subst hp3
    clear hF hB
    go_wp2
    all_goals first
     | (go_ret; exact ⟨_, rfl, .inr ⟨_, rfl⟩, HF.out, HB.out⟩)
     | exact ⟨⟨kv * 10 + s[ki].toNat - 48, 3, kd + 1, ki + 1, by congr 1; omega, rfl, by (congr 1; try omega), by (congr 1; try omega), by omega, by omega, by omega, by omega, HF.out, HB.out⟩, by simp [intOf]; omega⟩
   ·obtain ⟨x, hx⟩ := hF.cell kp (by omega)
    have hz := hF.frozen kp
    clear hF hB
    have hp3' : kp < 3 := by omega
    have HP := hid hp3
    clear hp3
    have hq : ¬ (kp : Int) = 3 := by omega
    go_wp2
    all_goals first
     | (go_ret; exact ⟨_, rfl, .inr ⟨_, rfl⟩, HF.out, HB.out⟩)
     | exact ⟨⟨kv * 10 + s[ki].toNat - 48, kp, kd + 1, ki + 1, by congr 1; omega, rfl, by (congr 1; try omega), by (congr 1; try omega), by omega, by omega, by omega, by omega, HF.out, HB.out⟩, by simp [intOf]; omega⟩
     | exact ⟨⟨0, kp + 1, 0, ki + 1, rfl, by congr 1, rfl, by congr 1, by omega, by omega, by omega, by omega, HF.out.put kp (by omega) _ (by omega), HB.out.setCell (p := ⟨g, kp, none⟩) (Nat.le_refl _) _⟩, by simp [intOf]; omega⟩
  ·obtain ⟨x, hx⟩ := hF.cell 3 (by omega)
   have hz := hF.frozen 3
   clear hF hB
   go_wp2
   all_goals first
    | (go_ret; exact ⟨_, rfl, .inr ⟨_, rfl⟩, HF.out, HB.out⟩)
    | (go_ret; exact ⟨_, rfl, .inl rfl, HF.out.put 3 (by omega) _ (by omega), HB.out.setCell (p := ⟨g, 3, none⟩) (Nat.le_refl _) _⟩)
def AddrPost (z : Option Addr) (w : World) (e : Ending) (w' : World) : Prop := ∃ lo z' ev, e = .returned (.tuple #[.agg #[.int .u64 0, .int .u64 lo, .pointer z'], ev]) ∧ Below w.heap.size w w' ∧
 ((∃ T v, ev = .iface T v ∧ lo = 0 ∧ z' = none) ∨ (ev = .nilIface ∧ z' = z ∧ 281470681743360 ≤ lo ∧ lo < 281474976710656))
theorem ipv4_any (z : Option Addr) (s : ByteArray) (w : World) (hz : w.cell? ⟨8, 0, none⟩ = some (.pointer z)) (hs : s.size ≤ 9223372036854775807) :
  Calls Tryz.prog 148 #[.string s] w (AddrPost z w) := by
 have l0 : 8 < w.heap.size := World.block_lt_of_cell? w _ hz
 go_enter Tryz.func148, Tryz.ntmps148
 go_wp2_with (go_at_call 162; refine (fields_any (w.heap.size + 1) s _ ?_ hs).mono ?_)
 ·exact ⟨0, 0, 0, 0, by omega, by omega, by omega, by omega, by rw [show w.heap.size + 1 = (w.alloc (.cells #[.int .u64 0, .int .u64 0, .pointer none] 224)).heap.size from by simp]; exact heap_alloc_new _ _⟩
 rintro e w1 ⟨ev, rfl, hev, ⟨a, b, c, d, h1, h2, h3, h4, h⟩, hb⟩
 have c0 : w1.cell? ⟨w.heap.size + 1, 0, none⟩ = some (.int .u8 a) := by simp [World.cell?, h]
 have c1 : w1.cell? ⟨w.heap.size + 1, 1, none⟩ = some (.int .u8 b) := by simp [World.cell?, h]
 have c2 : w1.cell? ⟨w.heap.size + 1, 2, none⟩ = some (.int .u8 c) := by simp [World.cell?, h]
 have c3 : w1.cell? ⟨w.heap.size + 1, 3, none⟩ = some (.int .u8 d) := by simp [World.cell?, h]
 have hbw : Below w.heap.size w w1 := (((Below.refl _ _).alloc (Nat.le_refl _) _).alloc (by simp) _).trans (hb.mono (by omega))
 have hblk : w1.heap[w.heap.size]? = some (.cells #[.int .u64 0, .int .u64 0, .pointer none] 224 (0, 0)) := by
  rw [hb.block _ (by omega), Below.heap_alloc _ _ _ (by simp)]; exact heap_alloc_new _ _
 have k0 : w1.cell? ⟨w.heap.size, 0, none⟩ = some (.int .u64 0) := by simp [World.cell?, hblk]
 have k1 : w1.cell? ⟨w.heap.size, 1, none⟩ = some (.int .u64 0) := by simp [World.cell?, hblk]
 have k2 : w1.cell? ⟨w.heap.size, 2, none⟩ = some (.pointer none) := by simp [World.cell?, hblk]
 have z0 : w1.frozen? ⟨w.heap.size, 0, none⟩ = false := by simp [World.frozen?, hblk]
 have z1 : w1.frozen? ⟨w.heap.size, 1, none⟩ = false := by simp [World.frozen?, hblk]
 have z2 : w1.frozen? ⟨w.heap.size, 2, none⟩ = false := by simp [World.frozen?, hblk]
 clear h hb
 rcases hev with rfl | ⟨v, rfl⟩
 ·have hz1 := (hbw.cell (p := ⟨8, 0, none⟩) l0).trans hz
  go_wp2_with (go_at_call 163; refine (from4_any a b c d z _ hz1 h1 h2 h3 h4).mono ?_)
  rintro e w2 ⟨lo, rfl, g1, g2, hb2⟩
  have hb2' : Below w.heap.size w1 w2 := hb2.mono hbw.size
  have hlt : w.heap.size < w1.heap.size := heap_lt hblk
  have y : ∀ j, w2.cell? ⟨w.heap.size, j, none⟩ = w1.cell? ⟨w.heap.size, j, none⟩ := fun j => hb2.cell (p := ⟨w.heap.size, j, none⟩) hlt
  have y' : ∀ j, w2.frozen? ⟨w.heap.size, j, none⟩ = w1.frozen? ⟨w.heap.size, j, none⟩ := fun j => hb2.frozen (p := ⟨w.heap.size, j, none⟩) hlt
  rw [← y] at k0 k1 k2
  rw [← y'] at z0 z1 z2
  clear y y'
  go_wp2
  refine bodyPost_ret (v := ?_) (by simp [results, Tryz.results148, go_sem, k0, k1, k2]; rfl) rfl ⟨lo, z, .nilIface, rfl, ?_, .inr ⟨rfl, rfl, g1, g2⟩⟩
  exact (((hbw.trans hb2').setCell (Nat.le_refl _) _).setCell (p := ⟨w.heap.size, 1, none⟩) (Nat.le_refl _) _).setCell (p := ⟨w.heap.size, 2, none⟩) (Nat.le_refl _) _
 ·go_wp2
  refine bodyPost_ret (v := ?_) (by simp [results, Tryz.results148, go_sem, k0, k1, k2]; rfl) rfl ⟨0, none, _, rfl, ?_, .inl ⟨_, _, rfl, rfl, rfl⟩⟩
  exact ((hbw.setCell (Nat.le_refl _) _).setCell (p := ⟨w.heap.size, 1, none⟩) (Nat.le_refl _) _).setCell (p := ⟨w.heap.size, 2, none⟩) (Nat.le_refl _) _
theorem below_new {w : World} (o : Obj) {w1 : World} (hb : Below (w.alloc o).heap.size (w.alloc o) w1) : w1.heap[w.heap.size]? = some o := by
 rw [hb.block _ (by simp)]; exact heap_alloc_new _ _
def NoColon (s : ByteArray) : Prop := ∀ i (h : i < s.size), s[i].toNat ≠ 58 ∧ s[i].toNat ≠ 37
theorem paddr_any (z : Option Addr) (s : ByteArray) (w : World) (hz : w.cell? ⟨8, 0, none⟩ = some (.pointer z)) (hs : s.size ≤ 9223372036854775807) (hn : NoColon s) :
  Calls Tryz.prog 135 #[.string s] w (AddrPost z w) := by
 have l0 : 8 < w.heap.size := World.block_lt_of_cell? w _ hz
 go_enter Tryz.func135, Tryz.ntmps135
 go_wp2_with fail
 go_loop [4] (fun i => ∃ k : Nat, k ≤ s.size ∧ i = .int .i64 k) (fun i => s.size - (intOf i).toNat)
 case atStart => exact ⟨0, Nat.zero_le _, rfl⟩
 case round =>
  obtain ⟨k, hk, rfl⟩ := hrel
  by_cases hlt : k < s.size
  ·have hza : ∀ o, (w.alloc o).cell? ⟨8, 0, none⟩ = some (.pointer z) := fun o => by rw [World.cell?_alloc_lt _ _ _ l0]; exact hz
   have hc58 : ((s[k].toNat : Int) == 58) = false := by have := (hn k hlt).1; simp; omega
   have hc37 : ((s[k].toNat : Int) == 37) = false := by have := (hn k hlt).2; simp; omega
   have HN := hid hn
   clear hn
   by_cases hdot : s[k].toNat = 46
   ·have hc46 : ((s[k].toNat : Int) == 46) = true := by simp; omega
    clear hdot
    go_wp2_with (go_at_call 148; refine (ipv4_any z s _ (hza _) hs).mono ?_)
    rintro e w1 ⟨lo, z', ev, rfl, hb, hev⟩
    have hblk := below_new _ hb
    have k0 : w1.cell? ⟨w.heap.size, 0, none⟩ = some (.int .u64 0) := by simp [World.cell?, hblk]
    have k1 : w1.cell? ⟨w.heap.size, 1, none⟩ = some (.int .u64 0) := by simp [World.cell?, hblk]
    have k2 : w1.cell? ⟨w.heap.size, 2, none⟩ = some (.pointer none) := by simp [World.cell?, hblk]
    have z0 : w1.frozen? ⟨w.heap.size, 0, none⟩ = false := by simp [World.frozen?, hblk]
    have z1 : w1.frozen? ⟨w.heap.size, 1, none⟩ = false := by simp [World.frozen?, hblk]
    have z2 : w1.frozen? ⟨w.heap.size, 2, none⟩ = false := by simp [World.frozen?, hblk]
    have hbw : Below w.heap.size w w1 := ((Below.refl _ _).alloc (Nat.le_refl _) _).trans (hb.mono (by simp))
    have HB := hid hb
    have HE := hid hev
    clear hb hblk hev
    go_wp2
    refine bodyPost_ret (v := ?_) (by simp [results, Tryz.results135, go_sem, k0, k1, k2]; rfl) rfl ⟨lo, z', ev, rfl, ?_, HE.out⟩
    exact ((hbw.setCell (Nat.le_refl _) _).setCell (p := ⟨w.heap.size, 1, none⟩) (Nat.le_refl _) _).setCell (p := ⟨w.heap.size, 2, none⟩) (Nat.le_refl _) _
   ·have hc46 : ((s[k].toNat : Int) == 46) = false := by simp; omega
    clear hdot
    go_wp2
    go_round
    case rel => exact ⟨k + 1, by omega, by go_num⟩
    case measure => simp [intOf]; omega
  ·have HN := hid hn
   clear hn
   go_wp2
   refine bodyPost_ret (v := ?_) (by simp [results, Tryz.results135, go_sem]; rfl) rfl ⟨0, none, _, rfl, ?_, .inl ⟨_, _, rfl, rfl, rfl⟩⟩
   first
    | exact (Below.refl _ _).alloc (Nat.le_refl _) _
    | exact ((((Below.refl _ _).alloc (Nat.le_refl _) _).setCell (p := ⟨w.heap.size, 0, none⟩) (Nat.le_refl _) _).setCell (p := ⟨w.heap.size, 1, none⟩) (Nat.le_refl _) _).setCell (p := ⟨w.heap.size, 2, none⟩) (Nat.le_refl _) _
