import Derived.Test.YtocajelknojkbaaGreatDoorN27
import Derived.Test.YtocajelknojkbaaGreatDoorN30
set_option maxRecDepth 100000
set_option maxHeartbeats 16000000
set_option linter.all false
namespace Go.Proofs.YtocajelknojkbaaGreatDoor
open Go.Lib (hid)
open Go.RowKit
def keepT (t : TypeId) : Bool := t == 35 || t == 5 || t == 73
def keepB (n i : Nat) (o : Obj) : Bool := decide (i < n) || (match o with | .cells _ t _ => keepT t | _ => false)
def filterW (w : World) (n : Nat) : World := { w with heap := w.heap.mapIdx fun i o => if keepB n i o then o else .cells #[] 0 }
theorem filt_size (w : World) (n : Nat) : (filterW w n).heap.size = w.heap.size := by simp [filterW]
theorem filt_at (w : World) (n k : Nat) : (filterW w n).heap[k]? = (w.heap[k]?).map fun o => if keepB n k o then o else .cells #[] 0 := by
 simp only [filterW, Array.getElem?_mapIdx]
theorem filt_keep {w : World} {n k : Nat} {cs : Array Value} {t : TypeId} {fz : Nat × Nat} (h : w.heap[k]? = some (.cells cs t fz)) (hk : k < n ∨ keepT t = true) : (filterW w n).heap[k]? = some (.cells cs t fz) := by
 rw [filt_at, h]
 have : keepB n k (.cells cs t fz) = true := by
  unfold keepB
  rcases hk with hk | hk
  ·simp [hk]
  ·simp [hk]
 simp [this]
theorem filt_cell {w : World} {n : Nat} {a : Addr} {v : Value} (h : (filterW w n).cell? a = some v) : ∃ cs t fz, w.heap[a.block]? = some (.cells cs t fz) ∧ (a.block < n ∨ keepT t = true) ∧ a.spot.isSome = false ∧ cs[a.off]? = some v := by
 unfold World.cell? at h
 rw [filt_at] at h
 cases ho : w.heap[a.block]? with
 | none => rw [ho] at h; simp at h
 | some o =>
  rw [ho] at h
  simp only [Option.map_some] at h
  by_cases hk : keepB n a.block o = true
  ·rw [if_pos hk] at h
   cases o with
   | cells cs t fz =>
    dsimp only at h
    split at h
    ·simp at h
    ·rename_i hs
     refine ⟨cs, t, fz, rfl, ?_, by simpa using hs, h⟩
     unfold keepB at hk
     simp only [Bool.or_eq_true, decide_eq_true_eq] at hk
     exact hk
   | _ => simp at h
  ·rw [if_neg hk] at h
   dsimp only at h
   split at h <;> simp at h
theorem filt_sub (w : World) (n : Nat) : Sub (filterW w n) w := by
 refine ⟨by rw [filt_size]; exact Nat.le_refl _, fun a v h => ?_⟩
 obtain ⟨cs, t, fz, h1, _, h3, h4⟩ := filt_cell h
 unfold World.cell?
 rw [h1]
 simp [h3, h4]
theorem filt_step {w w' : World} {n : Nat} (hs : w.heap.size ≤ w'.heap.size) (h : ∀ (k : Nat) (cs : Array Value) (t : TypeId) (fz : Nat × Nat), w.heap[k]? = some (.cells cs t fz) → (k < n ∨ keepT t = true) → ∃ fz' : Nat × Nat, w'.heap[k]? = some (.cells cs t fz')) : Sub (filterW w n) (filterW w' n) := by
 refine ⟨by rw [filt_size, filt_size]; exact hs, fun a v hc => ?_⟩
 obtain ⟨cs, t, fz, h1, h2, h3, h4⟩ := filt_cell hc
 obtain ⟨fz', h5⟩ := h _ _ _ _ h1 h2
 unfold World.cell?
 rw [filt_keep h5 h2]
 simp [h3, h4]
theorem filt_ck {N n : Nat} {w w' : World} (h : CK N w w') : Sub (filterW w n) (filterW w' n) :=
 filt_step h.size fun _ _ _ fz hk _ => h.blk ⟨fz, hk⟩
theorem filt_below {n : Nat} {w w' : World} (h : Below w.heap.size w w') : Sub (filterW w n) (filterW w' n) := filt_ck (CK.of_below h (Nat.le_refl _))
theorem filt_stored {n g : Nat} {l l0 : List Value} {w w' : World} (k : Stored g 28 l w w') (hg : w.heap[g]? = some (Obj.cells l0.toArray 28 (0, 0))) (hn : n ≤ g) : Sub (filterW w n) (filterW w' n) :=
 filt_step (by rw [k.size]; exact Nat.le_refl _) fun j cs t fz hj hk => by
  refine ⟨fz, ?_⟩
  rw [k.other j (fun e => ?_)]
  ·exact hj
  ·subst e
   rw [hg] at hj
   injection hj with hj
   injection hj with _ hj _
   subst hj
   rcases hk with hk | hk
   ·omega
   ·exact absurd hk (by decide)
theorem LH.sub {w w' : World} {h : LHead} {l : List Value} (H : LH w h l) (hs : Sub w w') : LH w' h l := (H.x w').lh hs
theorem SHs.sub {w w' : World} {v : Value} {l : List LHead} (h : SHs w v l) (hb : Sub w w') : SHs w' v l := by
 obtain ⟨A, c, h1, h2, h3, h4, h5⟩ := h
 refine ⟨A, c, h1, h2, h3, h4, fun i hi => ?_⟩
 obtain ⟨a, cs, e, hc, hd⟩ := h5 i hi
 exact ⟨a, cs, e, hc.sub hb, fun j u hj => hb.cell _ _ (hd j u hj)⟩
theorem LM.sub {w w' : World} {m : LMsg} {l : List Value} (h : LM w m l) (hb : Sub w w') : LM w' m l := by
 obtain ⟨a, ul, b, c, hs, d, h0, h1, h2, h3, h4, h5, h6, h7⟩ := h
 exact ⟨a, ul, b, c, hs, d, h0, h1.sub hb, h2.sub hb, h3.sub hb, h4.sub hb, h5.sub hb, h6.sub hb, h7⟩
theorem sub_filt {w w' : World} {n : Nat} (h : Below w.heap.size w w') (hn : w.heap.size ≤ n) : Sub w (filterW w' n) := by
 refine ⟨by rw [filt_size]; exact h.size, fun a v hc => ?_⟩
 have hlt := World.block_lt_of_cell? w a hc
 have h2 := h.cell hlt
 rw [hc] at h2
 unfold World.cell? at h2 ⊢
 cases ho : w'.heap[a.block]? with
 | none => rw [ho] at h2; cases h2
 | some o =>
  rw [ho] at h2
  cases o with
  | cells cs t fz =>
   rw [filt_keep ho (.inl (by omega))]
   exact h2
  | _ => cases h2
theorem SBf.filt {b n : Nat} {w : World} {v : Value} {l : Bytes} (h : SBf b w v l) : SBf b (filterW w n) v l := by
 obtain ⟨k, cap, cs, fz, h1, h2, h3, h4, h5, h6⟩ := h
 exact ⟨k, cap, cs, fz, h1, h2, h3, h4, filt_keep h5 (.inr (by decide)), h6⟩
theorem SBx.filt {n : Nat} {w0 w : World} {v : Value} {l : Bytes} (h : SBx w0 w v l) : SBx w0 (filterW w n) v l := h.imp id SBf.filt
theorem LHx.filt {n : Nat} {w0 w : World} {h : LHead} {l : List Value} (H : LHx w0 w h l) : LHx w0 (filterW w n) h l := by
 obtain ⟨a, b, c, ul, p, d, e, f, g, h0, h1, h2, h3⟩ := H
 exact ⟨a, b, c, ul, p, d, e, f, g, h0, h1.filt, h2.filt, h3⟩
theorem OHs.filt {n base : Nat} {w0 w : World} {v : Value} {hs : List LHead} (H : OHs w0 base w v hs) : OHs w0 base (filterW w n) v hs := by
 obtain ⟨css, h1, h2, h3⟩ := H
 refine ⟨css, h1, ?_, fun i hi => ?_⟩
 ·rcases h2 with ⟨k1, k2 | ⟨b, cap, cur, k3, k4, k5, k6⟩⟩
  ·exact ⟨k1, .inl k2⟩
  ·exact ⟨k1, .inr ⟨b, cap, cur, k3, k4, filt_keep k5 (.inr (by decide)), k6⟩⟩
 ·obtain ⟨c, e1, e2⟩ := h3 i hi
  exact ⟨c, e1, e2.filt⟩
def LMh (n : Nat) (w : World) (m : LMsg) (l : List Value) : Prop := LM (filterW w n) m l
def LHh (n : Nat) (w : World) (h : LHead) (l : List Value) : Prop := LH (filterW w n) h l
theorem LHh.lh {n : Nat} {w : World} {m : LHead} {l : List Value} (h : LHh n w m l) : LH w m l := LH.sub h (filt_sub w n)
theorem LMh.ck {n N : Nat} {w w' : World} {m : LMsg} {l : List Value} (h : LMh n w m l) (k : CK N w w') : LMh n w' m l := LM.sub h (filt_ck k)
theorem LHh.ck {n N : Nat} {w w' : World} {m : LHead} {l : List Value} (h : LHh n w m l) (k : CK N w w') : LHh n w' m l := LH.sub h (filt_ck k)
theorem LMh.below {n : Nat} {w w' : World} {m : LMsg} {l : List Value} (h : LMh n w m l) (k : Below w.heap.size w w') : LMh n w' m l := LM.sub h (filt_below k)
theorem LHh.below {n : Nat} {w w' : World} {m : LHead} {l : List Value} (h : LHh n w m l) (k : Below w.heap.size w w') : LHh n w' m l := LH.sub h (filt_below k)
theorem LMh.stored {n g : Nat} {l1 l0 : List Value} {w w' : World} {m : LMsg} {l : List Value} (h : LMh n w m l) (k : Stored g 28 l1 w w') (hg : w.heap[g]? = some (Obj.cells l0.toArray 28 (0, 0))) (hn : n ≤ g) : LMh n w' m l := LM.sub h (filt_stored k hg hn)
theorem LHh.stored {n g : Nat} {l1 l0 : List Value} {w w' : World} {m : LHead} {l : List Value} (h : LHh n w m l) (k : Stored g 28 l1 w w') (hg : w.heap[g]? = some (Obj.cells l0.toArray 28 (0, 0))) (hn : n ≤ g) : LHh n w' m l := LH.sub h (filt_stored k hg hn)
theorem LM.h {n : Nat} {w w' : World} {m : LMsg} {l : List Value} (h : LM w m l) (hb : Below w.heap.size w w') (hn : w.heap.size ≤ n) : LMh n w' m l := LM.sub h (sub_filt hb hn)
theorem LHx.h {n : Nat} {w w' : World} {h : LHead} {l : List Value} (H : LHx w w' h l) (hb : Below w.heap.size w w') (hn : w.heap.size ≤ n) : LHh n w' h l := H.filt.lh (sub_filt hb hn)
theorem LM.parts {w : World} {m : LMsg} {l : List Value} (h : LM w m l) : ∃ v1 v15 A15 c15 A1 c1, l[0]? = some (.bool m.resp) ∧ l[1]? = some v1 ∧ l[15]? = some v15 ∧ v1 = .slice A1 m.method.length c1 ∧ v15 = .slice A15 m.heads.length c15 ∧ SB w v1 m.method ∧ SHs w v15 m.heads := by
 obtain ⟨v15, h15, hs⟩ := h.heads_at
 obtain ⟨A15, c15, rfl, -⟩ := hs.form
 obtain ⟨va, ul, vb, vc, vh, vd, rfl, hm, -⟩ := h
 obtain ⟨A1, c1, rfl, hml⟩ := hm.form
 exact ⟨_, _, A15, c15, A1, c1, rfl, rfl, h15, rfl, rfl, hm, hs⟩
theorem LH.h {n : Nat} {w w' : World} {h : LHead} {l : List Value} (H : LH w h l) (hb : Below w.heap.size w w') (hn : w.heap.size ≤ n) : LHh n w' h l := LH.sub H (sub_filt hb hn)
theorem SBs.ck {N : Nat} {w w' : World} {v : Value} {ls : List Bytes} (h : SBs w v ls) (k : CK N w w') : SBs w' v ls := by
 obtain ⟨A, c, h1, h2, h3, h4⟩ := h
 refine ⟨A, c, h1, h2, h3, fun i hi => ?_⟩
 obtain ⟨a, u, e1, e2, e3⟩ := h4 i hi
 exact ⟨a, u, e1, k.cell e2, e3.ck k⟩
def ClientKeyOk (w : World) (e : Ending) (w' : World) : Prop := e = .returned (.bool true) ∧ Below w.heap.size w w'
def dropM (m : LMsg) (t : Int) : LMsg := { m with heads := m.heads.filter fun x => !(isT t x) }
theorem PMsg.drop {m : LMsg} (P : PMsg m) (t : Int) : PMsg (dropM m t) :=
 ⟨P.hasBody, P.compact, P.version, P.len, P.body, Nat.le_trans (List.length_filter_le _ _) P.many, fun h hh => P.heads h (List.mem_filter.1 hh).1, P.uri⟩
theorem drop_nil (m : LMsg) (t : Int) : (dropM m t).heads.filter (isT t) = [] := by
 rw [List.filter_eq_nil_iff]
 intro x hx
 have := (List.mem_filter.1 hx).2
 simpa using this
theorem drop_other (m : LMsg) {t s : Int} (h : s ≠ t) : (dropM m t).heads.filter (isT s) = m.heads.filter (isT s) := by
 show (m.heads.filter fun x => !(isT t x)).filter (isT s) = _
 rw [List.filter_filter]
 congr 1
 funext x
 by_cases e : x.t = s
 ·have : ¬ x.t = t := fun e2 => h (e.symm.trans e2)
  simp [isT, e, h]
 ·simp [isT, e]
theorem drop_right {m : LMsg} (R : RMsg m) (t : Int) : ∀ x ∈ (dropM m t).heads, RHead x := fun x hx => (R.heads x (List.mem_filter.1 hx).1).1
theorem drop_vc_9 {m : LMsg} (R : RCall m) : NoVC (dropM m 9) := by
 obtain ⟨pc, h5, -⟩ := first_of (R.one 5 (by simp))
 exact ⟨drop_right R.msg 9, .inr ⟨drop_nil m 9, pc, by rw [drop_other m (by decide)]; exact h5⟩⟩
theorem drop_vc_5 {m : LMsg} (R : RCall m) : NoVC (dropM m 5) := ⟨drop_right R.msg 5, .inl (drop_nil m 5)⟩
theorem drop_step {l : List LHead} {t : Int} {k : Nat} {x : LHead} (h : l[k]? = some x) : (l.take (k + 1)).filter (fun x => !(isT t x)) = (l.take k).filter (fun x => !(isT t x)) ++ (if x.t = t then [] else [x]) := by
 rw [List.take_add_one, h, List.filter_append]
 congr 1
 by_cases e : x.t = t
 ·simp [isT, e]
 ·simp [isT, e]
theorem mskey_novia (T : TypeId) (hT : IsMsgT T) (m : Nat) (a : ByteArray) (w : World) (h1 : No_via m w) :
  Calls Tryz.prog 77 #[.iface T (.pointer (some ⟨m, 0, none⟩)), .string a] w (ErrT w) := by
 have na1 := na_via hT
 have me1 := me_via hT
 have en1 := enters_of Tryz.func246 (by kernel_rfl) rfl
 have HC1 := hid h1.get
 clear h1
 go_enter Tryz.func77, Tryz.ntmps77
 go_wp2_with fail
 refine HC1.out.mono ?_
 rintro e w1 ⟨rfl, hb⟩
 have HB1 := hid hb
 clear hb
 go_wp2_with (go_at_call 92; refine (errnew_any _ _).mono ?_; rintro e w3 ⟨⟨a, rfl⟩, hb3⟩)
 go_ret2
 exact ⟨⟨_, rfl⟩, HB1.out.trans (hb3.mono HB1.out.size)⟩
theorem mskey_nocseq (T : TypeId) (hT : IsMsgT T) (m g1 : Nat) (a : ByteArray) (w : World) (h1 : w.cell? ⟨m, 1, none⟩ = some (refV (some g1))) (h6 : No_cseq m w) :
  Calls Tryz.prog 77 #[.iface T (.pointer (some ⟨m, 0, none⟩)), .string a] w (ErrT w) := by
 have na1 := na_via hT
 have me1 := me_via hT
 have en1 := enters_of Tryz.func246 (by kernel_rfl) rfl
 have na6 := na_cseq hT
 have me6 := me_cseq hT
 have en6 := enters_of Tryz.func220 (by kernel_rfl) rfl
 have HC1 := hid (getvia_any m g1 w h1)
 have HC6 := hid h6.get
 clear h1 h6
 go_enter Tryz.func77, Tryz.ntmps77
 go_wp2_with fail
 refine HC1.out.mono ?_
 rintro e w1 ⟨rfl, rfl⟩
 go_wp2_with fail
 refine HC6.out.mono ?_
 rintro e w1 ⟨rfl, hb⟩
 have HB1 := hid hb
 clear hb
 go_wp2_with (go_at_call 92; refine (errnew_any _ _).mono ?_; rintro e w3 ⟨⟨a, rfl⟩, hb3⟩)
 go_ret2
 exact ⟨⟨_, rfl⟩, HB1.out.trans (hb3.mono HB1.out.size)⟩
theorem doorserver_no (v : Value) (a : ByteArray) (w : World) (h : Calls Tryz.prog 77 #[v, .string a] w (ErrT w)) : Calls Tryz.prog 44 #[v, .string a] w (ErrT w) := by
 have HC := hid h
 clear h
 go_enter Tryz.func44, Tryz.ntmps44
 go_wp2_with (go_at_call 77; refine HC.out.mono ?_; rintro e w1 ⟨⟨a, rfl⟩, hb⟩)
 go_ret2
 exact ⟨⟨_, rfl⟩, hb⟩
def NoCV (m : LMsg) : Prop := (∀ x ∈ m.heads, RHead x) ∧ (m.heads.filter (isT 9) = [] ∨ m.heads.filter (isT 5) = [] ∧ ∃ pv, m.heads.filter (isT 9) = [pv])
def NoAtS (m : LMsg) (v : Value) (w : World) : Prop := ∃ mm, v = .iface (mtyI m) (.pointer (some ⟨mm, 0, none⟩)) ∧ (No_via mm w ∨ No_cseq mm w ∧ ∃ g1, w.cell? ⟨mm, 1, none⟩ = some (refV (some g1)))
theorem NoAtS.below {m : LMsg} {v : Value} {w w' : World} (h : NoAtS m v w) (hb : Below w.heap.size w w') : NoAtS m v w' := by
 obtain ⟨mm, h1, h2 | ⟨h2, g1, h3⟩⟩ := h
 ·exact ⟨mm, h1, .inl (h2.below hb)⟩
 ·exact ⟨mm, h1, .inr ⟨h2.below hb, g1, cell_at_below h3 hb⟩⟩
theorem NoAtS.calls {m : LMsg} {v : Value} {w : World} (h : NoAtS m v w) : ∃ mm, v = .iface (mtyI m) (.pointer (some ⟨mm, 0, none⟩)) ∧ Calls Tryz.prog 44 #[.iface (mtyI m) (.pointer (some ⟨mm, 0, none⟩)), .string ⟨#[]⟩] w (ErrT w) := by
 obtain ⟨mm, h1, h2 | ⟨h2, g1, h3⟩⟩ := h
 ·exact ⟨mm, h1, doorserver_no _ _ _ (mskey_novia _ (mtyI_ok m) mm _ w h2)⟩
 ·exact ⟨mm, h1, doorserver_no _ _ _ (mskey_nocseq _ (mtyI_ok m) mm g1 _ w h3 h2)⟩
theorem msg_vnoS {N : Nat} {m : LMsg} {cs : List Value} {w : World} (hK : KMsg N m cs w) (hG : Gl N w) (hX : NoCV m) : Calls Tryz.prog 45 #[.agg cs.toArray] w fun e w' => ∃ v, e = .returned v ∧ NoAtS m v w' ∧ Below w.heap.size w w' :=
 (hK.message hG).mono fun e w' ⟨mm, hs, h1, _, hmap, hb, n0, X, hM⟩ => by
  refine ⟨_, h1, ⟨mm, rfl, ?_⟩, hb⟩
  obtain ⟨hR, h9 | ⟨h5, pv, h9⟩⟩ := hX
  ·exact .inl (no_via_of hM hmap hK.many (fun x hx => (hK.heads x hx).nm) h9 hR)
  ·obtain ⟨g9, c9, r9⟩ := ref_of hM hmap 1 9 (by omega) (by omega) (by omega) isT_via pv h9
   exact .inr ⟨no_cseq_of hM hmap hK.many (fun x hx => (hK.heads x hx).nm) h5 hR, g9, c9⟩
theorem iserver_no (N : Nat) (m : LMsg) (cs : List Value) (w : World) (hG : Gl N w) (hK : KMsg N m cs w) (hX : NoCV m) :
  Calls Tryz.prog 18 #[.agg cs.toArray, .slice none 0 0] w (NoKeyI w) := by
 have hlen := hK.at_.len19
 have HK := hid hK
 have HG := hid hG
 have HF := hid hX
 clear hK hG hX
 obtain ⟨x0, x1, x2, x3, x4, x5, x6, x7, x8, x9, x10, x11, x12, x13, x14, x15, x16, x17, x18, rfl⟩ := list19 hlen
 clear hlen
 obtain ⟨wb, hwb⟩ : ∃ wb, wb = w.alloc (.cells #[x0, x1, x2, x3, x4, x5, x6, x7, x8, x9, x10, x11, x12, x13, x14, x15, x16, x17, x18] 28) := ⟨_, rfl⟩
 have HWB1 := hid (show wb.heap[w.heap.size]? = some (.cells ([x0, x1, x2, x3, x4, x5, x6, x7, x8, x9, x10, x11, x12, x13, x14, x15, x16, x17, x18] : List Value).toArray 28 (0, 0)) by rw [hwb]; exact heap_alloc_new w _)
 have HB0 := hid (show Below w.heap.size w wb by rw [hwb]; exact (Below.refl _ w).alloc (Nat.le_refl _) _)
 go_enter Tryz.func18, Tryz.ntmps18
 go_upto_region 1 with fail
 rw [← hwb]
 generalize Value.agg #[x0, x1, x2, x3, x4, x5, x6, x7, x8, x9, x10, x11, x12, x13, x14, x15, x16, x17, x18] = arg0
 clear hwb
 go_upto_region 2 with fail
 refine wp_region_grow 9 (fun w w' => Below w.heap.size w w') (fun w => Below wb.heap.size wb w)
  (fun i v w' => match i with
   | 0 => v = .agg #[x0, x1, x2, x3, x4, x5, x6, x7, x8, x9, x10, x11, x12, x13, x14, x15, x16, x17, x18]
   | 1 => NoAtS m v w'
   | 2 => v = .slice none 0 0
   | 3 => v = .string ⟨#[]⟩
   | 4 => ErrTV v
   | 5 => ErrTV v
   | 6 => v = .string ⟨#[]⟩
   | 7 => ErrTI v
   | 8 => v = .string ⟨#[]⟩
   | _ => True)
  [[], [0], [], [2], [1, 3], [4], [5], [5], [6]] rfl (by kernel_rfl) (by kernel_rfl) (fun _ _ h k => h.trans (k.mono h.size)) ?_ ?_ ?_ ?_
 ·intro j hj v w'
  match j, hj with
  | j + 9, _ => trivial
 ·exact (Below.refl _ _).drew
 ·simp only [List.take_succ_cons, List.take_zero, fillAll]
  refine ⟨⟨?_, ?_⟩, ⟨?_, ?_⟩, ⟨?_, ?_⟩, ⟨?_, ?_⟩, ⟨?_, ?_⟩, ⟨?_, ?_⟩, ⟨?_, ?_⟩, ⟨?_, ?_⟩, ⟨?_, ?_⟩, trivial⟩
  ·exact fun v w1 w2 h k => h
  ·intro vals w1 hI hd
   have HGI := hid ((hI.block _ (heap_lt HWB1.out)).trans HWB1.out)
   unfold GStep
   dsimp only
   go_simp
   refine wpList_load_blk (by rfl) 28 (.tmp 2) (by rfl) w.heap.size 28 (0, 0) [x0, x1, x2, x3, x4, x5, x6, x7, x8, x9, x10, x11, x12, x13, x14, x15, x16, x17, x18] (by rfl) HGI.out _ Tryz.underlying28 rfl 19 msg_size rfl ?_
   go_wp2
   exact Below.refl _ _
  ·exact fun v w1 w2 h k => h.below k
  ·intro vals w1 hI hd
   have h1 : vals 0 = _ := hd.1
   have hbw := HB0.out.trans (hI.mono HB0.out.size)
   have HC := hid (msg_vnoS (HK.out.below hbw) (HG.out.below hbw HG.out.le) HF.out)
   have HI := hid hI
   clear hd hbw
   unfold GStep
   go_wp2_with (go_at_call 45; refine HC.out.mono ?_; rintro e w2 ⟨v, rfl, hv, hb⟩; have HF2 := hid (And.intro hb hv); clear hv hb)
   exact HF2.out
  ·exact fun v w1 w2 h k => h
  ·intro vals w1 hI hd
   unfold GStep
   go_wp2
   exact Below.refl _ _
  ·exact fun v w1 w2 h k => h
  ·intro vals w1 hI hd
   have h2 : vals 2 = _ := hd.1
   have hcv := (SB.nil w1).conv 82 Tryz.underlying82
   clear hd
   unfold GStep
   go_wp2
   first | exact Below.refl _ _ | exact ⟨CK.refl _ _, rfl⟩
  ·exact fun v w1 w2 h k => h
  ·intro vals w1 hI hd
   obtain ⟨r1, r3, -⟩ := hd
   have e3 : vals 3 = _ := r3
   clear hI
   unfold GStep
   dsimp only
   generalize vals 1 = x1 at r1 ⊢
   obtain ⟨mm, rfl, HC⟩ := r1.calls
   have HC := hid HC
   clear r1 r3
   go_wp2_with (go_at_call 44; refine HC.out.mono ?_; rintro e w2 ⟨⟨a, rfl⟩, hb⟩; have HF2 := hid (And.intro hb (ErrTV.mk' a)); clear hb)
   exact HF2.out
  ·exact fun v w1 w2 h k => h
  ·intro vals w1 hI hd
   have r : ErrTV (vals 4) := hd.1
   clear hd
   unfold GStep
   dsimp only
   generalize vals 4 = q at r ⊢
   obtain ⟨a, rfl⟩ := r
   go_wp2
   exact ⟨Below.refl _ _, ErrTV.mk' a⟩
  ·exact fun v w1 w2 h k => h
  ·intro vals w1 hI hd
   have r : ErrTV (vals 5) := hd.1
   clear hd
   unfold GStep
   dsimp only
   generalize vals 5 = q at r ⊢
   obtain ⟨a, rfl⟩ := r
   go_wp2
   exact Below.refl _ _
  ·exact fun v w1 w2 h k => h
  ·intro vals w1 hI hd
   have r : ErrTV (vals 5) := hd.1
   clear hd
   unfold GStep
   dsimp only
   generalize vals 5 = q at r ⊢
   obtain ⟨a, rfl⟩ := r
   go_wp2
   exact ⟨Below.refl _ _, ErrTI.mk' a⟩
  ·exact fun v w1 w2 h k => h
  ·intro vals w1 hI hd
   have h1 : vals 6 = _ := hd.1
   clear hd
   unfold GStep
   go_wp2
   exact Below.refl _ _
 ·intro vals w2 hI hR
  simp only [List.drop_succ_cons, List.drop_zero, List.take_succ_cons, List.take_zero, fillAll]
  obtain ⟨-, -, -, -, -, -, -, r7, r8, -⟩ := hR
  have e8 : vals 8 = _ := r8
  rw [e8]
  generalize vals 7 = q7 at r7 ⊢
  obtain ⟨a, rfl⟩ := r7
  have HB2 := hid hI
  clear hI r8 e8
  go_wp2
  refine wp_region_grow 5 (CK w2.heap.size) (IW w2)
   (fun i v w' => match i with
    | 0 => v = .string ⟨#[]⟩
    | 1 => SBu w' v []
    | 2 => v = .iface 201 (.pointer (some a))
    | 3 => v = .bool false
    | 4 => SBu w' v []
    | _ => True)
   [[], [0], [], [2], [1]] rfl (by kernel_rfl) (by kernel_rfl) (fun _ _ => IW.step) ?_ ?_ ?_ ?_
  ·intro j hj v w'
   match j, hj with
   | j + 5, _ => trivial
  ·exact CK.of_below (Below.refl _ _).drew (Nat.le_refl _)
  ·simp only [List.take_succ_cons, List.take_zero, fillAll]
   refine ⟨⟨?_, ?_⟩, ⟨?_, ?_⟩, ⟨?_, ?_⟩, ⟨?_, ?_⟩, ⟨?_, ?_⟩, trivial⟩
   ·exact fun v w1 w2 h k => h
   ·intro vals w1 hI hd
    unfold GStep
    go_wp2
    exact CK.refl _ _
   ·exact fun v w1 w2 h k => h.ku k.ku
   ·intro vals w1 hI hd
    have h1 : vals 0 = _ := hd.1
    have hr := Lib.run_convert_string_bytes (P := Tryz.prog) w1 9 22 5 ⟨#[]⟩ Tryz.underlying9 Tryz.underlying22 Tryz.underlying5
    have Y := hid (conv_sbu w1 ⟨#[]⟩ (by decide))
    unfold GStep
    go_wp2
    exact ⟨CK.of_below Y.out.2 hI.size, Y.out.1⟩
   ·exact fun v w1 w2 h k => h
   ·intro vals w1 hI hd
    unfold GStep
    go_wp2
    exact CK.refl _ _
   ·exact fun v w1 w2 h k => h
   ·intro vals w1 hI hd
    have h2 : vals 2 = _ := hd.1
    unfold GStep
    go_wp2
    exact CK.refl _ _
   ·exact fun v w1 w2 h k => h.ku k.ku
   ·intro vals w1 hI hd
    have h1 : SBu w1 (vals 1) [] := hd.1
    have H1 := hid h1
    clear hd
    unfold GStep
    dsimp only
    generalize vals 1 = x1 at h1 H1 ⊢
    obtain ⟨k1, cap1, cs1, fz1, rfl, -⟩ := h1
    go_wp2
    exact ⟨CK.refl _ _, H1.out⟩
  ·intro vals w3 hI3 hR
   simp only [List.drop_succ_cons, List.drop_zero, List.take_succ_cons, List.take_zero, fillAll]
   obtain ⟨-, -, -, r3, r4, -⟩ := hR
   have e3 : vals 3 = _ := r3
   rw [e3]
   generalize vals 4 = x4 at r4 ⊢
   have H4 := hid r4
   obtain ⟨k1, cap1, cs1, fz1, rfl, -⟩ := r4
   have HI3 := hid hI3
   clear hI3 e3 r3
   go_wp2
   go_ret2
   exact ⟨⟨_, _, _, rfl⟩, HB0.out.trans ((HB2.out.trans (HI3.out.below.mono HB2.out.size)).mono HB0.out.size)⟩
theorem plain_1 {h : LHead} (ht : h.t = 1) : (plainH h).t = 1 ∧ (plainH h).params = h.params := by
 obtain ⟨t, name, text, display, u, params, num, proto, version, transport, host, port⟩ := h
 dsimp only at ht
 subst ht
 exact ⟨rfl, rfl⟩
theorem plain_2 {h : LHead} (ht : h.t = 2) : (plainH h).t = 2 ∧ (plainH h).params = h.params := by
 obtain ⟨t, name, text, display, u, params, num, proto, version, transport, host, port⟩ := h
 dsimp only at ht
 subst ht
 exact ⟨rfl, rfl⟩
theorem plain_4 {h : LHead} (ht : h.t = 4) : (plainH h).t = 4 ∧ (plainH h).text = h.text := by
 obtain ⟨t, name, text, display, u, params, num, proto, version, transport, host, port⟩ := h
 dsimp only at ht
 subst ht
 exact ⟨rfl, rfl⟩
structure CallD (m : LMsg) (fr tq id pf pt pi : LHead) : Prop where
 p : PMsg m
 h2 : m.heads.filter (isT 2) = [pf]
 h1 : m.heads.filter (isT 1) = [pt]
 h4 : m.heads.filter (isT 4) = [pi]
 f2 : firstH 2 m.heads = fr
 f1 : firstH 1 m.heads = tq
 f4 : firstH 4 m.heads = id
 t2 : fr.t = 2
 t1 : tq.t = 1
 t4 : id.t = 4
 ms2 : HMs fr
 ms1 : HMs tq
 ms4 : HMs id
 par2 : pf.params = fr.params
 par1 : pt.params = tq.params
 txt : pi.text = id.text
 txl : id.text.length ≤ 8192
 val2 : ∀ q ∈ fr.params, q.2.length ≤ 8192
 val1 : ∀ q ∈ tq.params, q.2.length ≤ 8192
 sorts : ∀ h ∈ m.heads, 0 ≤ h.t ∧ h.t ≤ 14
theorem vals_ok {l : BKVs} (h : ParOK false l) : ∀ q ∈ l, q.2.length ≤ 8192 := by
 intro p hp
 have h1 := h.2 p hp
 simp only [parB, Bool.and_eq_true, Bool.or_eq_true, decide_eq_true_eq] at h1
 rcases h1.2 with h2 | h2
 ·exact (wordS_ok h2).2
 ·rw [h2.2]; simp
theorem CallD.of {N : Nat} {m : LMsg} (H : MIn N m) (R : RCall m) : ∃ fr tq id pf pt pi, CallD m fr tq id pf pt pi := by
 obtain ⟨pf, h2, m2, t2, f2⟩ := first_of (R.one 2 (by simp))
 obtain ⟨pt, h1, m1, t1, f1⟩ := first_of (R.one 1 (by simp))
 obtain ⟨pi, h4, m4, t4, f4⟩ := first_of (R.one 4 (by simp))
 have P := PMsg.of H R.msg
 have q2 := plain_2 t2
 have q1 := plain_1 t1
 have q4 := plain_4 t4
 have r2 := (R.msg.heads pf m2).1.addr (by rw [t2]; rfl)
 have r1 := (R.msg.heads pt m1).1.addr (by rw [t1]; rfl)
 have r4 := (R.msg.heads pi m4).1.callid t4
 exact ⟨plainH pf, plainH pt, plainH pi, pf, pt, pi, P, h2, h1, h4, f2, f1, f4, q2.1, q1.1, q4.1, (P.heads pf m2).plain, (P.heads pt m1).plain, (P.heads pi m4).plain, q2.2.symm, q1.2.symm, q4.2.symm,
  by rw [q4.2]; exact (wordS_ok r4).2, by rw [q2.2]; exact vals_ok r2.2.2, by rw [q1.2]; exact vals_ok r1.2.2, fun h hh => (P.heads h hh).t⟩
theorem run_storeVar_cell {P : Program} (w : World) (g j : Nat) (ty : TypeId) (v : Value) (h1 : v.oneCell' = true) (ht : w.there g j 1) (hi : (P.info? ty).map (·.size) = some 1) : (storeVar ty ⟨g, j, none⟩ v).run P w = .ok () (w.setCell ⟨g, j, none⟩ v) := by
 have := run_storeCells_cells (P := P) g j [v] 0 w (fun k hk => by simpa using (ht k (by simpa using hk)).1) (fun k hk => by simpa using (ht k (by simpa using hk)).2)
  (fun x hx => by simp at hx; subst hx; exact h1)
 have hc : v.cells = #[v] := by cases v <;> first | rfl | cases h1
 cases hq : P.info? ty with
 | none => simp [hq] at hi
 | some i =>
  have hs : i.size = 1 := by simpa [hq] using hi
  simp only [Nat.add_zero] at this
  simp [storeVar, sizeOf, typeInfo, hq, hc, hs, this, World.setCells]
theorem wpList_store_cell {P : Program} {ops : Array Oper} {rest : List Oper} {op : Oper} {a : Act} {W : World} {Q : Exit → Act → World → Prop} (hgd : op.guard = none) (ty : TypeId) (x y : Operand) (ho : op.op = .store ty x y)
  (g j : Nat) (ty' : TypeId) (l : List Value) (v : Value) (hx : a.eval x = .pointer (some ⟨g, j, none⟩)) (hy : a.eval y = v) (hg : W.heap[g]? = some (Obj.cells l.toArray ty' (0, 0)))
  (hj : j < l.length) (h1 : v.oneCell' = true) (hi : (P.info? ty).map (·.size) = some 1)
  (h : ∀ W', Stored g ty' (l.set j v) W W' → wpList P ops Q rest (a.put op.dst undef) W') : wpList P ops Q (op :: rest) a W :=
 wpList_plain hgd fun _ hK => by
  unfold Oper.wp execOp
  simp only [ho, hx, hy, Instr.storeAt, Instr.sureAddr, Sem.run_bind, Sem.run_pure, Result.andThen_ok, run_storeVar_cell W g j ty v h1 (there_row hg j 1 (by omega)) hi]
  exact hK _ _ (h _ (stored_set hg j v))
theorem LH.txt {w : World} {h : LHead} {l : List Value} (H : LH w h l) {v : Value} {x : Bytes} (hv : SB w v x) : LH w { h with text := x } (l.set 2 v) := by
 obtain ⟨a, b, c, ul, p, d, e, f, g, rfl, h1, h2, h3, h4, h5, h6, h7, h8, h9, h10, h11, h12⟩ := H
 exact ⟨a, v, c, ul, p, d, e, f, g, rfl, h1, hv, h3, h4, h5, h6, h7, h8, h9, h10, h11, h12⟩
theorem Stored.keep {g : Nat} {ty : TypeId} {l : List Value} {w w' : World} (h : Stored g ty l w w') {k : Nat} {o : Obj} (hk : w.heap[k]? = some o) (hne : k ≠ g) : w'.heap[k]? = some o := (h.other k hne).trans hk
theorem LH.two {w : World} {h : LHead} {l : List Value} (H : LH w h l) : ∃ x0 x1 r, l = x0 :: x1 :: r ∧ r.length = 19 := by
 obtain ⟨a, b, c, ul, p, d, e, f, g, rfl, h1, h2, h3, hu, -⟩ := H
 exact ⟨_, _, _, rfl, by simp [hu.len]⟩
def TL (N : Nat) (l : List Value) (w w' : World) : Prop := Below N w w' ∧ ∀ (k : Nat) (zs : List Value), w.heap[k]? = some (Obj.cells zs.toArray 35 (0, 0)) → zs.length = 21 → ∃ zs' : List Value, w'.heap[k]? = some (Obj.cells zs'.toArray 35 (0, 0)) ∧ zs'.length = 21 ∧ (zs = l → zs' = l)
theorem TL.refl (N : Nat) (l : List Value) (w : World) : TL N l w w := ⟨Below.refl _ _, fun _ zs h h2 => ⟨zs, h, h2, fun e => e⟩⟩
theorem TL.new {N : Nat} {w : World} (l : List Value) (h : N ≤ w.heap.size) (o : Obj) : TL N l w (w.alloc o) :=
 ⟨(Below.refl _ _).alloc h _, fun k zs hk h2 => ⟨zs, (((Below.refl w.heap.size w).alloc (Nat.le_refl _) o).block k (heap_lt hk)).trans hk, h2, fun e => e⟩⟩
theorem TL.stored {N g : Nat} {l : List Value} {w w' : World} (h : Stored g 35 l w w') (hn : N ≤ g) (hl : l.length = 21) : TL N l w w' := by
 refine ⟨h.below.mono hn, fun k zs hk h2 => ?_⟩
 by_cases e : k = g
 ·subst e
  exact ⟨l, h.blk, hl, fun _ => rfl⟩
 ·exact ⟨zs, (h.other k e).trans hk, h2, fun e => e⟩
theorem LM.set_heads {w : World} {m : LMsg} {l : List Value} (h : LM w m l) {v : Value} {hs : List LHead} (hv : SHs w v hs) : LM w { m with heads := hs } (l.set 15 v) := by
 obtain ⟨a, ul, b, c, x, d, rfl, h1, h2, h3, h4, h5, h6, h7⟩ := h
 obtain ⟨u0, u1, u4, u5, u6, u8, u9, rfl, k⟩ := h2
 exact ⟨a, _, b, c, v, d, rfl, h1, ⟨u0, u1, u4, u5, u6, u8, u9, rfl, k⟩, h3, h4, hv, h6, h7⟩
theorem drop_vs_9 {m : LMsg} (R : RCall m) : NoCV (dropM m 9) := ⟨drop_right R.msg 9, .inl (drop_nil m 9)⟩
theorem drop_vs_5 {m : LMsg} (R : RCall m) : NoCV (dropM m 5) := by
 obtain ⟨pv, h9, -⟩ := first_of (R.one 9 (by simp))
 exact ⟨drop_right R.msg 5, .inr ⟨drop_nil m 5, pv, by rw [drop_other m (by decide)]; exact h9⟩⟩
theorem hs_size : (Tryz.prog.info? 26).map (·.size) = some 1 := by kernel_rfl
def T3 (t : Int) : Prop := t = 9 ∨ t = 5 ∨ t = 4
theorem t3_of (n : Nat) (h : n < 3) : ∃ T, T3 T ∧ ([.int .i64 9, .int .i64 5, .int .i64 4] : List Value)[n]'h = .int .i64 T := by
 match n, h with
 | 0, _ => exact ⟨9, .inl rfl, rfl⟩
 | 1, _ => exact ⟨5, .inr (.inl rfl), rfl⟩
 | 2, _ => exact ⟨4, .inr (.inr rfl), rfl⟩
theorem mod3 (z : Int) : ((IntKind.u64.wrap z).tmod 3).toNat < 3 := by
 have h1 : (IntKind.u64.wrap z).tmod 3 < 3 := Int.tmod_lt_of_pos _ (by decide)
 omega
theorem mod3i (z : Int) : 0 ≤ (IntKind.u64.wrap z).tmod 3 ∧ (IntKind.u64.wrap z).tmod 3 < 3 := by
 refine ⟨Int.tmod_nonneg _ ?_, Int.tmod_lt_of_pos _ (by decide)⟩
 unfold IntKind.wrap
 first | (simp only [IntKind.signed]; exact Int.emod_nonneg _ (by decide)) | (simp; omega) | omega
theorem T3.vc {m : LMsg} (R : RCall m) {t : Int} (h : T3 t) (h4 : t ≠ 4) : NoVC (dropM m t) ∧ NoCV (dropM m t) := by
 rcases h with rfl | rfl | rfl
 ·exact ⟨drop_vc_9 R, drop_vs_9 R⟩
 ·exact ⟨drop_vc_5 R, drop_vs_5 R⟩
 ·exact absurd rfl h4
theorem missing_any (N : Nat) (m : LMsg) (z : Int) (ca : List Value) (w : World) (hG : Gl N w) (hA : LM w m ca) (IA : MIn N m) (hz : I64 z) (b1 : Bool) (rm : m.resp = b1) :
  Calls Tryz.prog 4 #[.agg ca.toArray, .int .i64 z] w (ClientKeyOk w) := by
 have hlx := hA.len19
 have hA0 := hA
 obtain ⟨v1, v15, Ax, cx, Am, cm, e0, e1, e15, rfl, rfl, hsm, hsh⟩ := hA.parts
 rw [rm] at e0
 obtain ⟨x0, x1, x2, x3, x4, x5, x6, x7, x8, x9, x10, x11, x12, x13, x14, x15, x16, x17, x18, rfl⟩ := list19 hlx
 obtain rfl : x0 = .bool b1 := by simpa using e0
 obtain rfl : x1 = .slice Am m.method.length cm := by simpa using e1
 obtain rfl : x15 = .slice Ax m.heads.length cx := by simpa using e15
 clear e0 e1 e15 hlx
 obtain ⟨wb, hwb⟩ : ∃ wb, wb = w.alloc (.cells #[.bool b1, .slice Am m.method.length cm, x2, x3, x4, x5, x6, x7, x8, x9, x10, x11, x12, x13, x14, .slice Ax m.heads.length cx, x16, x17, x18] 28) := ⟨_, rfl⟩
 have HB0 := hid (show Below w.heap.size w wb by rw [hwb]; exact (Below.refl _ w).alloc (Nat.le_refl _) _)
 have HSZ := hid (show wb.heap.size = w.heap.size + 1 by rw [hwb]; simp)
 have hb0 : wb.heap[w.heap.size]? = some (.cells ([.bool b1, .slice Am m.method.length cm, x2, x3, x4, x5, x6, x7, x8, x9, x10, x11, x12, x13, x14, .slice Ax m.heads.length cx, x16, x17, x18] : List Value).toArray 28 (0, 0)) := by rw [hwb]; exact heap_alloc_new w _
 have HX1 := hid (show ∀ wx, Below wb.heap.size wb wx → wx.heap[w.heap.size]? = some (.cells ([.bool b1, .slice Am m.method.length cm, x2, x3, x4, x5, x6, x7, x8, x9, x10, x11, x12, x13, x14, .slice Ax m.heads.length cx, x16, x17, x18] : List Value).toArray 28 (0, 0)) from fun wx h => by rw [h.block _ (by have := HSZ.out; omega)]; exact hb0)
 have HBW := hid (show ∀ wx, Below wb.heap.size wb wx → Below w.heap.size w wx from fun wx h => HB0.out.trans (h.mono (by have := HSZ.out; omega)))
 have HLA := hid (show ∀ wx, Below wb.heap.size wb wx → LM wx m [.bool b1, .slice Am m.method.length cm, x2, x3, x4, x5, x6, x7, x8, x9, x10, x11, x12, x13, x14, .slice Ax m.heads.length cx, x16, x17, x18] from fun wx h => hA.below (HBW.out wx h))
 have HGL := hid (show ∀ wx, Below wb.heap.size wb wx → Gl N wx from fun wx h => hG.below (HBW.out wx h) hG.le)
 have HSW := hid hsh
 have HG0 := hid hG
 have HL0 := hid hA0
 have HA := hid IA
 have HBL := hid (Below.refl wb.heap.size wb)
 have HRM := hid rm
 have HZ := hid hz
 clear hG hA hA0 IA rm hsm hsh hb0 hz
 go_enter Tryz.func4, Tryz.ntmps4
 go_upto_region 1 with fail
 rw [← hwb]
 generalize Value.agg #[.bool b1, .slice Am m.method.length cm, x2, x3, x4, x5, x6, x7, x8, x9, x10, x11, x12, x13, x14, .slice Ax m.heads.length cx, x16, x17, x18] = arg0
 clear hwb
 go_upto_if 15 with (first
  | (refine wpList_load_any_w (by rfl) 28 (.tmp 2) (by rfl) ⟨w.heap.size, 0, none⟩ (by rfl) _ _ (row_cells (HX1.out _ HBL.out)) Tryz.underlying28 (by rfl) (by rw [msg_size]; rfl) ?_)
  | (go_at_call 6; refine (fits1_any m _ _ (HLA.out _ HBL.out)).mono ?_; rintro e wn ⟨⟨b, rfl⟩, hbn⟩; have HBL0 := HBL; clear HBL; have HBL := hid (HBL0.out.trans (hbn.mono HBL0.out.size)); clear HBL0 hbn; cases b)
  | fail)
 ·go_wp2_with fail
  go_ret
  exact ⟨rfl, HBW.out _ HBL.out⟩
 go_upto_if 18 with (first
  | (refine wpList_load_any_w (by rfl) 28 (.tmp 2) (by rfl) ⟨w.heap.size, 0, none⟩ (by rfl) _ _ (row_cells (HX1.out _ HBL.out)) Tryz.underlying28 (by rfl) (by rw [msg_size]; rfl) ?_)
  | (go_at_call 8; refine (iscall_any m _ _ (HLA.out _ HBL.out) HA.out.bd).mono ?_; rintro e wn ⟨⟨b, rfl, hb⟩, hbn⟩; have HBL0 := HBL; clear HBL; have HBL := hid (HBL0.out.trans (hbn.mono HBL0.out.size)); clear HBL0 hbn; have HRA := hid hb; clear hb; cases b)
  | fail)
 ·have HK := hid (known_any N _ (HGL.out _ HBL.out))
  go_wp2_with (go_at_call 11; refine HK.out.mono ?_; rintro e w9 ⟨rfl, hb⟩)
  go_ret
  exact ⟨rfl, HBW.out _ (HBL.out.trans (hb.mono HBL.out.size))⟩
 have HR := hid (HRA.out (by first | rfl | trivial))
 have HMN := hid (show m.heads.length ≤ 1000 by have := HR.out.msg.many; omega)
 have HP := hid (PMsg.of HA.out HR.out.msg)
 clear HRA
 obtain ⟨WL, hWL⟩ : ∃ WL, WL = wn.alloc (.cells #[.int .i64 9, .int .i64 5, .int .i64 4] 3) := ⟨_, rfl⟩
 have HBW0 := hid (show Below wn.heap.size wn WL by rw [hWL]; exact (Below.refl _ wn).alloc (Nat.le_refl _) _)
 have hr3 := mod3 z
 obtain ⟨hr0, hr1⟩ := mod3i z
 go_upto_region 6 with fail
 obtain ⟨T, hT, hTe⟩ := t3_of _ hr3
 simp only [hTe]
 rw [← hWL]
 have HT := hid hT
 have HBE := hid (HBL.out.trans (HBW0.out.mono HBL.out.size))
 clear hWL hT hTe hr3 hr0 hr1 HBW0
 have HUP := hid (show ∀ wx, Below WL.heap.size WL wx → Below wb.heap.size wb wx from fun wx h => HBE.out.trans (h.mono HBE.out.size))
 clear HBL HBE
 have HBL := hid (Below.refl WL.heap.size WL)
 have HX1 := hid (fun wx (h : Below WL.heap.size WL wx) => HX1.out wx (HUP.out wx h))
 have HBW := hid (fun wx (h : Below WL.heap.size WL wx) => HBW.out wx (HUP.out wx h))
 have HLA := hid (fun wx (h : Below WL.heap.size WL wx) => HLA.out wx (HUP.out wx h))
 have HGL := hid (fun wx (h : Below WL.heap.size WL wx) => HGL.out wx (HUP.out wx h))
 go_wp2_with fail
 go_loopw [5, 6] (fun o i wr => ∃ k : Nat, k ≤ m.heads.length ∧ i = .int .i64 k ∧ OHs w WL.heap.size wr o ((m.heads.take k).filter fun x => !(isT T x)) ∧ Below WL.heap.size WL wr) (fun _ i _ => m.heads.length - (intOf i).toNat)
 case atStart => exact ⟨0, Nat.zero_le _, rfl, OHs.nil _ _ _, Below.refl _ _⟩
 case round =>
  obtain ⟨k, hk, rfl, ho, hb⟩ := hrel
  obtain ⟨wo, rfl⟩ : ∃ wo : World, wo = wr := ⟨_, rfl⟩
  have HBL := hid hb
  clear hb
  have c15 := row_at (HX1.out _ HBL.out) 15 _ rfl
  have hln : (m.heads.length : Int) ≤ 1000 := by have := HMN.out; omega
  by_cases hlt : k < m.heads.length
  ·obtain ⟨a, c', cs, h, e1, hh, hLH, hcell⟩ := HSW.out.at_ k hlt
   cases e1
   have hx := hLH.x wo
   have HX := hid hx
   have HLE := hid hx.len
   have HONE := hid hx.one
   have HWO := hid (Sub.of_below (HBW.out _ HBL.out))
   have HCE := hid (show ∀ j u, cs[j]? = some u → wo.cell? ((a.add (k * 21)).add j) = some u from fun j u hj => HWO.out.cell _ _ (hcell j u hj))
   have hLT := hid (And.intro (Nat.succ_le_of_lt hlt) hh)
   have hk1 : (k : Int) < m.heads.length := by omega
   have hk2 : (0 : Int) ≤ k := by omega
   have d0 : wo.cell? ((a.add (k * 21)).add 0) = some (.int .i64 h.t) := HCE.out 0 _ (by obtain ⟨_, _, _, _, _, _, _, _, _, h0, -⟩ := hLH; rw [h0]; rfl)
   rw [Addr.add_zero'] at d0
   obtain ⟨tj, htj⟩ : ∃ tj, tj = h.t := ⟨_, rfl⟩
   rw [← htj] at d0
   have HO0 := hid ho
   clear hcell hLH hlt hh hx ho
   by_cases het : tj = T
   ·have hne : (tj != T) = false := by simp [het]
    have HNX := hid (show (m.heads.take (k + 1)).filter (fun x => !(isT T x)) = (m.heads.take k).filter (fun x => !(isT T x)) by rw [drop_step hLT.out.2, if_pos (htj.symm.trans het), List.append_nil])
    clear het htj
    go_wp2_with fail
    go_roundw
    case rel => exact ⟨k + 1, hLT.out.1, by simp, by rw [HNX.out]; exact HO0.out, HBL.out⟩
    case measure => exact meas_step hLT.out.1 (by simp)
   ·have hne : (tj != T) = true := by simp [het]
    have HNX := hid (show (m.heads.take (k + 1)).filter (fun x => !(isT T x)) = (m.heads.take k).filter (fun x => !(isT T x)) ++ [h] by rw [drop_step hLT.out.2, if_neg (by rw [← htj]; exact het)])
    have ho := HO0.out
    obtain ⟨css, hc1, hc2, hc3⟩ := ho
    have HC1 := hid hc1
    have HC3 := hid hc3
    obtain ⟨q, hq⟩ : ∃ q, q = ((m.heads.take k).filter fun x => !(isT T x)).length := ⟨_, rfl⟩
    have HQ := hid (show ((m.heads.take k).filter fun x => !(isT T x)).length = q from hq.symm)
    have HQL := hid (show (q + 1) * 400 ≤ 140737488355328 by
     have h1 := List.length_filter_le (fun x => !(isT T x)) (m.heads.take k)
     have h2 : (m.heads.take k).length ≤ k := by rw [List.length_take]; omega
     have := HMN.out
     omega)
    rw [← hq] at hc2
    obtain ⟨A3, k3, rfl⟩ := own_slice hc2
    have HOW := hid hc2
    have HBN := hid HBL.out.size
    clear hc1 hc2 hc3 hq het htj
    obtain ⟨y0, y1, y2, y3, y4, y5, y6, y7, y8, y9, y10, y11, y12, y13, y14, y15, y16, y17, y18, y19, y20, rfl⟩ := list21 HLE.out
    go_wp2_with (first
     | (refine wpList_load_any (by rfl) 35 (.tmp 45) (by rfl) (a.add (k * 21)) (by rfl) [y0, y1, y2, y3, y4, y5, y6, y7, y8, y9, y10, y11, y12, y13, y14, y15, y16, y17, y18, y19, y20] _ HCE.out Tryz.underlying35 rfl (by rw [head_size, HLE.out]) ?_)
     | (at_builtin; refine app_one WL.heap.size rfl (.tmp 41) (.tmp 47) 26 35 (.agg zeroH.toArray) 21 400 rfl Tryz.underlying26 head_info rfl (by decide) (by decide) (.slice A3 q k3) q css.flatten [y0, y1, y2, y3, y4, y5, y6, y7, y8, y9, y10, y11, y12, y13, y14, y15, y16, y17, y18, y19, y20] (0, 0) rfl rfl rfl (List.all_eq_true.1 HONE.out) HOW.out HBN.out HQL.out ?_; intro v1 w3 ho3 hg3)
     | fail)
    have HK3 := hid (grown_ku hg3 HOW.out (by decide))
    have HB3 := hid (HBL.out.grown hg3 HBN.out (fun q hq => (HOW.out.lt q hq).1))
    have HO3 := hid (show OHs w WL.heap.size w3 v1 ((m.heads.take (k + 1)).filter fun x => !(isT T x)) by
     rw [HNX.out]
     exact OHs.snoc (w := wo) HC1.out HC3.out HX.out HK3.out (by rw [HQ.out]; exact ho3))
    clear ho3 hg3
    go_wp2
    go_roundw
    case rel => exact ⟨k + 1, hLT.out.1, by simp, HO3.out, HB3.out⟩
    case measure => exact meas_step hLT.out.1 (by simp)
  ·have hke : k = m.heads.length := by omega
   subst hke
   have HO := hid (show OHs w WL.heap.size wo _ (dropM m T).heads by have h := ho; rw [List.take_length] at h; exact h)
   clear ho hk
   obtain ⟨A3, k3, rfl⟩ := HO.out.form
   have HG := hid (HX1.out _ HBL.out)
   have hnl : ¬ ((m.heads.length : Nat) : Int) < m.heads.length := by omega
   go_upto_region 13 with (first
    | (refine wpList_store_cell (by rfl) 26 (.tmp 50) (.tmp 49) (by rfl) w.heap.size 15 28 [.bool b1, .slice Am m.method.length cm, x2, x3, x4, x5, x6, x7, x8, x9, x10, x11, x12, x13, x14, .slice Ax m.heads.length cx, x16, x17, x18] _ (by rfl) (by rfl) HG.out (by simp) rfl hs_size ?_; intro W2 hst; have HST := hid hst; clear hst)
    | fail)
   have HBF := hid ((HBW.out _ HBL.out).trans HST.out.below)
   have HSU := hid (Sub.of_below HBF.out)
   have HLM := hid (show LM W2 (dropM m T) [.bool b1, .slice Am m.method.length cm, x2, x3, x4, x5, x6, x7, x8, x9, x10, x11, x12, x13, x14, .slice A3 (dropM m T).heads.length k3, x16, x17, x18] from (HL0.out.sub HSU.out).set_heads ((HO.out.stored HST.out HG.out (by decide) (by decide)).shs HSU.out))
   have HGB := hid (show W2.heap[w.heap.size]? = some (.cells ([.bool b1, .slice Am m.method.length cm, x2, x3, x4, x5, x6, x7, x8, x9, x10, x11, x12, x13, x14, .slice A3 (dropM m T).heads.length k3, x16, x17, x18] : List Value).toArray 28 (0, 0)) from HST.out.blk)
   have HGL2 := hid (HG0.out.below HBF.out HG0.out.le)
   clear HX1 HLA HGL HBW HUP
   have HX1 := hid (show ∀ wx, Below W2.heap.size W2 wx → wx.heap[w.heap.size]? = some (.cells ([.bool b1, .slice Am m.method.length cm, x2, x3, x4, x5, x6, x7, x8, x9, x10, x11, x12, x13, x14, .slice A3 (dropM m T).heads.length k3, x16, x17, x18] : List Value).toArray 28 (0, 0)) from fun wx h => by rw [h.block _ (heap_lt HGB.out)]; exact HGB.out)
   have HBW := hid (show ∀ wx, Below W2.heap.size W2 wx → Below w.heap.size w wx from fun wx h => HBF.out.trans (h.mono HBF.out.size))
   have HLA := hid (show ∀ wx, Below W2.heap.size W2 wx → LM wx (dropM m T) [.bool b1, .slice Am m.method.length cm, x2, x3, x4, x5, x6, x7, x8, x9, x10, x11, x12, x13, x14, .slice A3 (dropM m T).heads.length k3, x16, x17, x18] from fun wx h => HLM.out.below h)
   have HGL := hid (show ∀ wx, Below W2.heap.size W2 wx → Gl N wx from fun wx h => HG0.out.below (HBW.out wx h) HG0.out.le)
   clear HBL HG HST HO HSU HLM HGB HGL2 c15
   have HBL := hid (Below.refl W2.heap.size W2)
   have c0 := row_at (HX1.out _ HBL.out) 0 _ rfl
   by_cases h4 : T = 4
   ·have h4' : (T == 4) = true := by simp [h4]
    subst h4
    cases b1
    ·go_upto_region 18 with (first
      | (refine wpList_load_any_w (by rfl) 28 (.tmp 2) (by rfl) ⟨w.heap.size, 0, none⟩ (by rfl) _ _ (row_cells (HX1.out _ HBL.out)) Tryz.underlying28 (by rfl) (by rw [msg_size]; rfl) ?_)
      | (go_at_call 20; refine (dlg_uas_noid N (dropM m 4) _ _ (HGL.out _ HBL.out) ((HP.out.drop 4).k (HLA.out _ HBL.out)) (drop_nil m 4) (drop_right HR.out.msg 4) HRM.out).mono ?_; rintro e wn ⟨⟨A9, l9, c9, rfl⟩, hbn⟩; have HBL0 := HBL; clear HBL; have HBL := hid (HBL0.out.trans (hbn.mono HBL0.out.size)); clear HBL0 hbn)
      | fail)
     go_wp2_with (first
      | (go_at_call 11; refine (known_any N _ (HGL.out _ HBL.out)).mono ?_; rintro e wn ⟨rfl, hbn⟩; have HBL0 := HBL; clear HBL; have HBL := hid (HBL0.out.trans (hbn.mono HBL0.out.size)); clear HBL0 hbn)
      | fail)
     go_ret
     exact ⟨rfl, HBW.out _ HBL.out⟩
    ·go_upto_region 18 with (first
      | (refine wpList_load_any_w (by rfl) 28 (.tmp 2) (by rfl) ⟨w.heap.size, 0, none⟩ (by rfl) _ _ (row_cells (HX1.out _ HBL.out)) Tryz.underlying28 (by rfl) (by rw [msg_size]; rfl) ?_)
      | (go_at_call 20; refine (dlg_res_noid N (dropM m 4) _ _ (HGL.out _ HBL.out) ((HP.out.drop 4).k (HLA.out _ HBL.out)) (drop_nil m 4) (drop_right HR.out.msg 4) HRM.out).mono ?_; rintro e wn ⟨⟨A9, l9, c9, rfl⟩, hbn⟩; have HBL0 := HBL; clear HBL; have HBL := hid (HBL0.out.trans (hbn.mono HBL0.out.size)); clear HBL0 hbn)
      | fail)
     go_wp2_with (first
      | (go_at_call 11; refine (known_any N _ (HGL.out _ HBL.out)).mono ?_; rintro e wn ⟨rfl, hbn⟩; have HBL0 := HBL; clear HBL; have HBL := hid (HBL0.out.trans (hbn.mono HBL0.out.size)); clear HBL0 hbn)
      | fail)
     go_ret
     exact ⟨rfl, HBW.out _ HBL.out⟩
   ·have h4' : (T == 4) = false := by simpa using h4
    cases b1
    ·go_upto_region 20 with (first
      | (refine wpList_load_any_w (by rfl) 28 (.tmp 2) (by rfl) ⟨w.heap.size, 0, none⟩ (by rfl) _ _ (row_cells (HX1.out _ HBL.out)) Tryz.underlying28 (by rfl) (by rw [msg_size]; rfl) ?_)
      | (go_at_call 21; refine (iclient_no N (dropM m T) _ _ (HGL.out _ HBL.out) ((HP.out.drop T).k (HLA.out _ HBL.out)) (HT.out.vc HR.out h4).1).mono ?_; rintro e wn ⟨⟨A9, l9, c9, rfl⟩, hbn⟩; have HBL0 := HBL; clear HBL; have HBL := hid (HBL0.out.trans (hbn.mono HBL0.out.size)); clear HBL0 hbn)
      | fail)
     have c0 := row_at (HX1.out _ HBL.out) 0 _ rfl
     go_upto_region 23 with (first
      | (refine wpList_load_any_w (by rfl) 28 (.tmp 2) (by rfl) ⟨w.heap.size, 0, none⟩ (by rfl) _ _ (row_cells (HX1.out _ HBL.out)) Tryz.underlying28 (by rfl) (by rw [msg_size]; rfl) ?_)
      | (go_at_call 18; refine (iserver_no N (dropM m T) _ _ (HGL.out _ HBL.out) ((HP.out.drop T).k (HLA.out _ HBL.out)) (HT.out.vc HR.out h4).2).mono ?_; rintro e wn ⟨⟨A9, l9, c9, rfl⟩, hbn⟩; have HBL0 := HBL; clear HBL; have HBL := hid (HBL0.out.trans (hbn.mono HBL0.out.size)); clear HBL0 hbn)
      | fail)
     go_wp2_with (first
      | (go_at_call 11; refine (known_any N _ (HGL.out _ HBL.out)).mono ?_; rintro e wn ⟨rfl, hbn⟩; have HBL0 := HBL; clear HBL; have HBL := hid (HBL0.out.trans (hbn.mono HBL0.out.size)); clear HBL0 hbn)
      | fail)
     go_ret
     exact ⟨rfl, HBW.out _ HBL.out⟩
    ·go_upto_region 20 with (first
      | (refine wpList_load_any_w (by rfl) 28 (.tmp 2) (by rfl) ⟨w.heap.size, 0, none⟩ (by rfl) _ _ (row_cells (HX1.out _ HBL.out)) Tryz.underlying28 (by rfl) (by rw [msg_size]; rfl) ?_)
      | (go_at_call 21; refine (iclient_no N (dropM m T) _ _ (HGL.out _ HBL.out) ((HP.out.drop T).k (HLA.out _ HBL.out)) (HT.out.vc HR.out h4).1).mono ?_; rintro e wn ⟨⟨A9, l9, c9, rfl⟩, hbn⟩; have HBL0 := HBL; clear HBL; have HBL := hid (HBL0.out.trans (hbn.mono HBL0.out.size)); clear HBL0 hbn)
      | fail)
     have c0 := row_at (HX1.out _ HBL.out) 0 _ rfl
     go_wp2_with (first
      | (go_at_call 11; refine (known_any N _ (HGL.out _ HBL.out)).mono ?_; rintro e wn ⟨rfl, hbn⟩; have HBL0 := HBL; clear HBL; have HBL := hid (HBL0.out.trans (hbn.mono HBL0.out.size)); clear HBL0 hbn)
      | fail)
     go_ret
     exact ⟨rfl, HBW.out _ HBL.out⟩
