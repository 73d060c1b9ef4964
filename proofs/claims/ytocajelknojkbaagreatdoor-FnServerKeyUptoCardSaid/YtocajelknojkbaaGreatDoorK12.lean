import Derived.Test.YtocajelknojkbaaGreatDoorK11
set_option maxRecDepth 100000
set_option maxHeartbeats 16000000
set_option linter.all false
namespace Go.Proofs.YtocajelknojkbaaGreatDoor
open Go.Lib (hid)
open Go.RowKit
theorem space_enters : ∀ args w, (callFunc 173 args).run Tryz.prog w = .ok (.enter 173 args) w := enters_of Tryz.func173 (by kernel_rfl) rfl
theorem triml_any (s : ByteArray) (w : World) (hG : G0 w) : Calls Tryz.prog 172 #[.string s, .func (.func 173) #[] #[]] w fun e w' => ∃ t, e = .returned (.string t) ∧ t.size ≤ s.size ∧ Below w.heap.size w w' := by
 refine (Tryz.strings_TrimLeftFunc_grows 173 #[] space_enters Lib.isSpaceR s w (fun W x hx hb => ?_)).mono ?_
 ·have h := Tryz.unicode_IsSpace_any (x : Int) W (by omega) (by omega) (WhiteTab_below hG.white hb)
  rw [Lib.isSpaceZ_nat] at h
  exact h
 ·rintro e w' ⟨rfl, hb⟩
  refine ⟨_, rfl, ?_, hb⟩
  unfold Lib.trimLeftF
  split
  ·exact Nat.zero_le _
  ·exact ext_size _ _ _
def kv4 : Array Value := #[.string ⟨#[]⟩, .string ⟨#[]⟩, .string ⟨#[]⟩, .string ⟨#[]⟩, .string ⟨#[]⟩, .string ⟨#[]⟩, .string ⟨#[]⟩, .string ⟨#[]⟩]
theorem made_kv4 : madeCells (Value.agg #[.string ⟨#[]⟩, .string ⟨#[]⟩]).cells (Int.toNat 4 * 2) = kv4 := by kernel_rfl
theorem make_kv (w : World) : Sem.run Tryz.prog (Instr.makeSlice 105 (.int .i64 0) (.int .i64 4)) w = .ok (.slice (some ⟨w.heap.size, 0, none⟩) 0 4) (w.alloc (.cells kv4 207)) := by
 obtain ⟨i, hi, hzz⟩ := Option.map_eq_some_iff.1 kv_info
 simp only [Prod.mk.injEq] at hzz
 obtain ⟨hz, hs, hb⟩ := hzz
 have hr := run_make (P := Tryz.prog) w 105 207 i (.agg #[.string ⟨#[]⟩, .string ⟨#[]⟩]) Tryz.underlying105 hi hz .i64 .i64 0 4 (by omega) (by omega) (by rw [hb]; decide) (by decide)
 rw [hs, made_kv4] at hr
 exact hr
theorem newparams_any (w : World) : Calls Tryz.prog 163 #[] w fun e w' => e = .returned (.slice (some ⟨w.heap.size, 0, none⟩) 0 4) ∧ w'.ownsRow w.heap.size 207 2 (.slice (some ⟨w.heap.size, 0, none⟩) 0 4) 0 [] ∧ Below w.heap.size w w' := by
 have q := make_kv
 go_enter Tryz.func163, Tryz.ntmps163
 go_wp2
 go_ret
 exact ⟨rfl, ⟨rfl, .inr ⟨w.heap.size, 4, kv4, rfl, Nat.le_refl _, heap_alloc_new w _, by omega, by decide, rfl, rfl⟩⟩, (Below.refl _ w).alloc (Nat.le_refl _) _⟩
def UPost (n0 g j : Nat) (cs : List Value) (x : Value) (lx : KVs) (sz : Nat) (w : World) (e : Ending) (w' : World) : Prop := ∃ n v1 l1, e = .returned (.tuple #[.int .i64 (n : Nat), .nilIface]) ∧ n ≤ sz ∧ UR2 n0 w' g (cs.set j v1) j v1 l1 x lx ∧ Below n0 w w'
theorem set_set (cs : List Value) (j : Nat) (a b : Value) : (cs.set j a).set j b = cs.set j b := by simp
theorem iter_kept {w w' : World} {g : Nat} {s : ByteArray} {p : Nat} (h : w.heap[g]? = some (.stringIter s p)) (k : ItK w w') : w'.heap[g]? = some (.stringIter s p) := k g s p h
theorem UR2.iter {n0 g j H p p2 : Nat} {w : World} {cs : List Value} {v x : Value} {l lx : KVs} {t : ByteArray} (h : UR2 n0 w g cs j v l x lx) (hit : w.heap[H]? = some (.stringIter t p)) : UR2 n0 (w.iterAt H t p2) g cs j v l x lx := by
 have hne : ∀ (k : Nat) (c : Array Value) (ty : TypeId) (fz : Nat × Nat), w.heap[k]? = some (Obj.cells c ty fz) → (w.iterAt H t p2).heap[k]? = some (Obj.cells c ty fz) := by
  intro k c ty fz hk
  have hkH : k ≠ H := by
   rintro rfl
   rw [hk] at hit
   cases hit
  rw [← hk]
  unfold World.iterAt
  simp [Array.getElem?_setIfInBounds, Ne.symm hkH]
 have own : ∀ (y : Value) (ly : KVs), w.ownsRow n0 207 2 y ly.length (kvCells ly) → (w.iterAt H t p2).ownsRow n0 207 2 y ly.length (kvCells ly) := by
  rintro y ly ⟨h1, h2 | ⟨b, cap, cur, h3, h4, h5, h6⟩⟩
  ·exact ⟨h1, .inl h2⟩
  ·exact ⟨h1, .inr ⟨b, cap, cur, h3, h4, hne _ _ _ _ h5, h6⟩⟩
 exact ⟨h.lo, hne _ _ _ _ h.blk, h.at_, own _ _ h.own, own _ _ h.other, h.apart⟩
theorem UR2.drew {n0 g j : Nat} {w : World} {cs : List Value} {v x : Value} {l lx : KVs} (h : UR2 n0 w g cs j v l x lx) : UR2 n0 w.drew g cs j v l x lx := ⟨h.lo, h.blk, h.at_, h.own, h.other, h.apart⟩
structure UI (n0 g j H : Nat) (cs : List Value) (x : Value) (lx : KVs) (t : ByteArray) (w wr : World) (k : Nat) (v : Value) (l : KVs) : Prop where
 ur : UR2 n0 wr g (cs.set j v) j v l x lx
 len : l.length ≤ k + 2
 it : wr.heap[H]? = some (.stringIter t k)
 bl : Below n0 w wr
theorem UI.add {n0 g j H : Nat} {cs : List Value} {x : Value} {lx : KVs} {t : ByteArray} {w wr w2 : World} {k : Nat} {v v1 : Value} {l l1 : KVs} (h : UI n0 g j H cs x lx t w wr k v l) (hu : UR2 n0 w2 g ((cs.set j v).set j v1) j v1 l1 x lx) (hl : l1.length ≤ l.length + 1) (hb : Below n0 wr w2) (hi : ItK wr w2) (hk : l.length + 1 ≤ k + 2) : UI n0 g j H cs x lx t w w2 k v1 l1 :=
 ⟨by rw [set_set] at hu; exact hu, by omega, iter_kept h.it hi, h.bl.trans hb⟩
theorem unmarshal_any (N n0 g j : Nat) (cs : List Value) (v : Value) (l : KVs) (x : Value) (lx : KVs) (s : ByteArray) (sp en : Nat) (w : World) (hG : Gl N w) (hN : N ≤ n0) (hU : UR2 n0 w g cs j v l x lx) (hl : l.length ≤ 2) (hs : s.size ≤ 1073741000) (h1 : sp ≠ 34 ∧ sp ≠ 61 ∧ sp < 128) (h2 : en < 128) :
  Calls Tryz.prog 164 #[.string s, .int .i32 sp, .int .i32 en, .pointer (some ⟨g, j, none⟩)] w (UPost n0 g j cs x lx s.size w) := by
 have HU := hid hU
 have HSZ := hid hs
 have HG := hid hG
 have HN := hid (And.intro hN hl)
 have HTR := hid (triml_any s w hG.get)
 clear hU hs hG hN hl h1 h2
 go_enter Tryz.func164, Tryz.ntmps164
 go_wp2_with (go_at_call 172; refine HTR.out.mono ?_; rintro e wt ⟨t, rfl, hts, hbt⟩)
 have HTS := hid hts
 have HBT := hid hbt
 have HS := hid (show t.size ≤ 1073741000 from Nat.le_trans hts HSZ.out)
 have HUT := hid (HU.out.below hbt)
 clear hts hbt
 go_loopw [8, 10, 11, 12, 13, 14, 15] (fun n8 a b c d _ _ wr => ∃ (k start sep st : Nat) (q : Int) (v' : Value) (l' : KVs), k ≤ t.size ∧ n8 = .int .i64 t.size ∧ a = .int .i64 start ∧ b = .int .i64 sep ∧ c = .int .i64 q ∧ d = .int .i64 st ∧ start ≤ k ∧ (sep = 0 ∨ sep < k) ∧ (st = 1 ∨ st = 2 ∨ (st = 3 ∧ start ≤ sep ∧ sep < k) ∨ (st = 4 ∧ ∃ qn : Nat, q = qn ∧ qn < k)) ∧ UI n0 g j wt.heap.size cs x lx t w wr k v' l') (fun _ _ _ _ _ _ _ wr => t.size - wr.iterPos wt.heap.size)
 case atStart =>
  refine ⟨0, 0, 0, 1, -1, v, l, Nat.zero_le _, rfl, rfl, rfl, rfl, rfl, Nat.le_refl _, .inl rfl, .inl rfl, ⟨?_, by have := HN.out.2; omega, by simpa using World.iter_heap wt t 0, (HBT.out.mono HU.out.le).alloc (Nat.le_trans HU.out.le HBT.out.size) _⟩⟩
  have e : cs.set j v = cs := by
   apply List.ext_getElem?
   intro q
   by_cases hq : q = j
   ·subst hq
    rw [List.getElem?_set_self (List.getElem?_eq_some_iff.1 HU.out.at_).1, HU.out.at_]
   ·rw [List.getElem?_set_ne (Ne.symm hq)]
  rw [e]
  exact HUT.out.below ((Below.refl _ _).alloc (Nat.le_refl _) _)
 case round =>
  obtain ⟨k, start, sep, st, q, v', l', hk, rfl, rfl, rfl, rfl, rfl, hst, hsp, hstate, hui⟩ := hrel
  obtain ⟨wo, rfl⟩ : ∃ wo : World, wo = wr := ⟨_, rfl⟩
  have UIK := hid hui
  have hit := hui.it
  clear hui
  have hts := HS.out
  have hti : (t.size : Int) ≤ 1073741000 := by omega
  clear hts
  have a1 : (start : Int) ≤ k := by omega
  have a2 : (k : Int) ≤ t.size := by omega
  have a3 : start ≤ t.size := by omega
  have a4 : (start : Int) ≤ t.size := by omega
  have a5 : (0 : Int) ≤ start := by omega
  have a6 : (0 : Int) ≤ k := by omega
  by_cases hlt : k < t.size
  ·obtain ⟨r, n, hdec, hn1, hn2, hskip, hlow, hhigh, hmax⟩ := next_rune t k hlt
   have hnx : ∀ ty, (Instr.next (.pointer (some ⟨wt.heap.size, 0, none⟩)) true ty).run Tryz.prog wo = .ok (.tuple #[.bool true, .int .i64 k, .int .i32 r]) (wo.iterAt wt.heap.size t (k + n)) := fun ty => by
    rw [Lib.run_next_any_at wo wt.heap.size t k ty hit hlt, hdec]
   have hit2 := Lib.iterAt_heap wo wt.heap.size t k (k + n) hit
   have hb2 : Below wt.heap.size wo (wo.iterAt wt.heap.size t (k + n)) := Lib.below_iterAt (Below.refl _ _) (k := wt.heap.size) (Nat.le_refl _) t (k + n)
   have HIP := hid (show wo.iterPos wt.heap.size = k by simp only [World.iterPos, hit])
   have HLT := hid (And.intro hlt (And.intro hn1 hn2))
   have HUR1 := hid (show UR2 n0 (wo.iterAt wt.heap.size t (k + n)) g (cs.set j v') j v' l' x lx from UR2.iter UIK.out.ur hit)
   obtain ⟨w1, hw1⟩ : ∃ w1, w1 = wo.iterAt wt.heap.size t (k + n) := ⟨_, rfl⟩
   rw [← hw1] at hnx hit2 hb2 HUR1
   have UI1 := hid (show UI n0 g j wt.heap.size cs x lx t w w1 (k + n) v' l' from ⟨HUR1.out, by have := UIK.out.len; omega, hit2, UIK.out.bl.trans (hb2.mono (Nat.le_trans HU.out.le HBT.out.size))⟩)
   have HLL := hid (show l'.length ≤ 1073741824 by have := UIK.out.len; have := HS.out; omega)
   have HLK := hid (show l'.length + 1 ≤ k + n + 2 by have := UIK.out.len; omega)
   clear hw1 hit hit2 hb2 hdec hskip hlow hhigh hmax
   by_cases hen : r = en
   ·subst hen
    have HNS := hid (show k ≤ s.size by have := HTS.out; omega)
    have UI1D := hid (show UI n0 g j wt.heap.size cs x lx t w w1.drew (k + n) v' l' from ⟨HUR1.out.drew, UI1.out.len, UI1.out.it, UI1.out.bl.drew⟩)
    by_cases hs0 : sep = 0
    ·subst hs0
     by_cases hsn : start < k
     ·have g1 : (start : Int) < (k : Nat) := by omega
      go_wp2_with (go_at_call 174; refine (add_any n0 g j _ _ _ x lx _ _ _ UI1.out.ur HLL.out).mono ?_; rintro e w9 ⟨v9, l9, rfl, hu9, hl9, hb9, hi9⟩)
      go_ret2
      have hu10 := hu9
      rw [set_set] at hu10
      exact ⟨_, v9, l9, rfl, HNS.out, hu10, UI1.out.bl.trans hb9⟩
     ·have g1 : ¬ (start : Int) < (k : Nat) := by omega
      go_wp2
      go_ret2
      exact ⟨_, _, _, rfl, HNS.out, UI1.out.ur, UI1.out.bl⟩
    ·have g0 : (0 : Int) < sep := by omega
     have g00 : ((sep : Int) == 0) = false := by simp; omega
     have gs : sep < k := by omega
     by_cases hss : start < sep
     ·have g1 : (start : Int) < sep := by omega
      have g2 : IntKind.i64.wrap ((sep : Int) + 1) = (sep : Int) + 1 := by rw [IntKind.wrap_i64]; have := HS.out; omega
      have g3 : (0 : Int) ≤ (sep : Int) + 1 := by omega
      have g4 : ((sep : Int) + 1).toNat = sep + 1 := by omega
      have g5 : (sep : Int) + 1 ≤ (k : Nat) := by omega
      have g6 : sep + 1 ≤ k := by omega
      have g7 : (sep : Int) ≤ t.size := by omega
      have g8 : sep ≤ t.size := by omega
      have g9 : start ≤ sep := by omega
      have g10 : (start : Int) ≤ sep := by omega
      have g11 : (0 : Int) ≤ (k : Nat) := by omega
      go_wp2_with fail
      go_still_tail 10, (by kernel_rfl)
      go_wp2_with (go_at_call 174; refine (add_any n0 g j _ _ _ x lx _ _ _ UI1D.out.ur HLL.out).mono ?_; rintro e w9 ⟨v9, l9, rfl, hu9, hl9, hb9, hi9⟩)
      go_ret2
      have hu10 := hu9
      rw [set_set] at hu10
      exact ⟨_, v9, l9, rfl, HNS.out, hu10, UI1D.out.bl.trans hb9⟩
     ·have g1 : ¬ (start : Int) < sep := by omega
      go_wp2
      go_ret2
      exact ⟨_, _, _, rfl, HNS.out, UI1.out.ur, UI1.out.bl⟩
   ·have e1 : ((r : Int) == en) = false := by simp; omega
    clear hen
    rcases hstate with rfl | rfl | ⟨rfl, hs1, hs2⟩ | ⟨rfl, qn, rfl, hq⟩
    ·go_wp2
     go_roundw
     case rel => exact ⟨k + n, k, 0, 2, q, v', l', HLT.out.2.2, rfl, rfl, rfl, rfl, rfl, by omega, .inl rfl, .inr (.inl rfl), UI1.out⟩
     case measure => simp only [World.iterPos, UI1.out.it]; have := HIP.out; simp only [World.iterPos] at this; rw [this]; have := HLT.out; omega
    ·by_cases hr : r = sp
     ·subst hr
      go_wp2_with (go_at_call 174; refine (add_any n0 g j _ _ _ x lx _ _ _ UI1.out.ur HLL.out).mono ?_; rintro e w9 ⟨v9, l9, rfl, hu9, hl9, hb9, hi9⟩)
      have UI2 := hid (UI1.out.add hu9 hl9 hb9 hi9 HLK.out)
      clear hu9 hl9 hb9 hi9
      go_roundw
      case rel => exact ⟨k + n, start, sep, 1, q, v9, l9, HLT.out.2.2, rfl, rfl, rfl, rfl, rfl, by omega, by omega, .inl rfl, UI2.out⟩
      case measure => simp only [World.iterPos, UI2.out.it]; have := HIP.out; simp only [World.iterPos] at this; rw [this]; have := HLT.out; omega
     ·have e2 : ((r : Int) == sp) = false := by simp; omega
      by_cases h61 : r = 61
      ·subst h61
       go_wp2
       go_roundw
       case rel => exact ⟨k + n, start, k, 3, q, v', l', HLT.out.2.2, rfl, rfl, rfl, rfl, rfl, by omega, by omega, .inr (.inr (.inl ⟨rfl, by omega, by omega⟩)), UI1.out⟩
       case measure => simp only [World.iterPos, UI1.out.it]; have := HIP.out; simp only [World.iterPos] at this; rw [this]; have := HLT.out; omega
      ·have e3 : ((r : Int) == 61) = false := by simp; omega
       have e4 : ((r : Int) != 61) = true := by simp; omega
       go_wp2
       go_roundw
       case rel => exact ⟨k + n, start, sep, 2, q, v', l', HLT.out.2.2, rfl, rfl, rfl, rfl, rfl, by omega, by omega, .inr (.inl rfl), UI1.out⟩
       case measure => simp only [World.iterPos, UI1.out.it]; have := HIP.out; simp only [World.iterPos] at this; rw [this]; have := HLT.out; omega
    ·by_cases h34 : r = 34
     ·subst h34
      go_wp2
      go_roundw
      case rel => exact ⟨k + n, start, sep, 4, k, v', l', HLT.out.2.2, rfl, rfl, rfl, rfl, rfl, by omega, by omega, .inr (.inr (.inr ⟨rfl, k, rfl, by omega⟩)), UI1.out⟩
      case measure => simp only [World.iterPos, UI1.out.it]; have := HIP.out; simp only [World.iterPos] at this; rw [this]; have := HLT.out; omega
     ·have e2 : ((r : Int) == 34) = false := by simp; omega
      by_cases hr : r = sp
      ·subst hr
       have g2 : IntKind.i64.wrap ((sep : Int) + 1) = (sep : Int) + 1 := by rw [IntKind.wrap_i64]; omega
       have g3 : (0 : Int) ≤ (sep : Int) + 1 := by omega
       have g4 : ((sep : Int) + 1).toNat = sep + 1 := by omega
       have g5 : (sep : Int) + 1 ≤ k := by omega
       have g6 : sep + 1 ≤ k := by omega
       have g7 : (sep : Int) ≤ t.size := by omega
       have g8 : sep ≤ t.size := by omega
       have g10 : (start : Int) ≤ sep := by omega
       have UI1D := hid (show UI n0 g j wt.heap.size cs x lx t w w1.drew (k + n) v' l' from ⟨HUR1.out.drew, UI1.out.len, UI1.out.it, UI1.out.bl.drew⟩)
       have g12 : wrap64 ((sep : Int) + 1) = ((sep + 1 : Nat) : Int) := wrap64_add (by omega)
       go_wp2_with fail
       go_still_tail 10, (by kernel_rfl)
       go_wp2_with (go_at_call 174; refine (add_any n0 g j _ _ _ x lx _ _ _ UI1D.out.ur HLL.out).mono ?_; rintro e w9 ⟨v9, l9, rfl, hu9, hl9, hb9, hi9⟩)
       have UI2 := hid (UI1D.out.add hu9 hl9 hb9 hi9 HLK.out)
       clear hu9 hl9 hb9 hi9
       go_roundw
       case rel => exact ⟨k + n, sep + 1, sep, 1, q, v9, l9, HLT.out.2.2, rfl, by simp, rfl, rfl, rfl, by omega, by omega, .inl rfl, UI2.out⟩
       case measure => simp only [World.iterPos, UI2.out.it]; have := HIP.out; simp only [World.iterPos] at this; rw [this]; have := HLT.out; omega
      ·have e3 : ((r : Int) == sp) = false := by simp; omega
       go_wp2
       go_roundw
       case rel => exact ⟨k + n, start, sep, 3, q, v', l', HLT.out.2.2, rfl, rfl, rfl, rfl, rfl, by omega, by omega, .inr (.inr (.inl ⟨rfl, hs1, by omega⟩)), UI1.out⟩
       case measure => simp only [World.iterPos, UI1.out.it]; have := HIP.out; simp only [World.iterPos] at this; rw [this]; have := HLT.out; omega
    ·by_cases h34 : r = 34
     ·subst h34
      have g2 : IntKind.i64.wrap ((qn : Int) + 1) = (qn : Int) + 1 := by rw [IntKind.wrap_i64]; omega
      have g3 : (0 : Int) ≤ (qn : Int) + 1 := by omega
      have g4 : ((qn : Int) + 1).toNat = qn + 1 := by omega
      have g5 : (qn : Int) + 1 ≤ k := by omega
      have g6 : qn + 1 ≤ k := by omega
      have UI1D := hid (show UI n0 g j wt.heap.size cs x lx t w w1.drew (k + n) v' l' from ⟨HUR1.out.drew, UI1.out.len, UI1.out.it, UI1.out.bl.drew⟩)
      go_wp2_with fail
      go_still_tail 9, (by kernel_rfl)
      go_wp2_with (go_at_call 174; refine (add_any n0 g j _ _ _ x lx _ _ _ UI1D.out.ur HLL.out).mono ?_; rintro e w9 ⟨v9, l9, rfl, hu9, hl9, hb9, hi9⟩)
      have UI2 := hid (UI1D.out.add hu9 hl9 hb9 hi9 HLK.out)
      clear hu9 hl9 hb9 hi9
      go_roundw
      case rel => exact ⟨k + n, start, sep, 1, qn, v9, l9, HLT.out.2.2, rfl, rfl, rfl, rfl, rfl, by omega, by omega, .inl rfl, UI2.out⟩
      case measure => simp only [World.iterPos, UI2.out.it]; have := HIP.out; simp only [World.iterPos] at this; rw [this]; have := HLT.out; omega
     ·have e3 : ((r : Int) == 34) = false := by simp; omega
      have e4 : ((r : Int) != 34) = true := by simp; omega
      go_wp2
      go_roundw
      case rel => exact ⟨k + n, start, sep, 4, qn, v', l', HLT.out.2.2, rfl, rfl, rfl, rfl, rfl, by omega, by omega, .inr (.inr (.inr ⟨rfl, qn, rfl, by omega⟩)), UI1.out⟩
      case measure => simp only [World.iterPos, UI1.out.it]; have := HIP.out; simp only [World.iterPos] at this; rw [this]; have := HLT.out; omega
  ·have hnx : ∀ ty, (Instr.next (.pointer (some ⟨wt.heap.size, 0, none⟩)) true ty).run Tryz.prog wo = _ := fun ty => Lib.run_next_end_at wo wt.heap.size t k ty hit hlt
   have hke : k = t.size := by omega
   subst hke
   have HNS := hid HTS.out
   have HLL := hid (show l'.length ≤ 1073741824 by have := UIK.out.len; have := HS.out; omega)
   have UIKD := hid (show UI n0 g j wt.heap.size cs x lx t w wo.drew t.size v' l' from ⟨UIK.out.ur.drew, UIK.out.len, UIK.out.it, UIK.out.bl.drew⟩)
   clear hit hlt hstate
   by_cases hs0 : sep = 0
   ·subst hs0
    by_cases hsn : start < t.size
    ·have g1 : (start : Int) < (t.size : Nat) := by omega
     go_wp2_with (go_at_call 174; refine (add_any n0 g j _ _ _ x lx _ _ _ UIK.out.ur HLL.out).mono ?_; rintro e w9 ⟨v9, l9, rfl, hu9, hl9, hb9, hi9⟩)
     go_ret2
     have hu10 := hu9
     rw [set_set] at hu10
     exact ⟨_, v9, l9, rfl, HNS.out, hu10, UIK.out.bl.trans hb9⟩
    ·have g1 : ¬ (start : Int) < (t.size : Nat) := by omega
     go_wp2
     go_ret2
     exact ⟨_, _, _, rfl, HNS.out, UIK.out.ur, UIK.out.bl⟩
   ·have g0 : (0 : Int) < sep := by omega
    have g00 : ((sep : Int) == 0) = false := by simp; omega
    have gs : sep < t.size := by omega
    by_cases hss : start < sep
    ·have g1 : (start : Int) < sep := by omega
     have g2 : IntKind.i64.wrap ((sep : Int) + 1) = (sep : Int) + 1 := by rw [IntKind.wrap_i64]; have := HS.out; omega
     have g3 : (0 : Int) ≤ (sep : Int) + 1 := by omega
     have g4 : ((sep : Int) + 1).toNat = sep + 1 := by omega
     have g5 : (sep : Int) + 1 ≤ (t.size : Nat) := by omega
     have g6 : sep + 1 ≤ t.size := by omega
     have g7 : (sep : Int) ≤ t.size := by omega
     have g8 : sep ≤ t.size := by omega
     have g9 : start ≤ sep := by omega
     have g10 : (start : Int) ≤ sep := by omega
     have g11 : (0 : Int) ≤ (t.size : Nat) := by omega
     go_wp2_with fail
     go_still_tail 10, (by kernel_rfl)
     go_wp2_with (go_at_call 174; refine (add_any n0 g j _ _ _ x lx _ _ _ UIKD.out.ur HLL.out).mono ?_; rintro e w9 ⟨v9, l9, rfl, hu9, hl9, hb9, hi9⟩)
     go_ret2
     have hu10 := hu9
     rw [set_set] at hu10
     exact ⟨_, v9, l9, rfl, HNS.out, hu10, UIKD.out.bl.trans hb9⟩
    ·have g1 : ¬ (start : Int) < sep := by omega
     go_wp2
     go_ret2
     exact ⟨_, _, _, rfl, HNS.out, UIK.out.ur, UIK.out.bl⟩
theorem URepO.ur8 {n0 g : Nat} {w : World} {u : SUri} (h : URepO n0 w g u) : ∃ vp vh, UR2 n0 w g (uriV u vp vh) 8 vp u.params vh u.hdrs := by
 obtain ⟨vp, vh, h1, h2, h3, h4, h5⟩ := h
 exact ⟨vp, vh, h1, h2, rfl, h3, h4, h5⟩
theorem UR2.rep8 {n0 g : Nat} {w : World} {u : SUri} {vp vh v1 : Value} {l1 : KVs} (h : UR2 n0 w g ((uriV u vp vh).set 8 v1) 8 v1 l1 vh u.hdrs) : URepO n0 w g { u with params := l1 } :=
 ⟨v1, vh, h.lo, h.blk, h.own, h.other, h.apart⟩
theorem UR2.rep9 {n0 g : Nat} {w : World} {u : SUri} {vp vh v1 : Value} {l1 : KVs} (h : UR2 n0 w g ((uriV u vp vh).set 9 v1) 9 v1 l1 vp u.params) : URepO n0 w g { u with hdrs := l1 } :=
 ⟨vp, v1, h.lo, h.blk, h.other, h.own, fun k hk e => h.apart k e hk⟩
theorem UR2.fresh8 {n0 g : Nat} {w w1 : World} {u : SUri} {v : Value} (h : URepO n0 w g u) (hb : Below w.heap.size w w1) (ho : w1.ownsRow w.heap.size 207 2 v 0 []) : ∃ vp vh, UR2 n0 (w1.setCell ⟨g, 8, none⟩ v) g ((uriV u vp vh).set 8 v) 8 v [] vh u.hdrs ∧ Below n0 w (w1.setCell ⟨g, 8, none⟩ v) := by
 obtain ⟨vp, vh, h1, h2, h3, h4, h5⟩ := h.below hb
 obtain ⟨-, vh0, hh, -⟩ := h.ur8
 have hle := h.le
 have ho2 : w1.ownsRow n0 207 2 v 0 [] := by
  rcases ho with ⟨k1, k2 | ⟨b, cap, cur, k3, k4, k5⟩⟩
  ·exact ⟨k1, .inl k2⟩
  ·exact ⟨k1, .inr ⟨b, cap, cur, k3, Nat.le_trans hle k4, k5⟩⟩
 refine ⟨vp, vh, ⟨h1, blk_set h2 8 v, rfl, own_set ho2 h2 (by decide) 8 v, own_set h4 h2 (by decide) 8 v, fun k hk hk2 => ?_⟩, (hb.mono hle).trans ((Below.refl _ _).setCell (p := ⟨g, 8, none⟩) h1 _)⟩
 obtain ⟨vp', vh', g1, g2, g3, g4, g5⟩ := h
 have e : vh = vh' := by
  have := (hb.block g (heap_lt g2)).trans g2
  rw [h2] at this
  injection this with this
  injection this with this _ _
  have := congrArg Array.toList this
  simp [uriV] at this
  exact this.2
 subst e
 have := (g4.lt k hk2).2
 have := (ho.lt k hk).1
 omega
theorem UR2.fresh9 {n0 g : Nat} {w : World} {u : SUri} (h : URepO n0 w g u) : ∃ vp vh, UR2 n0 (w.setCell ⟨g, 9, none⟩ (.slice none 0 0)) g ((uriV u vp vh).set 9 (.slice none 0 0)) 9 (.slice none 0 0) [] vp u.params ∧ Below n0 w (w.setCell ⟨g, 9, none⟩ (.slice none 0 0)) := by
 obtain ⟨vp, vh, h1, h2, h3, h4, h5⟩ := h
 exact ⟨vp, vh, ⟨h1, blk_set h2 9 _, rfl, World.ownsRow_nil _ _ _ _, own_set h3 h2 (by decide) 9 _, fun k hk => by simp [Value.ownBlock] at hk⟩, (Below.refl _ _).setCell (p := ⟨g, 9, none⟩) h1 _⟩
theorem URepO.clear {n0 g : Nat} {w : World} {u : SUri} (h : URepO n0 w g u) : URepO n0 ((w.setCell ⟨g, 8, none⟩ (.slice none 0 0)).setCell ⟨g, 9, none⟩ (.slice none 0 0)) g { u with params := [], hdrs := [] } ∧ Below n0 w ((w.setCell ⟨g, 8, none⟩ (.slice none 0 0)).setCell ⟨g, 9, none⟩ (.slice none 0 0)) := by
 obtain ⟨vp, vh, h1, h2, h3, h4, h5⟩ := h
 refine ⟨⟨.slice none 0 0, .slice none 0 0, h1, ?_, World.ownsRow_nil _ _ _ _, World.ownsRow_nil _ _ _ _, fun k hk => by simp [Value.ownBlock] at hk⟩, ((Below.refl _ _).setCell (p := ⟨g, 8, none⟩) h1 _).setCell (p := ⟨g, 9, none⟩) h1 _⟩
 rw [blk_set (blk_set h2 8 _) 9 _]
 rfl
theorem URepO.cells89 {n0 g : Nat} {w : World} {u : SUri} (h : URepO n0 w g u) : ∃ vp vh, w.cell? ⟨g, 8, none⟩ = some vp ∧ w.cell? ⟨g, 9, none⟩ = some vh ∧ w.frozen? ⟨g, 8, none⟩ = false ∧ w.frozen? ⟨g, 9, none⟩ = false := by
 obtain ⟨vp, vh, h1, h2, h3, h4, h5⟩ := h
 exact ⟨vp, vh, by rw [blk_cell h2]; rfl, by rw [blk_cell h2]; rfl, blk_frozen h2 8, blk_frozen h2 9⟩
theorem headers_any (N n0 g : Nat) (u : SUri) (s : ByteArray) (w : World) (hG : Gl N w) (hN : N ≤ n0) (hU : URepO n0 w g u) (hs : s.size ≤ 1073741000) :
  Calls Tryz.prog 153 #[.pointer (some ⟨g, 0, none⟩), .string s] w (StPost n0 g 0 s.size w) := by
 obtain ⟨vp, vh, HF, hb1⟩ := UR2.fresh9 hU
 have HB1 := hid hb1
 have HUM := hid (unmarshal_any N n0 g 9 _ _ [] _ _ s 38 0 _ (hG.below hb1 hN) hN HF (by simp) hs (by decide) (by decide))
 obtain ⟨v8, v9, -, d9, -, f9⟩ := hU.cells89
 clear HF hb1 hU hG hN
 go_enter Tryz.func153, Tryz.ntmps153
 go_wp2_with (go_at_call 164; refine HUM.out.mono ?_; rintro e w2 ⟨n, v1, l1, rfl, hn, hu, hb⟩)
 go_ret3
 rw [set_set] at hu
 exact ⟨_, _, _, _, rfl, hu.rep9, HB1.out.trans hb, Nat.le_refl _, .inl rfl, fun _ => .inl rfl⟩
def ParPost (n0 g : Nat) (u : SUri) (s : ByteArray) (w : World) (e : Ending) (w' : World) : Prop := ∃ st s' ev u', e = .returned (.tuple #[st, .string s', ev]) ∧ URepO n0 w' g u' ∧ Below n0 w w' ∧ s'.size ≤ s.size ∧ ErrV ev ∧ (ev = .nilIface → StLt 1 st) ∧ (s.size = 0 → st = .nilFunc ∧ ev = .nilIface ∧ u' = { u with params := [], hdrs := [] })
theorem uriparams_any (N n0 g : Nat) (u : SUri) (s : ByteArray) (w : World) (hG : Gl N w) (hN : N ≤ n0) (hU : URepO n0 w g u) (hs : s.size ≤ 1073741000) :
  Calls Tryz.prog 152 #[.pointer (some ⟨g, 0, none⟩), .string s] w (ParPost n0 g u s w) := by
 obtain ⟨v8, v9, d8, d9, f8, f9⟩ := hU.cells89
 by_cases hz : s.size = 0
 ·have HC := hid hU.clear
  have hz2 : (s.size : Int) = 0 := by omega
  have HZ := hid hz
  clear hz
  go_enter Tryz.func152, Tryz.ntmps152
  go_wp2
  go_ret3
  exact ⟨_, s, _, _, rfl, HC.out.1, HC.out.2, Nat.le_refl _, .inl rfl, fun _ => .inl rfl, fun _ => ⟨rfl, rfl, rfl⟩⟩
 ·have hz2 : ((s.size : Int) == 0) = false := by rw [beq_eq_false_iff_ne]; exact fun h => hz (by omega)
  have hz3 : ¬ (s.size : Int) = 0 := fun h => hz (by omega)
  have HS := hid (And.intro hs hz)
  have HU := hid hU
  have HG := hid (And.intro hG hN)
  clear hU hG hN hs hz
  go_enter Tryz.func152, Tryz.ntmps152
  go_upto_region 9 with (first
   | (go_at_call 163; refine (newparams_any _).mono ?_; rintro e w1 ⟨rfl, ho, hb⟩; obtain ⟨vp, vh, hf8, hb8⟩ := UR2.fresh8 HU.out hb ho; obtain ⟨_, _, q8, _, r8, _⟩ := (HU.out.below hb).cells89; have HB8 := hid hb8; have HUM := hid (unmarshal_any N n0 g 8 _ _ [] _ _ s 59 63 _ (HG.out.1.below hb8 HG.out.2) HG.out.2 hf8 (by simp) HS.out.1 (by decide) (by decide)); clear ho hb hf8 hb8 d8 f8)
   | (go_at_call 164; refine HUM.out.mono ?_; rintro e w2 ⟨n, v1, l1, rfl, hn, hu, hb9⟩; have HX := hid (show URepO n0 w2 g { u with params := l1 } ∧ Below n0 w w2 from ⟨by rw [set_set] at hu; exact hu.rep8, HB8.out.trans hb9⟩); clear hu hb9)
   | fail)
  have key : ∃ m : Nat, m < s.size ∧ (n = s.size ∧ m + 1 = n ∨ n ≠ s.size ∧ m = n) := by
   by_cases h : n = s.size
   ·have h2 := HS.out.2
    exact ⟨s.size - 1, by omega, .inl ⟨h, by rw [h]; omega⟩⟩
   ·exact ⟨n, by omega, .inr ⟨h, rfl⟩⟩
  obtain ⟨m, hm, hc⟩ := key
  have hs1 := HS.out.1
  have k1 : (m : Int) < s.size := by omega
  have k2 : (0 : Int) ≤ m := by omega
  have k3 : IntKind.i64.wrap ((m : Int) + 1) = (m : Int) + 1 := by rw [IntKind.wrap_i64]; omega
  have k4 : (0 : Int) ≤ (m : Int) + 1 := by omega
  have k5 : ((m : Int) + 1).toNat = m + 1 := by omega
  have k6 : (m : Int) + 1 ≤ s.size := by omega
  have k7 : m + 1 ≤ s.size := by omega
  have HQ := hid (ext_size s (m + 1) s.size)
  clear hs1 hz2 hz3
  obtain ⟨b, hb⟩ : ∃ b, (s[m]'hm).toNat = b := ⟨_, rfl⟩
  have HBB := hid hb
  rcases hc with ⟨h1, h2⟩ | ⟨h1, rfl⟩
  ·subst h2
   have g1' : ((m : Nat) : Int) + 1 = s.size := by omega
   have g0 : wrap64 ((s.size : Int) - 1) = m := by have := HS.out.1; unfold wrap64; omega
   have g1 : ((m + 1 : Nat) : Int) = s.size := by omega
   clear h1 hn hb g1'
   by_cases h63 : b = 63
   ·subst h63
    have hb2 := HBB.out
    go_wp2_with fail
    go_still (by kernel_rfl)
    go_wp2
    go_ret3
    exact ⟨_, _, _, _, rfl, HX.out.1, HX.out.2.drew, HQ.out, .inl rfl, fun _ => .inr ⟨0, _, by decide, rfl, rfl⟩, fun h => absurd h HS.out.2⟩
   ·have hb2 : (s[m]'hm).toNat ≠ 63 := by rw [HBB.out]; exact h63
    go_wp2_with fail
    go_ret3
    exact ⟨_, _, _, _, rfl, HX.out.1, HX.out.2, Nat.le_refl _, .inl rfl, fun _ => .inl rfl, fun h => absurd h HS.out.2⟩
  ·have g1 : ((m : Int) == s.size) = false := by simp; omega
   clear h1 hn hb
   by_cases h63 : b = 63
   ·subst h63
    have hb2 := HBB.out
    go_wp2_with fail
    go_still (by kernel_rfl)
    go_wp2
    go_ret3
    exact ⟨_, _, _, _, rfl, HX.out.1, HX.out.2.drew, HQ.out, .inl rfl, fun _ => .inr ⟨0, _, by decide, rfl, rfl⟩, fun h => absurd h HS.out.2⟩
   ·have hb2 : (s[m]'hm).toNat ≠ 63 := by rw [HBB.out]; exact h63
    go_wp2_with fail
    go_ret3
    exact ⟨_, _, _, _, rfl, HX.out.1, HX.out.2, Nat.le_refl _, .inl rfl, fun _ => .inl rfl, fun h => absurd h HS.out.2⟩
def asciiL (c : Int) : Bool := (decide (97 ≤ c) && decide (c ≤ 122)) || (decide (65 ≤ c) && decide (c ≤ 90))
theorem isascii_any (c : Int) (w : World) (h : asciiL c = true) : Calls Tryz.prog 116 #[.int .i32 c] w fun e w' => e = .returned (.bool true) ∧ w = w' := by
 simp only [asciiL, Bool.or_eq_true, Bool.and_eq_true, decide_eq_true_eq] at h
 by_cases h1 : 97 ≤ c ∧ c ≤ 122
 ·obtain ⟨a, b⟩ := h1
  clear h
  go_enter Tryz.func116, Tryz.ntmps116
  go_wp2
  go_ret
  exact ⟨rfl, rfl⟩
 ·have h2 : 65 ≤ c ∧ c ≤ 90 := by omega
  obtain ⟨a, b⟩ := h2
  have h3 : ¬ 97 ≤ c := by omega
  clear h h1
  go_enter Tryz.func116, Tryz.ntmps116
  go_wp2
  go_ret
  exact ⟨rfl, rfl⟩
theorem isascii_no (c : Int) (w : World) (h : asciiL c = false) : Calls Tryz.prog 116 #[.int .i32 c] w fun e w' => e = .returned (.bool false) ∧ w = w' := by
 have h' : ¬ (97 ≤ c ∧ c ≤ 122) ∧ ¬ (65 ≤ c ∧ c ≤ 90) := by
  refine ⟨fun hh => ?_, fun hh => ?_⟩ <;> simp [asciiL, hh.1, hh.2] at h
 by_cases h1 : 97 ≤ c
 ·have h2 : ¬ c ≤ 122 := by omega
  have h3 : 65 ≤ c := by omega
  have h4 : ¬ c ≤ 90 := by omega
  clear h h'
  go_enter Tryz.func116, Tryz.ntmps116
  go_wp2
  go_ret
  exact ⟨rfl, rfl⟩
 ·by_cases h3 : 65 ≤ c
  ·have h4 : ¬ c ≤ 90 := by omega
   clear h h'
   go_enter Tryz.func116, Tryz.ntmps116
   go_wp2
   go_ret
   exact ⟨rfl, rfl⟩
  ·clear h h'
   go_enter Tryz.func116, Tryz.ntmps116
   go_wp2
   go_ret
   exact ⟨rfl, rfl⟩
def SchPost (n0 g : Nat) (u : SUri) (s : ByteArray) (w : World) (e : Ending) (w' : World) : Prop := ∃ st s' ev u', e = .returned (.tuple #[st, .string s', ev]) ∧ URepO n0 w' g u' ∧ Below n0 w w' ∧ s'.size ≤ s.size ∧ ErrV ev ∧ (ev = .nilIface → StLt 7 st) ∧
 (∀ i (h : i < s.size), 2 ≤ i → (s[i]'h).toNat = 58 → (∀ q (hq : q < s.size), q < i → asciiL (s[q]'hq).toNat = true) → lowT (s.data.toList.take i) = [115, 105, 112] → st = stFn 115 ∧ s' = s.extract (i + 1) s.size ∧ ev = .nilIface ∧ u' = { u with scheme := ⟨#[115, 105, 112]⟩ })
theorem scheme_any (n0 g : Nat) (u : SUri) (s : ByteArray) (w : World) (hU : URepO n0 w g u) (hs : s.size ≤ 70368744177664) :
  Calls Tryz.prog 93 #[.pointer (some ⟨g, 0, none⟩), .string s] w (SchPost n0 g u s w) := by
 have HU := hid hU
 have HS := hid hs
 by_cases h3 : s.size < 3
 ·have h3i : (s.size : Int) < 3 := by omega
  have HNO := hid (show ∀ i, i < s.size → 2 ≤ i → False from fun i h h2 => by omega)
  by_cases hst : s = ⟨#[42]⟩
  ·subst hst
   obtain ⟨_, _, d2, _, _, _, d6, _, hf⟩ := hU.cells
   have f2 := hf 2
   have f6 := hf 6
   have HX := hid (hU.set 6 (.string ⟨#[42]⟩) { u with host := ⟨#[42]⟩ } (fun _ _ => rfl) rfl rfl)
   have HY := hid (HX.out.1.set 2 (.bool true) { u with host := ⟨#[42]⟩, star := true } (fun _ _ => rfl) rfl rfl)
   clear hU hs hf h3 h3i HNO
   have h3i : ((⟨#[42]⟩ : ByteArray).size : Int) < 3 := by decide
   go_enter Tryz.func93, Tryz.ntmps93
   go_wp2
   go_ret3
   exact ⟨_, _, _, _, rfl, HY.out.1, HX.out.2.trans HY.out.2, Nat.zero_le _, .inl rfl, fun _ => .inl rfl, fun i h h2 => absurd h (by show ¬ i < 1; omega)⟩
  ·have hne := ne_lit (l := [42]) hst
   have HE := hid (fun wx => errnew_any ⟨#[110, 111, 116, 32, 118, 97, 108, 105, 100, 32, 115, 105, 112, 32, 117, 114, 105]⟩ wx)
   clear hU hs
   go_enter Tryz.func93, Tryz.ntmps93
   go_wp2_with (go_at_call 92; refine (HE.out _).mono ?_; rintro e w2 ⟨⟨a, rfl⟩, hb⟩)
   go_ret3
   exact ⟨_, _, _, u, rfl, HU.out.below hb, hb.mono HU.out.le, Nat.zero_le _, .inr ⟨_, _, rfl⟩, (fun h => by cases h), fun i h h2 => (HNO.out i h h2).elim⟩
 ·have h3i : ¬ (s.size : Int) < 3 := by omega
  clear hU hs h3
  go_enter Tryz.func93, Tryz.ntmps93
  go_wp2_with fail
  go_loopw [7, 8] (fun _ _ wr => ∃ pos : Nat, pos ≤ s.size ∧ (∀ q (hq : q < s.size), q < pos → asciiL (s[q]'hq).toNat = true) ∧ wr.heap[w.heap.size]? = some (.stringIter s pos) ∧ Below w.heap.size w wr) (fun _ _ wr => s.size - wr.iterPos w.heap.size)
  case atStart => exact ⟨0, Nat.zero_le _, fun q _ h => absurd h (by omega), by simpa using World.iter_heap w s 0, (Below.refl _ w).alloc (Nat.le_refl _) _⟩
  case round =>
   obtain ⟨k, hk, hall, hit, hb⟩ := hrel
   have HB := hid hb
   have HALL := hid hall
   clear hall
   by_cases hlt : k < s.size
   ·obtain ⟨r, n, hdec, hn1, hn2, hskip, hlow, hhigh, hmax⟩ := next_rune s k hlt
    have hnx : ∀ ty, (Instr.next (.pointer (some ⟨w.heap.size, 0, none⟩)) true ty).run Tryz.prog wr = .ok (.tuple #[.bool true, .int .i64 k, .int .i32 r]) (wr.iterAt w.heap.size s (k + n)) := fun ty => by
     rw [Lib.run_next_any_at wr w.heap.size s k ty hit hlt, hdec]
    have hit2 := Lib.iterAt_heap wr w.heap.size s k (k + n) hit
    have hb2 := Lib.below_iterAt hb (k := w.heap.size) (Nat.le_refl _) s (k + n)
    have HIP := hid (show wr.iterPos w.heap.size = k by simp only [World.iterPos, hit])
    obtain ⟨w1, hw1⟩ : ∃ w1, w1 = wr.iterAt w.heap.size s (k + n) := ⟨_, rfl⟩
    rw [← hw1] at hnx hit2 hb2
    have HI2 := hid hit2
    have HB2 := hid hb2
    have HU1 := hid (HU.out.below hb2)
    have HLT := hid hlt
    obtain ⟨c, hc⟩ : ∃ c, s[k]'hlt = c := ⟨_, rfl⟩
    rw [hc] at hlow hhigh
    have HC := hid (show s[k]'HLT.out = c from hc)
    clear hw1 hit hit2 hb hb2 hdec hn1 hn2 hc hskip
    by_cases h58 : c.toNat = 58
    ·obtain ⟨rfl, rfl⟩ := hlow (by omega)
     have hr : (c.toNat : Int) = 58 := by omega
     rw [hr] at hnx
     clear hlow hhigh hmax
     have hkb : (k : Int) ≤ s.size := by omega
     have hk3 : k + 1 ≤ s.size := hlt
     have hs1 := HS.out
     have hwk : wrap64 ((k : Int) + 1) = ((k + 1 : Nat) : Int) := wrap64_add (by omega)
     have hwk2 : IntKind.i64.wrap ((k : Int) + 1) = (k : Int) + 1 := by rw [IntKind.wrap_i64]; omega
     have hk5 : (k : Int) + 1 ≤ s.size := by omega
     have hk6 : (0 : Int) ≤ (k : Int) + 1 := by omega
     have hk7 : ((k : Int) + 1).toNat = k + 1 := by omega
     have HQ := hid (ext_size s (k + 1) s.size)
     have HLW := hid (tolow_any (s.extract 0 k) w1 (by have := ext_size s 0 k; omega))
     clear hs1
     obtain ⟨z, hz⟩ : ∃ z : ByteArray, z = ⟨(lowT (s.extract 0 k).data.toList).toArray⟩ := ⟨_, rfl⟩
     have HZ := hid hz
     unfold LowPost at HLW
     rw [← hz] at HLW
     clear hz
     have HKI := hid (show ∀ i (h : i < s.size), (s[i]'h).toNat = 58 → (∀ q (hq : q < s.size), q < i → asciiL (s[q]'hq).toNat = true) → i = k from fun i h e1 e2 => by
      rcases Nat.lt_trichotomy i k with h1 | h1 | h1
      ·have := HALL.out i h h1; rw [e1] at this; cases this
      ·exact h1
      ·have := e2 k HLT.out h1; rw [HC.out, h58] at this; cases this)
     have HTK := hid (show (s.extract 0 k).data.toList = s.data.toList.take k by rw [ext_mid s 0 k (by omega)]; simp)
     have HSET := hid (show ∀ wz, Below w1.heap.size w1 wz → URepO n0 (wz.setCell ⟨g, 0, none⟩ (.string z)) g { u with scheme := z } ∧ Below n0 w (wz.setCell ⟨g, 0, none⟩ (.string z)) from fun wz hz => by
      obtain ⟨q1, q2⟩ := (HU1.out.below hz).set 0 (.string z) { u with scheme := z } (fun _ _ => rfl) rfl rfl
      exact ⟨q1, ((HB2.out.mono HU.out.le).trans (hz.mono (Nat.le_trans HU.out.le HB2.out.size))).trans q2⟩)
     go_upto_region 12 with (go_at_call 114; refine HLW.out.mono ?_; rintro e w2 ⟨rfl, hb3⟩; obtain ⟨d0, _, _, _, _, _, _, _, hf⟩ := (HU1.out.below hb3).cells; have f0 := hf 0; have HX := hid (HSET.out w2 hb3); clear hb3 hf)
     obtain ⟨W3, hW3⟩ : ∃ W3, W3 = w2.setCell ⟨g, 0, none⟩ (.string z) := ⟨_, rfl⟩
     rw [← hW3] at HX ⊢
     clear hW3 d0 f0
     obtain ⟨c0, c1, _, _, _, _, _, _, hf⟩ := HX.out.1.cells
     have f1 := hf 1
     dsimp only at c0
     clear hf
     by_cases hz1 : z = ⟨#[115, 105, 112]⟩
     ·subst hz1
      go_wp2_with fail
      go_still (by kernel_rfl)
      go_wp2
      go_ret3
      exact ⟨_, _, _, _, rfl, HX.out.1, HX.out.2.drew, HQ.out, .inl rfl, fun _ => .inr ⟨6, _, by decide, rfl, rfl⟩, fun i h _ e1 e2 _ => by
       obtain rfl := HKI.out i h e1 e2
       exact ⟨rfl, rfl, rfl, rfl⟩⟩
     ·have e1 := ne_lit (l := [115, 105, 112]) hz1
      have HNZ := hid (show lowT (s.data.toList.take k) ≠ [115, 105, 112] from fun h => hz1 (by rw [HZ.out, HTK.out, h]))
      clear hz1
      by_cases hz2 : z = ⟨#[115, 105, 112, 115]⟩
      ·subst hz2
       go_wp2_with fail
       go_still (by kernel_rfl)
       go_wp2
       go_ret3
       exact ⟨_, _, _, _, rfl, HX.out.1, HX.out.2.drew, HQ.out, .inl rfl, fun _ => .inr ⟨6, _, by decide, rfl, rfl⟩, fun i h _ e1 e2 e3 => by
        obtain rfl := HKI.out i h e1 e2
        exact absurd e3 HNZ.out⟩
      ·have e2 := ne_lit (l := [115, 105, 112, 115]) hz2
       have HRW := hid (HX.out.1.set 1 (.string (s.extract (k + 1) s.size)) { u with scheme := z, raw := s.extract (k + 1) s.size } (fun _ _ => rfl) rfl rfl)
       clear hz2
       go_wp2
       go_ret3
       exact ⟨_, _, _, _, rfl, HRW.out.1, HX.out.2.trans HRW.out.2, Nat.zero_le _, .inl rfl, fun _ => .inl rfl, fun i h _ e1 e2 e3 => by
        obtain rfl := HKI.out i h e1 e2
        exact absurd e3 HNZ.out⟩
    ·have b1 : ((r : Int) == 58) = false := by
      by_cases hc : c.toNat < 128
      ·obtain ⟨rfl, _⟩ := hlow hc
       simp; omega
      ·have := hhigh (by omega)
       simp; omega
     by_cases hasc : asciiL r = true
     ·have hcr : c.toNat < 128 := by
       apply Classical.byContradiction
       intro hc
       have h1 := hhigh (by omega)
       simp only [asciiL, Bool.or_eq_true, Bool.and_eq_true, decide_eq_true_eq] at hasc
       omega
      obtain ⟨rfl, rfl⟩ := hlow hcr
      have HAS := hid (show ∀ wx, Calls Tryz.prog 116 #[.int .i32 c.toNat] wx fun e w' => e = .returned (.bool true) ∧ wx = w' from fun wx => isascii_any _ wx hasc)
      have HASC := hid hasc
      clear hlow hhigh hmax hasc
      go_wp2_with (go_at_call 116; refine (HAS.out _).mono ?_; rintro e w3 ⟨rfl, rfl⟩)
      go_roundw
      case rel =>
       refine ⟨k + 1, HLT.out, fun q hq hqk => ?_, HI2.out, HB2.out⟩
       by_cases h : q < k
       ·exact HALL.out q hq h
       ·obtain rfl : q = k := by omega
        rw [HC.out]
        exact HASC.out
      case measure => simp only [World.iterPos, HI2.out]; have := HIP.out; simp only [World.iterPos] at this; rw [this]; have := HLT.out; omega
     ·have hasc' : asciiL r = false := by simpa using hasc
      have HAS := hid (show ∀ wx, Calls Tryz.prog 116 #[.int .i32 r] wx fun e w' => e = .returned (.bool false) ∧ wx = w' from fun wx => isascii_no _ wx hasc')
      have HE := hid (fun wx => errnew_any ⟨#[105, 110, 118, 97, 108, 105, 100, 32, 117, 114, 105, 32, 115, 99, 104, 101, 109, 101]⟩ wx)
      have HNO := hid (show ∀ i (h : i < s.size), (s[i]'h).toNat = 58 → (∀ q (hq : q < s.size), q < i → asciiL (s[q]'hq).toNat = true) → False from fun i h e1 e2 => by
       rcases Nat.lt_trichotomy i k with h1 | h1 | h1
       ·have := HALL.out i h h1; rw [e1] at this; cases this
       ·subst h1; rw [HC.out] at e1; exact h58 e1
       ·have h5 := e2 k HLT.out h1
        rw [HC.out] at h5
        have hcr : c.toNat < 128 := by
         simp only [asciiL, Bool.or_eq_true, Bool.and_eq_true, decide_eq_true_eq] at h5
         omega
        obtain ⟨e, _⟩ := hlow hcr
        rw [e] at hasc'
        rw [hasc'] at h5
        cases h5)
      clear hlow hhigh hmax hasc hasc'
      go_wp2_with (first
       | (go_at_call 116; refine (HAS.out _).mono ?_; rintro e w3 ⟨rfl, rfl⟩)
       | (go_at_call 92; refine (HE.out _).mono ?_; rintro e w2 ⟨⟨a, rfl⟩, hb⟩))
      go_ret3
      exact ⟨_, _, _, u, rfl, HU1.out.below hb, (HB2.out.mono HU.out.le).trans (hb.mono (Nat.le_trans HU.out.le HB2.out.size)), Nat.zero_le _, .inr ⟨_, _, rfl⟩, (fun h => by cases h), fun i h _ e1 e2 => (HNO.out i h e1 e2).elim⟩
   ·have hnx : ∀ ty, (Instr.next (.pointer (some ⟨w.heap.size, 0, none⟩)) true ty).run Tryz.prog wr = _ := fun ty => Lib.run_next_end_at wr w.heap.size s k ty hit hlt
    have HE := hid (fun wx => errnew_any ⟨#[109, 105, 115, 115, 105, 110, 103, 32, 112, 114, 111, 116, 111, 99, 111, 108, 32, 115, 99, 104, 101, 109, 101]⟩ wx)
    have HU1 := hid (HU.out.below HB.out)
    have HNO := hid (show ∀ i (h : i < s.size), (s[i]'h).toNat = 58 → False from fun i h e1 => by
     have := HALL.out i h (by omega); rw [e1] at this; cases this)
    clear hit hb hlt
    go_wp2_with (go_at_call 92; refine (HE.out _).mono ?_; rintro e w2 ⟨⟨a, rfl⟩, hb⟩)
    go_ret3
    exact ⟨_, _, _, u, rfl, HU1.out.below hb, (HB.out.mono HU.out.le).trans (hb.mono (Nat.le_trans HU.out.le HB.out.size)), Nat.zero_le _, .inr ⟨_, _, rfl⟩, (fun h => by cases h), fun i h _ e1 _ => (HNO.out i h e1).elim⟩
def zeroU : SUri := ⟨⟨#[]⟩, ⟨#[]⟩, false, false, ⟨#[]⟩, ⟨#[]⟩, ⟨#[]⟩, 0, [], []⟩
def kn0 : Bytes := [115, 105, 112, 58, 98, 111, 98, 64, 98, 46, 111, 114, 103, 58, 53, 48, 55, 48]
def kn1 : Bytes := [98, 111, 98, 64, 98, 46, 111, 114, 103, 58, 53, 48, 55, 48]
def kn2 : Bytes := [98, 46, 111, 114, 103, 58, 53, 48, 55, 48]
def kn3 : Bytes := [53, 48, 55, 48]
def bobB : ByteArray := ⟨#[98, 111, 98]⟩
def borgB : ByteArray := ⟨#[98, 46, 111, 114, 103]⟩
def sipA : ByteArray := ⟨#[115, 105, 112]⟩
def knU (p : Int) (h b : ByteArray) : SUri := { zeroU with scheme := sipA, user := b, host := h, port := p }
def Kn (st : Value) (s : ByteArray) (u : SUri) : Prop :=
 (st = stFn 93 ∧ s = ⟨kn0.toArray⟩ ∧ u = zeroU) ∨ (st = stFn 115 ∧ s = ⟨kn1.toArray⟩ ∧ u = knU 0 ⟨#[]⟩ ⟨#[]⟩) ∨ (st = stFn 133 ∧ s = ⟨kn1.toArray⟩ ∧ u = knU 0 ⟨#[]⟩ ⟨#[]⟩) ∨
 (st = stFn 141 ∧ s = ⟨kn2.toArray⟩ ∧ u = knU 0 ⟨#[]⟩ bobB) ∨ (st = stFn 151 ∧ s = ⟨kn3.toArray⟩ ∧ u = knU 0 borgB bobB) ∨ (st = stFn 152 ∧ s = ⟨#[]⟩ ∧ u = knU 5070 borgB bobB) ∨ (st = .nilFunc ∧ u = knU 5070 borgB bobB)
def StepPost (n0 g j : Nat) (st0 : Value) (u : SUri) (s : ByteArray) (w : World) (e : Ending) (w' : World) : Prop := ∃ st s' ev u', e = .returned (.tuple #[st, .string s', ev]) ∧ URepO n0 w' g u' ∧ Below n0 w w' ∧ s'.size ≤ s.size ∧ ErrV ev ∧ (ev = .nilIface → StLt j st) ∧ (Kn st0 s u → ev = .nilIface ∧ Kn st s' u')
theorem stFn_inj {a b : Nat} (h : stFn a = stFn b) : a = b := by
 injection h with h _ _
 injection h
theorem kn_of {n : Nat} {s : ByteArray} {u : SUri} (h : Kn (stFn n) s u) : (n = 93 ∧ s = ⟨kn0.toArray⟩ ∧ u = zeroU) ∨ (n = 115 ∧ s = ⟨kn1.toArray⟩ ∧ u = knU 0 ⟨#[]⟩ ⟨#[]⟩) ∨ (n = 133 ∧ s = ⟨kn1.toArray⟩ ∧ u = knU 0 ⟨#[]⟩ ⟨#[]⟩) ∨
  (n = 141 ∧ s = ⟨kn2.toArray⟩ ∧ u = knU 0 ⟨#[]⟩ bobB) ∨ (n = 151 ∧ s = ⟨kn3.toArray⟩ ∧ u = knU 0 borgB bobB) ∨ (n = 152 ∧ s = ⟨#[]⟩ ∧ u = knU 5070 borgB bobB) := by
 rcases h with ⟨h, k⟩ | ⟨h, k⟩ | ⟨h, k⟩ | ⟨h, k⟩ | ⟨h, k⟩ | ⟨h, k⟩ | ⟨h, k⟩
 ·exact .inl ⟨stFn_inj h, k⟩
 ·exact .inr (.inl ⟨stFn_inj h, k⟩)
 ·exact .inr (.inr (.inl ⟨stFn_inj h, k⟩))
 ·exact .inr (.inr (.inr (.inl ⟨stFn_inj h, k⟩)))
 ·exact .inr (.inr (.inr (.inr (.inl ⟨stFn_inj h, k⟩))))
 ·exact .inr (.inr (.inr (.inr (.inr ⟨stFn_inj h, k⟩))))
 ·cases h
theorem step_scheme (n0 g : Nat) (u : SUri) (s : ByteArray) (w : World) (hU : URepO n0 w g u) (hs : s.size ≤ 1073741000) :
  Calls Tryz.prog 93 #[.pointer (some ⟨g, 0, none⟩), .string s] w (StepPost n0 g 7 (stFn 93) u s w) := by
 refine (scheme_any n0 g u s w hU (by omega)).mono ?_
 rintro e w' ⟨st, s', ev, u', h1, h2, h3, h4, h5, h6, h7⟩
 refine ⟨st, s', ev, u', h1, h2, h3, h4, h5, h6, fun hk => ?_⟩
 rcases kn_of hk with ⟨-, rfl, rfl⟩ | ⟨h, -⟩ | ⟨h, -⟩ | ⟨h, -⟩ | ⟨h, -⟩ | ⟨h, -⟩
 ·obtain ⟨rfl, rfl, rfl, rfl⟩ := h7 3 (by decide) (by omega) (by decide) (by decide) (by decide)
  exact ⟨rfl, .inr (.inl ⟨rfl, by decide, rfl⟩)⟩
 all_goals exact absurd h (by decide)
theorem step_slashes (n0 g : Nat) (u : SUri) (s : ByteArray) (w : World) (hU : URepO n0 w g u) (hs : s.size ≤ 1073741000) :
  Calls Tryz.prog 115 #[.pointer (some ⟨g, 0, none⟩), .string s] w (StepPost n0 g 6 (stFn 115) u s w) := by
 refine (slashes_any n0 g u s w hU).mono ?_
 rintro e w' ⟨rfl, h2, h3⟩
 refine ⟨_, _, _, _, rfl, h2, h3, ?_, .inl rfl, fun _ => .inr ⟨5, _, by decide, rfl, rfl⟩, fun hk => ?_⟩
 ·rw [sz, dl]
  show (Lib.trimPrefix s.data.toList [47, 47]).length ≤ _
  unfold Lib.trimPrefix
  split <;> simp
 ·rcases kn_of hk with ⟨h, -⟩ | ⟨-, rfl, rfl⟩ | ⟨h, -⟩ | ⟨h, -⟩ | ⟨h, -⟩ | ⟨h, -⟩
  ·exact absurd h (by decide)
  ·exact ⟨rfl, .inr (.inr (.inl ⟨rfl, by decide, rfl⟩))⟩
  all_goals exact absurd h (by decide)
theorem step_user (n0 g : Nat) (u : SUri) (s : ByteArray) (w : World) (hU : URepO n0 w g u) (hs : s.size ≤ 1073741000) :
  Calls Tryz.prog 133 #[.pointer (some ⟨g, 0, none⟩), .string s] w (StepPost n0 g 5 (stFn 133) u s w) := by
 refine (user_any n0 g u s w hU (by omega)).mono ?_
 rintro e w' ⟨rfl, h2, h3⟩
 refine ⟨_, _, _, _, rfl, h2, h3, ?_, .inl rfl, fun _ => .inr ⟨4, _, by decide, rfl, rfl⟩, fun hk => ?_⟩
 ·rw [sz, dl]
  unfold userS
  split <;> simp
 ·rcases kn_of hk with ⟨h, -⟩ | ⟨h, -⟩ | ⟨-, rfl, rfl⟩ | ⟨h, -⟩ | ⟨h, -⟩ | ⟨h, -⟩
  ·exact absurd h (by decide)
  ·exact absurd h (by decide)
  ·exact ⟨rfl, .inr (.inr (.inr (.inl ⟨rfl, by decide, rfl⟩)))⟩
  all_goals exact absurd h (by decide)
theorem step_host (n0 g : Nat) (u : SUri) (s : ByteArray) (w : World) (hU : URepO n0 w g u) (hs : s.size ≤ 1073741000) :
  Calls Tryz.prog 141 #[.pointer (some ⟨g, 0, none⟩), .string s] w (StepPost n0 g 4 (stFn 141) u s w) := by
 refine (host_any n0 g u s w hU (by omega)).mono ?_
 rintro e w' ⟨rfl, h2, h3⟩
 refine ⟨_, _, _, _, rfl, h2, h3, ?_, .inl rfl, fun _ => .inr ?_, fun hk => ?_⟩
 ·rw [sz, dl]
  unfold hostS
  split
  ·simp
  ·split <;> simp
 ·unfold hostS
  split
  ·exact ⟨1, _, by decide, rfl, rfl⟩
  ·split
   ·exact ⟨3, _, by decide, rfl, rfl⟩
   ·split
    ·exact ⟨2, _, by decide, rfl, rfl⟩
    ·split
     ·exact ⟨1, _, by decide, rfl, rfl⟩
     ·exact ⟨0, _, by decide, rfl, rfl⟩
 ·rcases kn_of hk with ⟨h, -⟩ | ⟨h, -⟩ | ⟨h, -⟩ | ⟨-, rfl, rfl⟩ | ⟨h, -⟩ | ⟨h, -⟩
  ·exact absurd h (by decide)
  ·exact absurd h (by decide)
  ·exact absurd h (by decide)
  ·exact ⟨rfl, .inr (.inr (.inr (.inr (.inl ⟨rfl, by decide, rfl⟩))))⟩
  all_goals exact absurd h (by decide)
theorem step_v6 (n0 g : Nat) (u : SUri) (s : ByteArray) (w : World) (hU : URepO n0 w g u) (hs : s.size ≤ 1073741000) :
  Calls Tryz.prog 150 #[.pointer (some ⟨g, 0, none⟩), .string s] w (StepPost n0 g 3 (stFn 150) u s w) := by
 refine (hostv6_any n0 g u s w hU (by omega)).mono ?_
 rintro e w' ⟨st, s', ev, u', h1, h2, h3, h4, h5, h6⟩
 refine ⟨st, s', ev, u', h1, h2, h3, h4, h5, h6, fun hk => ?_⟩
 rcases kn_of hk with ⟨h, -⟩ | ⟨h, -⟩ | ⟨h, -⟩ | ⟨h, -⟩ | ⟨h, -⟩ | ⟨h, -⟩ <;> exact absurd h (by decide)
theorem atoi_kn3 : Lib.atoiAll (⟨kn3.toArray⟩ : ByteArray).data.toList = .ok 5070 := by decide
theorem step_port (N n0 g : Nat) (u : SUri) (s : ByteArray) (w : World) (hG : Gl N w) (hN : N ≤ n0) (hU : URepO n0 w g u) (hs : s.size ≤ 1073741000) :
  Calls Tryz.prog 151 #[.pointer (some ⟨g, 0, none⟩), .string s] w (StepPost n0 g 2 (stFn 151) u s w) := by
 refine (port_any N n0 g u s w hG hN hU (by omega)).mono ?_
 rintro e w' ⟨n, st, s', ev, h1, h2, h3, h4, h5, h6, h7⟩
 refine ⟨st, s', ev, _, h1, h2, h3, h4, h5, h6, fun hk => ?_⟩
 rcases kn_of hk with ⟨h, -⟩ | ⟨h, -⟩ | ⟨h, -⟩ | ⟨h, -⟩ | ⟨-, rfl, rfl⟩ | ⟨h, -⟩
 ·exact absurd h (by decide)
 ·exact absurd h (by decide)
 ·exact absurd h (by decide)
 ·exact absurd h (by decide)
 ·obtain ⟨rfl, rfl, rfl, rfl⟩ := h7 (by decide) 5070 atoi_kn3
  exact ⟨rfl, .inr (.inr (.inr (.inr (.inr (.inl ⟨rfl, rfl, rfl⟩)))))⟩
 ·exact absurd h (by decide)
theorem step_params (N n0 g : Nat) (u : SUri) (s : ByteArray) (w : World) (hG : Gl N w) (hN : N ≤ n0) (hU : URepO n0 w g u) (hs : s.size ≤ 1073741000) :
  Calls Tryz.prog 152 #[.pointer (some ⟨g, 0, none⟩), .string s] w (StepPost n0 g 1 (stFn 152) u s w) := by
 refine (uriparams_any N n0 g u s w hG hN hU hs).mono ?_
 rintro e w' ⟨st, s', ev, u', h1, h2, h3, h4, h5, h6, h7⟩
 refine ⟨st, s', ev, u', h1, h2, h3, h4, h5, h6, fun hk => ?_⟩
 rcases kn_of hk with ⟨h, -⟩ | ⟨h, -⟩ | ⟨h, -⟩ | ⟨h, -⟩ | ⟨h, -⟩ | ⟨-, rfl, rfl⟩
 ·exact absurd h (by decide)
 ·exact absurd h (by decide)
 ·exact absurd h (by decide)
 ·exact absurd h (by decide)
 ·exact absurd h (by decide)
 ·obtain ⟨rfl, rfl, rfl⟩ := h7 rfl
  exact ⟨rfl, .inr (.inr (.inr (.inr (.inr (.inr ⟨rfl, rfl⟩)))))⟩
theorem step_headers (N n0 g : Nat) (u : SUri) (s : ByteArray) (w : World) (hG : Gl N w) (hN : N ≤ n0) (hU : URepO n0 w g u) (hs : s.size ≤ 1073741000) :
  Calls Tryz.prog 153 #[.pointer (some ⟨g, 0, none⟩), .string s] w (StepPost n0 g 0 (stFn 153) u s w) := by
 refine (headers_any N n0 g u s w hG hN hU hs).mono ?_
 rintro e w' ⟨st, s', ev, u', h1, h2, h3, h4, h5, h6⟩
 refine ⟨st, s', ev, u', h1, h2, h3, h4, h5, h6, fun hk => ?_⟩
 rcases kn_of hk with ⟨h, -⟩ | ⟨h, -⟩ | ⟨h, -⟩ | ⟨h, -⟩ | ⟨h, -⟩ | ⟨h, -⟩ <;> exact absurd h (by decide)
theorem step_any (N n0 g j n : Nat) (hj : stList[j]? = some n) (u : SUri) (s : ByteArray) (w : World) (hG : Gl N w) (hN : N ≤ n0) (hU : URepO n0 w g u) (hs : s.size ≤ 1073741000) :
  Calls Tryz.prog n #[.pointer (some ⟨g, 0, none⟩), .string s] w (StepPost n0 g j (stFn n) u s w) := by
 match j, hj with
 | 0, hj => cases hj; exact step_headers N n0 g u s w hG hN hU hs
 | 1, hj => cases hj; exact step_params N n0 g u s w hG hN hU hs
 | 2, hj => cases hj; exact step_port N n0 g u s w hG hN hU hs
 | 3, hj => cases hj; exact step_v6 n0 g u s w hU hs
 | 4, hj => cases hj; exact step_host n0 g u s w hU hs
 | 5, hj => cases hj; exact step_user n0 g u s w hU hs
 | 6, hj => cases hj; exact step_slashes n0 g u s w hU hs
 | 7, hj => cases hj; exact step_scheme n0 g u s w hU hs
 | j + 8, hj => simp [stList] at hj
def rk : Value → Nat
 | .func (.func n) _ _ => (stList.findIdx (· == n)) + 1
 | _ => 0
theorem rk_at {j n : Nat} (hj : stList[j]? = some n) : rk (stFn n) = j + 1 := by
 match j, hj with
 | 0, hj => cases hj; decide
 | 1, hj => cases hj; decide
 | 2, hj => cases hj; decide
 | 3, hj => cases hj; decide
 | 4, hj => cases hj; decide
 | 5, hj => cases hj; decide
 | 6, hj => cases hj; decide
 | 7, hj => cases hj; decide
 | j + 8, hj => simp [stList] at hj
theorem rk_lt {k : Nat} {v : Value} (h : StLt k v) : rk v ≤ k := by
 rcases h with rfl | ⟨j, n, h1, h2, rfl⟩
 ·exact Nat.zero_le _
 ·rw [rk_at h2]; omega
theorem StLt.more {k m : Nat} {v : Value} (h : StLt k v) (hk : k ≤ m) : StLt m v := by
 rcases h with rfl | ⟨j, n, h1, h2, h3⟩
 ·exact .inl rfl
 ·exact .inr ⟨j, n, by omega, h2, h3⟩
theorem st_enters {j n : Nat} (hj : stList[j]? = some n) : ∀ args w, (callFunc n args).run Tryz.prog w = .ok (.enter n args) w := by
 match j, hj with
 | 0, hj => cases hj; exact enters_of Tryz.func153 (by kernel_rfl) rfl
 | 1, hj => cases hj; exact enters_of Tryz.func152 (by kernel_rfl) rfl
 | 2, hj => cases hj; exact enters_of Tryz.func151 (by kernel_rfl) rfl
 | 3, hj => cases hj; exact enters_of Tryz.func150 (by kernel_rfl) rfl
 | 4, hj => cases hj; exact enters_of Tryz.func141 (by kernel_rfl) rfl
 | 5, hj => cases hj; exact enters_of Tryz.func133 (by kernel_rfl) rfl
 | 6, hj => cases hj; exact enters_of Tryz.func115 (by kernel_rfl) rfl
 | 7, hj => cases hj; exact enters_of Tryz.func93 (by kernel_rfl) rfl
 | j + 8, hj => simp [stList] at hj
def ParsePost (n0 g : Nat) (u : SUri) (s : ByteArray) (w : World) (e : Ending) (w' : World) : Prop := ∃ ev u', e = .returned ev ∧ URepO n0 w' g u' ∧ Below n0 w w' ∧ ErrV ev ∧ (s = ⟨kn0.toArray⟩ → u = zeroU → ev = .nilIface ∧ u' = knU 5070 borgB bobB)
theorem parse_any (N n0 g : Nat) (u : SUri) (s : ByteArray) (w : World) (hG : Gl N w) (hN : N ≤ n0) (hU : URepO n0 w g u) (hs : s.size ≤ 1073741000) :
  Calls Tryz.prog 72 #[.string s, .pointer (some ⟨g, 0, none⟩)] w (ParsePost n0 g u s w) := by
 have HU := hid hU
 have HG := hid (And.intro hG hN)
 have HS := hid hs
 clear hU hG hN
 by_cases hz : s.size = 0
 ·have hz2 : (s.size : Int) = 0 := by omega
  have HE := hid (fun wx => errnew_any ⟨#[101, 109, 112, 116, 121, 32, 85, 82, 73]⟩ wx)
  have HZ := hid hz
  clear hz hs
  go_enter Tryz.func72, Tryz.ntmps72
  go_wp2_with (go_at_call 92; refine (HE.out _).mono ?_; rintro e w2 ⟨⟨a, rfl⟩, hb⟩)
  go_ret
  exact ⟨_, u, rfl, HU.out.below hb, hb.mono HU.out.le, .inr ⟨_, _, rfl⟩, fun h => absurd HZ.out (by rw [h]; decide)⟩
 ·have hz2 : ((s.size : Int) == 0) = false := by rw [beq_eq_false_iff_ne]; exact fun h => hz (by omega)
  clear hz hs
  go_enter Tryz.func72, Tryz.ntmps72
  go_wp2_with fail
  go_loopw [4, 5, 6] (fun ev st str wr => ∃ (s' : ByteArray) (u' : SUri), ev = .nilIface ∧ str = .string s' ∧ s'.size ≤ 1073741000 ∧ StLt 8 st ∧ URepO n0 wr g u' ∧ Below n0 w wr ∧ (s = ⟨kn0.toArray⟩ → u = zeroU → Kn st s' u')) (fun _ st _ _ => rk st)
  case atStart => exact ⟨s, u, rfl, rfl, HS.out, .inr ⟨7, _, by decide, rfl, rfl⟩, HU.out, Below.refl _ _, fun h1 h2 => .inl ⟨rfl, h1, h2⟩⟩
  case round =>
   obtain ⟨s', u', rfl, rfl, hsz, hst, hu, hb, hk⟩ := hrel
   obtain ⟨wo, rfl⟩ : ∃ wo : World, wo = wr := ⟨_, rfl⟩
   have HUO := hid hu
   have HB := hid hb
   have HK := hid hk
   have HSZ := hid hsz
   clear hu hb hk hsz
   rcases hst with rfl | ⟨j, n, hj8, hjn, rfl⟩
   ·have q : ∀ w, (binOp .neq 150 .nilFunc .nilFunc).run Tryz.prog w = .ok (.bool false) w := fun w => by kernel_rfl
    go_wp2
    go_ret
    exact ⟨_, u', rfl, HUO.out, HB.out, .inl rfl, fun h1 h2 => ⟨rfl, by
     rcases HK.out h1 h2 with ⟨h, -⟩ | ⟨h, -⟩ | ⟨h, -⟩ | ⟨h, -⟩ | ⟨h, -⟩ | ⟨h, -⟩ | ⟨-, h⟩
     ·cases h
     ·cases h
     ·cases h
     ·cases h
     ·cases h
     ·cases h
     ·exact h⟩⟩
   ·have HST := hid (step_any N n0 g j n hjn u' s' wo (HG.out.1.below HB.out HG.out.2) HG.out.2 HUO.out HSZ.out)
    have q : ∀ w, (binOp .neq 150 (.func (.func n) #[] #[]) .nilFunc).run Tryz.prog w = .ok (.bool true) w := fun w => by kernel_rfl
    have q2 := st_enters hjn
    have HJ := hid (And.intro hj8 hjn)
    have HRK := hid (rk_at hjn)
    unfold stFn at HST HK HRK ⊢
    clear hj8 hjn
    go_wp2_with fail
    refine HST.out.mono ?_
    rintro e w2 ⟨st2, s2, ev2, u2, rfl, hu2, hb2, hs2, hev, hlt, hkn⟩
    have HU2 := hid hu2
    have HB2 := hid (HB.out.trans hb2)
    have HS2 := hid (Nat.le_trans hs2 HSZ.out)
    have HLT := hid hlt
    have HKN := hid hkn
    clear hu2 hb2 hs2 hlt hkn
    rcases hev with rfl | ⟨T, x, rfl⟩
    ·have HL2 := hid (HLT.out rfl)
     clear HLT
     go_wp2
     go_roundw
     case rel => exact ⟨s2, u2, rfl, rfl, HS2.out, HL2.out.more (by have := HJ.out.1; omega), HU2.out, HB2.out, fun h1 h2 => (HKN.out (HK.out h1 h2)).2⟩
     case measure =>
      have h1 := rk_lt HL2.out
      have h2 := HRK.out
      omega
    ·go_wp2
     go_ret
     exact ⟨_, u2, rfl, HU2.out, HB2.out, .inr ⟨_, _, rfl⟩, fun h1 h2 => absurd (HKN.out (HK.out h1 h2)).1 (by simp)⟩
