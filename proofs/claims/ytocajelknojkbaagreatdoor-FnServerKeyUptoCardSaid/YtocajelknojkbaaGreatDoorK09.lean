import Derived.Test.YtocajelknojkbaaGreatDoorK07
import Derived.Test.YtocajelknojkbaaGreatDoorK06
set_option maxRecDepth 100000
set_option maxHeartbeats 16000000
set_option linter.all false
namespace Go.Proofs.YtocajelknojkbaaGreatDoor
open Go.Lib (hid)
open Go.RowKit
def kvCells (l : KVs) : List Value := l.flatMap fun p => [.string p.1, .string p.2]
theorem kvCells_len (l : KVs) : (kvCells l).length = l.length * 2 := by
 induction l with
 | nil => rfl
 | cons a l ih => simp only [kvCells, List.flatMap_cons, List.length_append, List.length_cons, List.length_nil] at *; omega
theorem kvCells_get (l : KVs) (i : Nat) (h : i < l.length) : (kvCells l)[i * 2]? = some (.string l[i].1) ∧ (kvCells l)[i * 2 + 1]? = some (.string l[i].2) := by
 induction l generalizing i with
 | nil => exact absurd h (by simp)
 | cons a l ih =>
  cases i with
  | zero => exact ⟨rfl, rfl⟩
  | succ i =>
   have := ih i (by simpa using h)
   simp only [kvCells, List.flatMap_cons, List.cons_append, List.nil_append, List.getElem_cons_succ] at *
   rw [show (i + 1) * 2 = i * 2 + 1 + 1 by omega]
   simpa using this
theorem kvCells_snoc (l : KVs) (p : ByteArray × ByteArray) : kvCells (l ++ [p]) = kvCells l ++ [.string p.1, .string p.2] := by simp [kvCells]
theorem kvCells_one (l : KVs) : ∀ u ∈ kvCells l, u.oneCell' = true := by
 intro u hu
 simp only [kvCells, List.mem_flatMap] at hu
 obtain ⟨p, _, hp⟩ := hu
 simp only [List.mem_cons, List.not_mem_nil, or_false] at hp
 rcases hp with rfl | rfl <;> rfl
theorem PRep.of_own {w : World} {b : Nat} {v : Value} {l : KVs} (h : w.ownsRow b 207 2 v l.length (kvCells l)) : PRep w v l := by
 rcases h.2 with ⟨hv, hn⟩ | ⟨g, cap, cur, hv, _, hg, hn, hc, hs, ht⟩
 ·exact .inl ⟨hv, List.length_eq_zero_iff.1 hn⟩
 ·refine .inr ⟨g, cap, cur, hv, hn, hc, hg, fun i hi => ?_⟩
  have h1 := kvCells_get l i hi
  rw [← ht, List.getElem?_take_of_lt (by omega), List.getElem?_take_of_lt (by omega)] at h1
  simpa using h1
theorem PRep.news {w : World} {g cap : Nat} {cs : Array Value} {l : KVs} (h3 : w.heap[g]? = some (.cells cs 207 (0, 0))) (h4 : ∀ i (h : i < l.length), cs[i * 2]? = some (.string l[i].1) ∧ cs[i * 2 + 1]? = some (.string l[i].2)) (j : Nat) (u : Value) (hj : (kvCells l)[j]? = some u) : w.cell? ((⟨g, 0, none⟩ : Addr).add j) = some u := by
 rw [Addr.add_lit, Nat.zero_add]
 have hlt : j < (kvCells l).length := (List.getElem?_eq_some_iff.1 hj).1
 rw [kvCells_len] at hlt
 have hi : j / 2 < l.length := by omega
 have h1 := kvCells_get l (j / 2) hi
 have h2 := h4 (j / 2) hi
 rw [show w.cell? ⟨g, j, none⟩ = cs[j]? by simp [World.cell?, h3]]
 rcases Nat.mod_two_eq_zero_or_one j with hm | hm
 ·rw [show j / 2 * 2 = j by omega] at h1 h2
  rw [h2.1, ← h1.1, hj]
 ·rw [show j / 2 * 2 + 1 = j by omega] at h1 h2
  rw [h2.2, ← h1.2, hj]
theorem kv_info : (Tryz.prog.info? 207).map (fun i => (i.zero, i.size, i.bytes)) = some (some (.agg #[.string ⟨#[]⟩, .string ⟨#[]⟩]), 2, 32) := by kernel_rfl
def PPost (l : KVs) (w : World) (e : Ending) (w' : World) : Prop := ∃ v, e = .returned v ∧ PRep w' v l ∧ Below w.heap.size w w'
theorem sclone_any (v : Value) (l : KVs) (w : World) (hr : PRep w v l) (hl : l.length ≤ 1073741824) :
  Calls Tryz.prog 128 #[v] w (PPost l w) := by
 rcases hr with ⟨rfl, rfl⟩ | ⟨g, cap, cs, rfl, h2, h2', h3, h4⟩
 ·have q1 := fun (w : World) (a : Option Addr) (n c : Nat) => Lib.run_eql_slice_nil (P := Tryz.prog) w 105 207 a n c 0 0 Tryz.underlying105
  go_enter Tryz.func128, Tryz.ntmps128
  go_wp2
  go_ret
  exact ⟨_, rfl, .inl ⟨rfl, rfl⟩, Below.refl _ _⟩
 ·have hg := heap_lt h3
  obtain ⟨i0, hi, hzz⟩ := Option.map_eq_some_iff.1 kv_info
  simp only [Prod.mk.injEq] at hzz
  obtain ⟨hz0, hz1, hz2⟩ := hzz
  have HN := hid (PRep.news (l := l) (w := w.alloc (.cells #[] 207)) (cap := cap) (g := g) (cs := cs) (by rw [Below.heap_alloc _ _ _ hg]; exact h3) h4)
  have HL := hid hl
  have HI := hid hi
  have HZ := hid (And.intro hz0 (And.intro hz1 hz2))
  clear h2 h2' h3 h4 hl hg hi hz0 hz1 hz2
  have q1 := fun (w : World) (a : Option Addr) (n c : Nat) => Lib.run_eql_slice_nil (P := Tryz.prog) w 105 207 a n c 0 0 Tryz.underlying105
  go_enter Tryz.func128, Tryz.ntmps128
  go_wp2_with (at_builtin; refine wpList_append_own _ rfl _ _ 105 rfl w.heap.size 207 i0 (.agg #[.string ⟨#[]⟩, .string ⟨#[]⟩]) 2 32 Tryz.underlying105 HI.out HZ.out.1 HZ.out.2.1 HZ.out.2.2 rfl (by decide) _ 0 [] rfl (World.ownsRow_made w #[] 0 (Nat.le_refl _) (by decide) rfl) ⟨g, 0, none⟩ l.length cap (kvCells l) rfl (kvCells_len l) HN.out (kvCells_one l) (by have := HL.out; simp only [maxLen]; omega) (by have := HL.out; omega) (by simp) ?_)
  intro v1 w2 ho1 hgr _
  obtain ⟨A1, k1, rfl⟩ := own_slice ho1
  have HO := hid ho1
  have HB := hid (((Below.refl w.heap.size w).alloc (Nat.le_refl _) _).grown hgr (by simp) (fun k hk => by simp [Value.ownBlock] at hk; omega))
  clear ho1 hgr
  go_wp2
  go_ret
  exact ⟨.slice A1 l.length k1, rfl, PRep.of_own (b := w.heap.size) (by simpa using HO.out), HB.out⟩
theorem hclone_any (v : Value) (l : KVs) (w : World) (hr : PRep w v l) (hl : l.length ≤ 1073741824) :
  Calls Tryz.prog 109 #[v] w (PPost l w) := by
 have HE := hid (sclone_any v l w hr hl)
 clear hr hl
 go_enter Tryz.func109, Tryz.ntmps109
 go_wp2_with fail
 refine HE.out.mono ?_
 rintro e w1 ⟨v1, rfl, h1, h2⟩
 go_wp2
 go_ret
 exact ⟨_, rfl, h1, h2⟩
def lowB (c : UInt8) : UInt8 := if 65 ≤ c.toNat ∧ c.toNat ≤ 90 then c + 32 else c
def lowT (l : Bytes) : Bytes := l.map lowB
theorem lowB_num (c : UInt8) : ((lowB c).toNat : Int) = if 65 ≤ c.toNat ∧ c.toNat ≤ 90 then (c.toNat : Int) + 32 else c.toNat := by
 unfold lowB
 split
 ·rename_i h
  rw [UInt8.toNat_add]
  have : (32 : UInt8).toNat = 32 := rfl
  rw [this, Nat.mod_eq_of_lt (by omega)]
  omega
 ·rfl
theorem lowT_of_low (l : Bytes) (h : ∀ c ∈ l, 97 ≤ c.toNat ∧ c.toNat ≤ 122) : lowT l = l := by
 unfold lowT
 rw [List.map_congr_left (g := id) (fun c hc => ?_)]
 ·simp
 ·have := h c hc
  unfold lowB
  rw [if_neg (by omega)]
  rfl
theorem BW.of_at {n0 b : Nat} {w : World} (h : Lib.BuilderAt 166 5 n0 b (.pointer (some ⟨b, 0, none⟩)) (Lib.byteCells []) w) : BW n0 b [] w := .inr (Lib.BuilderAtF.of h)
theorem lowT_snoc (l : Bytes) (c : UInt8) : lowT (l ++ [c]) = lowT l ++ [lowB c] := by simp [lowT]
def LowPost (l : Bytes) (w : World) (e : Ending) (w' : World) : Prop := e = .returned (.string ⟨(lowT l).toArray⟩) ∧ Below w.heap.size w w'
theorem tolow_any (s : ByteArray) (w : World) (hs : s.size ≤ 70368744177664) :
  Calls Tryz.prog 114 #[.string s] w (LowPost s.data.toList w) := by
 have hdl : s.size = s.data.toList.length := (Array.length_toList).symm
 have HS := hid (And.intro hs hdl)
 clear hs hdl
 go_enter Tryz.func114, Tryz.ntmps114
 go_wp2_with fail
 go_loopw [3, 4, 5] (fun i _ _ wr => i = .int .i64 (-1) ∧ ∃ pos : Nat, pos ≤ s.size ∧ (∀ j (h : j < s.size), j < pos → 97 ≤ s[j].toNat ∧ s[j].toNat ≤ 122) ∧ wr.heap[w.heap.size]? = some (.stringIter s pos) ∧ Below w.heap.size w wr) (fun _ _ _ wr => s.size - wr.iterPos w.heap.size)
 case atStart => exact ⟨rfl, 0, Nat.zero_le _, fun j _ h => absurd h (by omega), by simpa using World.iter_heap w s 0, (Below.refl _ w).alloc (Nat.le_refl _) _⟩
 case round =>
  obtain ⟨rfl, k, hk, hlow, hit, hb⟩ := hrel
  have HB := hid hb
  have HLO := hid hlow
  clear hlow
  by_cases hlt : k < s.size
  ·by_cases hin : 97 ≤ s[k].toNat ∧ s[k].toNat ≤ 122
   ·have hnx : ∀ ty, (Instr.next (.pointer (some ⟨w.heap.size, 0, none⟩)) true ty).run Tryz.prog wr = _ := fun ty => Lib.run_next_ascii_at wr w.heap.size s k ty hit hlt (by omega)
    have hit2 := Lib.iterAt_heap wr w.heap.size s k (k + 1) hit
    have hb2 := Lib.below_iterAt hb (k := w.heap.size) (Nat.le_refl _) s (k + 1)
    have HI := hid hit
    have HI2 := hid hit2
    have HB2 := hid hb2
    have h1 : (97 : Int) ≤ s[k].toNat := by omega
    have h2 : (s[k].toNat : Int) ≤ 122 := by omega
    have HIN := hid hin
    clear hit hit2 hb hb2 hin
    go_wp2
    go_roundw
    case rel =>
     refine ⟨rfl, k + 1, by omega, fun j hj hjk => ?_, HI2.out, HB2.out⟩
     by_cases hjk2 : j < k
     ·exact HLO.out j hj hjk2
     ·obtain rfl : j = k := by omega
      exact HIN.out
    case measure => simp only [World.iterPos, HI2.out, HI.out]; omega
   ·obtain ⟨r, n, hr, hdec⟩ : ∃ r n : Nat, ¬ (97 ≤ r ∧ r ≤ 122) ∧ Utf8.decode s k = (r, n) := by
     by_cases hlo : s[k].toNat < 128
     ·exact ⟨_, _, hin, decode_ascii s k hlt hlo⟩
     ·exact ⟨(Utf8.decode s k).1, (Utf8.decode s k).2, by have := (decode_high s k hlt (by omega)).1; omega, rfl⟩
    have hnx : ∀ ty, (Instr.next (.pointer (some ⟨w.heap.size, 0, none⟩)) true ty).run Tryz.prog wr = .ok (.tuple #[.bool true, .int .i64 k, .int .i32 r]) (wr.iterAt w.heap.size s (k + n)) := fun ty => by
     rw [Lib.run_next_any_at wr w.heap.size s k ty hit hlt, hdec]
    have hb2 := Lib.below_iterAt hb (k := w.heap.size) (Nat.le_refl _) s (k + n)
    have HB2 := hid hb2
    have HLT := hid hlt
    clear hit hb hb2 hdec hin
    obtain ⟨w1, hw1⟩ : ∃ w1, w1 = wr.iterAt w.heap.size s (k + n) := ⟨_, rfl⟩
    rw [← hw1] at hnx HB2
    have hnn : ¬ ((k : Int) < 0) := by omega
    have hkn : (k : Int) ≤ s.size := by omega
    have hsz1 : k ≤ s.size := Nat.le_of_lt hlt
    have HKS := hid hsz1
    rcases (show ((97 : Int) ≤ r ∧ ¬ (r : Int) ≤ 122) ∨ ¬ (97 : Int) ≤ r by omega) with ⟨h97, h122⟩ | h97
    all_goals
     (clear hr hw1
      go_wp2_with fail
      refine (Tryz.Builder_Grow_fresh w1.heap.size w1.heap.size s.size _ (Nat.le_refl _) (heap_alloc_new w1 _) (by simp) (by have := HS.out; omega)).mono ?_
      rintro e w3 ⟨rfl, hbd, hbl⟩
      have HB3 := hid (BW.of_at hbd)
      have HW3 := hid (((HB2.out.alloc HB2.out.size _).trans (hbl.mono HB2.out.size)))
      clear hbd hbl
      go_wp2_with fail
      refine (ws_any w1.heap.size w1.heap.size _ _ _ HB3.out (by have := HS.out.1; simp; omega)).mono ?_
      rintro e w4 ⟨rfl, hB4, hk4⟩
      have hB4' : BW w1.heap.size w1.heap.size (lowT (s.data.toList.take k)) w4 := by
       have : lowT (s.data.toList.take k) = s.data.toList.take k := lowT_of_low _ (fun c hc => by
        obtain ⟨j, hj, rfl⟩ := List.mem_iff_getElem.1 hc
        have := HS.out.2
        simp only [List.length_take] at hj
        rw [List.getElem_take]
        exact HLO.out j (by omega) (by omega))
       rw [this]
       simpa using hB4
      have HB4 := hid hB4'
      have HW4 := hid (HW3.out.trans (hk4.1.mono HB2.out.size))
      clear hB4' hB4 hk4
      go_wp2_with fail
      go_loopw [7, 8] (fun i _ wr => ∃ j : Nat, j ≤ s.size ∧ i = .int .i64 j ∧ BW w1.heap.size w1.heap.size (lowT (s.data.toList.take j)) wr ∧ Below w.heap.size w wr) (fun i _ _ => s.size - (intOf i).toNat)
      case atStart => exact ⟨k, HKS.out, rfl, HB4.out, HW4.out⟩
      case round =>
       obtain ⟨j, hj, rfl, hB, hW⟩ := hrel
       have HBJ := hid hB
       have HWJ := hid hW
       clear hB hW
       by_cases hjl : j < s.size
       ·obtain ⟨c, hc⟩ : ∃ c, s[j]'hjl = c := ⟨_, rfl⟩
        have hidx : ∀ h : j < s.size, s[j]'h = c := fun _ => hc
        have HST := hid (show s.data.toList.take (j + 1) = s.data.toList.take j ++ [c] by
         rw [List.take_add_one, List.getElem?_eq_getElem (by rw [← HS.out.2]; exact hjl), ← hc]
         rfl)
        have HJL := hid (Nat.succ_le_of_lt hjl)
        have HW64 := hid (wrap64_add (j := j) (by have := HS.out.1; omega))
        have hnum := lowB_num c
        clear hc
        by_cases hcap : 65 ≤ c.toNat ∧ c.toNat ≤ 90
        ·rw [if_pos hcap] at hnum
         have HNUM := hid hnum
         have h65 : (65 : Int) ≤ c.toNat := by omega
         have h90 : (c.toNat : Int) ≤ 90 := by omega
         have hwr : IntKind.u8.wrap ((c.toNat : Int) + 32) = (c.toNat : Int) + 32 := by rw [IntKind.wrap_u8]; omega
         clear hcap hnum
         go_wp2_with fail
         have hcall := wb_any w1.heap.size w1.heap.size _ (lowB c) _ HBJ.out (by have := HS.out.1; have := HJL.out; simp only [lowT, List.length_map, List.length_take]; omega)
         rw [HNUM.out] at hcall
         refine hcall.mono ?_
         rintro e w5 ⟨rfl, hB5, hk5⟩
         have HB5 := hid hB5
         have HW5 := hid (HWJ.out.trans (hk5.1.mono HB2.out.size))
         clear hB5 hk5
         go_wp2_with fail
         go_roundw
         case rel =>
          refine ⟨j + 1, HJL.out, by rw [HW64.out], ?_, HW5.out⟩
          rw [HST.out, lowT_snoc]
          exact HB5.out
         case measure => exact meas_step HJL.out HW64.out
        ·rw [if_neg hcap] at hnum
         have HNUM := hid hnum
         rcases (show ((65 : Int) ≤ c.toNat ∧ ¬ (c.toNat : Int) ≤ 90) ∨ ¬ (65 : Int) ≤ c.toNat by omega) with ⟨h65, h90⟩ | h65
         all_goals
          (clear hcap hnum
           go_wp2_with fail
           have hcall := wb_any w1.heap.size w1.heap.size _ (lowB c) _ HBJ.out (by have := HS.out.1; have := HJL.out; simp only [lowT, List.length_map, List.length_take]; omega)
           rw [HNUM.out] at hcall
           refine hcall.mono ?_
           rintro e w5 ⟨rfl, hB5, hk5⟩
           have HB5 := hid hB5
           have HW5 := hid (HWJ.out.trans (hk5.1.mono HB2.out.size))
           clear hB5 hk5
           go_wp2_with fail
           go_roundw
           case rel =>
            refine ⟨j + 1, HJL.out, by rw [HW64.out], ?_, HW5.out⟩
            rw [HST.out, lowT_snoc]
            exact HB5.out
           case measure => exact meas_step HJL.out HW64.out)
       ·have HJ := hid hjl
        go_wp2_with fail
        refine (bstr_any w1.heap.size w1.heap.size _ _ HBJ.out).mono ?_
        rintro e w5 ⟨rfl, hB5, hk5⟩
        go_wp2_with fail
        go_ret
        have he : j = s.data.toList.length := by have := HJ.out; have := HS.out.2; omega
        rw [he, List.take_length]
        exact ⟨rets (by apply Go.WideShapes.bytes_inj; simp), HWJ.out.trans (hk5.1.mono HB2.out.size)⟩)
  ·have hnx : ∀ ty, (Instr.next (.pointer (some ⟨w.heap.size, 0, none⟩)) true ty).run Tryz.prog wr = _ := fun ty => Lib.run_next_end_at wr w.heap.size s k ty hit hlt
   have HK := hid hlt
   clear hit hb hlt
   go_wp2
   go_ret
   have hl : lowT s.data.toList = s.data.toList := lowT_of_low _ (fun c hc => by
    obtain ⟨j, hj, rfl⟩ := List.mem_iff_getElem.1 hc
    have := HS.out.2
    exact HLO.out j (by omega) (by have := HK.out; omega))
   exact ⟨rets (by apply Go.WideShapes.bytes_inj; simp [hl]), HB.out⟩
theorem hlow_0 (w : World) : Calls Tryz.prog 254 #[.string ⟨#[86, 105, 97]⟩] w (LowPost [86, 105, 97] w) := by
 go_enter Tryz.func254, Tryz.ntmps254
 go_wp2
 go_ret
 exact ⟨rets (by decide), Below.refl _ _⟩
theorem hlow_1 (w : World) : Calls Tryz.prog 254 #[.string ⟨#[118, 105, 97]⟩] w (LowPost [118, 105, 97] w) := by
 go_enter Tryz.func254, Tryz.ntmps254
 go_wp2
 go_ret
 exact ⟨rets (by decide), Below.refl _ _⟩
theorem hlow_2 (w : World) : Calls Tryz.prog 254 #[.string ⟨#[70, 114, 111, 109]⟩] w (LowPost [70, 114, 111, 109] w) := by
 go_enter Tryz.func254, Tryz.ntmps254
 go_wp2
 go_ret
 exact ⟨rets (by decide), Below.refl _ _⟩
theorem hlow_3 (w : World) : Calls Tryz.prog 254 #[.string ⟨#[102, 114, 111, 109]⟩] w (LowPost [102, 114, 111, 109] w) := by
 go_enter Tryz.func254, Tryz.ntmps254
 go_wp2
 go_ret
 exact ⟨rets (by decide), Below.refl _ _⟩
theorem hlow_4 (w : World) : Calls Tryz.prog 254 #[.string ⟨#[84, 111]⟩] w (LowPost [84, 111] w) := by
 go_enter Tryz.func254, Tryz.ntmps254
 go_wp2
 go_ret
 exact ⟨rets (by decide), Below.refl _ _⟩
theorem hlow_5 (w : World) : Calls Tryz.prog 254 #[.string ⟨#[116, 111]⟩] w (LowPost [116, 111] w) := by
 go_enter Tryz.func254, Tryz.ntmps254
 go_wp2
 go_ret
 exact ⟨rets (by decide), Below.refl _ _⟩
theorem hlow_6 (w : World) : Calls Tryz.prog 254 #[.string ⟨#[67, 97, 108, 108, 45, 73, 68]⟩] w (LowPost [67, 97, 108, 108, 45, 73, 68] w) := by
 go_enter Tryz.func254, Tryz.ntmps254
 go_wp2
 go_ret
 exact ⟨rets (by decide), Below.refl _ _⟩
theorem hlow_7 (w : World) : Calls Tryz.prog 254 #[.string ⟨#[99, 97, 108, 108, 45, 105, 100]⟩] w (LowPost [99, 97, 108, 108, 45, 105, 100] w) := by
 go_enter Tryz.func254, Tryz.ntmps254
 go_wp2
 go_ret
 exact ⟨rets (by decide), Below.refl _ _⟩
theorem hlow_8 (w : World) : Calls Tryz.prog 254 #[.string ⟨#[67, 111, 110, 116, 97, 99, 116]⟩] w (LowPost [67, 111, 110, 116, 97, 99, 116] w) := by
 go_enter Tryz.func254, Tryz.ntmps254
 go_wp2
 go_ret
 exact ⟨rets (by decide), Below.refl _ _⟩
theorem hlow_9 (w : World) : Calls Tryz.prog 254 #[.string ⟨#[99, 111, 110, 116, 97, 99, 116]⟩] w (LowPost [99, 111, 110, 116, 97, 99, 116] w) := by
 go_enter Tryz.func254, Tryz.ntmps254
 go_wp2
 go_ret
 exact ⟨rets (by decide), Below.refl _ _⟩
theorem hlow_10 (w : World) : Calls Tryz.prog 254 #[.string ⟨#[67, 83, 101, 113]⟩] w (LowPost [67, 83, 101, 113] w) := by
 go_enter Tryz.func254, Tryz.ntmps254
 go_wp2
 go_ret
 exact ⟨rets (by decide), Below.refl _ _⟩
theorem hlow_11 (w : World) : Calls Tryz.prog 254 #[.string ⟨#[67, 83, 69, 81]⟩] w (LowPost [67, 83, 69, 81] w) := by
 go_enter Tryz.func254, Tryz.ntmps254
 go_wp2
 go_ret
 exact ⟨rets (by decide), Below.refl _ _⟩
theorem hlow_12 (w : World) : Calls Tryz.prog 254 #[.string ⟨#[99, 115, 101, 113]⟩] w (LowPost [99, 115, 101, 113] w) := by
 go_enter Tryz.func254, Tryz.ntmps254
 go_wp2
 go_ret
 exact ⟨rets (by decide), Below.refl _ _⟩
theorem hlow_13 (w : World) : Calls Tryz.prog 254 #[.string ⟨#[67, 111, 110, 116, 101, 110, 116, 45, 84, 121, 112, 101]⟩] w (LowPost [67, 111, 110, 116, 101, 110, 116, 45, 84, 121, 112, 101] w) := by
 go_enter Tryz.func254, Tryz.ntmps254
 go_wp2
 go_ret
 exact ⟨rets (by decide), Below.refl _ _⟩
theorem hlow_14 (w : World) : Calls Tryz.prog 254 #[.string ⟨#[99, 111, 110, 116, 101, 110, 116, 45, 116, 121, 112, 101]⟩] w (LowPost [99, 111, 110, 116, 101, 110, 116, 45, 116, 121, 112, 101] w) := by
 go_enter Tryz.func254, Tryz.ntmps254
 go_wp2
 go_ret
 exact ⟨rets (by decide), Below.refl _ _⟩
theorem hlow_15 (w : World) : Calls Tryz.prog 254 #[.string ⟨#[67, 111, 110, 116, 101, 110, 116, 45, 76, 101, 110, 103, 116, 104]⟩] w (LowPost [67, 111, 110, 116, 101, 110, 116, 45, 76, 101, 110, 103, 116, 104] w) := by
 go_enter Tryz.func254, Tryz.ntmps254
 go_wp2
 go_ret
 exact ⟨rets (by decide), Below.refl _ _⟩
theorem hlow_16 (w : World) : Calls Tryz.prog 254 #[.string ⟨#[99, 111, 110, 116, 101, 110, 116, 45, 108, 101, 110, 103, 116, 104]⟩] w (LowPost [99, 111, 110, 116, 101, 110, 116, 45, 108, 101, 110, 103, 116, 104] w) := by
 go_enter Tryz.func254, Tryz.ntmps254
 go_wp2
 go_ret
 exact ⟨rets (by decide), Below.refl _ _⟩
theorem hlow_17 (w : World) : Calls Tryz.prog 254 #[.string ⟨#[82, 111, 117, 116, 101]⟩] w (LowPost [82, 111, 117, 116, 101] w) := by
 go_enter Tryz.func254, Tryz.ntmps254
 go_wp2
 go_ret
 exact ⟨rets (by decide), Below.refl _ _⟩
theorem hlow_18 (w : World) : Calls Tryz.prog 254 #[.string ⟨#[114, 111, 117, 116, 101]⟩] w (LowPost [114, 111, 117, 116, 101] w) := by
 go_enter Tryz.func254, Tryz.ntmps254
 go_wp2
 go_ret
 exact ⟨rets (by decide), Below.refl _ _⟩
theorem hlow_19 (w : World) : Calls Tryz.prog 254 #[.string ⟨#[82, 101, 99, 111, 114, 100, 45, 82, 111, 117, 116, 101]⟩] w (LowPost [82, 101, 99, 111, 114, 100, 45, 82, 111, 117, 116, 101] w) := by
 go_enter Tryz.func254, Tryz.ntmps254
 go_wp2
 go_ret
 exact ⟨rets (by decide), Below.refl _ _⟩
theorem hlow_20 (w : World) : Calls Tryz.prog 254 #[.string ⟨#[114, 101, 99, 111, 114, 100, 45, 114, 111, 117, 116, 101]⟩] w (LowPost [114, 101, 99, 111, 114, 100, 45, 114, 111, 117, 116, 101] w) := by
 go_enter Tryz.func254, Tryz.ntmps254
 go_wp2
 go_ret
 exact ⟨rets (by decide), Below.refl _ _⟩
theorem hlow_21 (w : World) : Calls Tryz.prog 254 #[.string ⟨#[77, 97, 120, 45, 70, 111, 114, 119, 97, 114, 100, 115]⟩] w (LowPost [77, 97, 120, 45, 70, 111, 114, 119, 97, 114, 100, 115] w) := by
 go_enter Tryz.func254, Tryz.ntmps254
 go_wp2
 go_ret
 exact ⟨rets (by decide), Below.refl _ _⟩
theorem hlow_22 (w : World) : Calls Tryz.prog 254 #[.string ⟨#[84, 105, 109, 101, 115, 116, 97, 109, 112]⟩] w (LowPost [84, 105, 109, 101, 115, 116, 97, 109, 112] w) := by
 go_enter Tryz.func254, Tryz.ntmps254
 go_wp2
 go_ret
 exact ⟨rets (by decide), Below.refl _ _⟩
theorem hlow_23 (w : World) : Calls Tryz.prog 254 #[.string ⟨#[116, 105, 109, 101, 115, 116, 97, 109, 112]⟩] w (LowPost [116, 105, 109, 101, 115, 116, 97, 109, 112] w) := by
 go_enter Tryz.func254, Tryz.ntmps254
 go_wp2
 go_ret
 exact ⟨rets (by decide), Below.refl _ _⟩
theorem hlow_any (s : ByteArray) (w : World) (hs : s.size ≤ 70368744177664) :
  Calls Tryz.prog 254 #[.string s] w (LowPost s.data.toList w) := by
 by_cases h0 : s = ⟨#[86, 105, 97]⟩
 ·subst h0
  exact hlow_0 w
 by_cases h1 : s = ⟨#[118, 105, 97]⟩
 ·subst h1
  exact hlow_1 w
 by_cases h2 : s = ⟨#[70, 114, 111, 109]⟩
 ·subst h2
  exact hlow_2 w
 by_cases h3 : s = ⟨#[102, 114, 111, 109]⟩
 ·subst h3
  exact hlow_3 w
 by_cases h4 : s = ⟨#[84, 111]⟩
 ·subst h4
  exact hlow_4 w
 by_cases h5 : s = ⟨#[116, 111]⟩
 ·subst h5
  exact hlow_5 w
 by_cases h6 : s = ⟨#[67, 97, 108, 108, 45, 73, 68]⟩
 ·subst h6
  exact hlow_6 w
 by_cases h7 : s = ⟨#[99, 97, 108, 108, 45, 105, 100]⟩
 ·subst h7
  exact hlow_7 w
 by_cases h8 : s = ⟨#[67, 111, 110, 116, 97, 99, 116]⟩
 ·subst h8
  exact hlow_8 w
 by_cases h9 : s = ⟨#[99, 111, 110, 116, 97, 99, 116]⟩
 ·subst h9
  exact hlow_9 w
 by_cases h10 : s = ⟨#[67, 83, 101, 113]⟩
 ·subst h10
  exact hlow_10 w
 by_cases h11 : s = ⟨#[67, 83, 69, 81]⟩
 ·subst h11
  exact hlow_11 w
 by_cases h12 : s = ⟨#[99, 115, 101, 113]⟩
 ·subst h12
  exact hlow_12 w
 by_cases h13 : s = ⟨#[67, 111, 110, 116, 101, 110, 116, 45, 84, 121, 112, 101]⟩
 ·subst h13
  exact hlow_13 w
 by_cases h14 : s = ⟨#[99, 111, 110, 116, 101, 110, 116, 45, 116, 121, 112, 101]⟩
 ·subst h14
  exact hlow_14 w
 by_cases h15 : s = ⟨#[67, 111, 110, 116, 101, 110, 116, 45, 76, 101, 110, 103, 116, 104]⟩
 ·subst h15
  exact hlow_15 w
 by_cases h16 : s = ⟨#[99, 111, 110, 116, 101, 110, 116, 45, 108, 101, 110, 103, 116, 104]⟩
 ·subst h16
  exact hlow_16 w
 by_cases h17 : s = ⟨#[82, 111, 117, 116, 101]⟩
 ·subst h17
  exact hlow_17 w
 by_cases h18 : s = ⟨#[114, 111, 117, 116, 101]⟩
 ·subst h18
  exact hlow_18 w
 by_cases h19 : s = ⟨#[82, 101, 99, 111, 114, 100, 45, 82, 111, 117, 116, 101]⟩
 ·subst h19
  exact hlow_19 w
 by_cases h20 : s = ⟨#[114, 101, 99, 111, 114, 100, 45, 114, 111, 117, 116, 101]⟩
 ·subst h20
  exact hlow_20 w
 by_cases h21 : s = ⟨#[77, 97, 120, 45, 70, 111, 114, 119, 97, 114, 100, 115]⟩
 ·subst h21
  exact hlow_21 w
 by_cases h22 : s = ⟨#[84, 105, 109, 101, 115, 116, 97, 109, 112]⟩
 ·subst h22
  exact hlow_22 w
 by_cases h23 : s = ⟨#[116, 105, 109, 101, 115, 116, 97, 109, 112]⟩
 ·subst h23
  exact hlow_23 w
 have g0 := ne_lit (l := [86, 105, 97]) h0
 have g1 := ne_lit (l := [118, 105, 97]) h1
 have g2 := ne_lit (l := [70, 114, 111, 109]) h2
 have g3 := ne_lit (l := [102, 114, 111, 109]) h3
 have g4 := ne_lit (l := [84, 111]) h4
 have g5 := ne_lit (l := [116, 111]) h5
 have g6 := ne_lit (l := [67, 97, 108, 108, 45, 73, 68]) h6
 have g7 := ne_lit (l := [99, 97, 108, 108, 45, 105, 100]) h7
 have g8 := ne_lit (l := [67, 111, 110, 116, 97, 99, 116]) h8
 have g9 := ne_lit (l := [99, 111, 110, 116, 97, 99, 116]) h9
 have g10 := ne_lit (l := [67, 83, 101, 113]) h10
 have g11 := ne_lit (l := [67, 83, 69, 81]) h11
 have g12 := ne_lit (l := [99, 115, 101, 113]) h12
 have g13 := ne_lit (l := [67, 111, 110, 116, 101, 110, 116, 45, 84, 121, 112, 101]) h13
 have g14 := ne_lit (l := [99, 111, 110, 116, 101, 110, 116, 45, 116, 121, 112, 101]) h14
 have g15 := ne_lit (l := [67, 111, 110, 116, 101, 110, 116, 45, 76, 101, 110, 103, 116, 104]) h15
 have g16 := ne_lit (l := [99, 111, 110, 116, 101, 110, 116, 45, 108, 101, 110, 103, 116, 104]) h16
 have g17 := ne_lit (l := [82, 111, 117, 116, 101]) h17
 have g18 := ne_lit (l := [114, 111, 117, 116, 101]) h18
 have g19 := ne_lit (l := [82, 101, 99, 111, 114, 100, 45, 82, 111, 117, 116, 101]) h19
 have g20 := ne_lit (l := [114, 101, 99, 111, 114, 100, 45, 114, 111, 117, 116, 101]) h20
 have g21 := ne_lit (l := [77, 97, 120, 45, 70, 111, 114, 119, 97, 114, 100, 115]) h21
 have g22 := ne_lit (l := [84, 105, 109, 101, 115, 116, 97, 109, 112]) h22
 have g23 := ne_lit (l := [116, 105, 109, 101, 115, 116, 97, 109, 112]) h23
 clear h0 h1 h2 h3 h4 h5 h6 h7 h8 h9 h10 h11 h12 h13 h14 h15 h16 h17 h18 h19 h20 h21 h22 h23
 have HE := hid (tolow_any s w hs)
 clear hs
 go_enter Tryz.func254, Tryz.ntmps254
 go_wp2_with fail
 refine HE.out.mono ?_
 rintro e w1 ⟨rfl, hb⟩
 go_wp2
 go_ret
 exact ⟨rfl, hb⟩
def strKV (p : Bytes × Bytes) : ByteArray × ByteArray := (⟨p.1.toArray⟩, ⟨p.2.toArray⟩)
def strKVs (l : BKVs) : KVs := l.map strKV
theorem params_any (v : Value) (l : BKVs) (w : World) (hA : SK w v l) (hl : l.length ≤ 1073741824) :
  Calls Tryz.prog 98 #[v] w (PPost (strKVs l) w) := by
 obtain ⟨A, c, rfl, h2, h3, h4, h5⟩ := hA
 have H5 := hid h5
 have HL := hid hl
 have hlen : l.length ≤ 9223372036854775807 := by omega
 clear h2 h3 h4 h5 hl
 go_enter Tryz.func98, Tryz.ntmps98
 go_wp2_with fail
 go_loopw [3, 5, 8] (fun o _ i wr => ∃ k : Nat, k ≤ l.length ∧ i = .int .i64 k ∧ wr.ownsRow w.heap.size 207 2 o k (kvCells (strKVs (l.take k))) ∧ Below w.heap.size w wr) (fun _ _ i _ => l.length - (intOf i).toNat)
 case atStart => exact ⟨0, Nat.zero_le _, rfl, World.ownsRow_nil _ _ _ _, Below.refl _ _⟩
 case round =>
  obtain ⟨k, hk, rfl, ho, hb⟩ := hrel
  have HO := hid ho
  have HB := hid hb
  obtain ⟨wo, rfl⟩ : ∃ wo : World, wo = wr := ⟨_, rfl⟩
  clear ho hb
  by_cases hlt : k < l.length
  ·obtain ⟨a, vk, vv, rfl, hc, hd, hsk, hsv⟩ := H5.out k hlt
   have c0 := cell_at_below hc HB.out
   have c1 := cell_at_below hd HB.out
   have hsk2 := hsk.below HB.out
   have hsv2 := hsv.below HB.out
   clear hc hd hsk hsv
   obtain ⟨Ak, ck, rfl, -⟩ := id hsk2
   obtain ⟨Av, cv, rfl, -⟩ := id hsv2
   have cv1 := fun o => (hsk2.below ((Below.refl wo.heap.size wo).alloc (Nat.le_refl _) o)).conv 9 Tryz.underlying9
   have cv2 := fun o => (hsv2.below ((Below.refl wo.heap.size wo).alloc (Nat.le_refl _) o)).conv 9 Tryz.underlying9
   have HST := hid (show kvCells (strKVs (l.take (k + 1))) = kvCells (strKVs (l.take k)) ++ [.string ⟨(l[k].1).toArray⟩, .string ⟨(l[k].2).toArray⟩] by
    rw [take_step l k hlt, strKVs, List.map_append]
    exact kvCells_snoc _ _)
   have HLT := hid (Nat.succ_le_of_lt hlt)
   clear hsk2 hsv2
   go_wp2_with (at_builtin; refine app_one w.heap.size rfl _ _ 105 207 (.agg #[.string ⟨#[]⟩, .string ⟨#[]⟩]) 2 32 rfl Tryz.underlying105 kv_info rfl (by decide) (by decide) _ k _ [.string ⟨(l[k].1).toArray⟩, .string ⟨(l[k].2).toArray⟩] (0, 0) rfl ?_ rfl (by simp [Value.oneCell']) (HO.out.alloc _) (by have := HB.out.size; simp; omega) (by have := HL.out; have := HLT.out; omega) ?_)
   ·show Value.slice (some ⟨wo.heap.size + 1, 0, none⟩) 1 1 = _
    simp
   ·intro v1 w2 ho1 hgr
    have HO1 := hid (show w2.ownsRow w.heap.size 207 2 v1 (k + 1) (kvCells (strKVs (l.take (k + 1)))) by rw [HST.out]; exact ho1)
    have HB1 := hid ((HB.out.alloc HB.out.size _).grown hgr (by have := HB.out.size; simp; omega) (fun k hk => (HO.out.lt k hk).1))
    obtain ⟨A1, k1, rfl⟩ := own_slice ho1
    clear ho1 hgr
    go_wp2
    go_roundw
    case rel => exact ⟨k + 1, HLT.out, by simp, HO1.out, HB1.out⟩
    case measure => exact meas_step HLT.out (by simp)
  ·have hke : k = l.length := by omega
   subst hke
   obtain ⟨A1, k1, rfl⟩ := own_slice HO.out
   go_wp2
   go_ret
   refine ⟨_, rfl, PRep.of_own (b := w.heap.size) ?_, HB.out⟩
   have := HO.out
   rw [List.take_length] at this
   simpa [strKVs] using this
theorem newhdr_any (n v : ByteArray) (w : World) :
  Calls Tryz.prog 97 #[.string n, .string v] w fun e w' => e = .returned ((SH.generic n v).v w.heap.size) ∧ (SH.generic n v).rep w' w.heap.size ∧ w.heap.size < w'.heap.size ∧ Below w.heap.size w w' := by
 go_enter Tryz.func97, Tryz.ntmps97
 go_wp2
 go_ret
 exact ⟨rfl, ⟨heap_alloc_new w _, by decide, by decide⟩, by simp, (Below.refl _ w).alloc (Nat.le_refl _) _⟩
theorem errnew_any (s : ByteArray) (w : World) :
  Calls Tryz.prog 92 #[.string s] w fun e w' => (∃ a, e = .returned (.iface 201 (.pointer (some a)))) ∧ Below w.heap.size w w' := by
 go_enter Tryz.func92, Tryz.ntmps92
 go_wp2
 go_ret
 exact ⟨⟨_, rfl⟩, (Below.refl _ w).alloc (Nat.le_refl _) _⟩
