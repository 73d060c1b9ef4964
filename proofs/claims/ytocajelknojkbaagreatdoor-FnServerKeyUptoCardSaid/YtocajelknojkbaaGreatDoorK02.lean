import Derived.Test.YtocajelknojkbaaGreatDoorK01
import Derived.Deep.DeepCutAuto
import Derived.Lib.AppendIntMem
set_option maxRecDepth 100000
set_option maxHeartbeats 16000000
set_option linter.all false
namespace Go.Proofs.YtocajelknojkbaaGreatDoor
section
open Go.Lib (hid)
open Go.RowKit
def zeros16 : Array Value := #[.int .u8 0, .int .u8 0, .int .u8 0, .int .u8 0, .int .u8 0, .int .u8 0, .int .u8 0, .int .u8 0, .int .u8 0, .int .u8 0, .int .u8 0, .int .u8 0, .int .u8 0, .int .u8 0, .int .u8 0, .int .u8 0]
def mapped16 (a b c d : Int) : Array Value := #[.int .u8 0, .int .u8 0, .int .u8 0, .int .u8 0, .int .u8 0, .int .u8 0, .int .u8 0, .int .u8 0, .int .u8 0, .int .u8 0, .int .u8 255, .int .u8 255, .int .u8 a, .int .u8 b, .int .u8 c, .int .u8 d]
def IPPost (w : World) (e : Ending) (w' : World) : Prop := ∃ v ok, e = .returned (.tuple #[.agg v, .bool ok]) ∧ Below w.heap.size w w' ∧ (ok = false ∧ v = zeros16 ∨ ok = true ∧ ∃ a b c d, v = mapped16 a b c d)
theorem pip_any (s : ByteArray) (w : World) (hG : G0 w) (hs : s.size ≤ 9223372036854775807) (hn : NoColon s) :
  Calls Tryz.prog 154 #[.string s] w (IPPost w) := by
 obtain ⟨d4, o4, hz4, hd1, hd2⟩ := hG.z4
 have hz0 := hG.z0
 have l4 : 8 < w.heap.size := World.block_lt_of_cell? w _ hz4
 have l0 : 2 < w.heap.size := World.block_lt_of_cell? w _ hz0
 have ld1 : d4 < w.heap.size := World.block_lt_of_cell? w _ hd1
 have hza : ∀ o, (w.alloc o).cell? ⟨8, 0, none⟩ = some (.pointer (some ⟨d4, o4, none⟩)) := fun o => by rw [World.cell?_alloc_lt _ _ _ l4]; exact hz4
 go_enter Tryz.func154, Tryz.ntmps154
 go_wp2_with (go_at_call 165; refine (paddr_any _ s _ (hza _) hs hn).mono ?_)
 rintro e w1 ⟨lo, z', ev, rfl, hb, hev⟩
 have hblk := below_new _ hb
 have hlt1 : w.heap.size < w1.heap.size := heap_lt hblk
 have k0 : w1.cell? ⟨w.heap.size, 0, none⟩ = some (.int .u8 0) := by simp [World.cell?, hblk]
 have k1 : w1.cell? ⟨w.heap.size, 1, none⟩ = some (.int .u8 0) := by simp [World.cell?, hblk]
 have k2 : w1.cell? ⟨w.heap.size, 2, none⟩ = some (.int .u8 0) := by simp [World.cell?, hblk]
 have k3 : w1.cell? ⟨w.heap.size, 3, none⟩ = some (.int .u8 0) := by simp [World.cell?, hblk]
 have k4 : w1.cell? ⟨w.heap.size, 4, none⟩ = some (.int .u8 0) := by simp [World.cell?, hblk]
 have k5 : w1.cell? ⟨w.heap.size, 5, none⟩ = some (.int .u8 0) := by simp [World.cell?, hblk]
 have k6 : w1.cell? ⟨w.heap.size, 6, none⟩ = some (.int .u8 0) := by simp [World.cell?, hblk]
 have k7 : w1.cell? ⟨w.heap.size, 7, none⟩ = some (.int .u8 0) := by simp [World.cell?, hblk]
 have k8 : w1.cell? ⟨w.heap.size, 8, none⟩ = some (.int .u8 0) := by simp [World.cell?, hblk]
 have k9 : w1.cell? ⟨w.heap.size, 9, none⟩ = some (.int .u8 0) := by simp [World.cell?, hblk]
 have k10 : w1.cell? ⟨w.heap.size, 10, none⟩ = some (.int .u8 0) := by simp [World.cell?, hblk]
 have k11 : w1.cell? ⟨w.heap.size, 11, none⟩ = some (.int .u8 0) := by simp [World.cell?, hblk]
 have k12 : w1.cell? ⟨w.heap.size, 12, none⟩ = some (.int .u8 0) := by simp [World.cell?, hblk]
 have k13 : w1.cell? ⟨w.heap.size, 13, none⟩ = some (.int .u8 0) := by simp [World.cell?, hblk]
 have k14 : w1.cell? ⟨w.heap.size, 14, none⟩ = some (.int .u8 0) := by simp [World.cell?, hblk]
 have k15 : w1.cell? ⟨w.heap.size, 15, none⟩ = some (.int .u8 0) := by simp [World.cell?, hblk]
 have y0 : w1.frozen? ⟨w.heap.size, 0, none⟩ = false := by simp [World.frozen?, hblk]
 have y1 : w1.frozen? ⟨w.heap.size, 1, none⟩ = false := by simp [World.frozen?, hblk]
 have y2 : w1.frozen? ⟨w.heap.size, 2, none⟩ = false := by simp [World.frozen?, hblk]
 have y3 : w1.frozen? ⟨w.heap.size, 3, none⟩ = false := by simp [World.frozen?, hblk]
 have y4 : w1.frozen? ⟨w.heap.size, 4, none⟩ = false := by simp [World.frozen?, hblk]
 have y5 : w1.frozen? ⟨w.heap.size, 5, none⟩ = false := by simp [World.frozen?, hblk]
 have y6 : w1.frozen? ⟨w.heap.size, 6, none⟩ = false := by simp [World.frozen?, hblk]
 have y7 : w1.frozen? ⟨w.heap.size, 7, none⟩ = false := by simp [World.frozen?, hblk]
 have y8 : w1.frozen? ⟨w.heap.size, 8, none⟩ = false := by simp [World.frozen?, hblk]
 have y9 : w1.frozen? ⟨w.heap.size, 9, none⟩ = false := by simp [World.frozen?, hblk]
 have y10 : w1.frozen? ⟨w.heap.size, 10, none⟩ = false := by simp [World.frozen?, hblk]
 have y11 : w1.frozen? ⟨w.heap.size, 11, none⟩ = false := by simp [World.frozen?, hblk]
 have y12 : w1.frozen? ⟨w.heap.size, 12, none⟩ = false := by simp [World.frozen?, hblk]
 have y13 : w1.frozen? ⟨w.heap.size, 13, none⟩ = false := by simp [World.frozen?, hblk]
 have y14 : w1.frozen? ⟨w.heap.size, 14, none⟩ = false := by simp [World.frozen?, hblk]
 have y15 : w1.frozen? ⟨w.heap.size, 15, none⟩ = false := by simp [World.frozen?, hblk]
 have hbw : Below w.heap.size w w1 := ((Below.refl _ _).alloc (Nat.le_refl _) _).trans (hb.mono (by simp))
 have c4 := (hbw.cell (p := ⟨2, 0, none⟩) l0).trans hz0
 have c5 := (hbw.cell (p := ⟨d4, o4, none⟩) ld1).trans hd1
 have c6 := (hbw.cell (p := ⟨d4, o4 + 1, none⟩) ld1).trans hd2
 clear hza hz0 hz4 hd1 hd2
 rcases hev with ⟨T, v, rfl, rfl, rfl⟩ | ⟨rfl, rfl, h1, h2⟩
 ·clear hb hblk
  go_wp2
  refine bodyPost_ret (v := ?_) (by simp [results, Tryz.results154, go_sem, hlt1, k0, k1, k2, k3, k4, k5, k6, k7, k8, k9, k10, k11, k12, k13, k14, k15]; rfl) rfl ⟨zeros16, false, rfl, ?_, .inl ⟨rfl, rfl⟩⟩
  repeat (first | (with_reducible refine below_set0 ?_ _ _) | (with_reducible refine Below.alloc ?_ (by simp; omega) _) | with_reducible exact hbw)
 ·have HB := hid hbw
  clear hb hblk
  have L4 : 2 < w1.heap.size := by omega
  have L5 : d4 < w1.heap.size := by omega
  have q4 : ∀ o, (w1.alloc o).cell? ⟨2, 0, none⟩ = some (.pointer none) := fun o => by rw [World.cell?_alloc_lt _ _ _ L4]; exact c4
  have q5 : ∀ o, (w1.alloc o).cell? ⟨d4, o4, none⟩ = some (.bool false) := fun o => by rw [World.cell?_alloc_lt _ _ _ L5]; exact c5
  have q6 : ∀ o, (w1.alloc o).cell? ⟨d4, o4 + 1, none⟩ = some (.string ⟨#[]⟩) := fun o => by rw [World.cell?_alloc_lt _ _ _ L5]; exact c6
  go_wp2_with (go_at_call 166; refine (zone_any 0 lo d4 o4 _ (q4 _) (q5 _) (q6 _)).mono ?_)
  rintro e w2 ⟨rfl, hb2⟩
  have hblk2 := below_new _ hb2
  have m0 : w2.cell? ⟨w1.heap.size, 0, none⟩ = some (.int .u64 0) := by simp [World.cell?, hblk2]
  have m1 : w2.cell? ⟨w1.heap.size, 1, none⟩ = some (.int .u64 lo) := by simp [World.cell?, hblk2]
  have m2 : w2.cell? ⟨w1.heap.size, 2, none⟩ = some (.pointer (some ⟨d4, o4, none⟩)) := by simp [World.cell?, hblk2]
  have hb3 : Below w1.heap.size w1 w2 := ((Below.refl _ _).alloc (Nat.le_refl _) _).trans (hb2.mono (by simp))
  rw [← hb3.cell (p := ⟨w.heap.size, 0, none⟩) hlt1] at k0
  rw [← hb3.cell (p := ⟨w.heap.size, 1, none⟩) hlt1] at k1
  rw [← hb3.cell (p := ⟨w.heap.size, 2, none⟩) hlt1] at k2
  rw [← hb3.cell (p := ⟨w.heap.size, 3, none⟩) hlt1] at k3
  rw [← hb3.cell (p := ⟨w.heap.size, 4, none⟩) hlt1] at k4
  rw [← hb3.cell (p := ⟨w.heap.size, 5, none⟩) hlt1] at k5
  rw [← hb3.cell (p := ⟨w.heap.size, 6, none⟩) hlt1] at k6
  rw [← hb3.cell (p := ⟨w.heap.size, 7, none⟩) hlt1] at k7
  rw [← hb3.cell (p := ⟨w.heap.size, 8, none⟩) hlt1] at k8
  rw [← hb3.cell (p := ⟨w.heap.size, 9, none⟩) hlt1] at k9
  rw [← hb3.cell (p := ⟨w.heap.size, 10, none⟩) hlt1] at k10
  rw [← hb3.cell (p := ⟨w.heap.size, 11, none⟩) hlt1] at k11
  rw [← hb3.cell (p := ⟨w.heap.size, 12, none⟩) hlt1] at k12
  rw [← hb3.cell (p := ⟨w.heap.size, 13, none⟩) hlt1] at k13
  rw [← hb3.cell (p := ⟨w.heap.size, 14, none⟩) hlt1] at k14
  rw [← hb3.cell (p := ⟨w.heap.size, 15, none⟩) hlt1] at k15
  rw [← hb3.frozen (p := ⟨w.heap.size, 0, none⟩) hlt1] at y0
  rw [← hb3.frozen (p := ⟨w.heap.size, 1, none⟩) hlt1] at y1
  rw [← hb3.frozen (p := ⟨w.heap.size, 2, none⟩) hlt1] at y2
  rw [← hb3.frozen (p := ⟨w.heap.size, 3, none⟩) hlt1] at y3
  rw [← hb3.frozen (p := ⟨w.heap.size, 4, none⟩) hlt1] at y4
  rw [← hb3.frozen (p := ⟨w.heap.size, 5, none⟩) hlt1] at y5
  rw [← hb3.frozen (p := ⟨w.heap.size, 6, none⟩) hlt1] at y6
  rw [← hb3.frozen (p := ⟨w.heap.size, 7, none⟩) hlt1] at y7
  rw [← hb3.frozen (p := ⟨w.heap.size, 8, none⟩) hlt1] at y8
  rw [← hb3.frozen (p := ⟨w.heap.size, 9, none⟩) hlt1] at y9
  rw [← hb3.frozen (p := ⟨w.heap.size, 10, none⟩) hlt1] at y10
  rw [← hb3.frozen (p := ⟨w.heap.size, 11, none⟩) hlt1] at y11
  rw [← hb3.frozen (p := ⟨w.heap.size, 12, none⟩) hlt1] at y12
  rw [← hb3.frozen (p := ⟨w.heap.size, 13, none⟩) hlt1] at y13
  rw [← hb3.frozen (p := ⟨w.heap.size, 14, none⟩) hlt1] at y14
  rw [← hb3.frozen (p := ⟨w.heap.size, 15, none⟩) hlt1] at y15
  have HB3 := hid hb3
  have hlt2 : w.heap.size < w2.heap.size := Nat.lt_of_lt_of_le hlt1 hb3.size
  clear hb2 hb3 hblk2 q4 q5 q6 c4 c5 c6
  go_wp2_with (go_at_call 167; refine (as16_any lo _ _ h1 h2).mono ?_)
  rintro e w3 ⟨a, b, c, d, rfl, hb4⟩
  rw [← hb4.cell (p := ⟨w.heap.size, 0, none⟩) hlt2] at k0
  rw [← hb4.cell (p := ⟨w.heap.size, 1, none⟩) hlt2] at k1
  rw [← hb4.cell (p := ⟨w.heap.size, 2, none⟩) hlt2] at k2
  rw [← hb4.cell (p := ⟨w.heap.size, 3, none⟩) hlt2] at k3
  rw [← hb4.cell (p := ⟨w.heap.size, 4, none⟩) hlt2] at k4
  rw [← hb4.cell (p := ⟨w.heap.size, 5, none⟩) hlt2] at k5
  rw [← hb4.cell (p := ⟨w.heap.size, 6, none⟩) hlt2] at k6
  rw [← hb4.cell (p := ⟨w.heap.size, 7, none⟩) hlt2] at k7
  rw [← hb4.cell (p := ⟨w.heap.size, 8, none⟩) hlt2] at k8
  rw [← hb4.cell (p := ⟨w.heap.size, 9, none⟩) hlt2] at k9
  rw [← hb4.cell (p := ⟨w.heap.size, 10, none⟩) hlt2] at k10
  rw [← hb4.cell (p := ⟨w.heap.size, 11, none⟩) hlt2] at k11
  rw [← hb4.cell (p := ⟨w.heap.size, 12, none⟩) hlt2] at k12
  rw [← hb4.cell (p := ⟨w.heap.size, 13, none⟩) hlt2] at k13
  rw [← hb4.cell (p := ⟨w.heap.size, 14, none⟩) hlt2] at k14
  rw [← hb4.cell (p := ⟨w.heap.size, 15, none⟩) hlt2] at k15
  rw [← hb4.frozen (p := ⟨w.heap.size, 0, none⟩) hlt2] at y0
  rw [← hb4.frozen (p := ⟨w.heap.size, 1, none⟩) hlt2] at y1
  rw [← hb4.frozen (p := ⟨w.heap.size, 2, none⟩) hlt2] at y2
  rw [← hb4.frozen (p := ⟨w.heap.size, 3, none⟩) hlt2] at y3
  rw [← hb4.frozen (p := ⟨w.heap.size, 4, none⟩) hlt2] at y4
  rw [← hb4.frozen (p := ⟨w.heap.size, 5, none⟩) hlt2] at y5
  rw [← hb4.frozen (p := ⟨w.heap.size, 6, none⟩) hlt2] at y6
  rw [← hb4.frozen (p := ⟨w.heap.size, 7, none⟩) hlt2] at y7
  rw [← hb4.frozen (p := ⟨w.heap.size, 8, none⟩) hlt2] at y8
  rw [← hb4.frozen (p := ⟨w.heap.size, 9, none⟩) hlt2] at y9
  rw [← hb4.frozen (p := ⟨w.heap.size, 10, none⟩) hlt2] at y10
  rw [← hb4.frozen (p := ⟨w.heap.size, 11, none⟩) hlt2] at y11
  rw [← hb4.frozen (p := ⟨w.heap.size, 12, none⟩) hlt2] at y12
  rw [← hb4.frozen (p := ⟨w.heap.size, 13, none⟩) hlt2] at y13
  rw [← hb4.frozen (p := ⟨w.heap.size, 14, none⟩) hlt2] at y14
  rw [← hb4.frozen (p := ⟨w.heap.size, 15, none⟩) hlt2] at y15
  have HB4 := hid hb4
  clear hb4 m0 m1 m2
  go_wp2
  refine bodyPost_ret (v := ?_) (by simp [results, Tryz.results154, go_sem, k0, k1, k2, k3, k4, k5, k6, k7, k8, k9, k10, k11, k12, k13, k14, k15]; rfl) rfl ⟨mapped16 a b c d, true, rfl, ?_, .inr ⟨rfl, a, b, c, d, rfl⟩⟩
  have hfin : Below w.heap.size w w3 := (HB.out.trans (HB3.out.mono (by omega))).trans (HB4.out.mono (by omega))
  repeat (first | (with_reducible refine below_set0 ?_ _ _) | with_reducible exact hfin)
def NetPost (w : World) (e : Ending) (w' : World) : Prop := ∃ v, e = .returned v ∧ Below w.heap.size w w' ∧ (v = .slice none 0 0 ∨ ∃ g a b c d, v = .slice (some ⟨g, 0, none⟩) 16 16 ∧ w'.heap[g]? = some (.cells (mapped16 a b c d) 235 (0, 0)))
theorem pnet_any (s : ByteArray) (w : World) (hG : G0 w) (hs : s.size ≤ 9223372036854775807) (hn : NoColon s) :
  Calls Tryz.prog 142 #[.string s] w (NetPost w) := by
 go_enter Tryz.func142, Tryz.ntmps142
 go_wp2_with (go_at_call 154; refine (pip_any s _ hG hs hn).mono ?_)
 rintro e w1 ⟨v, ok, rfl, hb, ⟨rfl, rfl⟩ | ⟨rfl, a, b, c, d, rfl⟩⟩
 ·unfold zeros16
  go_wp2
  go_ret
  exact ⟨_, rfl, hb.alloc hb.size _, .inl rfl⟩
 ·unfold mapped16
  go_wp2
  go_ret
  exact ⟨_, rfl, hb.alloc hb.size _, .inr ⟨w1.heap.size, a, b, c, d, rfl, heap_alloc_new _ _⟩⟩
theorem zeros_any (g cap : Nat) (w : World) (hc : ∀ i, i < 10 → w.cell? ⟨g, i, none⟩ = some (.int .u8 0)) :
  Calls Tryz.prog 155 #[.slice (some ⟨g, 0, none⟩) 10 cap] w fun e w' => e = .returned (.bool true) ∧ w' = w := by
 go_enter Tryz.func155, Tryz.ntmps155
 go_wp2_with fail
 go_loop [3] (fun i => ∃ k : Nat, k ≤ 10 ∧ i = .int .i64 k) (fun i => 10 - (intOf i).toNat)
 case atStart => exact ⟨0, Nat.zero_le _, rfl⟩
 case round =>
  obtain ⟨k, hk, rfl⟩ := hrel
  by_cases hlt : k < 10
  ·have h := hc k hlt
   have HC := hid hc
   clear hc
   go_wp2
   go_round
   case rel => exact ⟨k + 1, by omega, by go_num⟩
   case measure => simp [intOf]; omega
  ·go_wp2
   go_ret
   exact ⟨rfl, rfl⟩
theorem to4_any (g : Nat) (a b c d : Int) (w : World) (h : w.heap[g]? = some (.cells (mapped16 a b c d) 235 (0, 0))) :
  Calls Tryz.prog 143 #[.slice (some ⟨g, 0, none⟩) 16 16] w fun e w' => e = .returned (.slice (some ⟨g, 12, none⟩) 4 4) ∧ w' = w := by
 have hc : ∀ i, i < 10 → w.cell? ⟨g, i, none⟩ = some (.int .u8 0) := by
  intro i hi
  have : i = 0 ∨ i = 1 ∨ i = 2 ∨ i = 3 ∨ i = 4 ∨ i = 5 ∨ i = 6 ∨ i = 7 ∨ i = 8 ∨ i = 9 := by omega
  rcases this with rfl | rfl | rfl | rfl | rfl | rfl | rfl | rfl | rfl | rfl <;> simp [World.cell?, h, mapped16]
 have h10 : w.cell? ⟨g, 10, none⟩ = some (.int .u8 255) := by simp [World.cell?, h, mapped16]
 have h11 : w.cell? ⟨g, 11, none⟩ = some (.int .u8 255) := by simp [World.cell?, h, mapped16]
 have HC := hid hc
 clear hc h
 go_enter Tryz.func143, Tryz.ntmps143
 go_wp2_with (go_at_call 155; refine (zeros_any g _ _ HC.out).mono ?_; rintro e w1 ⟨rfl, rfl⟩)
 go_ret
 exact ⟨rfl, rfl⟩
def HostB (s : ByteArray) : Prop := ∀ i (h : i < s.size), s[i].toNat < 128 ∧ s[i].toNat ≠ 58 ∧ s[i].toNat ≠ 37
theorem HostB.noColon {s : ByteArray} (h : HostB s) : NoColon s := fun i hi => (h i hi).2
theorem isv6_any (s : ByteArray) (w : World) (hG : G0 w) (hs : s.size ≤ 9223372036854775807) (hn : HostB s) :
  Calls Tryz.prog 134 #[.string s] w fun e w' => e = .returned (.bool false) ∧ Below w.heap.size w w' := by
 have q1 := fun (w : World) (a : Option Addr) (n c : Nat) => run_neq_slice_nil_any (P := Tryz.prog) w 224 5 a n c 0 0 Tryz.underlying224
 have q2 := fun (w : World) (a : Option Addr) (n c : Nat) => Lib.run_eql_slice_nil (P := Tryz.prog) w 224 5 a n c 0 0 Tryz.underlying224
 go_enter Tryz.func134, Tryz.ntmps134
 go_wp2_with fail
 go_loopw [3] (fun _ wr => ∃ pos : Nat, pos ≤ s.size ∧ wr.heap[w.heap.size]? = some (.stringIter s pos) ∧ Below w.heap.size w wr) (fun _ wr => s.size - wr.iterPos w.heap.size)
 case atStart => exact ⟨0, Nat.zero_le _, by simpa using World.iter_heap w s 0, (Below.refl _ w).alloc (Nat.le_refl _) _⟩
 case round =>
  obtain ⟨k, hk, hit, hb⟩ := hrel
  have HB := hid hb
  by_cases hlt : k < s.size
  ·have hnx : ∀ ty, (Instr.next (.pointer (some ⟨w.heap.size, 0, none⟩)) true ty).run Tryz.prog wr = _ := fun ty => Lib.run_next_ascii_at wr w.heap.size s k ty hit hlt (hn k hlt).1
   have hit2 := Lib.iterAt_heap wr w.heap.size s k (k + 1) hit
   have hb2 := Lib.below_iterAt hb (k := w.heap.size) (Nat.le_refl _) s (k + 1)
   have HI := hid hit
   have HI2 := hid hit2
   have HN := hid hn
   have HB2 := hid hb2
   clear hit hit2 hb hn hb2
   by_cases h46 : k = 46
   ·subst h46
    go_wp2
    go_ret
    exact ⟨rfl, HB2.out⟩
   ·by_cases h58 : k = 58
    ·subst h58
     go_wp2_with fail
     refine (pnet_any s _ (hG.below HB2.out) hs HN.out.noColon).mono ?_
     rintro e w2 ⟨v, rfl, hb3, rfl | ⟨g, a, b, c, d, rfl, hg⟩⟩
     ·have HF := hid (HB2.out.trans (hb3.mono HB2.out.size))
      clear hb3
      go_wp2
      go_ret
      exact ⟨rfl, HF.out⟩
     ·have HF := hid (HB2.out.trans (hb3.mono HB2.out.size))
      have HG := hid hg
      clear hb3 hg
      go_wp2_with (go_at_call 143; refine (to4_any g a b c d _ HG.out).mono ?_; rintro e w3 ⟨rfl, rfl⟩)
      go_ret
      exact ⟨rfl, HF.out⟩
    ·have h1 : ((k : Int) == 46) = false := by simp; omega
     have h2 : ((k : Int) == 58) = false := by simp; omega
     go_wp2
     go_roundw
     case rel => exact ⟨k + 1, by omega, HI2.out, HB2.out⟩
     case measure => simp only [World.iterPos, HI2.out, HI.out]; omega
  ·have hnx : ∀ ty, (Instr.next (.pointer (some ⟨w.heap.size, 0, none⟩)) true ty).run Tryz.prog wr = _ := fun ty => Lib.run_next_end_at wr w.heap.size s k ty hit hlt
   have HN := hid hn
   clear hit hb hn
   go_wp2_with fail
   refine (pnet_any s _ (hG.below HB.out) hs HN.out.noColon).mono ?_
   rintro e w2 ⟨v, rfl, hb3, rfl | ⟨g, a, b, c, d, rfl, hg⟩⟩
   ·have HF := hid (HB.out.trans (hb3.mono HB.out.size))
    clear hb3
    go_wp2
    go_ret
    exact ⟨rfl, HF.out⟩
   ·have HF := hid (HB.out.trans (hb3.mono HB.out.size))
    have HG := hid hg
    clear hb3 hg
    go_wp2_with (go_at_call 143; refine (to4_any g a b c d _ HG.out).mono ?_; rintro e w3 ⟨rfl, rfl⟩)
    go_ret
    exact ⟨rfl, HF.out⟩
theorem uriip_any (s : ByteArray) (w : World) (hG : G0 w) (hs : s.size ≤ 9223372036854775807) (hn : HostB s) :
  Calls Tryz.prog 117 #[.string s] w fun e w' => e = .returned (.string s) ∧ Below w.heap.size w w' := by
 go_enter Tryz.func117, Tryz.ntmps117
 go_wp2_with (go_at_call 134; refine (isv6_any s _ hG hs hn).mono ?_; rintro e w1 ⟨rfl, hb⟩)
 go_ret
 exact ⟨rfl, hb⟩
def ValB (s : ByteArray) : Prop := ∀ i (h : i < s.size), s[i].toNat < 128 ∧ s[i].toNat ≠ 32 ∧ s[i].toNat ≠ 9
def blanks : ByteArray := ⟨#[32, 9]⟩
theorem idxany_any (s : ByteArray) (w : World) (hn : ValB s) :
  Calls Tryz.prog 144 #[.string s, .string blanks] w fun e w' => e = .returned (.int .i64 (-1)) ∧ Below w.heap.size w w' := by
 have hb2 : blanks.size = 2 := rfl
 have HS := hid hb2
 clear hb2
 go_enter Tryz.func144, Tryz.ntmps144
 go_wp2_with fail
 go_loopw [5, 6, 8] (fun _ _ _ wr => ∃ pos : Nat, pos ≤ s.size ∧ wr.heap[w.heap.size]? = some (.stringIter s pos) ∧ Below w.heap.size w wr) (fun _ _ _ wr => s.size - wr.iterPos w.heap.size)
 case atStart => exact ⟨0, Nat.zero_le _, by simpa using World.iter_heap w s 0, (Below.refl _ w).alloc (Nat.le_refl _) _⟩
 case round =>
  obtain ⟨k, hk, hit, hb⟩ := hrel
  by_cases hlt : k < s.size
  ·obtain ⟨c1, c2, c3⟩ := hn k hlt
   have hnx : ∀ ty, (Instr.next (.pointer (some ⟨w.heap.size, 0, none⟩)) true ty).run Tryz.prog wr = _ := fun ty => Lib.run_next_ascii_at wr w.heap.size s k ty hit hlt c1
   have hit2 := Lib.iterAt_heap wr w.heap.size s k (k + 1) hit
   have hb2 := Lib.below_iterAt hb (k := w.heap.size) (Nat.le_refl _) s (k + 1)
   have HIT := hid hit
   clear hit hb hn
   generalize hW : wr.iterAt w.heap.size s (k + 1) = wo at *
   have HI2 := hid hit2
   have HB2 := hid hb2
   have hlo : w.heap.size < wo.heap.size := heap_lt hit2
   have HW := hid hW
   clear hit2 hb2 hW
   have d1 : ((s[k].toNat : Int) == 32) = false := by simp; omega
   have d2 : ((s[k].toNat : Int) == 9) = false := by simp; omega
   go_wp2_with fail
   go_loopw [8] (fun _ wr => ∃ j : Nat, j ≤ 2 ∧ wr.heap[wo.heap.size]? = some (.stringIter blanks j) ∧ wr.heap[w.heap.size]? = some (.stringIter s (k + 1)) ∧ Below w.heap.size w wr) (fun _ wr => 2 - wr.iterPos wo.heap.size)
   case atStart => exact ⟨0, by omega, by simpa using World.iter_heap wo blanks 0, (Below.heap_alloc wo _ _ hlo).trans HI2.out, HB2.out.alloc (by omega) _⟩
   case round =>
    obtain ⟨j, hj, it1, it2, hb4⟩ := hrel
    have H4 := hid hb4
    have I2 := hid it2
    clear hb4 it2
    have hkk : wo.heap.size ≠ w.heap.size := by omega
    have e1 := fun p => Lib.iterAt_heap wr wo.heap.size blanks j p it1
    have e2 := fun p => (Lib.iterAt_other wr wo.heap.size w.heap.size blanks p (Ne.symm hkk)).trans I2.out
    have e3 := fun p => Lib.below_iterAt H4.out (k := wo.heap.size) (by omega) blanks p
    have E := hid (And.intro e1 (And.intro e2 e3))
    clear e1 e2 e3 hkk
    have h012 : j = 0 ∨ j = 1 ∨ j = 2 := by omega
    rcases h012 with rfl | rfl | rfl
    ·have hnx1 : ∀ ty, (Instr.next (.pointer (some ⟨wo.heap.size, 0, none⟩)) true ty).run Tryz.prog wr = .ok (.tuple #[.bool true, .int .i64 (0 : Nat), .int .i32 32]) (wr.iterAt wo.heap.size blanks 1) := fun ty => Lib.run_next_ascii_at wr wo.heap.size blanks 0 ty it1 (by decide) (by decide)
     have I1 := hid it1
     clear it1
     go_wp2
     go_roundw
     case rel => exact ⟨1, by omega, E.out.1 1, E.out.2.1 1, E.out.2.2 1⟩
     case measure => simp only [World.iterPos, E.out.1 1, I1.out]; omega
    ·have hnx1 : ∀ ty, (Instr.next (.pointer (some ⟨wo.heap.size, 0, none⟩)) true ty).run Tryz.prog wr = .ok (.tuple #[.bool true, .int .i64 (1 : Nat), .int .i32 9]) (wr.iterAt wo.heap.size blanks 2) := fun ty => Lib.run_next_ascii_at wr wo.heap.size blanks 1 ty it1 (by decide) (by decide)
     have I1 := hid it1
     clear it1
     go_wp2
     go_roundw
     case rel => exact ⟨2, by omega, E.out.1 2, E.out.2.1 2, E.out.2.2 2⟩
     case measure => simp only [World.iterPos, E.out.1 2, I1.out]; omega
    ·have hnx1 : ∀ ty, (Instr.next (.pointer (some ⟨wo.heap.size, 0, none⟩)) true ty).run Tryz.prog wr = .ok (.tuple #[.bool false]) wr := fun ty => Lib.run_next_end_at wr wo.heap.size blanks 2 ty it1 (by decide)
     have I1 := hid it1
     clear it1
     go_wp2
     go_roundw
     case rel => exact ⟨k + 1, by omega, I2.out, H4.out⟩
     case measure => simp only [World.iterPos, I2.out, HIT.out]; omega
  ·have hnx : ∀ ty, (Instr.next (.pointer (some ⟨w.heap.size, 0, none⟩)) true ty).run Tryz.prog wr = _ := fun ty => Lib.run_next_end_at wr w.heap.size s k ty hit hlt
   have HB := hid hb
   clear hit hb hn
   go_wp2
   go_ret
   exact ⟨rfl, HB.out⟩
abbrev KVs := List (ByteArray × ByteArray)
def kvT (p : ByteArray × ByteArray) : Bytes := p.1.data.toList ++ (if p.2.data.toList = [] then [] else 61 :: p.2.data.toList)
def psepT (sep : UInt8) (l : KVs) : Bytes := l.flatMap fun p => sep :: kvT p
def paramsT (sep : UInt8) (l : KVs) : Bytes := (psepT sep l).drop 1
theorem psepT_snoc (sep : UInt8) (l : KVs) (p : ByteArray × ByteArray) : psepT sep (l ++ [p]) = psepT sep l ++ sep :: kvT p := by simp [psepT]
theorem psepT_le (sep : UInt8) (l : KVs) (k : Nat) : (psepT sep (l.take k)).length ≤ (psepT sep l).length := by
 have : psepT sep l = psepT sep (l.take k) ++ psepT sep (l.drop k) := by
  unfold psepT
  rw [← List.flatMap_append, List.take_append_drop]
 rw [this, List.length_append]
 omega
theorem se_nil {s : ByteArray} (h : s.data.toList = []) : (!s.toList.isEmpty) = false := by rw [ByteArray.toList_eq, h]; rfl
theorem se_cons {s : ByteArray} (h : ¬ s.data.toList = []) : (!s.toList.isEmpty) = true := by
 rw [ByteArray.toList_eq]
 cases hl : s.data.toList with
 | nil => exact absurd hl h
 | cons a r => rfl
theorem se_cons' {s : ByteArray} (h : ¬ s.data.toList = []) : s.toList.isEmpty = false := by
 rw [ByteArray.toList_eq]
 cases hl : s.data.toList with
 | nil => exact absurd hl h
 | cons a r => rfl
theorem drop1 (l : Bytes) : (⟨l.toArray⟩ : ByteArray).extract 1 l.length = ⟨(l.drop 1).toArray⟩ := by
 apply Go.WideShapes.bytes_inj
 rw [Lib.extract_data]
 simp only [List.drop_one]
 exact List.take_of_length_le (by simp)
theorem rets {s t : ByteArray} (h : s = t) : Ending.returned (.string s) = .returned (.string t) := by rw [h]
def PRep (w : World) (v : Value) (l : KVs) : Prop :=
 (v = .slice none 0 0 ∧ l = []) ∨ ∃ g cap cs, v = .slice (some ⟨g, 0, none⟩) l.length cap ∧ l.length ≤ cap ∧ cap ≤ 9223372036854775807 ∧ w.heap[g]? = some (.cells cs 207 (0, 0)) ∧
  ∀ i (h : i < l.length), cs[i * 2]? = some (.string l[i].1) ∧ cs[i * 2 + 1]? = some (.string l[i].2)
def KVok (l : KVs) : Prop := ∀ p ∈ l, ValB p.2
theorem PRep.below {w w' : World} {v : Value} {l : KVs} (h : PRep w v l) (hb : Below w.heap.size w w') : PRep w' v l := by
 rcases h with h | ⟨g, cap, cs, h1, h2, h2', h3, h4⟩
 ·exact .inl h
 ·exact .inr ⟨g, cap, cs, h1, h2, h2', (hb.block g (heap_lt h3)).trans h3, h4⟩
theorem PRep.keep {n0 b : Nat} {bs : Bytes} {w w' : World} {v : Value} {l : KVs} (h : PRep w v l) (hB : BW n0 b bs w) (hk : WK n0 b w w') : PRep w' v l := by
 rcases h with h | ⟨g, cap, cs, h1, h2, h2', h3, h4⟩
 ·exact .inl h
 ·exact .inr ⟨g, cap, cs, h1, h2, h2', hk.blk h3 (hB.ne_blk h3 (by decide)) (by decide), h4⟩
theorem cany_any (s : ByteArray) (w : World) (hn : ValB s) :
  Calls Tryz.prog 135 #[.string s, .string ⟨#[32, 9]⟩] w fun e w' => e = .returned (.bool false) ∧ Below w.heap.size w w' := by
 go_enter Tryz.func135, Tryz.ntmps135
 go_wp2_with (go_at_call 144; refine (idxany_any s _ hn).mono ?_; rintro e w1 ⟨rfl, hb⟩)
 go_ret
 exact ⟨rfl, hb⟩
theorem plen_any (A : Option Addr) (n c : Nat) (w : World) (_hn : n ≤ 9223372036854775807) :
  Calls Tryz.prog 118 #[.slice A n c] w fun e w' => e = .returned (.int .i64 n) ∧ w' = w := by
 go_enter Tryz.func118, Tryz.ntmps118
 go_wp2
 go_ret
 exact ⟨rfl, rfl⟩
def StrPost (t : Bytes) (w : World) (e : Ending) (w' : World) : Prop := e = .returned (.string ⟨t.toArray⟩) ∧ Below w.heap.size w w'
theorem ptos_any (sep : UInt8) (v : Value) (l : KVs) (w : World) (hr : PRep w v l) (ho : KVok l) (hl : (psepT sep l).length ≤ 140737488355328) :
  Calls Tryz.prog 119 #[v, .int .u8 sep.toNat] w (StrPost (paramsT sep l) w) := by
 rcases hr with ⟨rfl, rfl⟩ | ⟨g, cap, cs, rfl, h2, h2', h3, h4⟩
 ·go_enter Tryz.func119, Tryz.ntmps119
  go_wp2
  go_ret
  exact ⟨rfl, Below.refl _ _⟩
 ·have hg := heap_lt h3
  by_cases h0 : l.length = 0
  ·have : l = [] := List.eq_nil_of_length_eq_zero h0
   subst this
   go_enter Tryz.func119, Tryz.ntmps119
   go_wp2
   go_ret
   exact ⟨rfl, Below.refl _ _⟩
  ·have hm : l.length ≤ 9223372036854775807 := by omega
   have hz : ((l.length : Int) == 0) = false := by rw [beq_eq_false_iff_ne]; omega
   have H4 := hid h4
   have H3 := hid h3
   have HO := hid ho
   clear h4 h3 ho
   go_enter Tryz.func119, Tryz.ntmps119
   go_wp2_with fail
   go_loopw [7, 13] (fun _ i wr => ∃ k : Nat, k ≤ l.length ∧ i = .int .i64 k ∧ BW w.heap.size w.heap.size (psepT sep (l.take k)) wr ∧ Below w.heap.size w wr) (fun _ i _ => l.length - (intOf i).toNat)
   case atStart => exact ⟨0, Nat.zero_le _, rfl, by simpa [psepT] using BW.fresh w, (Below.refl _ w).alloc (Nat.le_refl _) _⟩
   case round =>
    obtain ⟨k, hk, rfl, hB, hbw⟩ := hrel
    obtain ⟨wo, rfl⟩ : ∃ wo : World, wo = wr := ⟨_, rfl⟩
    have hBW := hid hB
    have hBL := hid hbw
    have h3' : wo.heap[g]? = some (.cells cs 207 (0, 0)) := (hbw.block g hg).trans H3.out
    clear hB hbw
    by_cases hlt : k < l.length
    ·obtain ⟨p1, p2⟩ := H4.out k hlt
     have c1 : wo.cell? ⟨g, k * 2, none⟩ = some (.string l[k].1) := by simp [World.cell?, h3', p1]
     have c2 : wo.cell? ⟨g, k * 2 + 1, none⟩ = some (.string l[k].2) := by simp [World.cell?, h3', p2]
     clear h3'
     go_wp2_with fail
     have hlen : (psepT sep (l.take k)).length + 1 + (kvT l[k]).length ≤ 140737488355328 := by
      have := psepT_le sep l (k + 1)
      rw [take_step l k hlt, psepT_snoc, List.length_append, List.length_cons] at this
      omega
     have hkv : (kvT l[k]).length = l[k].1.data.toList.length + (if l[k].2.data.toList = [] then 0 else 1 + l[k].2.data.toList.length) := by
      unfold kvT
      split <;> simp <;> omega
     have e1 : l[k].1.size = l[k].1.data.toList.length := (Array.length_toList).symm
     have e2 : l[k].2.size = l[k].2.data.toList.length := (Array.length_toList).symm
     have HE := hid (And.intro hkv (And.intro e1 e2))
     clear hkv e1 e2
     refine (wb_any w.heap.size w.heap.size _ sep _ (hBW.out.below ((Below.refl _ _).alloc (Nat.le_refl _) _)) (by omega)).mono ?_
     rintro e w1 ⟨rfl, hB1, hk1⟩
     have hne : wo.heap.size ≠ w.heap.size := by have := hBW.out.lt; omega
     have b1 := hk1.blk (heap_alloc_new wo _) hne (by decide)
     have x1 : w1.cell? ⟨wo.heap.size, 0, none⟩ = some (.string l[k].1) := by simp [World.cell?, b1]
     have HB1 := hid hB1
     have HK1 := hid hk1
     have Hb1 := hid b1
     clear hB1 hk1 b1
     go_wp2_with fail
     refine (ws_any w.heap.size w.heap.size _ _ _ HB1.out (by have := HE.out; simp only [List.length_append, List.length_singleton]; omega)).mono ?_
     rintro e w2 ⟨rfl, hB2, hk2⟩
     have b2 := hk2.blk Hb1.out hne (by decide)
     have x2 : w2.cell? ⟨wo.heap.size, 1, none⟩ = some (.string l[k].2) := by simp [World.cell?, b2]
     have HB2 := hid hB2
     have HK2 := hid hk2
     have Hb2 := hid b2
     clear hB2 hk2 b2 x1
     go_wp2_with fail
     refine (cany_any _ _ (HO.out _ (by simp))).mono ?_
     rintro e w3 ⟨rfl, hb3⟩
     have b3 := (hb3.block _ (heap_lt Hb2.out)).trans Hb2.out
     have x3 : w3.cell? ⟨wo.heap.size, 1, none⟩ = some (.string l[k].2) := by simp [World.cell?, b3]
     have HB3 := hid (HB2.out.below hb3)
     have HK3 := hid ((((WK.of_below ((Below.refl _ _).alloc (Nat.le_refl _) _) (Nat.le_of_lt hBW.out.lt.2)).trans HK1.out).trans HK2.out).trans (WK.of_below hb3 (Nat.le_of_lt HB2.out.lt.2)))
     have Hb3 := hid b3
     clear hb3 b3 x2
     have hfin : ∀ (W : World), BW w.heap.size w.heap.size (psepT sep (l.take k) ++ [sep] ++ kvT l[k]) W → Below w.heap.size w W →
       BW w.heap.size w.heap.size (psepT sep (l.take (k + 1))) W ∧ Below w.heap.size w W := by
      intro W hW hb
      rw [take_step l k hlt, psepT_snoc]
      exact ⟨by simpa using hW, hb⟩
     by_cases hv : l[k].2.data.toList = []
     ·have hv' := se_nil hv
      have HV := hid hv
      clear hv
      go_wp2_with fail
      go_roundw
      case rel => exact ⟨k + 1, by omega, by go_num, hfin _ (by have := HB3.out; unfold kvT; rw [if_pos HV.out]; simpa using this) (hBL.out.trans HK3.out.1)⟩
      case measure => simp [intOf]; omega
     ·have hv' := se_cons hv
      have HV := hid hv
      clear hv
      go_wp2_with fail
      have hE := HE.out
      rw [if_neg HV.out] at hE
      have HE2 := hid hE
      clear hE
      refine (wb_any w.heap.size w.heap.size _ 61 _ HB3.out (by have := HE2.out; simp only [List.length_append, List.length_singleton]; omega)).mono ?_
      rintro e w4 ⟨rfl, hB4, hk4⟩
      have b4 := hk4.blk Hb3.out hne (by decide)
      have x4 : w4.cell? ⟨wo.heap.size, 1, none⟩ = some (.string l[k].2) := by simp [World.cell?, b4]
      have HB4 := hid hB4
      have HK4 := hid (HK3.out.trans hk4)
      clear hB4 hk4 b4
      go_wp2_with fail
      refine (ws_any w.heap.size w.heap.size _ _ _ HB4.out (by have := HE2.out; simp only [List.length_append, List.length_singleton]; omega)).mono ?_
      rintro e w5 ⟨rfl, hB5, hk5⟩
      have HB5 := hid hB5
      have HK5 := hid (HK4.out.trans hk5)
      clear hB5 hk5
      go_wp2_with fail
      go_roundw
      case rel => exact ⟨k + 1, by omega, by go_num, hfin _ (by have := HB5.out; unfold kvT; rw [if_neg HV.out]; simpa using this) (hBL.out.trans HK5.out.1)⟩
      case measure => simp [intOf]; omega
    ·have hke : k = l.length := by omega
     have HKE := hid hke
     clear hke h3'
     go_wp2_with fail
     refine (bstr_any w.heap.size w.heap.size _ _ hBW.out).mono ?_
     rintro e w1 ⟨rfl, hB1, hk1⟩
     have hpos : 1 ≤ (psepT sep (l.take k)).length := by
      rw [HKE.out, List.take_length]
      cases l with
      | nil => exact absurd rfl h0
      | cons a r => simp [psepT]
     go_wp2
     go_ret
     refine ⟨rets ((drop1 _).trans ?_), hBL.out.trans hk1.1⟩
     rw [HKE.out, List.take_length]
     rfl
def WrPost (n0 b : Nat) (bs t : Bytes) (w : World) (e : Ending) (w' : World) : Prop := e = .returned (.tuple #[]) ∧ BW n0 b (bs ++ t) w' ∧ WK n0 b w w'
abbrev bptr (b : Nat) : Value := .iface 164 (.pointer (some ⟨b, 0, none⟩))
end
section
open Go.Lib (hid)
open Go.RowKit Go.Lib Go.Sort
structure SUri where
 scheme : ByteArray
 raw : ByteArray
 star : Bool
 slashes : Bool
 user : ByteArray
 pass : ByteArray
 host : ByteArray
 port : Int
 params : KVs
 hdrs : KVs
def portT (n : Int) : Bytes := if 0 < n then 58 :: Lib.itoa n else []
def userT (u : SUri) : Bytes := if u.user.data.toList = [] then [] else u.user.data.toList ++ (if u.pass.data.toList = [] then [] else 58 :: u.pass.data.toList) ++ [64]
def tailT (c sep : UInt8) (l : KVs) : Bytes := if l = [] then [] else c :: paramsT sep l
def uriT (u : SUri) : Bytes := u.scheme.data.toList ++ [58] ++
 (if u.raw.data.toList = [] then userT u ++ u.host.data.toList ++ portT u.port ++ tailT 59 59 u.params ++ tailT 63 38 u.hdrs else u.raw.data.toList)
structure UOk (u : SUri) : Prop where
 scheme : u.scheme.data.toList ≠ []
 slashes : u.slashes = false
 host : u.raw.data.toList = [] → HostB u.host
 port : -9223372036854775808 ≤ u.port ∧ u.port ≤ 9223372036854775807
 params : u.raw.data.toList = [] → KVok u.params
 hdrs : u.raw.data.toList = [] → KVok u.hdrs
def UCells (w : World) (cs : Nat → Option Value) (u : SUri) : Prop := cs 0 = some (.string u.scheme) ∧ cs 1 = some (.string u.raw) ∧ cs 2 = some (.bool u.star) ∧ cs 3 = some (.bool u.slashes) ∧ cs 4 = some (.string u.user) ∧
 cs 5 = some (.string u.pass) ∧ cs 6 = some (.string u.host) ∧ cs 7 = some (.int .i64 u.port) ∧ ∃ vp vh, cs 8 = some vp ∧ cs 9 = some vh ∧ PRep w vp u.params ∧ PRep w vh u.hdrs
def UriAt (w : World) (g o : Nat) (u : SUri) : Prop := ∃ cs t fz, w.heap[g]? = some (.cells cs t fz) ∧ t ≠ 5 ∧ t ≠ 166 ∧ UCells w (fun i => cs[o + i]?) u
theorem UriAt.keep {n0 b : Nat} {bs : Bytes} {w w' : World} {g o : Nat} {u : SUri} (h : UriAt w g o u) (hB : BW n0 b bs w) (hk : WK n0 b w w') : UriAt w' g o u := by
 obtain ⟨cs, t, fz, h1, h2, h3, c0, c1, c2, c3, c4, c5, c6, c7, vp, vh, c8, c9, p1, p2⟩ := h
 exact ⟨cs, t, fz, hk.blk h1 (hB.ne_blk h1 h3) h2, h2, h3, c0, c1, c2, c3, c4, c5, c6, c7, vp, vh, c8, c9, p1.keep hB hk, p2.keep hB hk⟩
theorem UriAt.below {w w' : World} {g o : Nat} {u : SUri} (h : UriAt w g o u) (hb : Below w.heap.size w w') : UriAt w' g o u := by
 obtain ⟨cs, t, fz, h1, h2, h3, c0, c1, c2, c3, c4, c5, c6, c7, vp, vh, c8, c9, p1, p2⟩ := h
 exact ⟨cs, t, fz, (hb.block g (heap_lt h1)).trans h1, h2, h3, c0, c1, c2, c3, c4, c5, c6, c7, vp, vh, c8, c9, p1.below hb, p2.below hb⟩
theorem UriAt.cells {w : World} {g o : Nat} {u : SUri} (h : UriAt w g o u) : w.cell? ⟨g, o, none⟩ = some (.string u.scheme) ∧ w.cell? ⟨g, o + 1, none⟩ = some (.string u.raw) ∧ w.cell? ⟨g, o + 2, none⟩ = some (.bool u.star) ∧
  w.cell? ⟨g, o + 3, none⟩ = some (.bool u.slashes) ∧ w.cell? ⟨g, o + 4, none⟩ = some (.string u.user) ∧ w.cell? ⟨g, o + 5, none⟩ = some (.string u.pass) ∧ w.cell? ⟨g, o + 6, none⟩ = some (.string u.host) ∧ w.cell? ⟨g, o + 7, none⟩ = some (.int .i64 u.port) ∧
  ∃ vp vh, w.cell? ⟨g, o + 8, none⟩ = some vp ∧ w.cell? ⟨g, o + 9, none⟩ = some vh ∧ PRep w vp u.params ∧ PRep w vh u.hdrs := by
 obtain ⟨cs, t, fz, h1, h2, h3, c0, c1, c2, c3, c4, c5, c6, c7, vp, vh, c8, c9, p1, p2⟩ := h
 have hc : ∀ j, w.cell? ⟨g, j, none⟩ = cs[j]? := fun j => by simp [World.cell?, h1]
 simp only [hc]
 exact ⟨c0, c1, c2, c3, c4, c5, c6, c7, vp, vh, c8, c9, p1, p2⟩
theorem UriAt.cellKeep {n0 b : Nat} {bs : Bytes} {w w' : World} {g o : Nat} {u : SUri} (h : UriAt w g o u) (hB : BW n0 b bs w) (hk : WK n0 b w w') {j : Nat} {v : Value} (hc : w.cell? ⟨g, j, none⟩ = some v) : w'.cell? ⟨g, j, none⟩ = some v := by
 obtain ⟨cs, t, fz, h1, h2, h3, _⟩ := h
 have h4 := hk.blk h1 (hB.ne_blk h1 h3) h2
 simp only [World.cell?, h1] at hc
 simp only [World.cell?, h4]
 exact hc
theorem itoa_any (n : Int) (h0 : -9223372036854775808 ≤ n) (h1 : n ≤ 9223372036854775807) (w : World) (hG : G0 w) :
  Calls Tryz.prog 106 #[.int .i64 n] w fun e w' => e = .returned (.string ⟨(Lib.itoa n).toArray⟩) ∧ Below w.heap.size w w' := by
 refine (Tryz.strconv_Itoa n h0 h1 w hG.pow10).mono ?_
 rintro e w' ⟨rfl, k, os, rfl⟩
 exact ⟨rfl, below_grow _ _ (Nat.le_refl _) _ _⟩
theorem PRep.slice {w : World} {v : Value} {l : KVs} (h : PRep w v l) : ∃ A c, v = .slice A l.length c ∧ l.length ≤ 9223372036854775807 ∧ (A = none → l = []) := by
 rcases h with ⟨rfl, rfl⟩ | ⟨g, cap, cs, rfl, h2, h2', h3, h4⟩
 ·exact ⟨none, 0, rfl, by simp, fun _ => rfl⟩
 ·exact ⟨_, cap, rfl, by omega, fun h => by cases h⟩
theorem urisw_raw (n0 b : Nat) (bs : Bytes) (g o : Nat) (u : SUri) (w : World) (hB : BW n0 b bs w) (hu : UriAt w g o u) (ho : UOk u) (hraw : u.raw.data.toList ≠ []) (hl : bs.length + (uriT u).length ≤ 140737488355328) :
  Calls Tryz.prog 99 #[.pointer (some ⟨g, o, none⟩), bptr b] w (WrPost n0 b bs (uriT u) w) := by
 have hT : uriT u = u.scheme.data.toList ++ [58] ++ u.raw.data.toList := by unfold uriT; rw [if_neg hraw]
 rw [hT] at hl ⊢
 have e0 : u.scheme.size = u.scheme.data.toList.length := (Array.length_toList).symm
 have e1 : u.raw.size = u.raw.data.toList.length := (Array.length_toList).symm
 simp only [List.length_append, List.length_singleton] at hl
 have HL := hid (And.intro hl (And.intro e0 e1))
 clear hl e0 e1 hT
 have hs1 := se_cons' ho.scheme
 have hr1 := se_cons hraw
 have hna := ws_nilAhead
 have hme := ws_method
 obtain ⟨c0, c1, _⟩ := hu.cells
 have HU := hid hu
 have HB := hid hB
 clear hu hB ho hraw
 go_enter Tryz.func99, Tryz.ntmps99
 go_wp2_with fail
 refine (ws_any n0 b _ _ _ HB.out (by have := HL.out; omega)).mono ?_
 rintro e w1 ⟨rfl, hB1, hk1⟩
 have HB1 := hid hB1
 have HK1 := hid hk1
 clear hB1 hk1 c0 c1
 go_wp2_with fail
 refine (ws_any n0 b _ _ _ HB1.out (by have := HL.out; show _ + 1 ≤ _; simp only [List.length_append]; omega)).mono ?_
 rintro e w2 ⟨rfl, hB2, hk2⟩
 have HB2 := hid hB2
 have HK2 := hid (HK1.out.trans hk2)
 have HU2 := hid (HU.out.keep HB.out HK2.out)
 obtain ⟨_, c1, _⟩ := HU2.out.cells
 clear hB2 hk2
 go_wp2_with fail
 refine stail 8 (by kernel_rfl) (by kernel_rfl) ?_
 simp only [List.take_succ_cons, List.take_zero, List.drop_succ_cons, List.drop_zero]
 repeat still_step
 refine wpStill_nil ?_
 go_wp2_with fail
 refine (ws_any n0 b _ _ _ HB2.out.drew (by have := HL.out; show _ ≤ _; simp only [List.length_append, List.length_cons, List.length_nil]; omega)).mono ?_
 rintro e w3 ⟨rfl, hB3, hk3⟩
 go_wp2_with fail
 go_end0
 exact ⟨rfl, by simpa using hB3, (HK2.out.drew).trans hk3⟩
end
section
open Go.Lib (hid)
open Go.RowKit
def US (n0 b : Nat) (t : Bytes) (g o : Nat) (u : SUri) (w wx : World) : Prop := BW n0 b t wx ∧ WK n0 b w wx ∧ UriAt wx g o u
theorem urisw_sip (N n0 b : Nat) (bs : Bytes) (g o : Nat) (u : SUri) (w : World) (hG : Gl N w) (hN : N ≤ n0) (hB : BW n0 b bs w) (hu : UriAt w g o u) (ho : UOk u) (hraw : u.raw.data.toList = []) (hl : bs.length + (uriT u).length ≤ 140737488355328) :
  Calls Tryz.prog 99 #[.pointer (some ⟨g, o, none⟩), bptr b] w (WrPost n0 b bs (uriT u) w) := by
 have hT : uriT u = u.scheme.data.toList ++ [58] ++ (userT u ++ u.host.data.toList ++ portT u.port ++ tailT 59 59 u.params ++ tailT 63 38 u.hdrs) := by unfold uriT; rw [if_pos hraw]
 rw [hT] at hl ⊢
 have e0 : u.scheme.size = u.scheme.data.toList.length := (Array.length_toList).symm
 have e1 : u.host.size = u.host.data.toList.length := (Array.length_toList).symm
 simp only [List.length_append, List.length_singleton] at hl
 have HL := hid (And.intro hl (And.intro e0 e1))
 clear hl e0 e1 hT
 have hs1 := se_cons' ho.scheme
 have hr1 := se_nil hraw
 have hsl := ho.slashes
 have hhost := ho.host hraw
 have hpar := ho.params hraw
 have hhd := ho.hdrs hraw
 have hpo := ho.port
 have HO := hid (And.intro hhost (And.intro hpar (And.intro hhd hpo)))
 have hna := ws_nilAhead
 have hme := ws_method
 obtain ⟨c0, c1, _⟩ := hu.cells
 have HU := hid hu
 have HB := hid hB
 have HSL := hid hsl
 have HGL := hid hG
 clear hu hB ho hraw hhost hpar hhd hpo hsl hG
 go_enter Tryz.func99, Tryz.ntmps99
 go_wp2_with fail
 refine (ws_any n0 b _ _ _ HB.out (by have := HL.out; omega)).mono ?_
 rintro e w1 ⟨rfl, hB1, hk1⟩
 have HB1 := hid hB1
 have HK1 := hid hk1
 clear hB1 hk1 c0 c1
 go_wp2_with fail
 refine (ws_any n0 b _ _ _ HB1.out (by have := HL.out; show _ + 1 ≤ _; simp only [List.length_append]; omega)).mono ?_
 rintro e w2 ⟨rfl, hB2, hk2⟩
 have HB2 := hid hB2
 have HK2 := hid (HK1.out.trans hk2)
 have HU2 := hid (HU.out.keep HB.out HK2.out)
 obtain ⟨_, c1, _, c3, c4, c5, _⟩ := HU2.out.cells
 rw [HSL.out] at c3
 clear hB2 hk2
 go_upto_if 43 with fail
 go_cut [] (fun wx => US n0 b (bs ++ u.scheme.data.toList ++ [58] ++ userT u) g o u w wx)
 case first =>
  by_cases hus : u.user.data.toList = []
  ·have h1 := se_nil hus
   have hT : userT u = [] := by unfold userT; rw [if_pos hus]
   have HT := hid hT
   clear hus hT
   rw [h1]
   go_wp2_with fail
   go_meet
   exact ⟨by rw [HT.out, List.append_nil]; exact HB2.out, HK2.out, HU2.out⟩
  ·have h1 := se_cons hus
   have hlu : u.user.size = u.user.data.toList.length := (Array.length_toList).symm
   have hlp : u.pass.size = u.pass.data.toList.length := (Array.length_toList).symm
   rw [h1]
   by_cases hps : u.pass.data.toList = []
   ·have h2 := se_nil hps
    have hT : userT u = u.user.data.toList ++ [64] := by unfold userT; rw [if_neg hus, if_pos hps]; simp
    have hTl : (userT u).length = u.user.data.toList.length + 1 := by rw [hT]; simp
    have HT := hid (And.intro hT (And.intro hTl (And.intro hlu hlp)))
    clear hus hps hT hTl hlu hlp
    go_wp2_with fail
    refine stail 8 (by kernel_rfl) (by kernel_rfl) ?_
    simp only [List.take_succ_cons, List.take_zero, List.drop_succ_cons, List.drop_zero]
    repeat still_step
    refine wpStill_nil ?_
    have HBA := hid HB2.out.drew
    have HKA := hid HK2.out.drew
    have HUA := hid (HU2.out.below (Below.refl _ w2).drew)
    go_wp2_with fail
    refine (ws_any n0 b _ _ _ HBA.out (by have := HL.out; have := HT.out; simp only [List.length_append, List.length_cons, List.length_nil] at *; omega)).mono ?_
    rintro e wB ⟨rfl, hBB, hkB⟩
    have HBB := hid hBB
    have HKB := hid (HKA.out.trans hkB)
    have HUB := hid (HUA.out.keep HBA.out hkB)
    clear hBB hkB
    obtain ⟨_, _, _, _, _, d5, _⟩ := HUB.out.cells
    go_wp2_with fail
    refine (ws_any n0 b _ _ _ HBB.out (by have := HL.out; have := HT.out; show _ + 1 ≤ _; simp only [List.length_append, List.length_cons, List.length_nil] at *; omega)).mono ?_
    rintro e wC ⟨rfl, hBC, hkC⟩
    have HBC := hid hBC
    have HKC := hid (HKB.out.trans hkC)
    have HUC := hid (HUB.out.keep HBB.out hkC)
    clear hBC hkC
    go_wp2_with fail
    go_meet
    exact ⟨by rw [HT.out.1]; simpa using HBC.out, HKC.out, HUC.out⟩
   ·have h2 := se_cons hps
    have hT : userT u = u.user.data.toList ++ 58 :: u.pass.data.toList ++ [64] := by unfold userT; rw [if_neg hus, if_neg hps]
    have hTl : (userT u).length = u.user.data.toList.length + 1 + u.pass.data.toList.length + 1 := by rw [hT]; simp; omega
    have HT := hid (And.intro hT (And.intro hTl (And.intro hlu hlp)))
    clear hus hps hT hTl hlu hlp
    go_wp2_with fail
    refine stail 8 (by kernel_rfl) (by kernel_rfl) ?_
    simp only [List.take_succ_cons, List.take_zero, List.drop_succ_cons, List.drop_zero]
    repeat still_step
    refine wpStill_nil ?_
    have HBA := hid HB2.out.drew
    have HKA := hid HK2.out.drew
    have HUA := hid (HU2.out.below (Below.refl _ w2).drew)
    go_wp2_with fail
    refine (ws_any n0 b _ _ _ HBA.out (by have := HL.out; have := HT.out; simp only [List.length_append, List.length_cons, List.length_nil] at *; omega)).mono ?_
    rintro e wB ⟨rfl, hBB, hkB⟩
    have HBB := hid hBB
    have HKB := hid (HKA.out.trans hkB)
    have HUB := hid (HUA.out.keep HBA.out hkB)
    clear hBB hkB
    obtain ⟨_, _, _, _, _, d5, _⟩ := HUB.out.cells
    go_wp2_with fail
    refine (ws_any n0 b _ _ _ HBB.out (by have := HL.out; have := HT.out; show _ + 1 ≤ _; simp only [List.length_append, List.length_cons, List.length_nil] at *; omega)).mono ?_
    rintro e wC ⟨rfl, hBC, hkC⟩
    have HBC := hid hBC
    have HKC := hid (HKB.out.trans hkC)
    have HUC := hid (HUB.out.keep HBB.out hkC)
    clear hBC hkC
    clear d5
    obtain ⟨_, _, _, _, _, d5, _⟩ := HUC.out.cells
    go_wp2_with fail
    refine stail 8 (by kernel_rfl) (by kernel_rfl) ?_
    simp only [List.take_succ_cons, List.take_zero, List.drop_succ_cons, List.drop_zero]
    repeat still_step
    refine wpStill_nil ?_
    have HBD := hid HBC.out.drew
    have HKD := hid HKC.out.drew
    have HUD := hid (HUC.out.below (Below.refl _ wC).drew)
    go_wp2_with fail
    refine (ws_any n0 b _ _ _ HBD.out (by have := HL.out; have := HT.out; simp only [List.length_append, List.length_cons, List.length_nil] at *; omega)).mono ?_
    rintro e wE ⟨rfl, hBE, hkE⟩
    have HBE := hid hBE
    have HKE := hid (HKD.out.trans hkE)
    have HUE := hid (HUD.out.keep HBD.out hkE)
    clear hBE hkE
    go_wp2_with fail
    refine (ws_any n0 b _ _ _ HBE.out (by have := HL.out; have := HT.out; show _ + 1 ≤ _; simp only [List.length_append, List.length_cons, List.length_nil] at *; omega)).mono ?_
    rintro e wF ⟨rfl, hBF, hkF⟩
    have HBF := hid hBF
    have HKF := hid (HKE.out.trans hkF)
    have HUF := hid (HUE.out.keep HBE.out hkF)
    clear hBF hkF
    go_wp2_with fail
    go_meet
    exact ⟨by rw [HT.out.1]; simpa using HBF.out, HKF.out, HUF.out⟩
 case rest =>
  obtain ⟨hB3, hK3, hU3⟩ := hcut
  have HB3 := hid hB3
  have HK3 := hid hK3
  have HU3 := hid hU3
  have hgl := HGL.out.below HK3.out.1 hN
  have HG3 := hid ((hgl.below (Below.refl N _).drew (Nat.le_refl _)).get)
  clear hgl hB3 hK3 hU3
  obtain ⟨w3, rfl⟩ : ∃ w3 : World, w3 = wc := ⟨_, rfl⟩
  clear c1 c3 c4 c5
  obtain ⟨_, _, _, _, _, _, c6, _⟩ := HU3.out.cells
  have HC := hid c6
  have HX := hid (show u.host.size ≤ 9223372036854775807 ∧ u.host.size = u.host.data.toList.length by have := HL.out; omega)
  go_upto_region 15 with fail
  go_cut [] (fun wx => US n0 b (bs ++ u.scheme.data.toList ++ [58] ++ userT u ++ u.host.data.toList) g o u w wx)
  case first =>
   go_region_held3 (fun w' => w'.cell? ⟨g, o + 6, none⟩ = some (.string u.host)) (first | exact HC.out | exact cell_below (w := w3.drew) hb4 HC.out | exact ((HU3.out.below (Below.refl _ w3).drew).below hb4).cellKeep (HB3.out.drew.below hb4) hk5 (cell_below (w := w3.drew) hb4 HC.out))
    (first
     | (go_at_call 117; refine (uriip_any u.host _ ?_ ?_ ?_).mono ?_; exact HG3.out; exact HX.out.1; exact HO.out.1; rintro e w4 ⟨rfl, hb4⟩)
     | (go_at_call 105; refine (ws_any n0 b _ _ _ (HB3.out.drew.below hb4) ?_).mono ?_; (have := HL.out; have := HX.out; simp only [List.length_append, List.length_cons, List.length_nil] at *; first | omega | (show _ + List.length _ ≤ _; omega)); rintro e w5 ⟨rfl, hB5, hk5⟩))
   all_goals (go_wp2_with fail; go_meet; exact ⟨by simpa using hB5, HK3.out.trans ((WK.refl _ _ _).drew.trans ((WK.of_below (w := w3.drew) hb4 (Nat.le_of_lt (Nat.lt_of_le_of_lt HB3.out.lt.1 HB3.out.lt.2))).trans hk5)), ((HU3.out.below (Below.refl _ w3).drew).below hb4).keep (HB3.out.drew.below hb4) hk5⟩)
  case rest =>
   obtain ⟨hB6, hK6, hU6⟩ := hcut
   have HB6 := hid hB6
   have HK6 := hid hK6
   have HU6 := hid hU6
   have hgl := HGL.out.below HK6.out.1 hN
   clear hgl hB6 hK6 hU6
   obtain ⟨w6, rfl⟩ : ∃ w6 : World, w6 = wc := ⟨_, rfl⟩
   clear c6
   obtain ⟨_, _, _, _, _, _, _, c7, _⟩ := HU6.out.cells
   have hpo := HO.out.2.2.2
   have hp1 := hpo.1
   have hp2 := hpo.2
   clear hpo
   go_upto_if 85 with fail
   go_cut [] (fun wx => US n0 b (bs ++ u.scheme.data.toList ++ [58] ++ userT u ++ u.host.data.toList ++ portT u.port) g o u w wx)
   case first =>
    by_cases hp : 0 < u.port
    ·rw [decide_eq_true hp]
     have hT : portT u.port = 58 :: Lib.itoa u.port := by unfold portT; rw [if_pos hp]
     have hTl : (portT u.port).length = 1 + (Lib.itoa u.port).length := by rw [hT]; simp; omega
     have hitl : ∀ l : Bytes, (⟨l.toArray⟩ : ByteArray).size = l.length := fun l => by show l.toArray.size = _; simp
     have HT := hid (And.intro hT hTl)
     have HX := hid (And.intro hTl (hitl (Lib.itoa u.port)))
     clear hT hTl hitl
     go_wp2_with fail
     refine (ws_any n0 b _ _ _ HB6.out (by have := HL.out; have := HT.out.2; show _ + 1 ≤ _; simp only [List.length_append, List.length_cons, List.length_nil] at *; omega)).mono ?_
     rintro e w7 ⟨rfl, hB7, hk7⟩
     have HB7 := hid hB7
     have HK7 := hid (HK6.out.trans hk7)
     have HU7 := hid (HU6.out.keep HB6.out hk7)
     clear hB7 hk7
     clear c7
     obtain ⟨_, _, _, _, _, _, _, c7, _⟩ := HU7.out.cells
     have HC := hid c7
     have hgl := HGL.out.below HK7.out.1 hN
     have HG7 := hid ((hgl.below (Below.refl N _).drew (Nat.le_refl _)).get)
     clear hgl
     go_wp2_with fail
     go_region_held3 (fun w' => w'.cell? ⟨g, o + 7, none⟩ = some (.int .i64 u.port)) (first | exact HC.out | exact cell_below (w := w7.drew) hb4 HC.out | exact ((HU7.out.below (Below.refl _ w7).drew).below hb4).cellKeep (HB7.out.drew.below hb4) hk5 (cell_below (w := w7.drew) hb4 HC.out))
      (first
       | (go_at_call 106; refine (itoa_any u.port ?_ ?_ _ ?_).mono ?_; exact HO.out.2.2.2.1; exact HO.out.2.2.2.2; exact HG7.out; rintro e w4 ⟨rfl, hb4⟩)
       | (go_at_call 105; refine (ws_any n0 b _ _ _ (HB7.out.drew.below hb4) ?_).mono ?_; (have := HL.out; have := HX.out; simp only [List.length_append, List.length_cons, List.length_nil] at *; first | omega | (show _ + List.length _ ≤ _; omega)); rintro e w5 ⟨rfl, hB5, hk5⟩))
     all_goals (go_wp2_with fail; go_meet; exact ⟨by rw [HT.out.1]; simpa using hB5, HK7.out.trans ((WK.refl _ _ _).drew.trans ((WK.of_below (w := w7.drew) hb4 (Nat.le_of_lt (Nat.lt_of_le_of_lt HB7.out.lt.1 HB7.out.lt.2))).trans hk5)), ((HU7.out.below (Below.refl _ w7).drew).below hb4).keep (HB7.out.drew.below hb4) hk5⟩)
    ·have hT : portT u.port = [] := by unfold portT; rw [if_neg hp]
     rw [decide_eq_false hp]
     have HT := hid hT
     clear hT
     go_wp2_with fail
     go_meet
     exact ⟨by rw [HT.out, List.append_nil]; exact HB6.out, HK6.out, HU6.out⟩
   case rest =>
    obtain ⟨hB8, hK8, hU8⟩ := hcut
    have HB8 := hid hB8
    have HK8 := hid hK8
    have HU8 := hid hU8
    have hgl := HGL.out.below HK8.out.1 hN
    clear hgl hB8 hK8 hU8
    clear c7
    obtain ⟨w8, rfl⟩ : ∃ w8 : World, w8 = wc := ⟨_, rfl⟩
    obtain ⟨_, _, _, _, _, _, _, _, vp, vh, c8, c9, p1, p2⟩ := HU8.out.cells
    obtain ⟨A, c, hv, hn, hA⟩ := p1.slice
    rw [hv] at c8 p1
    have HP := hid p1
    have HA := hid hA
    have HV := hid hv
    clear p1 p2 hA hv
    go_upto_region 19 with fail
    go_cut [110] (fun s wx => s = .bool (decide (0 < u.params.length)) ∧ US n0 b (bs ++ u.scheme.data.toList ++ [58] ++ userT u ++ u.host.data.toList ++ portT u.port) g o u w wx)
    case first =>
     rcases A with _ | a
     ·have hl0 := HA.out rfl
      have hd : decide (0 < u.params.length) = false := by rw [hl0]; rfl
      have HD := hid hd
      clear hl0 hd
      go_wp2_with fail
      go_meet
      exact ⟨by rw [HD.out], HB8.out, HK8.out, HU8.out⟩
     ·go_wp2_with (go_at_call 118; refine (plen_any _ _ _ _ hn).mono ?_; rintro e w1 ⟨rfl, rfl⟩)
      go_meet
      exact ⟨rfl, HB8.out, HK8.out, HU8.out⟩
    case rest =>
     obtain ⟨rfl, hB9, hK9, hU9⟩ := hcut
     obtain ⟨w9, rfl⟩ : ∃ w9 : World, w9 = wc := ⟨_, rfl⟩
     have HB9 := hid hB9
     have HK9 := hid hK9
     have HU9 := hid hU9
     have hgl := HGL.out.below HK9.out.1 hN
     clear hgl hB9 hK9 hU9
     clear c8 c9
     go_upto_if 110 with fail
     go_cut [] (fun wx => US n0 b (bs ++ u.scheme.data.toList ++ [58] ++ userT u ++ u.host.data.toList ++ portT u.port ++ tailT 59 59 u.params) g o u w wx)
     case first =>
      by_cases hp : 0 < u.params.length
      ·rw [decide_eq_true hp]
       have hne : u.params ≠ [] := fun e => by rw [e] at hp; exact absurd hp (by decide)
       have hT : tailT 59 59 u.params = 59 :: paramsT 59 u.params := by unfold tailT; rw [if_neg hne]
       have hTl : (tailT 59 59 u.params).length = 1 + (paramsT 59 u.params).length := by rw [hT]; simp; omega
       have hps : (psepT 59 u.params).length = (paramsT 59 u.params).length + 1 := by
        unfold paramsT
        rw [List.length_drop]
        cases h : u.params with
        | nil => exact absurd h hne
        | cons p r => simp [psepT]
       have hitl : ∀ l : Bytes, (⟨l.toArray⟩ : ByteArray).size = l.length := fun l => by show l.toArray.size = _; simp
       have HT := hid (And.intro hT (And.intro hTl hps))
       have HX := hid (And.intro hTl (And.intro hps (hitl (paramsT 59 u.params))))
       clear hT hTl hitl hps hne
       go_wp2_with fail
       refine (ws_any n0 b _ _ _ HB9.out (by have := HL.out; have := HT.out.2; show _ + 1 ≤ _; simp only [List.length_append, List.length_cons, List.length_nil] at *; omega)).mono ?_
       rintro e wZ ⟨rfl, hBZ, hkZ⟩
       have HBZ := hid hBZ
       have HKZ := hid (HK9.out.trans hkZ)
       have HUZ := hid (HU9.out.keep HB9.out hkZ)
       clear hBZ hkZ
       obtain ⟨_, _, _, _, _, _, _, _, vp2, vh2, c8, c9, p1, p2⟩ := HUZ.out.cells
       have HC := hid c8
       have HPZ := hid p1
       clear p1 p2
       go_wp2_with fail
       go_region_held3 (fun w' => w'.cell? ⟨g, o + 8, none⟩ = some (vp2)) (first | exact HC.out | exact cell_below (w := wZ.drew) hb4 HC.out | exact ((HUZ.out.below (Below.refl _ wZ).drew).below hb4).cellKeep (HBZ.out.drew.below hb4) hk5 (cell_below (w := wZ.drew) hb4 HC.out))
        (first
         | (go_at_call 119; refine (ptos_any 59 vp2 u.params _ ?_ ?_ ?_).mono ?_; exact HPZ.out.below (Below.refl _ wZ).drew; exact HO.out.2.1; (have := HL.out; have := HT.out; simp only [List.length_append, List.length_cons, List.length_nil] at *; omega); rintro e w4 ⟨rfl, hb4⟩)
         | (go_at_call 105; refine (ws_any n0 b _ _ _ (HBZ.out.drew.below hb4) ?_).mono ?_; (have := HL.out; have := HX.out; simp only [List.length_append, List.length_cons, List.length_nil] at *; first | omega | (show _ + List.length _ ≤ _; omega)); rintro e w5 ⟨rfl, hB5, hk5⟩))
       all_goals (go_wp2_with fail; go_meet; exact ⟨by rw [HT.out.1]; simpa using hB5, HKZ.out.trans ((WK.refl _ _ _).drew.trans ((WK.of_below (w := wZ.drew) hb4 (Nat.le_of_lt (Nat.lt_of_le_of_lt HBZ.out.lt.1 HBZ.out.lt.2))).trans hk5)), ((HUZ.out.below (Below.refl _ wZ).drew).below hb4).keep (HBZ.out.drew.below hb4) hk5⟩)
      ·have hne : u.params = [] := List.eq_nil_of_length_eq_zero (by omega)
       have hT : tailT 59 59 u.params = [] := by unfold tailT; rw [if_pos hne]
       rw [decide_eq_false hp]
       have HT := hid hT
       clear hT hne
       go_wp2_with fail
       go_meet
       exact ⟨by rw [HT.out, List.append_nil]; exact HB9.out, HK9.out, HU9.out⟩
     case rest =>
      obtain ⟨hB10, hK10, hU10⟩ := hcut
      have HB10 := hid hB10
      have HK10 := hid hK10
      have HU10 := hid hU10
      have hgl := HGL.out.below HK10.out.1 hN
      clear hgl hB10 hK10 hU10
      obtain ⟨w10, rfl⟩ : ∃ w10 : World, w10 = wc := ⟨_, rfl⟩
      obtain ⟨_, _, _, _, _, _, _, _, vp, vh, c8, c9, p1, p2⟩ := HU10.out.cells
      obtain ⟨A, c, hv, hn, hA⟩ := p2.slice
      rw [hv] at c9 p2
      have HP := hid p2
      have HA := hid hA
      have HV := hid hv
      clear p1 p2 hA hv
      go_upto_region 22 with fail
      go_cut [135] (fun s wx => s = .bool (decide (0 < u.hdrs.length)) ∧ US n0 b (bs ++ u.scheme.data.toList ++ [58] ++ userT u ++ u.host.data.toList ++ portT u.port ++ tailT 59 59 u.params) g o u w wx)
      case first =>
       rcases A with _ | a
       ·have hl0 := HA.out rfl
        have hd : decide (0 < u.hdrs.length) = false := by rw [hl0]; rfl
        have HD := hid hd
        clear hl0 hd
        go_wp2_with fail
        go_meet
        exact ⟨by rw [HD.out], HB10.out, HK10.out, HU10.out⟩
       ·go_wp2_with (go_at_call 118; refine (plen_any _ _ _ _ hn).mono ?_; rintro e w1 ⟨rfl, rfl⟩)
        go_meet
        exact ⟨rfl, HB10.out, HK10.out, HU10.out⟩
      case rest =>
       obtain ⟨rfl, hB11, hK11, hU11⟩ := hcut
       obtain ⟨w11, rfl⟩ : ∃ w11 : World, w11 = wc := ⟨_, rfl⟩
       have HB11 := hid hB11
       have HK11 := hid hK11
       have HU11 := hid hU11
       have hgl := HGL.out.below HK11.out.1 hN
       clear hgl hB11 hK11 hU11
       clear c8 c9
       go_upto_if 135 with fail
       by_cases hp : 0 < u.hdrs.length
       ·rw [decide_eq_true hp]
        have hne : u.hdrs ≠ [] := fun e => by rw [e] at hp; exact absurd hp (by decide)
        have hT : tailT 63 38 u.hdrs = 63 :: paramsT 38 u.hdrs := by unfold tailT; rw [if_neg hne]
        have hTl : (tailT 63 38 u.hdrs).length = 1 + (paramsT 38 u.hdrs).length := by rw [hT]; simp; omega
        have hps : (psepT 38 u.hdrs).length = (paramsT 38 u.hdrs).length + 1 := by
         unfold paramsT
         rw [List.length_drop]
         cases h : u.hdrs with
         | nil => exact absurd h hne
         | cons p r => simp [psepT]
        have hitl : ∀ l : Bytes, (⟨l.toArray⟩ : ByteArray).size = l.length := fun l => by show l.toArray.size = _; simp
        have HT := hid (And.intro hT (And.intro hTl hps))
        have HX := hid (And.intro hTl (And.intro hps (hitl (paramsT 38 u.hdrs))))
        clear hT hTl hitl hps hne
        go_wp2_with fail
        refine (ws_any n0 b _ _ _ HB11.out (by have := HL.out; have := HT.out.2; show _ + 1 ≤ _; simp only [List.length_append, List.length_cons, List.length_nil] at *; omega)).mono ?_
        rintro e wZ ⟨rfl, hBZ, hkZ⟩
        have HBZ := hid hBZ
        have HKZ := hid (HK11.out.trans hkZ)
        have HUZ := hid (HU11.out.keep HB11.out hkZ)
        clear hBZ hkZ
        obtain ⟨_, _, _, _, _, _, _, _, vp2, vh2, c8, c9, p1, p2⟩ := HUZ.out.cells
        have HC := hid c9
        have HPZ := hid p2
        clear p1 p2
        go_wp2_with fail
        go_region_held3 (fun w' => w'.cell? ⟨g, o + 9, none⟩ = some (vh2)) (first | exact HC.out | exact cell_below (w := wZ.drew) hb4 HC.out | exact ((HUZ.out.below (Below.refl _ wZ).drew).below hb4).cellKeep (HBZ.out.drew.below hb4) hk5 (cell_below (w := wZ.drew) hb4 HC.out))
         (first
          | (go_at_call 119; refine (ptos_any 38 vh2 u.hdrs _ ?_ ?_ ?_).mono ?_; exact HPZ.out.below (Below.refl _ wZ).drew; exact HO.out.2.2.1; (have := HL.out; have := HT.out; simp only [List.length_append, List.length_cons, List.length_nil] at *; omega); rintro e w4 ⟨rfl, hb4⟩)
          | (go_at_call 105; refine (ws_any n0 b _ _ _ (HBZ.out.drew.below hb4) ?_).mono ?_; (have := HL.out; have := HX.out; simp only [List.length_append, List.length_cons, List.length_nil] at *; first | omega | (show _ + List.length _ ≤ _; omega)); rintro e w5 ⟨rfl, hB5, hk5⟩))
        all_goals (go_wp2_with fail; go_end0; exact ⟨rfl, by rw [HT.out.1]; simpa using hB5, HKZ.out.trans ((WK.refl _ _ _).drew.trans ((WK.of_below (w := wZ.drew) hb4 (Nat.le_of_lt (Nat.lt_of_le_of_lt HBZ.out.lt.1 HBZ.out.lt.2))).trans hk5))⟩)
       ·have hne : u.hdrs = [] := List.eq_nil_of_length_eq_zero (by omega)
        have hT : tailT 63 38 u.hdrs = [] := by unfold tailT; rw [if_pos hne]
        rw [decide_eq_false hp]
        have HT := hid hT
        clear hT hne
        go_wp2_with fail
        go_end0
        exact ⟨rfl, by rw [HT.out]; simpa using HB11.out, HK11.out⟩
theorem urisw_any (N n0 b : Nat) (bs : Bytes) (g o : Nat) (u : SUri) (w : World) (hG : Gl N w) (hN : N ≤ n0) (hB : BW n0 b bs w) (hu : UriAt w g o u) (ho : UOk u) (hl : bs.length + (uriT u).length ≤ 140737488355328) :
  Calls Tryz.prog 99 #[.pointer (some ⟨g, o, none⟩), bptr b] w (WrPost n0 b bs (uriT u) w) := by
 by_cases hr : u.raw.data.toList = []
 ·exact urisw_sip N n0 b bs g o u w hG hN hB hu ho hr hl
 ·exact urisw_raw n0 b bs g o u w hB hu ho hr hl
theorem uristr_any (N : Nat) (g o : Nat) (u : SUri) (w : World) (hG : Gl N w) (hu : UriAt w g o u) (ho : UOk u) (hl : (uriT u).length ≤ 140737488355328) :
  Calls Tryz.prog 76 #[.pointer (some ⟨g, o, none⟩)] w (StrPost (uriT u) w) := by
 have HG := hid hG
 have HU := hid hu
 have HO := hid ho
 clear hG hu ho
 have hb0 : Below w.heap.size w (w.alloc (.cells #[.pointer none, .slice none 0 0] 166)) := (Below.refl _ _).alloc (Nat.le_refl _) _
 have HB0 := hid hb0
 clear hb0
 go_enter Tryz.func76, Tryz.ntmps76
 go_wp2_with fail
 refine (urisw_any N w.heap.size w.heap.size [] g o u _ (HG.out.step HB0.out) HG.out.le (BW.fresh w) (HU.out.below HB0.out) HO.out (by simpa using hl)).mono ?_
 rintro e w1 ⟨rfl, hB1, hk1⟩
 have HB1 := hid hB1
 have HK1 := hid hk1
 clear hB1 hk1
 go_wp2_with fail
 refine (bstr_any w.heap.size w.heap.size _ _ HB1.out).mono ?_
 rintro e w2 ⟨rfl, hB2, hk2⟩
 go_wp2_with fail
 go_ret
 exact ⟨rets (by simp), (HB0.out.trans HK1.out.1).trans hk2.1⟩
def HB (w : World) (g : Nat) (t : TypeId) (cs : Array Value) : Prop := w.heap[g]? = some (.cells cs t (0, 0)) ∧ t ≠ 5 ∧ t ≠ 166
theorem HB.keep {n0 b : Nat} {bs : Bytes} {w w' : World} {g : Nat} {t : TypeId} {cs : Array Value} (h : HB w g t cs) (hB : BW n0 b bs w) (hk : WK n0 b w w') : HB w' g t cs := ⟨hk.blk h.1 (hB.ne_blk h.1 h.2.2) h.2.1, h.2⟩
theorem HB.below {w w' : World} {g : Nat} {t : TypeId} {cs : Array Value} (h : HB w g t cs) (hb : Below w.heap.size w w') : HB w' g t cs := ⟨(hb.block g (heap_lt h.1)).trans h.1, h.2⟩
theorem HB.cell {w : World} {g : Nat} {t : TypeId} {cs : Array Value} (h : HB w g t cs) (j : Nat) : w.cell? ⟨g, j, none⟩ = cs[j]? := by simp [World.cell?, h.1]
theorem HB.cellKeep {n0 b : Nat} {bs : Bytes} {w w' : World} {g : Nat} {t : TypeId} {cs : Array Value} (h : HB w g t cs) (hB : BW n0 b bs w) (hk : WK n0 b w w') {j : Nat} {v : Value} (hc : w.cell? ⟨g, j, none⟩ = some v) : w'.cell? ⟨g, j, none⟩ = some v := by
 rw [(h.keep hB hk).cell, ← h.cell]; exact hc
def AddrAt (t : TypeId) (w : World) (g : Nat) (d : ByteArray) (u : SUri) (p : KVs) : Prop := ∃ cs, HB w g t cs ∧ cs[0]? = some (.string d) ∧ UCells w (fun i => cs[1 + i]?) u ∧ ∃ vp, cs[11]? = some vp ∧ PRep w vp p
theorem UCells.keep {n0 b : Nat} {bs : Bytes} {w w' : World} {cs : Nat → Option Value} {u : SUri} (h : UCells w cs u) (hB : BW n0 b bs w) (hk : WK n0 b w w') : UCells w' cs u := by
 obtain ⟨c0, c1, c2, c3, c4, c5, c6, c7, vp, vh, c8, c9, p1, p2⟩ := h
 exact ⟨c0, c1, c2, c3, c4, c5, c6, c7, vp, vh, c8, c9, p1.keep hB hk, p2.keep hB hk⟩
theorem UCells.below {w w' : World} {cs : Nat → Option Value} {u : SUri} (h : UCells w cs u) (hb : Below w.heap.size w w') : UCells w' cs u := by
 obtain ⟨c0, c1, c2, c3, c4, c5, c6, c7, vp, vh, c8, c9, p1, p2⟩ := h
 exact ⟨c0, c1, c2, c3, c4, c5, c6, c7, vp, vh, c8, c9, p1.below hb, p2.below hb⟩
section
variable {t : TypeId} {n0 b : Nat} {bs : Bytes} {w w' : World} {g : Nat} {d : ByteArray} {u : SUri} {p : KVs}
theorem AddrAt.keep (h : AddrAt t w g d u p) (hB : BW n0 b bs w) (hk : WK n0 b w w') : AddrAt t w' g d u p := by
 obtain ⟨cs, h1, h2, h3, vp, h4, h5⟩ := h
 exact ⟨cs, h1.keep hB hk, h2, h3.keep hB hk, vp, h4, h5.keep hB hk⟩
theorem AddrAt.below (h : AddrAt t w g d u p) (hb : Below w.heap.size w w') : AddrAt t w' g d u p := by
 obtain ⟨cs, h1, h2, h3, vp, h4, h5⟩ := h
 exact ⟨cs, h1.below hb, h2, h3.below hb, vp, h4, h5.below hb⟩
theorem AddrAt.uri (h : AddrAt t w g d u p) : UriAt w g 1 u := by
 obtain ⟨cs, h1, h2, h3, vp, h4, h5⟩ := h
 exact ⟨cs, t, (0, 0), h1.1, h1.2.1, h1.2.2, h3⟩
theorem AddrAt.cells (h : AddrAt t w g d u p) : w.cell? ⟨g, 0, none⟩ = some (.string d) ∧ w.cell? ⟨g, 3, none⟩ = some (.bool u.star) ∧ ∃ vp, w.cell? ⟨g, 11, none⟩ = some vp ∧ PRep w vp p := by
 obtain ⟨cs, h1, h2, h3, vp, h4, h5⟩ := h
 exact ⟨(h1.cell 0).trans h2, (h1.cell 3).trans h3.2.2.1, vp, (h1.cell 11).trans h4, h5⟩
theorem AddrAt.cellKeep (h : AddrAt t w g d u p) (hB : BW n0 b bs w) (hk : WK n0 b w w') {j : Nat} {v : Value} (hc : w.cell? ⟨g, j, none⟩ = some v) : w'.cell? ⟨g, j, none⟩ = some v := by
 obtain ⟨cs, h1, _⟩ := h
 exact h1.cellKeep hB hk hc
end
def showT (d : ByteArray) : Bytes := if d.data.toList = [] then [] else 34 :: d.data.toList ++ [34, 32]
def addrT (d : ByteArray) (u : SUri) (p : KVs) : Bytes := showT d ++ [60] ++ uriT u ++ [62] ++ tailT 59 59 p
structure SVia where
 pn : ByteArray
 pv : ByteArray
 tr : ByteArray
 host : ByteArray
 port : Int
 params : KVs
def ViaAt (w : World) (g : Nat) (v : SVia) : Prop := ∃ cs, HB w g 172 cs ∧ cs[0]? = some (.string v.pn) ∧ cs[1]? = some (.string v.pv) ∧ cs[2]? = some (.string v.tr) ∧ cs[3]? = some (.string v.host) ∧ cs[4]? = some (.int .i64 v.port) ∧ ∃ vp, cs[5]? = some vp ∧ PRep w vp v.params
section
variable {n0 b : Nat} {bs : Bytes} {w w' : World} {g : Nat} {v : SVia}
theorem ViaAt.keep (h : ViaAt w g v) (hB : BW n0 b bs w) (hk : WK n0 b w w') : ViaAt w' g v := by
 obtain ⟨cs, h1, c0, c1, c2, c3, c4, vp, c5, h5⟩ := h
 exact ⟨cs, h1.keep hB hk, c0, c1, c2, c3, c4, vp, c5, h5.keep hB hk⟩
theorem ViaAt.below (h : ViaAt w g v) (hb : Below w.heap.size w w') : ViaAt w' g v := by
 obtain ⟨cs, h1, c0, c1, c2, c3, c4, vp, c5, h5⟩ := h
 exact ⟨cs, h1.below hb, c0, c1, c2, c3, c4, vp, c5, h5.below hb⟩
theorem ViaAt.cells (h : ViaAt w g v) : w.cell? ⟨g, 0, none⟩ = some (.string v.pn) ∧ w.cell? ⟨g, 1, none⟩ = some (.string v.pv) ∧ w.cell? ⟨g, 2, none⟩ = some (.string v.tr) ∧ w.cell? ⟨g, 3, none⟩ = some (.string v.host) ∧ w.cell? ⟨g, 4, none⟩ = some (.int .i64 v.port) ∧ ∃ vp, w.cell? ⟨g, 5, none⟩ = some vp ∧ PRep w vp v.params := by
 obtain ⟨cs, h1, c0, c1, c2, c3, c4, vp, c5, h5⟩ := h
 simp only [h1.cell]
 exact ⟨c0, c1, c2, c3, c4, vp, c5, h5⟩
theorem ViaAt.cellKeep (h : ViaAt w g v) (hB : BW n0 b bs w) (hk : WK n0 b w w') {j : Nat} {x : Value} (hc : w.cell? ⟨g, j, none⟩ = some x) : w'.cell? ⟨g, j, none⟩ = some x := by
 obtain ⟨cs, h1, _⟩ := h
 exact h1.cellKeep hB hk hc
end
def viaT (v : SVia) : Bytes := v.pn.data.toList ++ [47] ++ v.pv.data.toList ++ [47] ++ v.tr.data.toList ++ [32] ++ v.host.data.toList ++ portT v.port ++ tailT 59 59 v.params
structure VOk (v : SVia) : Prop where
 host : HostB v.host
 port : -9223372036854775808 ≤ v.port ∧ v.port ≤ 9223372036854775807
 params : KVok v.params




end
