import Derived.Test.YtglhcpmaiogdjaaGreatDoorP13
set_option maxRecDepth 100000
set_option maxHeartbeats 16000000
set_option linter.all false
namespace Go.Proofs.YtglhcpmaiogdjaaGreatDoor
open Go.Lib (hid)
open Go.RowKit
def zeros16 : Array Value := #[.int .u8 0, .int .u8 0, .int .u8 0, .int .u8 0, .int .u8 0, .int .u8 0, .int .u8 0, .int .u8 0, .int .u8 0, .int .u8 0, .int .u8 0, .int .u8 0, .int .u8 0, .int .u8 0, .int .u8 0, .int .u8 0]
def mapped16 (a b c d : Int) : Array Value := #[.int .u8 0, .int .u8 0, .int .u8 0, .int .u8 0, .int .u8 0, .int .u8 0, .int .u8 0, .int .u8 0, .int .u8 0, .int .u8 0, .int .u8 255, .int .u8 255, .int .u8 a, .int .u8 b, .int .u8 c, .int .u8 d]
def IPPost (w : World) (e : Ending) (w' : World) : Prop := ∃ v ok, e = .returned (.tuple #[.agg v, .bool ok]) ∧ Below w.heap.size w w' ∧ (ok = false ∧ v = zeros16 ∨ ok = true ∧ ∃ a b c d, v = mapped16 a b c d)
theorem pip_any (s : ByteArray) (w : World) (hG : G0 w) (hs : s.size ≤ 9223372036854775807) (hn : NoColon s) :
  Calls Tryz.prog 125 #[.string s] w (IPPost w) := by
 obtain ⟨d4, o4, hz4, hd1, hd2⟩ := hG.z4
 have hz0 := hG.z0
 have l4 : 8 < w.heap.size := World.block_lt_of_cell? w _ hz4
 have l0 : 2 < w.heap.size := World.block_lt_of_cell? w _ hz0
 have ld1 : d4 < w.heap.size := World.block_lt_of_cell? w _ hd1
 have hza : ∀ o, (w.alloc o).cell? ⟨8, 0, none⟩ = some (.pointer (some ⟨d4, o4, none⟩)) := fun o => by rw [World.cell?_alloc_lt _ _ _ l4]; exact hz4
 go_enter Tryz.func125, Tryz.ntmps125
 go_wp2_with (go_at_call 135; refine (paddr_any _ s _ (hza _) hs hn).mono ?_)
 rintro e w1 ⟨lo, z', ev, rfl, hb, hev⟩
 have hblk := below_new _ hb
 have hlt1 : w.heap.size < w1.heap.size := heap_lt hblk
 have k0 : w1.cell? ⟨w.heap.size, 0, none⟩ = some (.int .u8 0) := by simp [World.cell?, hblk]
 have k1 : w1.cell? ⟨w.heap.size, 1, none⟩ = some (.int .u8 0) := by simp [World.cell?, hblk]
 have k2 : w1.cell? ⟨w.heap.size, 2, none⟩ = some (.int .u8 0) := by simp [World.cell?, hblk]
 have k3 : w1.cell? ⟨w.heap.size, 3, none⟩ = some (.int .u8 0) := by simp [World.cell?, hblk]
 have k4 : w1.cell? ⟨w.heap.size, 4, none⟩ = some (.int .u8 0) := by simp [World.cell?, hblk]
 have k5 : w1.cell? ⟨w.heap.size, 5, none⟩ = some (.int .u8 0) := by simp [World.cell?, hblk]
 have k6 : w1.cell? ⟨w.heap.size, 6, none⟩ = some (.int .u8 0) := by simp [World.cell?, hblk]
 have k7 : w1.cell? ⟨w.heap.size, 7, none⟩ = some (.int .u8 0) := by simp [World.cell?, hblk]
 have k8 : w1.cell? ⟨w.heap.size, 8, none⟩ = some (.int .u8 0) := by simp [World.cell?, hblk]
 have k9 : w1.cell? ⟨w.heap.size, 9, none⟩ = some (.int .u8 0) := by simp [World.cell?, hblk]
 have k10 : w1.cell? ⟨w.heap.size, 10, none⟩ = some (.int .u8 0) := by simp [World.cell?, hblk]
 have k11 : w1.cell? ⟨w.heap.size, 11, none⟩ = some (.int .u8 0) := by simp [World.cell?, hblk]
 have k12 : w1.cell? ⟨w.heap.size, 12, none⟩ = some (.int .u8 0) := by simp [World.cell?, hblk]
 have k13 : w1.cell? ⟨w.heap.size, 13, none⟩ = some (.int .u8 0) := by simp [World.cell?, hblk]
 have k14 : w1.cell? ⟨w.heap.size, 14, none⟩ = some (.int .u8 0) := by simp [World.cell?, hblk]
 have k15 : w1.cell? ⟨w.heap.size, 15, none⟩ = some (.int .u8 0) := by simp [World.cell?, hblk]
 have y0 : w1.frozen? ⟨w.heap.size, 0, none⟩ = false := by simp [World.frozen?, hblk]
 have y1 : w1.frozen? ⟨w.heap.size, 1, none⟩ = false := by simp [World.frozen?, hblk]
 have y2 : w1.frozen? ⟨w.heap.size, 2, none⟩ = false := by simp [World.frozen?, hblk]
 have y3 : w1.frozen? ⟨w.heap.size, 3, none⟩ = false := by simp [World.frozen?, hblk]
 have y4 : w1.frozen? ⟨w.heap.size, 4, none⟩ = false := by simp [World.frozen?, hblk]
 have y5 : w1.frozen? ⟨w.heap.size, 5, none⟩ = false := by simp [World.frozen?, hblk]
 have y6 : w1.frozen? ⟨w.heap.size, 6, none⟩ = false := by simp [World.frozen?, hblk]
 have y7 : w1.frozen? ⟨w.heap.size, 7, none⟩ = false := by simp [World.frozen?, hblk]
 have y8 : w1.frozen? ⟨w.heap.size, 8, none⟩ = false := by simp [World.frozen?, hblk]
 have y9 : w1.frozen? ⟨w.heap.size, 9, none⟩ = false := by simp [World.frozen?, hblk]
 have y10 : w1.frozen? ⟨w.heap.size, 10, none⟩ = false := by simp [World.frozen?, hblk]
 have y11 : w1.frozen? ⟨w.heap.size, 11, none⟩ = false := by simp [World.frozen?, hblk]
 have y12 : w1.frozen? ⟨w.heap.size, 12, none⟩ = false := by simp [World.frozen?, hblk]
 have y13 : w1.frozen? ⟨w.heap.size, 13, none⟩ = false := by simp [World.frozen?, hblk]
 have y14 : w1.frozen? ⟨w.heap.size, 14, none⟩ = false := by simp [World.frozen?, hblk]
 have y15 : w1.frozen? ⟨w.heap.size, 15, none⟩ = false := by simp [World.frozen?, hblk]
 have hbw : Below w.heap.size w w1 := ((Below.refl _ _).alloc (Nat.le_refl _) _).trans (hb.mono (by simp))
 have c4 := (hbw.cell (p := ⟨2, 0, none⟩) l0).trans hz0
 have c5 := (hbw.cell (p := ⟨d4, o4, none⟩) ld1).trans hd1
 have c6 := (hbw.cell (p := ⟨d4, o4 + 1, none⟩) ld1).trans hd2
 clear hza hz0 hz4 hd1 hd2
 rcases hev with ⟨T, v, rfl, rfl, rfl⟩ | ⟨rfl, rfl, h1, h2⟩
 ·clear hb hblk
  go_wp2
  refine bodyPost_ret (v := ?_) (by simp [results, Tryz.results125, go_sem, hlt1, k0, k1, k2, k3, k4, k5, k6, k7, k8, k9, k10, k11, k12, k13, k14, k15]; rfl) rfl ⟨zeros16, false, rfl, ?_, .inl ⟨rfl, rfl⟩⟩
  repeat (first | (with_reducible refine below_set0 ?_ _ _) | (with_reducible refine Below.alloc ?_ (by simp; omega) _) | with_reducible exact hbw)
 ·have HB := hid hbw
  clear hb hblk
  have L4 : 2 < w1.heap.size := by omega
  have L5 : d4 < w1.heap.size := by omega
  have q4 : ∀ o, (w1.alloc o).cell? ⟨2, 0, none⟩ = some (.pointer none) := fun o => by rw [World.cell?_alloc_lt _ _ _ L4]; exact c4
  have q5 : ∀ o, (w1.alloc o).cell? ⟨d4, o4, none⟩ = some (.bool false) := fun o => by rw [World.cell?_alloc_lt _ _ _ L5]; exact c5
  have q6 : ∀ o, (w1.alloc o).cell? ⟨d4, o4 + 1, none⟩ = some (.string ⟨#[]⟩) := fun o => by rw [World.cell?_alloc_lt _ _ _ L5]; exact c6
  go_wp2_with (go_at_call 136; refine (zone_any 0 lo d4 o4 _ (q4 _) (q5 _) (q6 _)).mono ?_)
  rintro e w2 ⟨rfl, hb2⟩
  have hblk2 := below_new _ hb2
  have m0 : w2.cell? ⟨w1.heap.size, 0, none⟩ = some (.int .u64 0) := by simp [World.cell?, hblk2]
  have m1 : w2.cell? ⟨w1.heap.size, 1, none⟩ = some (.int .u64 lo) := by simp [World.cell?, hblk2]
  have m2 : w2.cell? ⟨w1.heap.size, 2, none⟩ = some (.pointer (some ⟨d4, o4, none⟩)) := by simp [World.cell?, hblk2]
  have hb3 : Below w1.heap.size w1 w2 := ((Below.refl _ _).alloc (Nat.le_refl _) _).trans (hb2.mono (by simp))
  rw [← hb3.cell (p := ⟨w.heap.size, 0, none⟩) hlt1] at k0
  rw [← hb3.cell (p := ⟨w.heap.size, 1, none⟩) hlt1] at k1
  rw [← hb3.cell (p := ⟨w.heap.size, 2, none⟩) hlt1] at k2
  rw [← hb3.cell (p := ⟨w.heap.size, 3, none⟩) hlt1] at k3
  rw [← hb3.cell (p := ⟨w.heap.size, 4, none⟩) hlt1] at k4
  rw [← hb3.cell (p := ⟨w.heap.size, 5, none⟩) hlt1] at k5
  rw [← hb3.cell (p := ⟨w.heap.size, 6, none⟩) hlt1] at k6
  rw [← hb3.cell (p := ⟨w.heap.size, 7, none⟩) hlt1] at k7
  rw [← hb3.cell (p := ⟨w.heap.size, 8, none⟩) hlt1] at k8
  rw [← hb3.cell (p := ⟨w.heap.size, 9, none⟩) hlt1] at k9
  rw [← hb3.cell (p := ⟨w.heap.size, 10, none⟩) hlt1] at k10
  rw [← hb3.cell (p := ⟨w.heap.size, 11, none⟩) hlt1] at k11
  rw [← hb3.cell (p := ⟨w.heap.size, 12, none⟩) hlt1] at k12
  rw [← hb3.cell (p := ⟨w.heap.size, 13, none⟩) hlt1] at k13
  rw [← hb3.cell (p := ⟨w.heap.size, 14, none⟩) hlt1] at k14
  rw [← hb3.cell (p := ⟨w.heap.size, 15, none⟩) hlt1] at k15
  rw [← hb3.frozen (p := ⟨w.heap.size, 0, none⟩) hlt1] at y0
  rw [← hb3.frozen (p := ⟨w.heap.size, 1, none⟩) hlt1] at y1
  rw [← hb3.frozen (p := ⟨w.heap.size, 2, none⟩) hlt1] at y2
  rw [← hb3.frozen (p := ⟨w.heap.size, 3, none⟩) hlt1] at y3
  rw [← hb3.frozen (p := ⟨w.heap.size, 4, none⟩) hlt1] at y4
  rw [← hb3.frozen (p := ⟨w.heap.size, 5, none⟩) hlt1] at y5
  rw [← hb3.frozen (p := ⟨w.heap.size, 6, none⟩) hlt1] at y6
  rw [← hb3.frozen (p := ⟨w.heap.size, 7, none⟩) hlt1] at y7
  rw [← hb3.frozen (p := ⟨w.heap.size, 8, none⟩) hlt1] at y8
  rw [← hb3.frozen (p := ⟨w.heap.size, 9, none⟩) hlt1] at y9
  rw [← hb3.frozen (p := ⟨w.heap.size, 10, none⟩) hlt1] at y10
  rw [← hb3.frozen (p := ⟨w.heap.size, 11, none⟩) hlt1] at y11
  rw [← hb3.frozen (p := ⟨w.heap.size, 12, none⟩) hlt1] at y12
  rw [← hb3.frozen (p := ⟨w.heap.size, 13, none⟩) hlt1] at y13
  rw [← hb3.frozen (p := ⟨w.heap.size, 14, none⟩) hlt1] at y14
  rw [← hb3.frozen (p := ⟨w.heap.size, 15, none⟩) hlt1] at y15
  have HB3 := hid hb3
  have hlt2 : w.heap.size < w2.heap.size := Nat.lt_of_lt_of_le hlt1 hb3.size
  clear hb2 hb3 hblk2 q4 q5 q6 c4 c5 c6
  go_wp2_with (go_at_call 137; refine (as16_any lo _ _ h1 h2).mono ?_)
  rintro e w3 ⟨a, b, c, d, rfl, hb4⟩
  rw [← hb4.cell (p := ⟨w.heap.size, 0, none⟩) hlt2] at k0
  rw [← hb4.cell (p := ⟨w.heap.size, 1, none⟩) hlt2] at k1
  rw [← hb4.cell (p := ⟨w.heap.size, 2, none⟩) hlt2] at k2
  rw [← hb4.cell (p := ⟨w.heap.size, 3, none⟩) hlt2] at k3
  rw [← hb4.cell (p := ⟨w.heap.size, 4, none⟩) hlt2] at k4
  rw [← hb4.cell (p := ⟨w.heap.size, 5, none⟩) hlt2] at k5
  rw [← hb4.cell (p := ⟨w.heap.size, 6, none⟩) hlt2] at k6
  rw [← hb4.cell (p := ⟨w.heap.size, 7, none⟩) hlt2] at k7
  rw [← hb4.cell (p := ⟨w.heap.size, 8, none⟩) hlt2] at k8
  rw [← hb4.cell (p := ⟨w.heap.size, 9, none⟩) hlt2] at k9
  rw [← hb4.cell (p := ⟨w.heap.size, 10, none⟩) hlt2] at k10
  rw [← hb4.cell (p := ⟨w.heap.size, 11, none⟩) hlt2] at k11
  rw [← hb4.cell (p := ⟨w.heap.size, 12, none⟩) hlt2] at k12
  rw [← hb4.cell (p := ⟨w.heap.size, 13, none⟩) hlt2] at k13
  rw [← hb4.cell (p := ⟨w.heap.size, 14, none⟩) hlt2] at k14
  rw [← hb4.cell (p := ⟨w.heap.size, 15, none⟩) hlt2] at k15
  rw [← hb4.frozen (p := ⟨w.heap.size, 0, none⟩) hlt2] at y0
  rw [← hb4.frozen (p := ⟨w.heap.size, 1, none⟩) hlt2] at y1
  rw [← hb4.frozen (p := ⟨w.heap.size, 2, none⟩) hlt2] at y2
  rw [← hb4.frozen (p := ⟨w.heap.size, 3, none⟩) hlt2] at y3
  rw [← hb4.frozen (p := ⟨w.heap.size, 4, none⟩) hlt2] at y4
  rw [← hb4.frozen (p := ⟨w.heap.size, 5, none⟩) hlt2] at y5
  rw [← hb4.frozen (p := ⟨w.heap.size, 6, none⟩) hlt2] at y6
  rw [← hb4.frozen (p := ⟨w.heap.size, 7, none⟩) hlt2] at y7
  rw [← hb4.frozen (p := ⟨w.heap.size, 8, none⟩) hlt2] at y8
  rw [← hb4.frozen (p := ⟨w.heap.size, 9, none⟩) hlt2] at y9
  rw [← hb4.frozen (p := ⟨w.heap.size, 10, none⟩) hlt2] at y10
  rw [← hb4.frozen (p := ⟨w.heap.size, 11, none⟩) hlt2] at y11
  rw [← hb4.frozen (p := ⟨w.heap.size, 12, none⟩) hlt2] at y12
  rw [← hb4.frozen (p := ⟨w.heap.size, 13, none⟩) hlt2] at y13
  rw [← hb4.frozen (p := ⟨w.heap.size, 14, none⟩) hlt2] at y14
  rw [← hb4.frozen (p := ⟨w.heap.size, 15, none⟩) hlt2] at y15
  have HB4 := hid hb4
  clear hb4 m0 m1 m2
  go_wp2
  refine bodyPost_ret (v := ?_) (by simp [results, Tryz.results125, go_sem, k0, k1, k2, k3, k4, k5, k6, k7, k8, k9, k10, k11, k12, k13, k14, k15]; rfl) rfl ⟨mapped16 a b c d, true, rfl, ?_, .inr ⟨rfl, a, b, c, d, rfl⟩⟩
  have hfin : Below w.heap.size w w3 := (HB.out.trans (HB3.out.mono (by omega))).trans (HB4.out.mono (by omega))
  repeat (first | (with_reducible refine below_set0 ?_ _ _) | with_reducible exact hfin)
def NetPost (w : World) (e : Ending) (w' : World) : Prop := ∃ v, e = .returned v ∧ Below w.heap.size w w' ∧ (v = .slice none 0 0 ∨ ∃ g a b c d, v = .slice (some ⟨g, 0, none⟩) 16 16 ∧ w'.heap[g]? = some (.cells (mapped16 a b c d) 206 (0, 0)))
theorem pnet_any (s : ByteArray) (w : World) (hG : G0 w) (hs : s.size ≤ 9223372036854775807) (hn : NoColon s) :
  Calls Tryz.prog 117 #[.string s] w (NetPost w) := by
 go_enter Tryz.func117, Tryz.ntmps117
 go_wp2_with (go_at_call 125; refine (pip_any s _ hG hs hn).mono ?_)
 rintro e w1 ⟨v, ok, rfl, hb, ⟨rfl, rfl⟩ | ⟨rfl, a, b, c, d, rfl⟩⟩
 ·unfold zeros16
  go_wp2
  go_ret
  exact ⟨_, rfl, hb.alloc hb.size _, .inl rfl⟩
 ·unfold mapped16
  go_wp2
  go_ret
  exact ⟨_, rfl, hb.alloc hb.size _, .inr ⟨w1.heap.size, a, b, c, d, rfl, heap_alloc_new _ _⟩⟩
theorem zeros_any (g cap : Nat) (w : World) (hc : ∀ i, i < 10 → w.cell? ⟨g, i, none⟩ = some (.int .u8 0)) :
  Calls Tryz.prog 126 #[.slice (some ⟨g, 0, none⟩) 10 cap] w fun e w' => e = .returned (.bool true) ∧ w' = w := by
 go_enter Tryz.func126, Tryz.ntmps126
 go_wp2_with fail
 go_loop [3] (fun i => ∃ k : Nat, k ≤ 10 ∧ i = .int .i64 k) (fun i => 10 - (intOf i).toNat)
 case atStart => exact ⟨0, Nat.zero_le _, rfl⟩
 case round =>
  obtain ⟨k, hk, rfl⟩ := hrel
  by_cases hlt : k < 10
  ·have h := hc k hlt
   have HC := hid hc
   clear hc
   go_wp2
   go_round
   case rel => exact ⟨k + 1, by omega, by go_num⟩
   case measure => simp [intOf]; omega
  ·go_wp2
   go_ret
   exact ⟨rfl, rfl⟩
theorem to4_any (g : Nat) (a b c d : Int) (w : World) (h : w.heap[g]? = some (.cells (mapped16 a b c d) 206 (0, 0))) :
  Calls Tryz.prog 118 #[.slice (some ⟨g, 0, none⟩) 16 16] w fun e w' => e = .returned (.slice (some ⟨g, 12, none⟩) 4 4) ∧ w' = w := by
 have hc : ∀ i, i < 10 → w.cell? ⟨g, i, none⟩ = some (.int .u8 0) := by
  intro i hi
  have : i = 0 ∨ i = 1 ∨ i = 2 ∨ i = 3 ∨ i = 4 ∨ i = 5 ∨ i = 6 ∨ i = 7 ∨ i = 8 ∨ i = 9 := by omega
  rcases this with rfl | rfl | rfl | rfl | rfl | rfl | rfl | rfl | rfl | rfl <;> simp [World.cell?, h, mapped16]
 have h10 : w.cell? ⟨g, 10, none⟩ = some (.int .u8 255) := by simp [World.cell?, h, mapped16]
 have h11 : w.cell? ⟨g, 11, none⟩ = some (.int .u8 255) := by simp [World.cell?, h, mapped16]
 have HC := hid hc
 clear hc h
 go_enter Tryz.func118, Tryz.ntmps118
 go_wp2_with (go_at_call 126; refine (zeros_any g _ _ HC.out).mono ?_; rintro e w1 ⟨rfl, rfl⟩)
 go_ret
 exact ⟨rfl, rfl⟩
def HostB (s : ByteArray) : Prop := ∀ i (h : i < s.size), s[i].toNat < 128 ∧ s[i].toNat ≠ 58 ∧ s[i].toNat ≠ 37
theorem HostB.noColon {s : ByteArray} (h : HostB s) : NoColon s := fun i hi => (h i hi).2
theorem isv6_any (s : ByteArray) (w : World) (hG : G0 w) (hs : s.size ≤ 9223372036854775807) (hn : HostB s) :
  Calls Tryz.prog 110 #[.string s] w fun e w' => e = .returned (.bool false) ∧ Below w.heap.size w w' := by
 have q1 := fun (w : World) (a : Option Addr) (n c : Nat) => run_neq_slice_nil_any (P := Tryz.prog) w 201 5 a n c 0 0 Tryz.underlying201
 have q2 := fun (w : World) (a : Option Addr) (n c : Nat) => Lib.run_eql_slice_nil (P := Tryz.prog) w 201 5 a n c 0 0 Tryz.underlying201
 go_enter Tryz.func110, Tryz.ntmps110
 go_wp2_with fail
 go_loopw [3] (fun _ wr => ∃ pos : Nat, pos ≤ s.size ∧ wr.heap[w.heap.size]? = some (.stringIter s pos) ∧ Below w.heap.size w wr) (fun _ wr => s.size - wr.iterPos w.heap.size)
 case atStart => exact ⟨0, Nat.zero_le _, by simpa using World.iter_heap w s 0, (Below.refl _ w).alloc (Nat.le_refl _) _⟩
 case round =>
  obtain ⟨k, hk, hit, hb⟩ := hrel
  have HB := hid hb
  by_cases hlt : k < s.size
  ·have hnx : ∀ ty, (Instr.next (.pointer (some ⟨w.heap.size, 0, none⟩)) true ty).run Tryz.prog wr = _ := fun ty => Lib.run_next_ascii_at wr w.heap.size s k ty hit hlt (hn k hlt).1
   have hit2 := Lib.iterAt_heap wr w.heap.size s k (k + 1) hit
   have hb2 := Lib.below_iterAt hb (k := w.heap.size) (Nat.le_refl _) s (k + 1)
   have HI := hid hit
   have HI2 := hid hit2
   have HN := hid hn
   have HB2 := hid hb2
   clear hit hit2 hb hn hb2
   by_cases h46 : k = 46
   ·subst h46
    go_wp2
    go_ret
    exact ⟨rfl, HB2.out⟩
   ·by_cases h58 : k = 58
    ·subst h58
     go_wp2_with fail
     refine (pnet_any s _ (hG.below HB2.out) hs HN.out.noColon).mono ?_
     rintro e w2 ⟨v, rfl, hb3, rfl | ⟨g, a, b, c, d, rfl, hg⟩⟩
     ·have HF := hid (HB2.out.trans (hb3.mono HB2.out.size))
      clear hb3
      go_wp2
      go_ret
      exact ⟨rfl, HF.out⟩
     ·have HF := hid (HB2.out.trans (hb3.mono HB2.out.size))
      have HG := hid hg
      clear hb3 hg
      go_wp2_with (go_at_call 118; refine (to4_any g a b c d _ HG.out).mono ?_; rintro e w3 ⟨rfl, rfl⟩)
      go_ret
      exact ⟨rfl, HF.out⟩
    ·have h1 : ((k : Int) == 46) = false := by simp; omega
     have h2 : ((k : Int) == 58) = false := by simp; omega
     go_wp2
     go_roundw
     case rel => exact ⟨k + 1, by omega, HI2.out, HB2.out⟩
     case measure => simp only [World.iterPos, HI2.out, HI.out]; omega
  ·have hnx : ∀ ty, (Instr.next (.pointer (some ⟨w.heap.size, 0, none⟩)) true ty).run Tryz.prog wr = _ := fun ty => Lib.run_next_end_at wr w.heap.size s k ty hit hlt
   have HN := hid hn
   clear hit hb hn
   go_wp2_with fail
   refine (pnet_any s _ (hG.below HB.out) hs HN.out.noColon).mono ?_
   rintro e w2 ⟨v, rfl, hb3, rfl | ⟨g, a, b, c, d, rfl, hg⟩⟩
   ·have HF := hid (HB.out.trans (hb3.mono HB.out.size))
    clear hb3
    go_wp2
    go_ret
    exact ⟨rfl, HF.out⟩
   ·have HF := hid (HB.out.trans (hb3.mono HB.out.size))
    have HG := hid hg
    clear hb3 hg
    go_wp2_with (go_at_call 118; refine (to4_any g a b c d _ HG.out).mono ?_; rintro e w3 ⟨rfl, rfl⟩)
    go_ret
    exact ⟨rfl, HF.out⟩
theorem uriip_any (s : ByteArray) (w : World) (hG : G0 w) (hs : s.size ≤ 9223372036854775807) (hn : HostB s) :
  Calls Tryz.prog 97 #[.string s] w fun e w' => e = .returned (.string s) ∧ Below w.heap.size w w' := by
 go_enter Tryz.func97, Tryz.ntmps97
 go_wp2_with (go_at_call 110; refine (isv6_any s _ hG hs hn).mono ?_; rintro e w1 ⟨rfl, hb⟩)
 go_ret
 exact ⟨rfl, hb⟩
def ValB (s : ByteArray) : Prop := ∀ i (h : i < s.size), s[i].toNat < 128 ∧ s[i].toNat ≠ 32 ∧ s[i].toNat ≠ 9
def blanks : ByteArray := ⟨#[32, 9]⟩
theorem idxany_any (s : ByteArray) (w : World) (hn : ValB s) :
  Calls Tryz.prog 120 #[.string s, .string blanks] w fun e w' => e = .returned (.int .i64 (-1)) ∧ Below w.heap.size w w' := by
 have hb2 : blanks.size = 2 := rfl
 have HS := hid hb2
 clear hb2
 go_enter Tryz.func120, Tryz.ntmps120
 go_wp2_with fail
 go_loopw [5, 6, 8] (fun _ _ _ wr => ∃ pos : Nat, pos ≤ s.size ∧ wr.heap[w.heap.size]? = some (.stringIter s pos) ∧ Below w.heap.size w wr) (fun _ _ _ wr => s.size - wr.iterPos w.heap.size)
 case atStart => exact ⟨0, Nat.zero_le _, by simpa using World.iter_heap w s 0, (Below.refl _ w).alloc (Nat.le_refl _) _⟩
 case round =>
  obtain ⟨k, hk, hit, hb⟩ := hrel
  by_cases hlt : k < s.size
  ·obtain ⟨c1, c2, c3⟩ := hn k hlt
   have hnx : ∀ ty, (Instr.next (.pointer (some ⟨w.heap.size, 0, none⟩)) true ty).run Tryz.prog wr = _ := fun ty => Lib.run_next_ascii_at wr w.heap.size s k ty hit hlt c1
   have hit2 := Lib.iterAt_heap wr w.heap.size s k (k + 1) hit
   have hb2 := Lib.below_iterAt hb (k := w.heap.size) (Nat.le_refl _) s (k + 1)
   have HIT := hid hit
   clear hit hb hn
   generalize hW : wr.iterAt w.heap.size s (k + 1) = wo at *
   have HI2 := hid hit2
   have HB2 := hid hb2
   have hlo : w.heap.size < wo.heap.size := heap_lt hit2
   have HW := hid hW
   clear hit2 hb2 hW
   have d1 : ((s[k].toNat : Int) == 32) = false := by simp; omega
   have d2 : ((s[k].toNat : Int) == 9) = false := by simp; omega
   go_wp2_with fail
   go_loopw [8] (fun _ wr => ∃ j : Nat, j ≤ 2 ∧ wr.heap[wo.heap.size]? = some (.stringIter blanks j) ∧ wr.heap[w.heap.size]? = some (.stringIter s (k + 1)) ∧ Below w.heap.size w wr) (fun _ wr => 2 - wr.iterPos wo.heap.size)
   case atStart => exact ⟨0, by omega, by simpa using World.iter_heap wo blanks 0, (Below.heap_alloc wo _ _ hlo).trans HI2.out, HB2.out.alloc (by omega) _⟩
   case round =>
    obtain ⟨j, hj, it1, it2, hb4⟩ := hrel
    have H4 := hid hb4
    have I2 := hid it2
    clear hb4 it2
    have hkk : wo.heap.size ≠ w.heap.size := by omega
    have e1 := fun p => Lib.iterAt_heap wr wo.heap.size blanks j p it1
    have e2 := fun p => (Lib.iterAt_other wr wo.heap.size w.heap.size blanks p (Ne.symm hkk)).trans I2.out
    have e3 := fun p => Lib.below_iterAt H4.out (k := wo.heap.size) (by omega) blanks p
    have E := hid (And.intro e1 (And.intro e2 e3))
    clear e1 e2 e3 hkk
    have h012 : j = 0 ∨ j = 1 ∨ j = 2 := by omega
    rcases h012 with rfl | rfl | rfl
    ·have hnx1 : ∀ ty, (Instr.next (.pointer (some ⟨wo.heap.size, 0, none⟩)) true ty).run Tryz.prog wr = .ok (.tuple #[.bool true, .int .i64 (0 : Nat), .int .i32 32]) (wr.iterAt wo.heap.size blanks 1) := fun ty => Lib.run_next_ascii_at wr wo.heap.size blanks 0 ty it1 (by decide) (by decide)
     have I1 := hid it1
     clear it1
     go_wp2
     go_roundw
     case rel => exact ⟨1, by omega, E.out.1 1, E.out.2.1 1, E.out.2.2 1⟩
     case measure => simp only [World.iterPos, E.out.1 1, I1.out]; omega
    ·have hnx1 : ∀ ty, (Instr.next (.pointer (some ⟨wo.heap.size, 0, none⟩)) true ty).run Tryz.prog wr = .ok (.tuple #[.bool true, .int .i64 (1 : Nat), .int .i32 9]) (wr.iterAt wo.heap.size blanks 2) := fun ty => Lib.run_next_ascii_at wr wo.heap.size blanks 1 ty it1 (by decide) (by decide)
     have I1 := hid it1
     clear it1
     go_wp2
     go_roundw
     case rel => exact ⟨2, by omega, E.out.1 2, E.out.2.1 2, E.out.2.2 2⟩
     case measure => simp only [World.iterPos, E.out.1 2, I1.out]; omega
    ·have hnx1 : ∀ ty, (Instr.next (.pointer (some ⟨wo.heap.size, 0, none⟩)) true ty).run Tryz.prog wr = .ok (.tuple #[.bool false]) wr := fun ty => Lib.run_next_end_at wr wo.heap.size blanks 2 ty it1 (by decide)
     have I1 := hid it1
     clear it1
     go_wp2
     go_roundw
     case rel => exact ⟨k + 1, by omega, I2.out, H4.out⟩
     case measure => simp only [World.iterPos, I2.out, HIT.out]; omega
  ·have hnx : ∀ ty, (Instr.next (.pointer (some ⟨w.heap.size, 0, none⟩)) true ty).run Tryz.prog wr = _ := fun ty => Lib.run_next_end_at wr w.heap.size s k ty hit hlt
   have HB := hid hb
   clear hit hb hn
   go_wp2
   go_ret
   exact ⟨rfl, HB.out⟩
abbrev KVs := List (ByteArray × ByteArray)
def kvT (p : ByteArray × ByteArray) : Bytes := p.1.data.toList ++ (if p.2.data.toList = [] then [] else 61 :: p.2.data.toList)
def psepT (sep : UInt8) (l : KVs) : Bytes := l.flatMap fun p => sep :: kvT p
def paramsT (sep : UInt8) (l : KVs) : Bytes := (psepT sep l).drop 1
theorem psepT_snoc (sep : UInt8) (l : KVs) (p : ByteArray × ByteArray) : psepT sep (l ++ [p]) = psepT sep l ++ sep :: kvT p := by simp [psepT]
theorem psepT_le (sep : UInt8) (l : KVs) (k : Nat) : (psepT sep (l.take k)).length ≤ (psepT sep l).length := by
 have : psepT sep l = psepT sep (l.take k) ++ psepT sep (l.drop k) := by
  unfold psepT
  rw [← List.flatMap_append, List.take_append_drop]
 rw [this, List.length_append]
 omega
theorem se_nil {s : ByteArray} (h : s.data.toList = []) : (!s.toList.isEmpty) = false := by rw [ByteArray.toList_eq, h]; rfl
theorem se_cons {s : ByteArray} (h : ¬ s.data.toList = []) : (!s.toList.isEmpty) = true := by
 rw [ByteArray.toList_eq]
 cases hl : s.data.toList with
 | nil => exact absurd hl h
 | cons a r => rfl
theorem se_cons' {s : ByteArray} (h : ¬ s.data.toList = []) : s.toList.isEmpty = false := by
 rw [ByteArray.toList_eq]
 cases hl : s.data.toList with
 | nil => exact absurd hl h
 | cons a r => rfl
theorem drop1 (l : Bytes) : (⟨l.toArray⟩ : ByteArray).extract 1 l.length = ⟨(l.drop 1).toArray⟩ := by
 apply Go.WideShapes.bytes_inj
 rw [Lib.extract_data]
 simp only [List.drop_one]
 exact List.take_of_length_le (by simp)
theorem rets {s t : ByteArray} (h : s = t) : Ending.returned (.string s) = .returned (.string t) := by rw [h]
def PRep (w : World) (v : Value) (l : KVs) : Prop :=
 (v = .slice none 0 0 ∧ l = []) ∨ ∃ g cap cs, v = .slice (some ⟨g, 0, none⟩) l.length cap ∧ l.length ≤ cap ∧ cap ≤ 9223372036854775807 ∧ w.heap[g]? = some (.cells cs 177 (0, 0)) ∧
  ∀ i (h : i < l.length), cs[i * 2]? = some (.string l[i].1) ∧ cs[i * 2 + 1]? = some (.string l[i].2)
def KVok (l : KVs) : Prop := ∀ p ∈ l, ValB p.2
theorem PRep.below {w w' : World} {v : Value} {l : KVs} (h : PRep w v l) (hb : Below w.heap.size w w') : PRep w' v l := by
 rcases h with h | ⟨g, cap, cs, h1, h2, h2', h3, h4⟩
 ·exact .inl h
 ·exact .inr ⟨g, cap, cs, h1, h2, h2', (hb.block g (heap_lt h3)).trans h3, h4⟩
theorem PRep.keep {n0 b : Nat} {bs : Bytes} {w w' : World} {v : Value} {l : KVs} (h : PRep w v l) (hB : BW n0 b bs w) (hk : WK n0 b w w') : PRep w' v l := by
 rcases h with h | ⟨g, cap, cs, h1, h2, h2', h3, h4⟩
 ·exact .inl h
 ·exact .inr ⟨g, cap, cs, h1, h2, h2', hk.blk h3 (hB.ne_blk h3 (by decide)) (by decide), h4⟩
theorem cany_any (s : ByteArray) (w : World) (hn : ValB s) :
  Calls Tryz.prog 112 #[.string s, .string ⟨#[32, 9]⟩] w fun e w' => e = .returned (.bool false) ∧ Below w.heap.size w w' := by
 go_enter Tryz.func112, Tryz.ntmps112
 go_wp2_with (go_at_call 120; refine (idxany_any s _ hn).mono ?_; rintro e w1 ⟨rfl, hb⟩)
 go_ret
 exact ⟨rfl, hb⟩
theorem plen_any (A : Option Addr) (n c : Nat) (w : World) (_hn : n ≤ 9223372036854775807) :
  Calls Tryz.prog 99 #[.slice A n c] w fun e w' => e = .returned (.int .i64 n) ∧ w' = w := by
 go_enter Tryz.func99, Tryz.ntmps99
 go_wp2
 go_ret
 exact ⟨rfl, rfl⟩
def StrPost (t : Bytes) (w : World) (e : Ending) (w' : World) : Prop := e = .returned (.string ⟨t.toArray⟩) ∧ Below w.heap.size w w'
theorem ptos_any (sep : UInt8) (v : Value) (l : KVs) (w : World) (hr : PRep w v l) (ho : KVok l) (hl : (psepT sep l).length ≤ 140737488355328) :
  Calls Tryz.prog 100 #[v, .int .u8 sep.toNat] w (StrPost (paramsT sep l) w) := by
 rcases hr with ⟨rfl, rfl⟩ | ⟨g, cap, cs, rfl, h2, h2', h3, h4⟩
 ·go_enter Tryz.func100, Tryz.ntmps100
  go_wp2
  go_ret
  exact ⟨rfl, Below.refl _ _⟩
 ·have hg := heap_lt h3
  by_cases h0 : l.length = 0
  ·have : l = [] := List.eq_nil_of_length_eq_zero h0
   subst this
   go_enter Tryz.func100, Tryz.ntmps100
   go_wp2
   go_ret
   exact ⟨rfl, Below.refl _ _⟩
  ·have hm : l.length ≤ 9223372036854775807 := by omega
   have hz : ((l.length : Int) == 0) = false := by rw [beq_eq_false_iff_ne]; omega
   have H4 := hid h4
   have H3 := hid h3
   have HO := hid ho
   clear h4 h3 ho
   go_enter Tryz.func100, Tryz.ntmps100
   go_wp2_with fail
   go_loopw [7, 13] (fun _ i wr => ∃ k : Nat, k ≤ l.length ∧ i = .int .i64 k ∧ BW w.heap.size w.heap.size (psepT sep (l.take k)) wr ∧ Below w.heap.size w wr) (fun _ i _ => l.length - (intOf i).toNat)
   case atStart => exact ⟨0, Nat.zero_le _, rfl, by simpa [psepT] using BW.fresh w, (Below.refl _ w).alloc (Nat.le_refl _) _⟩
   case round =>
    obtain ⟨k, hk, rfl, hB, hbw⟩ := hrel
    obtain ⟨wo, rfl⟩ : ∃ wo : World, wo = wr := ⟨_, rfl⟩
    have hBW := hid hB
    have hBL := hid hbw
    have h3' : wo.heap[g]? = some (.cells cs 177 (0, 0)) := (hbw.block g hg).trans H3.out
    clear hB hbw
    by_cases hlt : k < l.length
    ·obtain ⟨p1, p2⟩ := H4.out k hlt
     have c1 : wo.cell? ⟨g, k * 2, none⟩ = some (.string l[k].1) := by simp [World.cell?, h3', p1]
     have c2 : wo.cell? ⟨g, k * 2 + 1, none⟩ = some (.string l[k].2) := by simp [World.cell?, h3', p2]
     clear h3'
     go_wp2_with fail
     have hlen : (psepT sep (l.take k)).length + 1 + (kvT l[k]).length ≤ 140737488355328 := by
      have := psepT_le sep l (k + 1)
      rw [take_step l k hlt, psepT_snoc, List.length_append, List.length_cons] at this
      omega
     have hkv : (kvT l[k]).length = l[k].1.data.toList.length + (if l[k].2.data.toList = [] then 0 else 1 + l[k].2.data.toList.length) := by
      unfold kvT
      split <;> simp <;> omega
     have e1 : l[k].1.size = l[k].1.data.toList.length := (Array.length_toList).symm
     have e2 : l[k].2.size = l[k].2.data.toList.length := (Array.length_toList).symm
     have HE := hid (And.intro hkv (And.intro e1 e2))
     clear hkv e1 e2
     refine (wb_any w.heap.size w.heap.size _ sep _ (hBW.out.below ((Below.refl _ _).alloc (Nat.le_refl _) _)) (by omega)).mono ?_
     rintro e w1 ⟨rfl, hB1, hk1⟩
     have hne : wo.heap.size ≠ w.heap.size := by have := hBW.out.lt; omega
     have b1 := hk1.blk (heap_alloc_new wo _) hne (by decide)
     have x1 : w1.cell? ⟨wo.heap.size, 0, none⟩ = some (.string l[k].1) := by simp [World.cell?, b1]
     have HB1 := hid hB1
     have HK1 := hid hk1
     have Hb1 := hid b1
     clear hB1 hk1 b1
     go_wp2_with fail
     refine (ws_any w.heap.size w.heap.size _ _ _ HB1.out (by have := HE.out; simp only [List.length_append, List.length_singleton]; omega)).mono ?_
     rintro e w2 ⟨rfl, hB2, hk2⟩
     have b2 := hk2.blk Hb1.out hne (by decide)
     have x2 : w2.cell? ⟨wo.heap.size, 1, none⟩ = some (.string l[k].2) := by simp [World.cell?, b2]
     have HB2 := hid hB2
     have HK2 := hid hk2
     have Hb2 := hid b2
     clear hB2 hk2 b2 x1
     go_wp2_with fail
     refine (cany_any _ _ (HO.out _ (by simp))).mono ?_
     rintro e w3 ⟨rfl, hb3⟩
     have b3 := (hb3.block _ (heap_lt Hb2.out)).trans Hb2.out
     have x3 : w3.cell? ⟨wo.heap.size, 1, none⟩ = some (.string l[k].2) := by simp [World.cell?, b3]
     have HB3 := hid (HB2.out.below hb3)
     have HK3 := hid ((((WK.of_below ((Below.refl _ _).alloc (Nat.le_refl _) _) (Nat.le_of_lt hBW.out.lt.2)).trans HK1.out).trans HK2.out).trans (WK.of_below hb3 (Nat.le_of_lt HB2.out.lt.2)))
     have Hb3 := hid b3
     clear hb3 b3 x2
     have hfin : ∀ (W : World), BW w.heap.size w.heap.size (psepT sep (l.take k) ++ [sep] ++ kvT l[k]) W → Below w.heap.size w W →
       BW w.heap.size w.heap.size (psepT sep (l.take (k + 1))) W ∧ Below w.heap.size w W := by
      intro W hW hb
      rw [take_step l k hlt, psepT_snoc]
      exact ⟨by simpa using hW, hb⟩
     by_cases hv : l[k].2.data.toList = []
     ·have hv' := se_nil hv
      have HV := hid hv
      clear hv
      go_wp2_with fail
      go_roundw
      case rel => exact ⟨k + 1, by omega, by go_num, hfin _ (by have := HB3.out; unfold kvT; rw [if_pos HV.out]; simpa using this) (hBL.out.trans HK3.out.1)⟩
      case measure => simp [intOf]; omega
     ·have hv' := se_cons hv
      have HV := hid hv
      clear hv
      go_wp2_with fail
      have hE := HE.out
      rw [if_neg HV.out] at hE
      have HE2 := hid hE
      clear hE
      refine (wb_any w.heap.size w.heap.size _ 61 _ HB3.out (by have := HE2.out; simp only [List.length_append, List.length_singleton]; omega)).mono ?_
      rintro e w4 ⟨rfl, hB4, hk4⟩
      have b4 := hk4.blk Hb3.out hne (by decide)
      have x4 : w4.cell? ⟨wo.heap.size, 1, none⟩ = some (.string l[k].2) := by simp [World.cell?, b4]
      have HB4 := hid hB4
      have HK4 := hid (HK3.out.trans hk4)
      clear hB4 hk4 b4
      go_wp2_with fail
      refine (ws_any w.heap.size w.heap.size _ _ _ HB4.out (by have := HE2.out; simp only [List.length_append, List.length_singleton]; omega)).mono ?_
      rintro e w5 ⟨rfl, hB5, hk5⟩
      have HB5 := hid hB5
      have HK5 := hid (HK4.out.trans hk5)
      clear hB5 hk5
      go_wp2_with fail
      go_roundw
      case rel => exact ⟨k + 1, by omega, by go_num, hfin _ (by have := HB5.out; unfold kvT; rw [if_neg HV.out]; simpa using this) (hBL.out.trans HK5.out.1)⟩
      case measure => simp [intOf]; omega
    ·have hke : k = l.length := by omega
     have HKE := hid hke
     clear hke h3'
     go_wp2_with fail
     refine (bstr_any w.heap.size w.heap.size _ _ hBW.out).mono ?_
     rintro e w1 ⟨rfl, hB1, hk1⟩
     have hpos : 1 ≤ (psepT sep (l.take k)).length := by
      rw [HKE.out, List.take_length]
      cases l with
      | nil => exact absurd rfl h0
      | cons a r => simp [psepT]
     go_wp2
     go_ret
     refine ⟨rets ((drop1 _).trans ?_), hBL.out.trans hk1.1⟩
     rw [HKE.out, List.take_length]
     rfl
def WrPost (n0 b : Nat) (bs t : Bytes) (w : World) (e : Ending) (w' : World) : Prop := e = .returned (.tuple #[]) ∧ BW n0 b (bs ++ t) w' ∧ WK n0 b w w'
abbrev bptr (b : Nat) : Value := .iface 146 (.pointer (some ⟨b, 0, none⟩))
