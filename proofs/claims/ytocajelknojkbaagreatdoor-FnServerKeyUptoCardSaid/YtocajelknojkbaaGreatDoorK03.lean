import Derived.Test.YtocajelknojkbaaGreatDoorK02
set_option maxRecDepth 100000
set_option maxHeartbeats 16000000
set_option linter.all false
namespace Go.Proofs.YtocajelknojkbaaGreatDoor
open Go.Lib (hid)
open Go.RowKit

def BareAt (t : TypeId) (w : World) (g : Nat) (u : SUri) : Prop := ∃ cs, HB w g t cs ∧ UCells w (fun i => cs[0 + i]?) u
section
variable {t : TypeId} {n0 b : Nat} {bs : Bytes} {w w' : World} {g : Nat} {u : SUri}
theorem BareAt.keep (h : BareAt t w g u) (hB : BW n0 b bs w) (hk : WK n0 b w w') : BareAt t w' g u := by
 obtain ⟨cs, h1, h3⟩ := h
 exact ⟨cs, h1.keep hB hk, h3.keep hB hk⟩
theorem BareAt.below (h : BareAt t w g u) (hb : Below w.heap.size w w') : BareAt t w' g u := by
 obtain ⟨cs, h1, h3⟩ := h
 exact ⟨cs, h1.below hb, h3.below hb⟩
theorem BareAt.uri (h : BareAt t w g u) : UriAt w g 0 u := by
 obtain ⟨cs, h1, h3⟩ := h
 exact ⟨cs, t, (0, 0), h1.1, h1.2.1, h1.2.2, h3⟩
end
theorem to_name (x : Value) (w : World) :
  Calls Tryz.prog 309 #[x] w fun e w' => e = .returned (.string ⟨#[84, 111]⟩) ∧ w' = w := by
 go_enter Tryz.func309, Tryz.ntmps309
 go_wp2
 go_ret
 exact ⟨rfl, rfl⟩
theorem from_name (x : Value) (w : World) :
  Calls Tryz.prog 301 #[x] w fun e w' => e = .returned (.string ⟨#[70, 114, 111, 109]⟩) ∧ w' = w := by
 go_enter Tryz.func301, Tryz.ntmps301
 go_wp2
 go_ret
 exact ⟨rfl, rfl⟩
theorem refby_name (x : Value) (w : World) :
  Calls Tryz.prog 379 #[x] w fun e w' => e = .returned (.string ⟨#[82, 101, 102, 101, 114, 114, 101, 100, 45, 66, 121]⟩) ∧ w' = w := by
 go_enter Tryz.func379, Tryz.ntmps379
 go_wp2
 go_ret
 exact ⟨rfl, rfl⟩
theorem contact_name (x : Value) (w : World) :
  Calls Tryz.prog 318 #[x] w fun e w' => e = .returned (.string ⟨#[67, 111, 110, 116, 97, 99, 116]⟩) ∧ w' = w := by
 go_enter Tryz.func318, Tryz.ntmps318
 go_wp2
 go_ret
 exact ⟨rfl, rfl⟩
theorem via_name (x : Value) (w : World) :
  Calls Tryz.prog 126 #[x] w fun e w' => e = .returned (.string ⟨#[86, 105, 97]⟩) ∧ w' = w := by
 go_enter Tryz.func126, Tryz.ntmps126
 go_wp2
 go_ret
 exact ⟨rfl, rfl⟩
theorem callid_name (x : Value) (w : World) :
  Calls Tryz.prog 124 #[x] w fun e w' => e = .returned (.string ⟨#[67, 97, 108, 108, 45, 73, 68]⟩) ∧ w' = w := by
 go_enter Tryz.func124, Tryz.ntmps124
 go_wp2
 go_ret
 exact ⟨rfl, rfl⟩
theorem ctype_name (x : Value) (w : World) :
  Calls Tryz.prog 337 #[x] w fun e w' => e = .returned (.string ⟨#[67, 111, 110, 116, 101, 110, 116, 45, 84, 121, 112, 101]⟩) ∧ w' = w := by
 go_enter Tryz.func337, Tryz.ntmps337
 go_wp2
 go_ret
 exact ⟨rfl, rfl⟩
theorem maxf_name (x : Value) (w : World) :
  Calls Tryz.prog 358 #[x] w fun e w' => e = .returned (.string ⟨#[77, 97, 120, 45, 70, 111, 114, 119, 97, 114, 100, 115]⟩) ∧ w' = w := by
 go_enter Tryz.func358, Tryz.ntmps358
 go_wp2
 go_ret
 exact ⟨rfl, rfl⟩
theorem expires_name (x : Value) (w : World) :
  Calls Tryz.prog 366 #[x] w fun e w' => e = .returned (.string ⟨#[69, 120, 112, 105, 114, 101, 115]⟩) ∧ w' = w := by
 go_enter Tryz.func366, Tryz.ntmps366
 go_wp2
 go_ret
 exact ⟨rfl, rfl⟩
theorem clen_name (x : Value) (w : World) :
  Calls Tryz.prog 331 #[x] w fun e w' => e = .returned (.string ⟨#[67, 111, 110, 116, 101, 110, 116, 45, 76, 101, 110, 103, 116, 104]⟩) ∧ w' = w := by
 go_enter Tryz.func331, Tryz.ntmps331
 go_wp2
 go_ret
 exact ⟨rfl, rfl⟩
theorem cseq_name (x : Value) (w : World) :
  Calls Tryz.prog 325 #[x] w fun e w' => e = .returned (.string ⟨#[67, 83, 101, 113]⟩) ∧ w' = w := by
 go_enter Tryz.func325, Tryz.ntmps325
 go_wp2
 go_ret
 exact ⟨rfl, rfl⟩
theorem route_name (x : Value) (w : World) :
  Calls Tryz.prog 343 #[x] w fun e w' => e = .returned (.string ⟨#[82, 111, 117, 116, 101]⟩) ∧ w' = w := by
 go_enter Tryz.func343, Tryz.ntmps343
 go_wp2
 go_ret
 exact ⟨rfl, rfl⟩
theorem rroute_name (x : Value) (w : World) :
  Calls Tryz.prog 350 #[x] w fun e w' => e = .returned (.string ⟨#[82, 101, 99, 111, 114, 100, 45, 82, 111, 117, 116, 101]⟩) ∧ w' = w := by
 go_enter Tryz.func350, Tryz.ntmps350
 go_wp2
 go_ret
 exact ⟨rfl, rfl⟩
theorem referto_name (x : Value) (w : World) :
  Calls Tryz.prog 372 #[x] w fun e w' => e = .returned (.string ⟨#[82, 101, 102, 101, 114, 45, 84, 111]⟩) ∧ w' = w := by
 go_enter Tryz.func372, Tryz.ntmps372
 go_wp2
 go_ret
 exact ⟨rfl, rfl⟩
theorem generic_name (g : Nat) (n v : ByteArray) (w : World) (hA : HB w g 210 #[.string n, .string v]) :
  Calls Tryz.prog 390 #[.pointer (some ⟨g, 0, none⟩)] w fun e w' => e = .returned (.string n) ∧ w' = w := by
 have c0 : w.cell? ⟨g, 0, none⟩ = some (.string n) := hA.cell 0
 clear hA
 go_enter Tryz.func390, Tryz.ntmps390
 go_wp2
 go_ret
 exact ⟨rfl, rfl⟩
theorem cseq_val (N : Nat) (g : Nat) (n : Int) (m : ByteArray) (w : World) (hG : Gl N w) (hA : HB w g 156 #[.int .u32 n, .string m]) (hn : 0 ≤ n ∧ n < 4294967296) (hl : (Lib.itoa n ++ [32] ++ m.data.toList).length ≤ 70368744177664) :
  Calls Tryz.prog 328 #[.pointer (some ⟨g, 0, none⟩)] w (StrPost (Lib.itoa n ++ [32] ++ m.data.toList) w) := by
 have c0 : w.cell? ⟨g, 0, none⟩ = some (.int .u32 n) := hA.cell 0
 have c1 : w.cell? ⟨g, 1, none⟩ = some (.string m) := hA.cell 1
 have h1 := hn.1
 have h2 := hn.2
 have HG := hid ((hG.below (Below.refl N w).drew (Nat.le_refl _)).get)
 have HC := hid (And.intro c0 c1)
 have hw : IntKind.i64.wrap n = n := IntWalk.i64_in _ (by omega)
 have hz1 := sz (Lib.itoa n)
 have hz2 := dl m
 have hz3 : (⟨(Lib.itoa n).toArray⟩ ++ ⟨#[32]⟩ : ByteArray).size = (Lib.itoa n).length + 1 := by rw [ByteArray.size_append, hz1]; rfl
 simp only [List.length_append, List.length_singleton] at hl
 have p1 : ∀ W, (Op.stringOp .add ⟨(Lib.itoa n).toArray⟩ ⟨#[32]⟩).run Tryz.prog W = .ok (.string (⟨(Lib.itoa n).toArray⟩ ++ ⟨#[32]⟩)) W := fun W => run_string_add_sum _ _ _ (by rw [hz1]; show _ + 1 ≤ _; omega)
 have p2 : ∀ W, (Op.stringOp .add (⟨(Lib.itoa n).toArray⟩ ++ ⟨#[32]⟩) m).run Tryz.prog W = .ok (.string ((⟨(Lib.itoa n).toArray⟩ ++ ⟨#[32]⟩) ++ m)) W := fun W => run_string_add_sum _ _ _ (by omega)
 clear hz1 hz2 hz3 hl
 clear hA hn hG c0 c1
 go_enter Tryz.func328, Tryz.ntmps328
 go_wp2_with fail
 go_region_held3 (fun w' => w'.cell? ⟨g, 0, none⟩ = some (.int .u32 n) ∧ w'.cell? ⟨g, 1, none⟩ = some (.string m)) (first | exact HC.out | exact ⟨cell_below (w := w.drew) hb4 HC.out.1, cell_below (w := w.drew) hb4 HC.out.2⟩)
  (first | (go_at_call 106; refine (itoa_any n (by omega) (by omega) _ HG.out).mono ?_; rintro e w4 ⟨rfl, hb4⟩))
 all_goals (go_wp2; go_ret; exact ⟨rets (by apply Go.WideShapes.bytes_inj; simp), (Below.refl _ _).drew.trans hb4⟩)
