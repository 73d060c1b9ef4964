import Derived.Test.YtglhcpmaiogdjaaGreatDoorP15
set_option maxRecDepth 100000
set_option maxHeartbeats 16000000
set_option linter.all false
namespace Go.Proofs.YtglhcpmaiogdjaaGreatDoor
open Go.Lib (hid)
open Go.RowKit
def BareAt (t : TypeId) (w : World) (g : Nat) (u : SUri) : Prop := ∃ cs, HB w g t cs ∧ UCells w (fun i => cs[0 + i]?) u
section
variable {t : TypeId} {n0 b : Nat} {bs : Bytes} {w w' : World} {g : Nat} {u : SUri}
theorem BareAt.keep (h : BareAt t w g u) (hB : BW n0 b bs w) (hk : WK n0 b w w') : BareAt t w' g u := by
 obtain ⟨cs, h1, h3⟩ := h
 exact ⟨cs, h1.keep hB hk, h3.keep hB hk⟩
theorem BareAt.below (h : BareAt t w g u) (hb : Below w.heap.size w w') : BareAt t w' g u := by
 obtain ⟨cs, h1, h3⟩ := h
 exact ⟨cs, h1.below hb, h3.below hb⟩
theorem BareAt.uri (h : BareAt t w g u) : UriAt w g 0 u := by
 obtain ⟨cs, h1, h3⟩ := h
 exact ⟨cs, t, (0, 0), h1.1, h1.2.1, h1.2.2, h3⟩
end
theorem to_name (x : Value) (w : World) :
  Calls Tryz.prog 288 #[x] w fun e w' => e = .returned (.string ⟨#[84, 111]⟩) ∧ w' = w := by
 go_enter Tryz.func288, Tryz.ntmps288
 go_wp2
 go_ret
 exact ⟨rfl, rfl⟩
theorem from_name (x : Value) (w : World) :
  Calls Tryz.prog 282 #[x] w fun e w' => e = .returned (.string ⟨#[70, 114, 111, 109]⟩) ∧ w' = w := by
 go_enter Tryz.func282, Tryz.ntmps282
 go_wp2
 go_ret
 exact ⟨rfl, rfl⟩
theorem refby_name (x : Value) (w : World) :
  Calls Tryz.prog 358 #[x] w fun e w' => e = .returned (.string ⟨#[82, 101, 102, 101, 114, 114, 101, 100, 45, 66, 121]⟩) ∧ w' = w := by
 go_enter Tryz.func358, Tryz.ntmps358
 go_wp2
 go_ret
 exact ⟨rfl, rfl⟩
theorem contact_name (x : Value) (w : World) :
  Calls Tryz.prog 300 #[x] w fun e w' => e = .returned (.string ⟨#[67, 111, 110, 116, 97, 99, 116]⟩) ∧ w' = w := by
 go_enter Tryz.func300, Tryz.ntmps300
 go_wp2
 go_ret
 exact ⟨rfl, rfl⟩
theorem via_name (x : Value) (w : World) :
  Calls Tryz.prog 275 #[x] w fun e w' => e = .returned (.string ⟨#[86, 105, 97]⟩) ∧ w' = w := by
 go_enter Tryz.func275, Tryz.ntmps275
 go_wp2
 go_ret
 exact ⟨rfl, rfl⟩
theorem callid_name (x : Value) (w : World) :
  Calls Tryz.prog 294 #[x] w fun e w' => e = .returned (.string ⟨#[67, 97, 108, 108, 45, 73, 68]⟩) ∧ w' = w := by
 go_enter Tryz.func294, Tryz.ntmps294
 go_wp2
 go_ret
 exact ⟨rfl, rfl⟩
theorem ctype_name (x : Value) (w : World) :
  Calls Tryz.prog 318 #[x] w fun e w' => e = .returned (.string ⟨#[67, 111, 110, 116, 101, 110, 116, 45, 84, 121, 112, 101]⟩) ∧ w' = w := by
 go_enter Tryz.func318, Tryz.ntmps318
 go_wp2
 go_ret
 exact ⟨rfl, rfl⟩
theorem maxf_name (x : Value) (w : World) :
  Calls Tryz.prog 337 #[x] w fun e w' => e = .returned (.string ⟨#[77, 97, 120, 45, 70, 111, 114, 119, 97, 114, 100, 115]⟩) ∧ w' = w := by
 go_enter Tryz.func337, Tryz.ntmps337
 go_wp2
 go_ret
 exact ⟨rfl, rfl⟩
theorem expires_name (x : Value) (w : World) :
  Calls Tryz.prog 345 #[x] w fun e w' => e = .returned (.string ⟨#[69, 120, 112, 105, 114, 101, 115]⟩) ∧ w' = w := by
 go_enter Tryz.func345, Tryz.ntmps345
 go_wp2
 go_ret
 exact ⟨rfl, rfl⟩
theorem clen_name (x : Value) (w : World) :
  Calls Tryz.prog 312 #[x] w fun e w' => e = .returned (.string ⟨#[67, 111, 110, 116, 101, 110, 116, 45, 76, 101, 110, 103, 116, 104]⟩) ∧ w' = w := by
 go_enter Tryz.func312, Tryz.ntmps312
 go_wp2
 go_ret
 exact ⟨rfl, rfl⟩
theorem cseq_name (x : Value) (w : World) :
  Calls Tryz.prog 306 #[x] w fun e w' => e = .returned (.string ⟨#[67, 83, 101, 113]⟩) ∧ w' = w := by
 go_enter Tryz.func306, Tryz.ntmps306
 go_wp2
 go_ret
 exact ⟨rfl, rfl⟩
theorem route_name (x : Value) (w : World) :
  Calls Tryz.prog 324 #[x] w fun e w' => e = .returned (.string ⟨#[82, 111, 117, 116, 101]⟩) ∧ w' = w := by
 go_enter Tryz.func324, Tryz.ntmps324
 go_wp2
 go_ret
 exact ⟨rfl, rfl⟩
theorem rroute_name (x : Value) (w : World) :
  Calls Tryz.prog 330 #[x] w fun e w' => e = .returned (.string ⟨#[82, 101, 99, 111, 114, 100, 45, 82, 111, 117, 116, 101]⟩) ∧ w' = w := by
 go_enter Tryz.func330, Tryz.ntmps330
 go_wp2
 go_ret
 exact ⟨rfl, rfl⟩
theorem referto_name (x : Value) (w : World) :
  Calls Tryz.prog 352 #[x] w fun e w' => e = .returned (.string ⟨#[82, 101, 102, 101, 114, 45, 84, 111]⟩) ∧ w' = w := by
 go_enter Tryz.func352, Tryz.ntmps352
 go_wp2
 go_ret
 exact ⟨rfl, rfl⟩
theorem generic_name (g : Nat) (n v : ByteArray) (w : World) (hA : HB w g 188 #[.string n, .string v]) :
  Calls Tryz.prog 364 #[.pointer (some ⟨g, 0, none⟩)] w fun e w' => e = .returned (.string n) ∧ w' = w := by
 have c0 : w.cell? ⟨g, 0, none⟩ = some (.string n) := hA.cell 0
 clear hA
 go_enter Tryz.func364, Tryz.ntmps364
 go_wp2
 go_ret
 exact ⟨rfl, rfl⟩
theorem cseq_val (N : Nat) (g : Nat) (n : Int) (m : ByteArray) (w : World) (hG : Gl N w) (hA : HB w g 138 #[.int .u32 n, .string m]) (hn : 0 ≤ n ∧ n < 4294967296) (hl : (Lib.itoa n ++ [32] ++ m.data.toList).length ≤ 70368744177664) :
  Calls Tryz.prog 309 #[.pointer (some ⟨g, 0, none⟩)] w (StrPost (Lib.itoa n ++ [32] ++ m.data.toList) w) := by
 have c0 : w.cell? ⟨g, 0, none⟩ = some (.int .u32 n) := hA.cell 0
 have c1 : w.cell? ⟨g, 1, none⟩ = some (.string m) := hA.cell 1
 have h1 := hn.1
 have h2 := hn.2
 have HG := hid ((hG.below (Below.refl N w).drew (Nat.le_refl _)).get)
 have HC := hid (And.intro c0 c1)
 have hw : IntKind.i64.wrap n = n := IntWalk.i64_in _ (by omega)
 have hz1 := sz (Lib.itoa n)
 have hz2 := dl m
 have hz3 : (⟨(Lib.itoa n).toArray⟩ ++ ⟨#[32]⟩ : ByteArray).size = (Lib.itoa n).length + 1 := by rw [ByteArray.size_append, hz1]; rfl
 simp only [List.length_append, List.length_singleton] at hl
 have p1 : ∀ W, (Op.stringOp .add ⟨(Lib.itoa n).toArray⟩ ⟨#[32]⟩).run Tryz.prog W = .ok (.string (⟨(Lib.itoa n).toArray⟩ ++ ⟨#[32]⟩)) W := fun W => run_string_add_sum _ _ _ (by rw [hz1]; show _ + 1 ≤ _; omega)
 have p2 : ∀ W, (Op.stringOp .add (⟨(Lib.itoa n).toArray⟩ ++ ⟨#[32]⟩) m).run Tryz.prog W = .ok (.string ((⟨(Lib.itoa n).toArray⟩ ++ ⟨#[32]⟩) ++ m)) W := fun W => run_string_add_sum _ _ _ (by omega)
 clear hz1 hz2 hz3 hl
 clear hA hn hG c0 c1
 go_enter Tryz.func309, Tryz.ntmps309
 go_wp2_with fail
 go_region_held3 (fun w' => w'.cell? ⟨g, 0, none⟩ = some (.int .u32 n) ∧ w'.cell? ⟨g, 1, none⟩ = some (.string m)) (first | exact HC.out | exact ⟨cell_below (w := w.drew) hb4 HC.out.1, cell_below (w := w.drew) hb4 HC.out.2⟩)
  (first | (go_at_call 98; refine (itoa_any n (by omega) (by omega) _ HG.out).mono ?_; rintro e w4 ⟨rfl, hb4⟩))
 all_goals (go_wp2; go_ret; exact ⟨rets (by apply Go.WideShapes.bytes_inj; simp), (Below.refl _ _).drew.trans hb4⟩)
theorem cseq_vsw (N n0 b : Nat) (bs : Bytes) (g : Nat) (n : Int) (m : ByteArray) (w : World) (hG : Gl N w) (hN : N ≤ n0) (hB : BW n0 b bs w) (hA : HB w g 138 #[.int .u32 n, .string m]) (hn : 0 ≤ n ∧ n < 4294967296) (hl : bs.length + (Lib.itoa n ++ [32] ++ m.data.toList).length ≤ 70368744177664) :
  Calls Tryz.prog 311 #[.pointer (some ⟨g, 0, none⟩), bptr b] w (WrPost n0 b bs (Lib.itoa n ++ [32] ++ m.data.toList) w) := by
 have HG := hid hG
 have HU0 := hid hA
 have HB0 := hid hB
 have HK0 := hid (WK.refl n0 b w)
 have hna := ws_nilAhead
 have hme := ws_method
 have HL := hid (And.intro hl (And.intro (sz (Lib.itoa n)) (dl m)))
 have c0 : w.cell? ⟨g, 0, none⟩ = some (.int .u32 n) := hA.cell 0
 have HC := hid c0
 have HGd := hid ((hG.below (Below.refl N w).drew (Nat.le_refl _)).get)
 have h1 := hn.1
 have h2 := hn.2
 have hw : IntKind.i64.wrap n = n := IntWalk.i64_in _ (by omega)
 clear hG hA hB hl hn c0
 go_enter Tryz.func311, Tryz.ntmps311
 go_upto_region 0 with fail
 go_cut [] (fun wx => BW n0 b (bs ++ Lib.itoa n) wx ∧ WK n0 b w wx)
 case first =>
  go_region_held3 (fun w' => w'.cell? ⟨g, 0, none⟩ = some (.int .u32 n)) (first | exact HC.out | exact cell_below (w := w.drew) hb4 HC.out | exact (HU0.out.below (Below.refl _ w).drew |>.below hb4).cellKeep (HB0.out.drew.below hb4) hk5 (cell_below (w := w.drew) hb4 HC.out))
   (first
    | (go_at_call 98; refine (itoa_any n (by omega) (by omega) _ HGd.out).mono ?_; rintro e w4 ⟨rfl, hb4⟩)
    | (go_at_call 89; refine (ws_any n0 b _ _ _ (HB0.out.drew.below hb4) ?_).mono ?_; (have := HL.out; simp only [List.length_append, List.length_cons, List.length_nil] at *; omega); rintro e w5 ⟨rfl, hB5, hk5⟩))
  all_goals (go_wp2_with fail; go_meet; exact ⟨by simpa using hB5, HK0.out.drew.trans ((WK.of_below (w := w.drew) hb4 (Nat.le_of_lt (Nat.lt_of_le_of_lt HB0.out.lt.1 HB0.out.lt.2))).trans hk5)⟩)
 case rest =>
  obtain ⟨hB1, hK1⟩ := hcut
  obtain ⟨w1, rfl⟩ : ∃ w1 : World, w1 = wc := ⟨_, rfl⟩
  have HB1 := hid hB1
  have HK1 := hid hK1
  have HU1 := hid (HU0.out.keep HB0.out hK1)
  clear hB1 hK1
  go_wp2_with fail
  refine (ws_any n0 b _ _ _ HB1.out (by have := HL.out; show _ + 1 ≤ _; simp only [List.length_append, List.length_cons, List.length_nil] at *; omega)).mono ?_
  rintro e w2 ⟨rfl, hB2, hk2⟩
  have HB2 := hid hB2
  have HK2 := hid (HK1.out.trans hk2)
  have HU2 := hid (HU1.out.keep HB1.out hk2)
  have c1 : w2.cell? ⟨g, 1, none⟩ = some (.string m) := HU2.out.cell 1
  clear hB2 hk2
  go_wp2_with fail
  refine stail 8 (by kernel_rfl) (by kernel_rfl) ?_
  simp only [List.take_succ_cons, List.take_zero, List.drop_succ_cons, List.drop_zero]
  repeat still_step
  refine wpStill_nil ?_
  go_wp2_with fail
  refine (ws_any n0 b _ _ _ HB2.out.drew (by have := HL.out; simp only [List.length_append, List.length_cons, List.length_nil] at *; omega)).mono ?_
  rintro e w3 ⟨rfl, hB3, hk3⟩
  go_wp2_with fail
  go_end0
  exact ⟨rfl, by simpa using hB3, HK2.out.drew.trans hk3⟩

theorem cseq_sw (N n0 b : Nat) (bs : Bytes) (g : Nat) (n : Int) (m : ByteArray) (w : World) (hG : Gl N w) (hN : N ≤ n0) (hB : BW n0 b bs w) (hA : HB w g 138 #[.int .u32 n, .string m]) (hn : 0 ≤ n ∧ n < 4294967296) (hl : bs.length + (([67, 83, 101, 113] : Bytes) ++ [58, 32] ++ (Lib.itoa n ++ [32] ++ m.data.toList)).length ≤ 70368744177664) :
  Calls Tryz.prog 308 #[.pointer (some ⟨g, 0, none⟩), bptr b] w (WrPost n0 b bs (([67, 83, 101, 113] : Bytes) ++ [58, 32] ++ (Lib.itoa n ++ [32] ++ m.data.toList)) w) := by
 have HG := hid hG
 have HU0 := hid hA
 have HB0 := hid hB
 have HK0 := hid (WK.refl n0 b w)
 have hna := ws_nilAhead
 have hme := ws_method
 have HL := hid (And.intro hl trivial)
 have HLN := hid trivial
 have HE := hid (fun N n0 b bs g w h1 h2 h3 h4 h5 => cseq_vsw N n0 b bs g n m w h1 h2 h3 h4 hn h5)
 have HN := hid hn
 clear hG hA hB hl hn
 go_enter Tryz.func308, Tryz.ntmps308
 go_wp2_with fail
 refine stail 6 (by kernel_rfl) (by kernel_rfl) ?_
 simp only [List.take_succ_cons, List.take_zero, List.drop_succ_cons, List.drop_zero]
 repeat still_step
 still_call (cseq_name _ _)
 repeat still_step
 refine wpStill_nil ?_
 go_wp2_with fail
 refine (ws_any n0 b _ _ _ HB0.out.drew (by have := HL.out; have := HLN.out; simp only [List.length_append, List.length_cons, List.length_nil] at *; show _ + 4 ≤ _; omega)).mono ?_
 rintro e w1 ⟨rfl, hB1, hk1⟩
 have HB1 := hid hB1
 have HK1 := hid (HK0.out.drew.trans hk1)
 have HU1 := hid ((HU0.out.below (Below.refl _ w).drew).keep HB0.out.drew hk1)
 clear hB1 hk1
 go_wp2_with fail
 refine (ws_any n0 b _ _ _ HB1.out (by have := HL.out; have := HLN.out; show _ + 2 ≤ _; simp only [List.length_append, List.length_cons, List.length_nil] at *; first | omega | (show _ + 4 + 2 ≤ _; omega))).mono ?_
 rintro e w2 ⟨rfl, hB2, hk2⟩
 have HB2 := hid hB2
 have HK2 := hid (HK1.out.trans hk2)
 have HU2 := hid (HU1.out.keep HB1.out hk2)
 clear hB2 hk2
 go_wp2_with fail
 refine (HE.out N n0 b _ g _ (HG.out.below HK2.out.1 hN) hN HB2.out HU2.out (by have := HL.out; simp only [List.length_append, List.length_cons, List.length_nil] at *; first | omega | (show _ + 4 + 2 + List.length _ ≤ _; omega))).mono ?_
 rintro e w3 ⟨rfl, hB3, hk3⟩
 go_wp2_with fail
 go_end0
 exact ⟨rfl, by simpa using hB3, HK2.out.trans hk3⟩
