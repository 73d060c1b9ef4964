import Derived.Test.YtocajelknojkbaaGreatDoorK25
import Derived.Test.YtocajelknojkbaaGreatDoorK30
import Derived.Test.YtocajelknojkbaaGreatDoorK29
set_option maxRecDepth 100000
set_option maxHeartbeats 16000000
set_option linter.all false
namespace Go.Proofs.YtocajelknojkbaaGreatDoor
open Go.Lib (hid)
open Go.RowKit
def knL : LUri := ⟨[115, 105, 112], [], false, false, [98, 111, 98], [], [98, 46, 111, 114, 103], 5070, [], []⟩
def invB : Bytes := [73, 78, 86, 73, 84, 69]
def knH : LHead := ⟨5, [], invB, [], emptyU, [], 7, [], [], [], [], 0⟩
theorem knL_text : uriT (toS knL) = kn0 := by kernel_rfl
theorem knH_line : (hdrS knH).line = [67, 83, 101, 113, 58, 32, 55, 32, 73, 78, 86, 73, 84, 69] := by kernel_rfl
theorem knL_ok : UOk (toS knL) := by
 refine ⟨by decide, rfl, fun _ => ?_, ⟨by decide, by decide⟩, fun _ => ?_, fun _ => ?_⟩
 ·intro i hi
  have key : ∀ j : Fin 5, ((#[98, 46, 111, 114, 103] : Array UInt8)[j]).toNat < 128 ∧ ((#[98, 46, 111, 114, 103] : Array UInt8)[j]).toNat ≠ 58 ∧ ((#[98, 46, 111, 114, 103] : Array UInt8)[j]).toNat ≠ 37 := by decide
  exact key ⟨i, hi⟩
 ·intro p hp; cases hp
 ·intro p hp; cases hp
theorem lit_row {w : World} {g : Nat} {l : Bytes} {fz : Nat × Nat} (h : w.heap[g]? = some (Obj.cells (Lib.byteCells l).toArray 5 fz)) (hl : l.length ≤ 9223372036854775807) : SBu w (.slice (some ⟨g, 0, none⟩) l.length l.length) l :=
 ⟨g, l.length, _, fz, rfl, Nat.le_refl _, hl, h, fun i h => by simp only [List.getElem?_toArray, Lib.byteCells, List.getElem?_map, List.getElem?_eq_getElem h]; rfl⟩
theorem known_any (N : Nat) (w : World) (hG : Gl N w) : Calls Tryz.prog 11 #[] w fun e w' => e = .returned (.bool true) ∧ Below w.heap.size w w' := by
 have HU := hid (uri_any ⟨#[98, 111, 98]⟩ ⟨#[98, 46, 111, 114, 103]⟩ 5070 w ⟨by show (3 : Nat) ≤ _; omega, by show (5 : Nat) ≤ _; omega⟩ (by unfold I64; omega))
 have HGL := hid hG
 clear hG
 go_enter Tryz.func11, Tryz.ntmps11
 go_upto_region 2 with (first
  | (go_at_call 38; refine HU.out.mono ?_; rintro e w1 ⟨ul, rfl, hlu, hb⟩; have HL1 := hid (show LU w1 knL ul from hlu); have HB1 := hid hb; clear hlu hb)
  | (refine wpList_store_blk (by rfl) 25 (.tmp 1) (.tmp 6) (by rfl) w1.heap.size 25 [.slice none 0 0, .slice none 0 0, .bool false, .bool false, .slice none 0 0, .slice none 0 0, .slice none 0 0, .int .i64 0, .slice none 0 0, .slice none 0 0] ul (by rfl) (by rfl) (by rw [HL1.out.len]; rfl) (heap_alloc_new w1 _) 10 uri_size HL1.out.len HL1.out.one ?_; intro W2 hst2)
  | fail)
 obtain ⟨g1, hg1⟩ : ∃ g1, g1 = w1.heap.size := ⟨_, rfl⟩
 have HB2 := hid (show Below w1.heap.size w1 W2 from ((Below.refl _ w1).alloc (Nat.le_refl _) _).trans hst2.below)
 have HK1 := hid hst2.blk
 rw [← hg1] at HK1 ⊢
 have HL2 := hid (HL1.out.below HB2.out)
 have HBW2 := hid (HB1.out.trans (HB2.out.mono HB1.out.size))
 clear hst2 hg1
 obtain ⟨w3, hw3⟩ : ∃ w3, w3 = W2.alloc (.cells #[.int .u8 115, .int .u8 105, .int .u8 112, .int .u8 58, .int .u8 98, .int .u8 111, .int .u8 98, .int .u8 64, .int .u8 98, .int .u8 46, .int .u8 111, .int .u8 114, .int .u8 103, .int .u8 58, .int .u8 53, .int .u8 48, .int .u8 55, .int .u8 48] 5) := ⟨_, rfl⟩
 have HN3 := hid (show w3.heap[W2.heap.size]? = some (.cells (Lib.byteCells kn0).toArray 5 (0, 0)) by rw [hw3]; exact heap_alloc_new W2 _)
 have HB3 := hid (show Below W2.heap.size W2 w3 by rw [hw3]; exact (Below.refl _ W2).alloc (Nat.le_refl _) _)
 obtain ⟨w4, hr4, hk4⟩ := conv_lit HN3.out W2.heap.size 18 18 (Nat.le_refl _)
 have HK4 := hid hk4
 obtain ⟨fz4, hn4⟩ := HK4.out.blk ⟨_, HN3.out⟩
 have HS4 := hid (show SB w4 (.slice (some ⟨W2.heap.size, 0, none⟩) 18 18) kn0 from (lit_row hn4 (by decide)).sb)
 have HB4 := hid (show Below W2.heap.size W2 w4 from HB3.out.trans HK4.out.1)
 have HBW4 := hid (HBW2.out.trans (HB4.out.mono HBW2.out.size))
 have HP := hid (parseuri_kn N _ w4 (HGL.out.below HBW4.out HGL.out.le) HS4.out)
 rw [hw3] at hr4
 clear hw3 hk4 hn4
 go_upto_region 3 with (first
  | (go_at_call 39; refine HP.out.mono ?_; rintro e w5 ⟨ul2, rfl, hlu, hb⟩; have HL5 := hid (show LU w5 knL ul2 from hlu); have HB5 := hid hb; clear hlu hb)
  | (refine wpList_store_blk (by rfl) 25 (.tmp 2) (.tmp 11) (by rfl) w5.heap.size 25 [.slice none 0 0, .slice none 0 0, .bool false, .bool false, .slice none 0 0, .slice none 0 0, .slice none 0 0, .int .i64 0, .slice none 0 0, .slice none 0 0] ul2 (by rfl) (by rfl) (by rw [HL5.out.len]; rfl) (heap_alloc_new w5 _) 10 uri_size HL5.out.len HL5.out.one ?_; intro W6 hst6)
  | fail)
 obtain ⟨g2, hg2⟩ : ∃ g2, g2 = w5.heap.size := ⟨_, rfl⟩
 have HB6 := hid (show Below w5.heap.size w5 W6 from ((Below.refl _ w5).alloc (Nat.le_refl _) _).trans hst6.below)
 have HK2 := hid hst6.blk
 rw [← hg2] at HK2 ⊢
 have HL6 := hid (HL5.out.below HB6.out)
 have HBX6 := hid (show Below W2.heap.size W2 W6 from HB4.out.trans ((HB5.out.trans (HB6.out.mono HB5.out.size)).mono HB4.out.size))
 have HBW6 := hid (HBW2.out.trans (HBX6.out.mono HBW2.out.size))
 clear hst6 hg2 hr4
 obtain ⟨w7, hw7⟩ : ∃ w7, w7 = W6.alloc (.cells #[.int .u8 73, .int .u8 78, .int .u8 86, .int .u8 73, .int .u8 84, .int .u8 69] 5) := ⟨_, rfl⟩
 have HN7 := hid (show w7.heap[W6.heap.size]? = some (.cells (Lib.byteCells invB).toArray 5 (0, 0)) by rw [hw7]; exact heap_alloc_new W6 _)
 have HB7 := hid (show Below W6.heap.size W6 w7 by rw [hw7]; exact (Below.refl _ W6).alloc (Nat.le_refl _) _)
 obtain ⟨w8, hr8, hk8⟩ := conv_lit HN7.out W6.heap.size 6 6 (Nat.le_refl _)
 have HK8 := hid hk8
 obtain ⟨fz8, hn8⟩ := HK8.out.blk ⟨_, HN7.out⟩
 have HS8 := hid (show SB w8 (.slice (some ⟨W6.heap.size, 0, none⟩) 6 6) invB from (lit_row hn8 (by decide)).sb)
 have HB8 := hid (show Below W6.heap.size W6 w8 from HB7.out.trans HK8.out.1)
 have HBW8 := hid (HBW6.out.trans (HB8.out.mono HBW6.out.size))
 have HVL : (hdrS knH).val.length ≤ 70368744177664 := by
  have h1 : (hdrS knH).line.length = 14 := by rw [knH_line]; rfl
  unfold SH.line at h1
  simp only [List.length_append] at h1
  omega
 have HT := hid (headtext_cs N _ _ knH rfl [.int .i64 5, .slice none 0 0, .slice (some ⟨W6.heap.size, 0, none⟩) 6 6, .slice none 0 0, .slice none 0 0, .slice none 0 0, .bool false, .bool false, .slice none 0 0, .slice none 0 0, .slice none 0 0, .int .i64 0, .slice none 0 0, .slice none 0 0, .slice none 0 0, .int .u32 7, .slice none 0 0, .slice none 0 0, .slice none 0 0, .slice none 0 0, .int .i64 0] w8 (HGL.out.below HBW8.out HGL.out.le) ⟨⟨by decide, by decide, by decide, by decide⟩, by decide⟩
  ⟨.slice none 0 0, .slice (some ⟨W6.heap.size, 0, none⟩) 6 6, .slice none 0 0, _, .slice none 0 0, .slice none 0 0, .slice none 0 0, .slice none 0 0, .slice none 0 0, rfl, SB.nil _, HS8.out, SB.nil _, LU.empty _, SK.nil _, SB.nil _, SB.nil _, SB.nil _, SB.nil _, by show I64 5; unfold I64; omega, by decide, by show I64 0; unfold I64; omega⟩
  (fun h => rfl) (by decide) ⟨by decide, by decide⟩ (by rw [knH_line]; decide) HVL)
 rw [knH_line] at HT
 rw [hw7] at hr8
 clear hw7 hk8 hn8
 go_upto_region 4 with (go_at_call 40; refine HT.out.mono ?_; rintro e w9 ⟨v1, v2, rfl, hv1, hb⟩)
 have HV1 := hid hv1
 have HB9 := hid hb
 have HX9 := hid (show Below W2.heap.size W2 w9 from HBX6.out.trans ((HB8.out.trans (hb.mono HB8.out.size)).mono HBX6.out.size))
 obtain ⟨kv, cv, csv, fzv, rfl, -⟩ := hv1
 clear hb hr8
 have HBW9 := hid (HBW2.out.trans (HX9.out.mono HBW2.out.size))
 have HC1 := hid ((HX9.out.block g1 (heap_lt HK1.out)).trans HK1.out)
 have HL9 := hid (HL2.out.below HX9.out)
 have HY9 := hid (show Below W6.heap.size W6 w9 from HB8.out.trans (HB9.out.mono HB8.out.size))
 have HC2 := hid ((HY9.out.block g2 (heap_lt HK2.out)).trans HK2.out)
 have HM9 := hid (HL6.out.below HY9.out)
 have HUT := hid (implurit_any N knL ul w9 (HGL.out.below HBW9.out HGL.out.le) HL9.out ⟨⟨by decide, by decide, by decide, by decide⟩, rfl⟩ knL_ok (by rw [knL_text]; decide))
 rw [knL_text] at HUT
 have HD1 := hid (show ∀ e : Ending, e = .returned (.bool (decide (kn0 = (⟨#[115, 105, 112, 58, 98, 111, 98, 64, 98, 46, 111, 114, 103, 58, 53, 48, 55, 48]⟩ : ByteArray).data.toList))) → e = .returned (.bool true) from fun e h => h)
 have HD2 := hid (show ∀ e : Ending, e = .returned (.bool (decide (([67, 83, 101, 113, 58, 32, 55, 32, 73, 78, 86, 73, 84, 69] : Bytes) = (⟨#[67, 83, 101, 113, 58, 32, 55, 32, 73, 78, 86, 73, 84, 69]⟩ : ByteArray).data.toList))) → e = .returned (.bool true) from fun e h => h)
 have HD3 := hid (show sameU knL knL = true from (sameU_iff _ _).2 rfl)
 have HGB := hid (show ∀ wz, Below w9.heap.size w9 wz → wz.heap[g1]? = some (Obj.cells ul.toArray 25 (0, 0)) ∧ wz.heap[g2]? = some (Obj.cells ul2.toArray 25 (0, 0)) ∧ LU wz knL ul ∧ LU wz knL ul2 from fun wz h => ⟨(h.block g1 (heap_lt HC1.out)).trans HC1.out, (h.block g2 (heap_lt HC2.out)).trans HC2.out, HL9.out.below h, HM9.out.below h⟩)
 go_wp2_with (first
  | (refine wpList_load_blk (by rfl) 25 (.tmp 1) (by rfl) g1 25 (0, 0) ul (by rfl) HC1.out _ Tryz.underlying25 rfl 10 uri_size HL9.out.len ?_)
  | (go_at_call 41; refine HUT.out.mono ?_; rintro e wA ⟨v, rfl, hv, hbA⟩; have HVA := hid hv; have HBA := hid hbA; obtain ⟨kA, cA, csA, fzA, rfl, -⟩ := hv; clear hbA)
  | (go_at_call 35; refine (is_any _ kn0 _ wA HVA.out.sb (by show (18 : Nat) ≤ _; omega)).mono ?_; rintro e wB ⟨he, hbB⟩; have he' := HD1.out e he; subst he'; have HBB := hid (HBA.out.trans (hbB.mono HBA.out.size)); clear hbB he)
  | (refine wpList_load_any_w (by rfl) 25 (.tmp 1) (by rfl) ⟨g1, 0, none⟩ (by rfl) ul _ (row_cells (HGB.out wB HBB.out).1) Tryz.underlying25 (by rfl) (by rw [uri_size, HL9.out.len]) ?_)
  | (refine wpList_load_any_w (by rfl) 25 (.tmp 2) (by rfl) ⟨g2, 0, none⟩ (by rfl) ul2 _ (row_cells (HGB.out wB HBB.out).2.1) Tryz.underlying25 (by rfl) (by rw [uri_size, HM9.out.len]) ?_)
  | (go_at_call 42; refine (sameuri_any knL knL ul ul2 wB (HGB.out wB HBB.out).2.2.1 (HGB.out wB HBB.out).2.2.2).mono ?_; rintro e wC ⟨rfl, hbC⟩; rw [HD3.out]; have HBC := hid (HBB.out.trans (hbC.mono HBB.out.size)); clear hbC)
  | (go_at_call 35; refine (is_any _ [67, 83, 101, 113, 58, 32, 55, 32, 73, 78, 86, 73, 84, 69] _ wC (HV1.out.sb.below HBC.out) (by show (14 : Nat) ≤ _; omega)).mono ?_; rintro e wD ⟨he, hbD⟩; have he' := HD2.out e he; subst he'; have HBD := hid (HBC.out.trans (hbD.mono HBC.out.size)); clear hbD he)
  | fail)
 go_ret
 exact ⟨rfl, HBW9.out.trans (HBD.out.mono HBW9.out.size)⟩
