import Derived.Test.YtocajelknojkbaaGreatDoorK26
import Derived.Test.YtocajelknojkbaaGreatDoorK27
set_option maxRecDepth 100000
set_option maxHeartbeats 16000000
set_option linter.all false
namespace Go.Proofs.YtocajelknojkbaaGreatDoor
open Go.Lib (hid)
open Go.RowKit
def dport (l : Bytes) : Int := if lowT l = [116, 108, 115] then 5061 else if lowT l = [116, 99, 112] then 5060 else if lowT l = [117, 100, 112] then 5060 else if lowT l = [119, 115] then 80 else if lowT l = [119, 115, 115] then 443 else 5060
theorem low_is (l c : Bytes) : (lowT l == c) = decide (lowT l = c) := by
 by_cases h : lowT l = c
 ·rw [decide_eq_true h, ← h]
  simp
 ·rw [decide_eq_false h, beq_eq_false_iff_ne]
  exact h
theorem dport_any (s : ByteArray) (w : World) (hs : s.size ≤ 70368744177664) : Calls Tryz.prog 104 #[.string s] w fun e w' => e = .returned (.int .i64 (dport s.data.toList)) ∧ Below w.heap.size w w' := by
 have HT := hid (tolow_any s w hs)
 obtain ⟨z, hz⟩ : ∃ z, z = dport s.data.toList := ⟨_, rfl⟩
 have HZ := hid hz
 have q1 := low_is s.data.toList [116, 108, 115]
 have q2 := low_is s.data.toList [116, 99, 112]
 have q3 := low_is s.data.toList [117, 100, 112]
 have q4 := low_is s.data.toList [119, 115]
 have q5 := low_is s.data.toList [119, 115, 115]
 rw [← hz]
 unfold dport at hz
 obtain ⟨low, hlow⟩ : ∃ low, low = lowT s.data.toList := ⟨_, rfl⟩
 have HTL := hid (show Calls Tryz.prog 114 #[.string s] w fun e w' => e = .returned (.string ⟨low.toArray⟩) ∧ Below w.heap.size w w' by rw [hlow]; exact HT.out)
 rw [← hlow] at q1 q2 q3 q4 q5 hz
 clear hlow HT
 by_cases e1 : low = [116, 108, 115]
 ·rw [if_pos e1] at hz
  rw [decide_eq_true e1] at q1
  rw [decide_eq_false (by rw [e1]; decide)] at q2
  rw [decide_eq_false (by rw [e1]; decide)] at q3
  rw [decide_eq_false (by rw [e1]; decide)] at q4
  rw [decide_eq_false (by rw [e1]; decide)] at q5
  clear e1
  subst hz
  go_enter Tryz.func104, Tryz.ntmps104
  go_wp2_with (go_at_call 114; refine HTL.out.mono ?_; rintro e w1 ⟨rfl, hb⟩; have HB := hid hb; clear hb)
  go_ret
  exact ⟨rfl, HB.out⟩
 ·rw [if_neg e1] at hz
  rw [decide_eq_false e1] at q1
  clear e1
  by_cases e2 : low = [116, 99, 112]
  ·rw [if_pos e2] at hz
   rw [decide_eq_true e2] at q2
   rw [decide_eq_false (by rw [e2]; decide)] at q3
   rw [decide_eq_false (by rw [e2]; decide)] at q4
   rw [decide_eq_false (by rw [e2]; decide)] at q5
   clear e2
   subst hz
   go_enter Tryz.func104, Tryz.ntmps104
   go_wp2_with (go_at_call 114; refine HTL.out.mono ?_; rintro e w1 ⟨rfl, hb⟩; have HB := hid hb; clear hb)
   go_ret
   exact ⟨rfl, HB.out⟩
  ·rw [if_neg e2] at hz
   rw [decide_eq_false e2] at q2
   clear e2
   by_cases e3 : low = [117, 100, 112]
   ·rw [if_pos e3] at hz
    rw [decide_eq_true e3] at q3
    rw [decide_eq_false (by rw [e3]; decide)] at q4
    rw [decide_eq_false (by rw [e3]; decide)] at q5
    clear e3
    subst hz
    go_enter Tryz.func104, Tryz.ntmps104
    go_wp2_with (go_at_call 114; refine HTL.out.mono ?_; rintro e w1 ⟨rfl, hb⟩; have HB := hid hb; clear hb)
    go_ret
    exact ⟨rfl, HB.out⟩
   ·rw [if_neg e3] at hz
    rw [decide_eq_false e3] at q3
    clear e3
    by_cases e4 : low = [119, 115]
    ·rw [if_pos e4] at hz
     rw [decide_eq_true e4] at q4
     rw [decide_eq_false (by rw [e4]; decide)] at q5
     clear e4
     subst hz
     go_enter Tryz.func104, Tryz.ntmps104
     go_wp2_with (go_at_call 114; refine HTL.out.mono ?_; rintro e w1 ⟨rfl, hb⟩; have HB := hid hb; clear hb)
     go_ret
     exact ⟨rfl, HB.out⟩
    ·rw [if_neg e4] at hz
     rw [decide_eq_false e4] at q4
     clear e4
     by_cases e5 : low = [119, 115, 115]
     ·rw [if_pos e5] at hz
      rw [decide_eq_true e5] at q5
      clear e5
      subst hz
      go_enter Tryz.func104, Tryz.ntmps104
      go_wp2_with (go_at_call 114; refine HTL.out.mono ?_; rintro e w1 ⟨rfl, hb⟩; have HB := hid hb; clear hb)
      go_ret
      exact ⟨rfl, HB.out⟩
     ·rw [if_neg e5] at hz
      rw [decide_eq_false e5] at q5
      clear e5
      obtain rfl : z = 5060 := hz
      go_enter Tryz.func104, Tryz.ntmps104
      go_wp2_with (go_at_call 114; refine HTL.out.mono ?_; rintro e w1 ⟨rfl, hb⟩; have HB := hid hb; clear hb)
      go_ret
      exact ⟨rfl, HB.out⟩
theorem trim_emp {br : ByteArray} (h : GoodBr br) : (Lib.trimPrefix br.data.toList [122, 57, 104, 71, 52, 98, 75]).isEmpty = false := by
 have := trim_len h
 rw [beq_eq_false_iff_ne] at this
 cases hq : Lib.trimPrefix br.data.toList [122, 57, 104, 71, 52, 98, 75] with
 | nil => rw [hq] at this; simp at this
 | cons a b => rfl
def portK (v : SVia) : Int := if v.port ≤ 0 then dport v.tr.data.toList else v.port
def serverK (br host : ByteArray) (port : Int) (km : ByteArray) : Bytes := br.data.toList ++ [95, 95] ++ host.data.toList ++ [95, 95] ++ Lib.itoa port ++ [95, 95] ++ km.data.toList
theorem portK_ok (v : SVia) (h : -9223372036854775808 ≤ v.port ∧ v.port ≤ 9223372036854775807) : -9223372036854775808 ≤ portK v ∧ portK v ≤ 9223372036854775807 := by
 unfold portK dport
 (repeat' split) <;> omega
theorem mskey_any (T : TypeId) (hT : IsMsgT T) (m g1 g6 : Nat) (v : SVia) (num : Int) (meth br : ByteArray) (w : World) (hG0 : G0 w) (h1 : w.cell? ⟨m, 1, none⟩ = some (refV (some g1))) (h6 : w.cell? ⟨m, 6, none⟩ = some (refV (some g6))) (hv : ViaAt w g1 v) (hc : HB w g6 156 #[.int .u32 num, .string meth]) (hb : kvGet v.params branchB = some br) (hg : GoodBr br)
  (hp : -9223372036854775808 ≤ v.port ∧ v.port ≤ 9223372036854775807) (hl : br.size ≤ 1073741824 ∧ meth.size ≤ 1073741824 ∧ v.host.size ≤ 1073741824 ∧ v.tr.size ≤ 1073741824) :
  Calls Tryz.prog 77 #[.iface T (.pointer (some ⟨m, 0, none⟩)), .string ⟨#[]⟩] w fun e w' => e = .returned (.tuple #[.string ⟨(serverK br v.host (portK v) (keyM ⟨#[]⟩ meth)).toArray⟩, .nilIface]) ∧ Below w.heap.size w w' := by
 have na1 := na_via hT
 have me1 := me_via hT
 have en1 := enters_of Tryz.func246 (by kernel_rfl) rfl
 have na6 := na_cseq hT
 have me6 := me_cseq hT
 have en6 := enters_of Tryz.func220 (by kernel_rfl) rfl
 have HC6 := hid (getcseq_any m g6 w h6)
 have HC1 := hid (getvia_any m g1 w h1)
 have c1 := hc.cell 1
 obtain ⟨-, -, c2, c3, c4, vp, c5, hpr⟩ := hv.cells
 have HCS := hid (And.intro c2 (And.intro c3 c4))
 have HGT := hid (show Calls Tryz.prog 101 #[vp, .string ⟨#[98, 114, 97, 110, 99, 104]⟩] w fun e w' => e = .returned (.tuple #[.string br, .bool true]) ∧ Below w.heap.size w w' by
  have h := get_any vp v.params ⟨#[98, 114, 97, 110, 99, 104]⟩ w hpr
  rw [show kvGet v.params (⟨#[98, 114, 97, 110, 99, 104]⟩ : ByteArray).data.toList = some br from hb] at h
  exact h)
 have HPR := hid (fun wz => show Calls Tryz.prog 102 #[.string br, .string ⟨#[122, 57, 104, 71, 52, 98, 75]⟩] wz fun e w' => e = .returned (.bool true) ∧ w' = wz by
  have h := Tryz.strings_HasPrefix br ⟨#[122, 57, 104, 71, 52, 98, 75]⟩ wz
  rw [show Lib.hasPrefix br.data.toList (⟨#[122, 57, 104, 71, 52, 98, 75]⟩ : ByteArray).data.toList = true from hg.1] at h
  exact h)
 have HTR := hid (fun wz => Tryz.strings_TrimPrefix br ⟨#[122, 57, 104, 71, 52, 98, 75]⟩ wz)
 have hpre : Lib.hasPrefix br.data.toList magicA.data.toList = true := hg.1
 have htr := trim_len hg
 have htr2 := trim_emp hg
 have hbl2 : ((br.size : Int) == 0) = false := by rw [beq_eq_false_iff_ne]; have := hg.2; omega
 have hbe : ¬ br.data.toList = [] := by
  intro e
  have h2 := hg.2
  rw [dl br, e] at h2
  simp at h2
 have hbe1 := se_cons hbe
 have hbe2 := se_cons' hbe
 have HLK := hid hl
 have HG := hid hG0
 have HP := hid (portK_ok v hp)
 have HIL := hid (itoa_len (portK v) HP.out)
 obtain ⟨km, hkm⟩ : ∃ km, km = keyM ⟨#[]⟩ meth := ⟨_, rfl⟩
 have HKM := hid hkm
 obtain ⟨pk, hpk⟩ : ∃ pk, pk = portK v := ⟨_, rfl⟩
 rw [← hpk] at HP HIL ⊢
 rw [← hkm]
 have HPK := hid hpk
 obtain ⟨Ap, cp, rfl⟩ := hpr.form
 clear hb hpr hg hl hv hc h1 h6 hG0 hp hpk hbe
 by_cases hm : meth.data.toList = ackB
 ·by_cases hn : v.port ≤ 0
  ·skip
   have hte : (meth.toList == [65, 67, 75]) = true := by rw [ba_list, hm]; rfl
   have HE := hid (show km = ⟨#[73, 78, 86, 73, 84, 69]⟩ by rw [hkm]; unfold keyM; rw [if_pos rfl, if_pos hm])
   have HPE := hid (show pk = dport v.tr.data.toList by rw [HPK.out]; unfold portK; rw [if_pos hn])
   clear hm hkm
   go_enter Tryz.func77, Tryz.ntmps77
   go_wp2_with fail
   refine HC1.out.mono ?_
   rintro e w1 ⟨rfl, rfl⟩
   go_wp2_with fail
   refine HC6.out.mono ?_
   rintro e w2 ⟨rfl, rfl⟩
   go_wp2_with fail
   refine HGT.out.mono ?_
   rintro e w3 ⟨rfl, hb3⟩
   have HB3 := hid hb3
   clear hb3 c1 c5 c2 c3 c4
   have c2 := cell_at_below HCS.out.1 HB3.out
   have c3 := cell_at_below HCS.out.2.1 HB3.out
   have c4 := cell_at_below HCS.out.2.2 HB3.out
   have hg1l := World.block_lt_of_cell? _ _ c4
   go_wp2_with (first
    | (go_at_call 102; refine (HPR.out _).mono ?_; rintro e w4 ⟨rfl, rfl⟩)
    | (go_at_call 103; refine (HTR.out _).mono ?_; rintro e w4 ⟨rfl, rfl⟩)
    | fail)
   refine (dport_any v.tr _ (by have := HLK.out.2.2.2; omega)).mono ?_
   rintro e w5 ⟨rfl, hb5⟩
   rw [← HPE.out]
   have HD5 := hid ((BW.fresh w4).below hb5)
   have HB5 := hid ((HB3.out.alloc HB3.out.size _).trans (hb5.mono (by rw [World.size_alloc]; have := HB3.out.size; omega)))
   clear hb5
   have c3 := cell_at_below HCS.out.2.1 HB5.out
   go_wp2_with fail
   refine (ws_any w4.heap.size w4.heap.size _ _ _ HD5.out (by have h1 := HLK.out; have h3 := HIL.out; simp; omega)).mono ?_
   rintro e w6 ⟨rfl, hD, hk⟩
   have HD6 := hid hD
   have HB6 := hid (HB5.out.trans (hk.1.mono HB3.out.size))
   clear hD hk
   have c3 := cell_at_below HCS.out.2.1 HB6.out
   go_wp2_with fail
   refine (ws_any w4.heap.size w4.heap.size _ _ _ HD6.out (by have h1 := HLK.out; have h3 := HIL.out; show _ + 2 ≤ _; simp; omega)).mono ?_
   rintro e w7 ⟨rfl, hD, hk⟩
   have HD7 := hid hD
   have HB7 := hid (HB6.out.trans (hk.1.mono HB3.out.size))
   clear hD hk
   have c3 := cell_at_below HCS.out.2.1 HB7.out
   go_wp2_with fail
   refine (ws_any w4.heap.size w4.heap.size _ _ _ HD7.out (by have h1 := HLK.out; have h3 := HIL.out; simp; omega)).mono ?_
   rintro e w8 ⟨rfl, hD, hk⟩
   have HD8 := hid hD
   have HB8 := hid (HB7.out.trans (hk.1.mono HB3.out.size))
   clear hD hk
   have c3 := cell_at_below HCS.out.2.1 HB8.out
   go_wp2_with fail
   refine (ws_any w4.heap.size w4.heap.size _ _ _ HD8.out (by have h1 := HLK.out; have h3 := HIL.out; show _ + 2 ≤ _; simp; omega)).mono ?_
   rintro e w9 ⟨rfl, hD, hk⟩
   have HD9 := hid hD
   have HB9 := hid (HB8.out.trans (hk.1.mono HB3.out.size))
   clear hD hk
   have c3 := cell_at_below HCS.out.2.1 HB9.out
   go_wp2_with fail
   refine (itoa_any pk HP.out.1 HP.out.2 _ (HG.out.below HB9.out)).mono ?_
   rintro e wi ⟨rfl, hbi⟩
   have HDi := hid (HD9.out.below hbi)
   have HBi := hid (HB9.out.trans (hbi.mono HB9.out.size))
   clear hbi
   go_wp2_with fail
   refine (ws_any w4.heap.size w4.heap.size _ _ _ HDi.out (by have h1 := HLK.out; have h3 := HIL.out; show _ + (Lib.itoa pk).toArray.size ≤ _; simp; omega)).mono ?_
   rintro e w10 ⟨rfl, hD, hk⟩
   have HD10 := hid hD
   have HB10 := hid (HBi.out.trans (hk.1.mono HB3.out.size))
   clear hD hk
   go_wp2_with fail
   refine (ws_any w4.heap.size w4.heap.size _ _ _ HD10.out (by have h1 := HLK.out; have h3 := HIL.out; show _ + 2 ≤ _; simp; omega)).mono ?_
   rintro e w11 ⟨rfl, hD, hk⟩
   have HD11 := hid hD
   have HB11 := hid (HB10.out.trans (hk.1.mono HB3.out.size))
   clear hD hk
   have c3 := cell_at_below HCS.out.2.1 HB11.out
   go_wp2_with fail
   refine (ws_any w4.heap.size w4.heap.size _ _ _ HD11.out (by have h1 := HLK.out; have h3 := HIL.out; show _ + 6 ≤ _; simp; omega)).mono ?_
   rintro e w12 ⟨rfl, hD, hk⟩
   have HD12 := hid hD
   have HB12 := hid (HB11.out.trans (hk.1.mono HB3.out.size))
   clear hD hk
   have c3 := cell_at_below HCS.out.2.1 HB12.out
   go_wp2_with fail
   refine (bstr_any w4.heap.size w4.heap.size _ _ HD12.out).mono ?_
   rintro e w13 ⟨rfl, -, hk⟩
   have HB13 := hid (HB12.out.trans (hk.1.mono HB3.out.size))
   clear hk
   go_wp2_with fail
   go_ret2
   refine ⟨?_, HB13.out⟩
   unfold serverK
   rw [HE.out]
   simp
  ·skip
   have hte : (meth.toList == [65, 67, 75]) = true := by rw [ba_list, hm]; rfl
   have HE := hid (show km = ⟨#[73, 78, 86, 73, 84, 69]⟩ by rw [hkm]; unfold keyM; rw [if_pos rfl, if_pos hm])
   have HPE := hid (show pk = v.port by rw [HPK.out]; unfold portK; rw [if_neg hn])
   clear hm hkm
   go_enter Tryz.func77, Tryz.ntmps77
   go_wp2_with fail
   refine HC1.out.mono ?_
   rintro e w1 ⟨rfl, rfl⟩
   go_wp2_with fail
   refine HC6.out.mono ?_
   rintro e w2 ⟨rfl, rfl⟩
   go_wp2_with fail
   refine HGT.out.mono ?_
   rintro e w3 ⟨rfl, hb3⟩
   have HB3 := hid hb3
   clear hb3 c1 c5 c2 c3 c4
   have c2 := cell_at_below HCS.out.1 HB3.out
   have c3 := cell_at_below HCS.out.2.1 HB3.out
   have c4 := cell_at_below HCS.out.2.2 HB3.out
   have hg1l := World.block_lt_of_cell? _ _ c4
   go_wp2_with (first
    | (go_at_call 102; refine (HPR.out _).mono ?_; rintro e w4 ⟨rfl, rfl⟩)
    | (go_at_call 103; refine (HTR.out _).mono ?_; rintro e w4 ⟨rfl, rfl⟩)
    | fail)
   have HD5 := hid (BW.fresh w4)
   have HB5 := hid (HB3.out.alloc HB3.out.size (.cells #[.pointer none, .slice none 0 0] 166))
   refine (ws_any w4.heap.size w4.heap.size _ _ _ HD5.out (by have h1 := HLK.out; have h3 := HIL.out; simp; omega)).mono ?_
   rintro e w6 ⟨rfl, hD, hk⟩
   have HD6 := hid hD
   have HB6 := hid (HB5.out.trans (hk.1.mono HB3.out.size))
   clear hD hk
   have c3 := cell_at_below HCS.out.2.1 HB6.out
   go_wp2_with fail
   refine (ws_any w4.heap.size w4.heap.size _ _ _ HD6.out (by have h1 := HLK.out; have h3 := HIL.out; show _ + 2 ≤ _; simp; omega)).mono ?_
   rintro e w7 ⟨rfl, hD, hk⟩
   have HD7 := hid hD
   have HB7 := hid (HB6.out.trans (hk.1.mono HB3.out.size))
   clear hD hk
   have c3 := cell_at_below HCS.out.2.1 HB7.out
   go_wp2_with fail
   refine (ws_any w4.heap.size w4.heap.size _ _ _ HD7.out (by have h1 := HLK.out; have h3 := HIL.out; simp; omega)).mono ?_
   rintro e w8 ⟨rfl, hD, hk⟩
   have HD8 := hid hD
   have HB8 := hid (HB7.out.trans (hk.1.mono HB3.out.size))
   clear hD hk
   have c3 := cell_at_below HCS.out.2.1 HB8.out
   go_wp2_with fail
   refine (ws_any w4.heap.size w4.heap.size _ _ _ HD8.out (by have h1 := HLK.out; have h3 := HIL.out; show _ + 2 ≤ _; simp; omega)).mono ?_
   rintro e w9 ⟨rfl, hD, hk⟩
   have HD9 := hid hD
   have HB9 := hid (HB8.out.trans (hk.1.mono HB3.out.size))
   clear hD hk
   have c3 := cell_at_below HCS.out.2.1 HB9.out
   go_wp2_with fail
   rw [← HPE.out]
   refine (itoa_any pk HP.out.1 HP.out.2 _ (HG.out.below HB9.out)).mono ?_
   rintro e wi ⟨rfl, hbi⟩
   have HDi := hid (HD9.out.below hbi)
   have HBi := hid (HB9.out.trans (hbi.mono HB9.out.size))
   clear hbi
   go_wp2_with fail
   refine (ws_any w4.heap.size w4.heap.size _ _ _ HDi.out (by have h1 := HLK.out; have h3 := HIL.out; show _ + (Lib.itoa pk).toArray.size ≤ _; simp; omega)).mono ?_
   rintro e w10 ⟨rfl, hD, hk⟩
   have HD10 := hid hD
   have HB10 := hid (HBi.out.trans (hk.1.mono HB3.out.size))
   clear hD hk
   go_wp2_with fail
   refine (ws_any w4.heap.size w4.heap.size _ _ _ HD10.out (by have h1 := HLK.out; have h3 := HIL.out; show _ + 2 ≤ _; simp; omega)).mono ?_
   rintro e w11 ⟨rfl, hD, hk⟩
   have HD11 := hid hD
   have HB11 := hid (HB10.out.trans (hk.1.mono HB3.out.size))
   clear hD hk
   have c3 := cell_at_below HCS.out.2.1 HB11.out
   go_wp2_with fail
   refine (ws_any w4.heap.size w4.heap.size _ _ _ HD11.out (by have h1 := HLK.out; have h3 := HIL.out; show _ + 6 ≤ _; simp; omega)).mono ?_
   rintro e w12 ⟨rfl, hD, hk⟩
   have HD12 := hid hD
   have HB12 := hid (HB11.out.trans (hk.1.mono HB3.out.size))
   clear hD hk
   have c3 := cell_at_below HCS.out.2.1 HB12.out
   go_wp2_with fail
   refine (bstr_any w4.heap.size w4.heap.size _ _ HD12.out).mono ?_
   rintro e w13 ⟨rfl, -, hk⟩
   have HB13 := hid (HB12.out.trans (hk.1.mono HB3.out.size))
   clear hk
   go_wp2_with fail
   go_ret2
   refine ⟨?_, HB13.out⟩
   unfold serverK
   rw [HE.out]
   simp
 ·by_cases hn : v.port ≤ 0
  ·skip
   have hte : (meth.toList == [65, 67, 75]) = false := by rw [ba_list]; exact beq_eq_false_iff_ne.2 hm
   have HE := hid (show km = meth by rw [hkm]; unfold keyM; rw [if_pos rfl, if_neg hm])
   have HPE := hid (show pk = dport v.tr.data.toList by rw [HPK.out]; unfold portK; rw [if_pos hn])
   clear hm hkm
   go_enter Tryz.func77, Tryz.ntmps77
   go_wp2_with fail
   refine HC1.out.mono ?_
   rintro e w1 ⟨rfl, rfl⟩
   go_wp2_with fail
   refine HC6.out.mono ?_
   rintro e w2 ⟨rfl, rfl⟩
   go_wp2_with fail
   refine HGT.out.mono ?_
   rintro e w3 ⟨rfl, hb3⟩
   have HB3 := hid hb3
   clear hb3 c1 c5 c2 c3 c4
   have c2 := cell_at_below HCS.out.1 HB3.out
   have c3 := cell_at_below HCS.out.2.1 HB3.out
   have c4 := cell_at_below HCS.out.2.2 HB3.out
   have hg1l := World.block_lt_of_cell? _ _ c4
   go_wp2_with (first
    | (go_at_call 102; refine (HPR.out _).mono ?_; rintro e w4 ⟨rfl, rfl⟩)
    | (go_at_call 103; refine (HTR.out _).mono ?_; rintro e w4 ⟨rfl, rfl⟩)
    | fail)
   refine (dport_any v.tr _ (by have := HLK.out.2.2.2; omega)).mono ?_
   rintro e w5 ⟨rfl, hb5⟩
   rw [← HPE.out]
   have HD5 := hid ((BW.fresh w4).below hb5)
   have HB5 := hid ((HB3.out.alloc HB3.out.size _).trans (hb5.mono (by rw [World.size_alloc]; have := HB3.out.size; omega)))
   clear hb5
   have c3 := cell_at_below HCS.out.2.1 HB5.out
   go_wp2_with fail
   refine (ws_any w4.heap.size w4.heap.size _ _ _ HD5.out (by have h1 := HLK.out; have h3 := HIL.out; simp; omega)).mono ?_
   rintro e w6 ⟨rfl, hD, hk⟩
   have HD6 := hid hD
   have HB6 := hid (HB5.out.trans (hk.1.mono HB3.out.size))
   clear hD hk
   have c3 := cell_at_below HCS.out.2.1 HB6.out
   go_wp2_with fail
   refine (ws_any w4.heap.size w4.heap.size _ _ _ HD6.out (by have h1 := HLK.out; have h3 := HIL.out; show _ + 2 ≤ _; simp; omega)).mono ?_
   rintro e w7 ⟨rfl, hD, hk⟩
   have HD7 := hid hD
   have HB7 := hid (HB6.out.trans (hk.1.mono HB3.out.size))
   clear hD hk
   have c3 := cell_at_below HCS.out.2.1 HB7.out
   go_wp2_with fail
   refine (ws_any w4.heap.size w4.heap.size _ _ _ HD7.out (by have h1 := HLK.out; have h3 := HIL.out; simp; omega)).mono ?_
   rintro e w8 ⟨rfl, hD, hk⟩
   have HD8 := hid hD
   have HB8 := hid (HB7.out.trans (hk.1.mono HB3.out.size))
   clear hD hk
   have c3 := cell_at_below HCS.out.2.1 HB8.out
   go_wp2_with fail
   refine (ws_any w4.heap.size w4.heap.size _ _ _ HD8.out (by have h1 := HLK.out; have h3 := HIL.out; show _ + 2 ≤ _; simp; omega)).mono ?_
   rintro e w9 ⟨rfl, hD, hk⟩
   have HD9 := hid hD
   have HB9 := hid (HB8.out.trans (hk.1.mono HB3.out.size))
   clear hD hk
   have c3 := cell_at_below HCS.out.2.1 HB9.out
   go_wp2_with fail
   refine (itoa_any pk HP.out.1 HP.out.2 _ (HG.out.below HB9.out)).mono ?_
   rintro e wi ⟨rfl, hbi⟩
   have HDi := hid (HD9.out.below hbi)
   have HBi := hid (HB9.out.trans (hbi.mono HB9.out.size))
   clear hbi
   go_wp2_with fail
   refine (ws_any w4.heap.size w4.heap.size _ _ _ HDi.out (by have h1 := HLK.out; have h3 := HIL.out; show _ + (Lib.itoa pk).toArray.size ≤ _; simp; omega)).mono ?_
   rintro e w10 ⟨rfl, hD, hk⟩
   have HD10 := hid hD
   have HB10 := hid (HBi.out.trans (hk.1.mono HB3.out.size))
   clear hD hk
   go_wp2_with fail
   refine (ws_any w4.heap.size w4.heap.size _ _ _ HD10.out (by have h1 := HLK.out; have h3 := HIL.out; show _ + 2 ≤ _; simp; omega)).mono ?_
   rintro e w11 ⟨rfl, hD, hk⟩
   have HD11 := hid hD
   have HB11 := hid (HB10.out.trans (hk.1.mono HB3.out.size))
   clear hD hk
   have c3 := cell_at_below HCS.out.2.1 HB11.out
   go_wp2_with fail
   refine (ws_any w4.heap.size w4.heap.size _ _ _ HD11.out (by have h1 := HLK.out; have h3 := HIL.out; simp; omega)).mono ?_
   rintro e w12 ⟨rfl, hD, hk⟩
   have HD12 := hid hD
   have HB12 := hid (HB11.out.trans (hk.1.mono HB3.out.size))
   clear hD hk
   have c3 := cell_at_below HCS.out.2.1 HB12.out
   go_wp2_with fail
   refine (bstr_any w4.heap.size w4.heap.size _ _ HD12.out).mono ?_
   rintro e w13 ⟨rfl, -, hk⟩
   have HB13 := hid (HB12.out.trans (hk.1.mono HB3.out.size))
   clear hk
   go_wp2_with fail
   go_ret2
   refine ⟨?_, HB13.out⟩
   unfold serverK
   rw [HE.out]
   simp
  ·skip
   have hte : (meth.toList == [65, 67, 75]) = false := by rw [ba_list]; exact beq_eq_false_iff_ne.2 hm
   have HE := hid (show km = meth by rw [hkm]; unfold keyM; rw [if_pos rfl, if_neg hm])
   have HPE := hid (show pk = v.port by rw [HPK.out]; unfold portK; rw [if_neg hn])
   clear hm hkm
   go_enter Tryz.func77, Tryz.ntmps77
   go_wp2_with fail
   refine HC1.out.mono ?_
   rintro e w1 ⟨rfl, rfl⟩
   go_wp2_with fail
   refine HC6.out.mono ?_
   rintro e w2 ⟨rfl, rfl⟩
   go_wp2_with fail
   refine HGT.out.mono ?_
   rintro e w3 ⟨rfl, hb3⟩
   have HB3 := hid hb3
   clear hb3 c1 c5 c2 c3 c4
   have c2 := cell_at_below HCS.out.1 HB3.out
   have c3 := cell_at_below HCS.out.2.1 HB3.out
   have c4 := cell_at_below HCS.out.2.2 HB3.out
   have hg1l := World.block_lt_of_cell? _ _ c4
   go_wp2_with (first
    | (go_at_call 102; refine (HPR.out _).mono ?_; rintro e w4 ⟨rfl, rfl⟩)
    | (go_at_call 103; refine (HTR.out _).mono ?_; rintro e w4 ⟨rfl, rfl⟩)
    | fail)
   have HD5 := hid (BW.fresh w4)
   have HB5 := hid (HB3.out.alloc HB3.out.size (.cells #[.pointer none, .slice none 0 0] 166))
   refine (ws_any w4.heap.size w4.heap.size _ _ _ HD5.out (by have h1 := HLK.out; have h3 := HIL.out; simp; omega)).mono ?_
   rintro e w6 ⟨rfl, hD, hk⟩
   have HD6 := hid hD
   have HB6 := hid (HB5.out.trans (hk.1.mono HB3.out.size))
   clear hD hk
   have c3 := cell_at_below HCS.out.2.1 HB6.out
   go_wp2_with fail
   refine (ws_any w4.heap.size w4.heap.size _ _ _ HD6.out (by have h1 := HLK.out; have h3 := HIL.out; show _ + 2 ≤ _; simp; omega)).mono ?_
   rintro e w7 ⟨rfl, hD, hk⟩
   have HD7 := hid hD
   have HB7 := hid (HB6.out.trans (hk.1.mono HB3.out.size))
   clear hD hk
   have c3 := cell_at_below HCS.out.2.1 HB7.out
   go_wp2_with fail
   refine (ws_any w4.heap.size w4.heap.size _ _ _ HD7.out (by have h1 := HLK.out; have h3 := HIL.out; simp; omega)).mono ?_
   rintro e w8 ⟨rfl, hD, hk⟩
   have HD8 := hid hD
   have HB8 := hid (HB7.out.trans (hk.1.mono HB3.out.size))
   clear hD hk
   have c3 := cell_at_below HCS.out.2.1 HB8.out
   go_wp2_with fail
   refine (ws_any w4.heap.size w4.heap.size _ _ _ HD8.out (by have h1 := HLK.out; have h3 := HIL.out; show _ + 2 ≤ _; simp; omega)).mono ?_
   rintro e w9 ⟨rfl, hD, hk⟩
   have HD9 := hid hD
   have HB9 := hid (HB8.out.trans (hk.1.mono HB3.out.size))
   clear hD hk
   have c3 := cell_at_below HCS.out.2.1 HB9.out
   go_wp2_with fail
   rw [← HPE.out]
   refine (itoa_any pk HP.out.1 HP.out.2 _ (HG.out.below HB9.out)).mono ?_
   rintro e wi ⟨rfl, hbi⟩
   have HDi := hid (HD9.out.below hbi)
   have HBi := hid (HB9.out.trans (hbi.mono HB9.out.size))
   clear hbi
   go_wp2_with fail
   refine (ws_any w4.heap.size w4.heap.size _ _ _ HDi.out (by have h1 := HLK.out; have h3 := HIL.out; show _ + (Lib.itoa pk).toArray.size ≤ _; simp; omega)).mono ?_
   rintro e w10 ⟨rfl, hD, hk⟩
   have HD10 := hid hD
   have HB10 := hid (HBi.out.trans (hk.1.mono HB3.out.size))
   clear hD hk
   go_wp2_with fail
   refine (ws_any w4.heap.size w4.heap.size _ _ _ HD10.out (by have h1 := HLK.out; have h3 := HIL.out; show _ + 2 ≤ _; simp; omega)).mono ?_
   rintro e w11 ⟨rfl, hD, hk⟩
   have HD11 := hid hD
   have HB11 := hid (HB10.out.trans (hk.1.mono HB3.out.size))
   clear hD hk
   have c3 := cell_at_below HCS.out.2.1 HB11.out
   go_wp2_with fail
   refine (ws_any w4.heap.size w4.heap.size _ _ _ HD11.out (by have h1 := HLK.out; have h3 := HIL.out; simp; omega)).mono ?_
   rintro e w12 ⟨rfl, hD, hk⟩
   have HD12 := hid hD
   have HB12 := hid (HB11.out.trans (hk.1.mono HB3.out.size))
   clear hD hk
   have c3 := cell_at_below HCS.out.2.1 HB12.out
   go_wp2_with fail
   refine (bstr_any w4.heap.size w4.heap.size _ _ HD12.out).mono ?_
   rintro e w13 ⟨rfl, -, hk⟩
   have HB13 := hid (HB12.out.trans (hk.1.mono HB3.out.size))
   clear hk
   go_wp2_with fail
   go_ret2
   refine ⟨?_, HB13.out⟩
   unfold serverK
   rw [HE.out]
   simp
theorem doorserver_of (v : Value) (a : ByteArray) (s : Bytes) (w : World) (h : Calls Tryz.prog 77 #[v, .string a] w (KeyPost s w)) : Calls Tryz.prog 44 #[v, .string a] w (KeyPost s w) := by
 have HC := hid h
 clear h
 go_enter Tryz.func44, Tryz.ntmps44
 go_wp2_with (go_at_call 77; refine HC.out.mono ?_; rintro e w1 ⟨rfl, hb⟩)
 go_ret2
 exact ⟨rfl, hb⟩
theorem iserver_any (N : Nat) (m : LMsg) (cs : List Value) (w : World) (hG : Gl N w) (hK : KMsg N m cs w) (pv pc : LHead) (h9 : m.heads.filter (isT 9) = [pv]) (h5 : m.heads.filter (isT 5) = [pc]) (br : Bytes) (hb : (pv.params.find? fun p => p.1 == branchB).map (·.2) = some br) (hg : GoodBr (bs br))
  (hp : -9223372036854775808 ≤ pv.port ∧ pv.port ≤ 9223372036854775807) (hl : br.length ≤ 1073741824 ∧ pc.text.length ≤ 1073741824 ∧ pv.host.length ≤ 1073741824 ∧ pv.transport.length ≤ 1073741824) :
  Calls Tryz.prog 18 #[.agg cs.toArray, .slice none 0 0] w (IKey (serverK (bs br) (bs pv.host) (portK (viaS pv)) (keyM ⟨#[]⟩ (bs pc.text))) w) := by
 have hlen := hK.at_.len19
 have HK := hid hK
 have HG := hid hG
 have HF := hid (And.intro h9 h5)
 have HBR := hid (And.intro hb (And.intro hg hl))
 have HPO := hid hp
 clear hK hG h9 h5 hb hg hl hp
 obtain ⟨x0, x1, x2, x3, x4, x5, x6, x7, x8, x9, x10, x11, x12, x13, x14, x15, x16, x17, x18, rfl⟩ := list19 hlen
 clear hlen
 obtain ⟨wb, hwb⟩ : ∃ wb, wb = w.alloc (.cells #[x0, x1, x2, x3, x4, x5, x6, x7, x8, x9, x10, x11, x12, x13, x14, x15, x16, x17, x18] 28) := ⟨_, rfl⟩
 have HWB1 := hid (show wb.heap[w.heap.size]? = some (.cells ([x0, x1, x2, x3, x4, x5, x6, x7, x8, x9, x10, x11, x12, x13, x14, x15, x16, x17, x18] : List Value).toArray 28 (0, 0)) by rw [hwb]; exact heap_alloc_new w _)
 have HB0 := hid (show Below w.heap.size w wb by rw [hwb]; exact (Below.refl _ w).alloc (Nat.le_refl _) _)
 have HKL := hid (show (serverK (bs br) (bs pv.host) (portK (viaS pv)) (keyM ⟨#[]⟩ (bs pc.text))).length ≤ 70368744177664 by
  have h1 := keyM_len ⟨#[]⟩ (bs pc.text)
  have h3 : (bs pc.text).size = pc.text.length := sz pc.text
  have h4 := HBR.out.2.2
  have h5 := itoa_len (portK (viaS pv)) (portK_ok (viaS pv) HPO.out)
  have h6 : (bs br).data.toList.length = br.length := by simp [bs]
  have h7 : (bs pv.host).data.toList.length = pv.host.length := by simp [bs]
  have h8 : ((⟨#[]⟩ : ByteArray)).size = 0 := rfl
  rw [dl (keyM ⟨#[]⟩ (bs pc.text))] at h1
  simp only [serverK, List.length_append, List.length_cons, List.length_nil]
  omega)
 obtain ⟨s, hs⟩ : ∃ s, s = serverK (bs br) (bs pv.host) (portK (viaS pv)) (keyM ⟨#[]⟩ (bs pc.text)) := ⟨_, rfl⟩
 rw [← hs] at HKL ⊢
 have HSE := hid hs
 clear hs
 go_enter Tryz.func18, Tryz.ntmps18
 go_upto_region 1 with fail
 rw [← hwb]
 generalize Value.agg #[x0, x1, x2, x3, x4, x5, x6, x7, x8, x9, x10, x11, x12, x13, x14, x15, x16, x17, x18] = arg0
 clear hwb
 go_upto_region 2 with fail
 refine wp_region_grow 9 (CK wb.heap.size) (IW wb)
  (fun i v w' => match i with
   | 0 => v = .agg #[x0, x1, x2, x3, x4, x5, x6, x7, x8, x9, x10, x11, x12, x13, x14, x15, x16, x17, x18]
   | 1 => VCAt m (viaS pv) pc.num (bs pc.text) v w'
   | 2 => v = .slice none 0 0
   | 3 => v = .string ⟨#[]⟩
   | 4 => v = .tuple #[.string ⟨s.toArray⟩, .nilIface]
   | 5 => v = .tuple #[.string ⟨s.toArray⟩, .nilIface]
   | 6 => v = .string ⟨s.toArray⟩
   | 7 => v = .nilIface
   | 8 => v = .string ⟨s.toArray⟩
   | _ => True)
  [[], [0], [], [2], [1, 3], [4], [5], [5], [6]] rfl (by kernel_rfl) (by kernel_rfl) (fun _ _ => IW.step) ?_ ?_ ?_ ?_
 ·intro j hj v w'
  match j, hj with
  | j + 9, _ => trivial
 ·exact CK.of_below (Below.refl _ _).drew (Nat.le_refl _)
 ·simp only [List.take_succ_cons, List.take_zero, fillAll]
  refine ⟨⟨?_, ?_⟩, ⟨?_, ?_⟩, ⟨?_, ?_⟩, ⟨?_, ?_⟩, ⟨?_, ?_⟩, ⟨?_, ?_⟩, ⟨?_, ?_⟩, ⟨?_, ?_⟩, ⟨?_, ?_⟩, trivial⟩
  ·exact fun v w1 w2 h k => h
  ·intro vals w1 hI hd
   have HGI := hid (hI.same HWB1.out (by decide))
   unfold GStep
   dsimp only
   go_simp
   refine wpList_load_blk (by rfl) 28 (.tmp 2) (by rfl) w.heap.size 28 (0, 0) [x0, x1, x2, x3, x4, x5, x6, x7, x8, x9, x10, x11, x12, x13, x14, x15, x16, x17, x18] (by rfl) HGI.out _ Tryz.underlying28 rfl 19 msg_size rfl ?_
   go_wp2
   exact CK.refl _ _
  ·exact fun v w1 w2 h k => h.ck k
  ·intro vals w1 hI hd
   have h1 : vals 0 = _ := hd.1
   have hbw := HB0.out.trans (hI.below.mono HB0.out.size)
   have HC := hid (msg_vc (HK.out.below hbw) (HG.out.below hbw HG.out.le) HF.out.1 HF.out.2)
   have HI := hid hI
   clear hd hbw
   unfold GStep
   go_wp2_with (go_at_call 45; refine HC.out.mono ?_; rintro e w2 ⟨v, rfl, hv, hb⟩; have HF2 := hid (And.intro (CK.of_below hb HI.out.size : CK wb.heap.size w1 w2) hv); clear hv hb)
   exact HF2.out
  ·exact fun v w1 w2 h k => h
  ·intro vals w1 hI hd
   unfold GStep
   go_wp2
   exact CK.refl _ _
  ·exact fun v w1 w2 h k => h
  ·intro vals w1 hI hd
   have h2 : vals 2 = _ := hd.1
   have hcv := (SB.nil w1).conv 82 Tryz.underlying82
   clear hd
   unfold GStep
   go_wp2
   first | exact CK.refl _ _ | exact ⟨CK.refl _ _, rfl⟩
  ·exact fun v w1 w2 h k => h
  ·intro vals w1 hI hd
   obtain ⟨r1, r3, -⟩ := hd
   have e3 : vals 3 = _ := r3
   have HI := hid hI
   clear hI
   unfold GStep
   dsimp only
   generalize vals 1 = x1 at r1 ⊢
   obtain ⟨mm, g9, g5, rfl, c9, c5, q9, q5⟩ := r1
   have hg0 := (HG.out.below (HB0.out.trans (HI.out.below.mono HB0.out.size)) HG.out.le).get
   have HC := hid (doorserver_of _ _ _ _ (mskey_any (mtyI m) (mtyI_ok m) mm g9 g5 (viaS pv) pc.num (bs pc.text) (bs br) w1 hg0 c9 c5 q9 q5 (by show kvGet (strKVs pv.params) branchB = _; rw [get_param, HBR.out.1]; rfl) HBR.out.2.1 HPO.out (by have h := HBR.out.2.2; rw [show (bs br).size = br.length from sz br, show (bs pc.text).size = pc.text.length from sz _]; exact ⟨h.1, h.2.1, by rw [show (viaS pv).host.size = pv.host.length from sz _]; exact h.2.2.1, by rw [show (viaS pv).tr.size = pv.transport.length from sz _]; exact h.2.2.2⟩)))
   rw [show (viaS pv).host = bs pv.host from rfl, ← HSE.out] at HC
   clear c9 c5 q9 q5 r3 hg0
   go_wp2_with (go_at_call 44; refine HC.out.mono ?_; rintro e w2 ⟨rfl, hb⟩; have HF2 := hid (CK.of_below hb HI.out.size : CK wb.heap.size w1 w2); clear hb)
   exact HF2.out
  ·exact fun v w1 w2 h k => h
  ·intro vals w1 hI hd
   have h1 : vals 4 = _ := hd.1
   clear hd
   unfold GStep
   go_wp2
   exact CK.refl _ _
  ·exact fun v w1 w2 h k => h
  ·intro vals w1 hI hd
   have h1 : vals 5 = _ := hd.1
   clear hd
   unfold GStep
   go_wp2
   exact CK.refl _ _
  ·exact fun v w1 w2 h k => h
  ·intro vals w1 hI hd
   have h1 : vals 5 = _ := hd.1
   clear hd
   unfold GStep
   go_wp2
   exact CK.refl _ _
  ·exact fun v w1 w2 h k => h
  ·intro vals w1 hI hd
   have h1 : vals 6 = _ := hd.1
   clear hd
   unfold GStep
   go_wp2
   exact CK.refl _ _
 ·intro vals w2 hI hR
  simp only [List.drop_succ_cons, List.drop_zero, List.take_succ_cons, List.take_zero, fillAll]
  obtain ⟨-, -, -, -, -, -, -, r7, r8, -⟩ := hR
  have e7 : vals 7 = _ := r7
  have e8 : vals 8 = _ := r8
  rw [e7, e8]
  have HB2 := hid hI.below
  clear hI r7 r8 e7 e8
  go_wp2
  refine wp_region_grow 5 (CK w2.heap.size) (IW w2)
   (fun i v w' => match i with
    | 0 => v = .string ⟨s.toArray⟩
    | 1 => SBu w' v s
    | 2 => v = .nilIface
    | 3 => v = .bool true
    | 4 => SBu w' v s
    | _ => True)
   [[], [0], [], [2], [1]] rfl (by kernel_rfl) (by kernel_rfl) (fun _ _ => IW.step) ?_ ?_ ?_ ?_
  ·intro j hj v w'
   match j, hj with
   | j + 5, _ => trivial
  ·exact CK.of_below (Below.refl _ _).drew (Nat.le_refl _)
  ·simp only [List.take_succ_cons, List.take_zero, fillAll]
   refine ⟨⟨?_, ?_⟩, ⟨?_, ?_⟩, ⟨?_, ?_⟩, ⟨?_, ?_⟩, ⟨?_, ?_⟩, trivial⟩
   ·exact fun v w1 w2 h k => h
   ·intro vals w1 hI hd
    unfold GStep
    go_wp2
    exact CK.refl _ _
   ·exact fun v w1 w2 h k => h.ku k.ku
   ·intro vals w1 hI hd
    have h1 : vals 0 = _ := hd.1
    have hr := Lib.run_convert_string_bytes (P := Tryz.prog) w1 9 22 5 ⟨s.toArray⟩ Tryz.underlying9 Tryz.underlying22 Tryz.underlying5
    have Y := hid (conv_sbu w1 ⟨s.toArray⟩ (by rw [sz]; exact HKL.out))
    unfold GStep
    go_wp2
    exact ⟨CK.of_below Y.out.2 hI.size, by have := Y.out.1; rw [sz] at this; exact this⟩
   ·exact fun v w1 w2 h k => h
   ·intro vals w1 hI hd
    unfold GStep
    go_wp2
    exact CK.refl _ _
   ·exact fun v w1 w2 h k => h
   ·intro vals w1 hI hd
    have h2 : vals 2 = _ := hd.1
    unfold GStep
    go_wp2
    exact CK.refl _ _
   ·exact fun v w1 w2 h k => h.ku k.ku
   ·intro vals w1 hI hd
    have h1 : SBu w1 (vals 1) s := hd.1
    have H1 := hid h1
    clear hd
    unfold GStep
    dsimp only
    generalize vals 1 = x1 at h1 H1 ⊢
    obtain ⟨k1, cap1, cs1, fz1, rfl, -⟩ := h1
    go_wp2
    exact ⟨CK.refl _ _, H1.out⟩
  ·intro vals w3 hI3 hR
   simp only [List.drop_succ_cons, List.drop_zero, List.take_succ_cons, List.take_zero, fillAll]
   obtain ⟨-, -, -, r3, r4, -⟩ := hR
   have e3 : vals 3 = _ := r3
   rw [e3]
   generalize vals 4 = x4 at r4 ⊢
   have H4 := hid r4
   obtain ⟨k1, cap1, cs1, fz1, rfl, -⟩ := r4
   have HI3 := hid hI3
   clear hI3 e3 r3
   go_wp2
   go_ret2
   exact ⟨_, rfl, H4.out, HB0.out.trans ((HB2.out.trans (HI3.out.below.mono HB2.out.size)).mono HB0.out.size)⟩
structure MIn (N : Nat) (m : LMsg) : Prop where
 code : I64 m.code
 bd : MBd m
 uri : UBd m.uri
 heads : ∀ h ∈ m.heads, HBd2 h
 nums : ∀ h ∈ m.heads, 0 ≤ h.num ∧ h.num < 4294967296
 len : m.reason.length ≤ 70368744177664 ∧ m.method.length ≤ 70368744177664
theorem MIn.of {w : World} {m : LMsg} {cs : List Value} {n : Nat} (N : Nat) (hM : LM w m cs) (hB : MBk m n) (hn : n ≤ 1048576) : MIn N m := by
 obtain ⟨a, ul, b, c, hs, d, -, -, -, -, -, hh, -, hc⟩ := hM
 obtain ⟨⟨q1, q2, q3, q4, q5⟩, q6, q7, q8, q9, -, -⟩ := hB
 refine ⟨hc, ⟨by omega, fun h hk => ?_⟩, ⟨by omega, by omega, by omega, by omega⟩, fun h hk => ?_, fun h hk => ?_, by omega, by omega⟩
 ·obtain ⟨⟨r1, -⟩, -, r7⟩ := q7 h hk
  exact ⟨by omega, by omega⟩
 ·obtain ⟨⟨r1, r2, r3, r4, r5⟩, r6, -⟩ := q7 h hk
  exact ⟨⟨by omega, by omega, by omega, by omega⟩, by omega⟩
 ·obtain ⟨i, hi, rfl⟩ := List.getElem_of_mem hk
  obtain ⟨A, c', -, -, -, -, h5⟩ := hh
  obtain ⟨a', cs', -, hl, -⟩ := h5 i hi
  obtain ⟨_, _, _, _, _, _, _, _, _, _, _, _, _, _, _, _, _, _, _, _, hnum, _⟩ := hl
  exact hnum
theorem generic_nm {l : Bytes} (h : l[0]? = some 88) : lowT l ≠ nmCL ∧ lowT l ≠ [108] := by
 cases l with
 | nil => simp at h
 | cons a t =>
  obtain rfl : a = 88 := by simpa using h
  refine ⟨fun e => ?_, fun e => ?_⟩
  ·have h1 : lowB 88 = 99 := by simpa [lowT, nmCL] using congrArg List.head? e
   exact absurd h1 (by decide)
  ·have h1 : lowB 88 = 108 := by simpa [lowT] using congrArg List.head? e
   exact absurd h1 (by decide)
structure HTx (h : LHead) : Prop where
 bd : HBd2 h
 u : HOkU h
 t : 0 ≤ h.t ∧ h.t ≤ 14
 ok : (hdrS h).ok
 ll : (hdrS h).line.length ≤ 5000000
theorem HTx.of {h : LHead} (sh : SH) (e : hdrS h = sh) (bd : HBd2 h) (u : HOkU h) (t : 0 ≤ h.t ∧ h.t ≤ 14) (ok : sh.ok) (ll : sh.nm.length + 2 + sh.val.length ≤ 5000000) : HTx h := by
 subst e
 refine ⟨bd, u, t, ok, ?_⟩
 unfold SH.line
 simp only [List.length_append, List.length_cons, List.length_nil]
 omega
theorem bs_len (l : Bytes) : (bs l).data.toList.length = l.length := by simp
theorem addr_len (d : Bytes) (u : LUri) (p : BKVs) (hd : d.length ≤ 8192) (hu : RUri u) (hp : ParOK false p) : (addrT (bs d) (toS u) (strKVs p)).length ≤ 4000000 := by
 have h1 := ruri_len hu
 have h2 := tail_len 59 59 p _ (par_ok hp).2.1
 rw [← uriT_str u hu.raw] at h1
 rw [← tailT_str] at h2
 have h3 : (showT (bs d)).length ≤ 8195 := by
  unfold showT
  split <;> simp <;> omega
 simp only [addrT, List.length_append, List.length_cons, List.length_nil]
 omega
theorem rout_len (u : LUri) (hu : RUri u) : ([60] ++ uriT (toS u) ++ [62]).length ≤ 4000000 := by
 have h1 := ruri_len hu
 rw [← uriT_str u hu.raw] at h1
 simp only [List.length_append, List.length_cons, List.length_nil]
 omega
theorem itoa_len2 (n : Int) (h : 0 ≤ n ∧ n < 4294967296) : (Lib.itoa n).length ≤ 21 := itoa_len n (by unfold I64; omega)
theorem via_len (p v t h : Bytes) (port : Int) (l : BKVs) (hp : p.length ≤ 8192) (hv : v.length ≤ 8192) (ht : t.length ≤ 8192) (hh : h.length ≤ 8192) (hpo : 0 ≤ port ∧ port ≤ 65535) (hl : ParOK false l) : (viaT ⟨bs p, bs v, bs t, bs h, port, strKVs l⟩).length ≤ 4000000 := by
 have h2 := tail_len 59 59 l _ (par_ok hl).2.1
 rw [← tailT_str] at h2
 have h3 : (portT port).length ≤ 22 := port_len port hpo
 simp only [viaT, List.length_append, List.length_cons, List.length_nil, bs_len]
 omega
theorem hou_of {h : LHead} (R : RHead h) : HOkU h := fun k => by
 rcases k with k | k
 ·exact (R.addr k).2.1.raw
 ·exact (R.rout k).raw
theorem hostS_b {l : Bytes} (h : textS hostB l = true) : HostB (bs l) := (textS_host h).1
theorem htx_of {h : LHead} (R : RHead h) (hn : 0 ≤ h.num ∧ h.num < 4294967296) (B2 : HBd2 h) : HTx h := by
 have hu := hou_of R
 obtain ⟨t, name, text, display, u, params, num, proto, version, transport, host, port⟩ := h
 obtain ⟨hs, h0, ha, hr, h6, h7, h4, h10, h5, h9⟩ := R
 dsimp only at hs h0 ha hr h6 h7 h4 h10 h5 h9 hn
 have hi := itoa_len2 num hn
 rcases sort_cases hs with rfl | rfl | rfl | rfl | rfl | rfl | rfl | rfl | rfl | rfl | rfl | rfl | rfl | rfl | rfl
 ·refine HTx.of (.generic (bs name) (bs text)) rfl B2 hu hs trivial ?_
  have h1 := (wordS_ok (h0 rfl).1.2.2.2).2
  have h2 := lineS_len (h0 rfl).2
  simp only [SH.nm, SH.val, bs_len]
  omega
 ·have h1 := ha rfl
  refine HTx.of (.to_ (bs display) (toS u) (strKVs params)) rfl B2 hu hs ⟨ruri_ok h1.2.1, (par_ok h1.2.2).1⟩ ?_
  have h2 := addr_len display u params (shownS_len h1.1) h1.2.1 h1.2.2
  simp only [SH.nm, SH.val, List.length_cons, List.length_nil]
  omega
 ·have h1 := ha rfl
  refine HTx.of (.from_ (bs display) (toS u) (strKVs params)) rfl B2 hu hs ⟨ruri_ok h1.2.1, (par_ok h1.2.2).1⟩ ?_
  have h2 := addr_len display u params (shownS_len h1.1) h1.2.1 h1.2.2
  simp only [SH.nm, SH.val, List.length_cons, List.length_nil]
  omega
 ·have h1 := ha rfl
  refine HTx.of (.contact (bs display) (toS u) (strKVs params)) rfl B2 hu hs ⟨ruri_ok h1.2.1, h1.2.1.star, (par_ok h1.2.2).1⟩ ?_
  have h2 := addr_len display u params (shownS_len h1.1) h1.2.1 h1.2.2
  simp only [SH.nm, SH.val, List.length_cons, List.length_nil]
  omega
 ·refine HTx.of (.callid (bs text)) rfl B2 hu hs trivial ?_
  have h2 := (wordS_ok (h4 rfl)).2
  simp only [SH.nm, SH.val, List.length_cons, List.length_nil, bs_len]
  omega
 ·refine HTx.of (.cseq num (bs text)) rfl B2 hu hs hn ?_
  have h2 := (wordS_ok (h5 rfl).1).2
  simp only [SH.nm, SH.val, List.length_append, List.length_cons, List.length_nil, bs_len]
  omega
 ·refine HTx.of (.maxf num) rfl B2 hu hs hn ?_
  simp only [SH.nm, SH.val, List.length_cons, List.length_nil]
  omega
 ·refine HTx.of (.expires num) rfl B2 hu hs hn ?_
  simp only [SH.nm, SH.val, List.length_cons, List.length_nil]
  omega
 ·refine HTx.of (.clen num) rfl B2 hu hs hn ?_
  simp only [SH.nm, SH.val, List.length_cons, List.length_nil]
  omega
 ·obtain ⟨k1, k2, k3, k4, k5, k6⟩ := h9 rfl
  refine HTx.of (.via ⟨bs proto, bs version, bs transport, bs host, port, strKVs params⟩) rfl B2 hu hs ⟨hostS_b k4, ⟨by show _ ≤ port; omega, by show port ≤ _; omega⟩, (par_ok k6).1⟩ ?_
  have h2 := via_len proto version transport host port params (by rw [k1]; decide) (by rw [k2]; decide) (wordS_ok k3).2 (textS_len k4) k5 k6
  simp only [SH.nm, SH.val, List.length_cons, List.length_nil]
  omega
 ·refine HTx.of (.ctype (bs text)) rfl B2 hu hs trivial ?_
  have h2 := lineS_len (h10 rfl)
  simp only [SH.nm, SH.val, List.length_cons, List.length_nil, bs_len]
  omega
 ·have h1 := hr rfl
  refine HTx.of (.route (toS u)) rfl B2 hu hs (ruri_ok h1) ?_
  have h2 := rout_len u h1
  simp only [SH.nm, SH.val, List.length_cons, List.length_nil]
  omega
 ·have h1 := hr rfl
  refine HTx.of (.rroute (toS u)) rfl B2 hu hs (ruri_ok h1) ?_
  have h2 := rout_len u h1
  simp only [SH.nm, SH.val, List.length_cons, List.length_nil]
  omega
 ·have h1 := hr rfl
  refine HTx.of (.referto (toS u)) rfl B2 hu hs (ruri_ok h1) ?_
  have h2 := rout_len u h1
  simp only [SH.nm, SH.val, List.length_cons, List.length_nil]
  omega
 ·have h1 := ha rfl
  refine HTx.of (.refby (bs display) (toS u) (strKVs params)) rfl B2 hu hs ⟨ruri_ok h1.2.1, (par_ok h1.2.2).1⟩ ?_
  have h2 := addr_len display u params (shownS_len h1.1) h1.2.1 h1.2.2
  simp only [SH.nm, SH.val, List.length_cons, List.length_nil]
  omega
theorem hms_of {h : LHead} (R : RHead h) (hn : 0 ≤ h.num ∧ h.num < 4294967296) (B2 : HBd2 h) (h8 : h.t ≠ 8) : HMs h := by
 have H := htx_of R hn B2
 have key : (hdrS h).slot ≠ 7 ∧ (hdrS h).nm.length ≤ 70368744177664 ∧ lowT (hdrS h).nm ≠ nmCL ∧ lowT (hdrS h).nm ≠ [108] := by
  obtain ⟨t, name, text, display, u, params, num, proto, version, transport, host, port⟩ := h
  obtain ⟨hs, h0, ha, hr, h6, h7, h4, h10, h5, h9⟩ := R
  dsimp only at hs h0 h8
  clear H
  have fx : ∀ (sh : SH) (l : Bytes), sh.slot ≠ 7 → sh.nm = l → l.length ≤ 8192 → lowT l ≠ nmCL → lowT l ≠ [108] → sh.slot ≠ 7 ∧ sh.nm.length ≤ 70368744177664 ∧ lowT sh.nm ≠ nmCL ∧ lowT sh.nm ≠ [108] := by
   intro sh l h1 h2 h3 h4 h5
   rw [h2]
   exact ⟨h1, by omega, h4, h5⟩
  rcases sort_cases hs with rfl | rfl | rfl | rfl | rfl | rfl | rfl | rfl | rfl | rfl | rfl | rfl | rfl | rfl | rfl
  ·have h1 := (h0 rfl).1
   exact fx (.generic (bs name) (bs text)) name (show (0 : Nat) ≠ 7 by decide) (by simp [SH.nm]) (wordS_ok h1.2.2.2).2 (generic_nm h1.2.1).1 (generic_nm h1.2.1).2
  ·exact fx (.to_ (bs display) (toS u) (strKVs params)) (nameS 1) (show (3 : Nat) ≠ 7 by decide) rfl (by decide) (by decide) (by decide)
  ·exact fx (.from_ (bs display) (toS u) (strKVs params)) (nameS 2) (show (2 : Nat) ≠ 7 by decide) rfl (by decide) (by decide) (by decide)
  ·exact fx (.contact (bs display) (toS u) (strKVs params)) (nameS 3) (show (5 : Nat) ≠ 7 by decide) rfl (by decide) (by decide) (by decide)
  ·exact fx (.callid (bs text)) (nameS 4) (show (4 : Nat) ≠ 7 by decide) rfl (by decide) (by decide) (by decide)
  ·exact fx (.cseq num (bs text)) (nameS 5) (show (6 : Nat) ≠ 7 by decide) rfl (by decide) (by decide) (by decide)
  ·exact fx (.maxf num) (nameS 6) (show (11 : Nat) ≠ 7 by decide) rfl (by decide) (by decide) (by decide)
  ·exact fx (.expires num) (nameS 7) (show (0 : Nat) ≠ 7 by decide) rfl (by decide) (by decide) (by decide)
  ·exact absurd rfl h8
  ·exact fx (.via ⟨bs proto, bs version, bs transport, bs host, port, strKVs params⟩) (nameS 9) (show (1 : Nat) ≠ 7 by decide) rfl (by decide) (by decide) (by decide)
  ·exact fx (.ctype (bs text)) (nameS 10) (show (8 : Nat) ≠ 7 by decide) rfl (by decide) (by decide) (by decide)
  ·exact fx (.route (toS u)) (nameS 11) (show (9 : Nat) ≠ 7 by decide) rfl (by decide) (by decide) (by decide)
  ·exact fx (.rroute (toS u)) (nameS 12) (show (10 : Nat) ≠ 7 by decide) rfl (by decide) (by decide) (by decide)
  ·exact fx (.referto (toS u)) (nameS 13) (show (0 : Nat) ≠ 7 by decide) rfl (by decide) (by decide) (by decide)
  ·exact fx (.refby (bs display) (toS u) (strKVs params)) (nameS 14) (show (0 : Nat) ≠ 7 by decide) rfl (by decide) (by decide) (by decide)
 exact ⟨B2, H.u, H.t, H.ok, key.1, key.2.1, key.2.2⟩
structure PMsg (m : LMsg) : Prop where
 hasBody : m.hasBody = true
 compact : m.compact = false
 version : m.version = sip20B
 len : m.reason.length ≤ 70368744177664 ∧ m.method.length ≤ 70368744177664
 body : m.body.length < 4294967296
 many : m.heads.length ≤ 1000
 heads : ∀ h ∈ m.heads, HMs h
 uri : m.resp = false → UBd m.uri ∧ m.uri.raw = []
theorem PMsg.k {N : Nat} {m : LMsg} {cs : List Value} {w : World} (P : PMsg m) (h : LM w m cs) : KMsg N m cs w := ⟨h, P.hasBody, P.compact, P.version, P.len, P.body, P.many, P.heads, P.uri⟩
theorem PMsg.of {N : Nat} {m : LMsg} (H : MIn N m) (R : RMsg m) : PMsg m :=
 ⟨R.hasBody, R.compact, R.version, H.len, by have := R.body; omega, by have := R.many; omega, fun h hh => hms_of (R.heads h hh).1 (H.nums h hh) (H.heads h hh) (R.heads h hh).2, fun hr => ⟨H.uri, (R.req hr).2.raw⟩⟩
theorem PMsg.chg {m : LMsg} {h : LHead} (P : PMsg m) (H : HMs h) : PMsg (chgM m h) :=
 ⟨P.hasBody, P.compact, P.version, P.len, P.body, by show (m.heads.map _).length ≤ 1000; rw [List.length_map]; exact P.many, chg_all P.heads H, P.uri⟩
theorem HMs.par {h : LHead} (H : HMs h) (ht : h.t = 9) (k v : Bytes) (hv : ValB ⟨v.toArray⟩) : HMs (parH h k v) := by
 obtain ⟨t, name, text, display, u, params, num, proto, version, transport, host, port⟩ := h
 dsimp only at ht
 subst ht
 obtain ⟨⟨b1, b2⟩, hu, h3, h4, h5, h6, h7⟩ := H
 have h4' : VOk ⟨bs proto, bs version, bs transport, bs host, port, strKVs params⟩ := h4
 refine ⟨⟨b1, by show (params.map _).length ≤ _; rw [List.length_map]; exact b2⟩, hu, h3, ?_, h5, h6, h7⟩
 show VOk ⟨bs proto, bs version, bs transport, bs host, port, strKVs (params.map (setK k v))⟩
 refine ⟨h4'.host, h4'.port, ?_⟩
 intro q hq
 obtain ⟨p, hp, rfl⟩ := List.mem_map.1 hq
 obtain ⟨r, hr, rfl⟩ := List.mem_map.1 hp
 have h8 := h4'.params (strKV r) (List.mem_map.2 ⟨r, hr, rfl⟩)
 unfold setK
 split
 ·exact hv
 ·exact h8
theorem plain_9 {h : LHead} (ht : h.t = 9) : (plainH h).t = 9 ∧ (plainH h).params = h.params := by
 obtain ⟨t, name, text, display, u, params, num, proto, version, transport, host, port⟩ := h
 dsimp only at ht
 subst ht
 exact ⟨rfl, rfl⟩
theorem plain_5 {h : LHead} (ht : h.t = 5) : (plainH h).t = 5 ∧ (plainH h).text = h.text := by
 obtain ⟨t, name, text, display, u, params, num, proto, version, transport, host, port⟩ := h
 dsimp only at ht
 subst ht
 exact ⟨rfl, rfl⟩
theorem goodbr {l : Bytes} (h1 : 7 < l.length) (h2 : l.take 7 = [122, 57, 104, 71, 52, 98, 75]) : GoodBr (bs l) := by
 refine ⟨?_, by rw [show (bs l).size = l.length from sz l]; exact h1⟩
 obtain ⟨r, rfl⟩ : ∃ r, l = magicB ++ r := ⟨l.drop 7, by rw [← show l.take 7 = magicB from h2, List.take_append_drop]⟩
 show Lib.hasPrefix (magicB ++ r) magicB = true
 first | rfl | simp [Lib.hasPrefix, magicB]
structure CallF (m : LMsg) (via cq pv pc : LHead) : Prop where
 p : PMsg m
 h9 : m.heads.filter (isT 9) = [pv]
 h5 : m.heads.filter (isT 5) = [pc]
 f9 : firstH 9 m.heads = via
 f5 : firstH 5 m.heads = cq
 t9 : via.t = 9
 t5 : cq.t = 5
 ms9 : HMs via
 ms5 : HMs cq
 par : pv.params = via.params
 txt : pc.text = cq.text
 find : (via.params.find? fun p => p.1 == branchB).map (·.2) = some (paramV via.params branchK)
 good : GoodBr (bs (paramV via.params branchK))
 brl : (paramV via.params branchK).length ≤ 8192
 txl : cq.text.length ≤ 8192
 sorts : ∀ h ∈ m.heads, 0 ≤ h.t ∧ h.t ≤ 14
 parl : via.params.length ≤ 1073741824
theorem CallF.of {N : Nat} {m : LMsg} (H : MIn N m) (R : RCall m) : ∃ via cq pv pc, CallF m via cq pv pc := by
 obtain ⟨pv, h9, m9, t9, f9⟩ := first_of (R.one 9 (by simp))
 obtain ⟨pc, h5, m5, t5, f5⟩ := first_of (R.one 5 (by simp))
 have P := PMsg.of H R.msg
 have q9 := plain_9 t9
 have q5 := plain_5 t5
 have rv := (R.msg.heads pv m9).1.via t9
 have rc := (R.msg.heads pc m5).1.cseq t5
 have hbr := R.br
 rw [f9] at hbr
 have hf := find_of_len (l := (plainH pv).params) (k := branchK) (by omega)
 refine ⟨plainH pv, plainH pc, pv, pc, P, h9, h5, f9, f5, q9.1, q5.1, (P.heads pv m9).plain, (P.heads pc m5).plain, q9.2.symm, q5.2.symm, hf.2, goodbr hbr.1 hbr.2, ?_, ?_, fun h hh => (P.heads h hh).t, ?_⟩
 ·obtain ⟨p, hp, hp2⟩ := Option.map_eq_some_iff.1 hf.2
  have hm := List.mem_of_find?_eq_some hp
  rw [q9.2] at hm
  have h1 := rv.2.2.2.2.2.2 p hm
  rw [← hp2]
  simp only [parB, Bool.and_eq_true, Bool.or_eq_true, decide_eq_true_eq] at h1
  rcases h1.2 with h2 | h2
  ·exact (wordS_ok h2).2
  ·rw [h2.2]; simp
 ·rw [q5.2]
  exact (wordS_ok rc.1).2
 ·rw [q9.2]
  have := rv.2.2.2.2.2.1
  omega
def keepT (t : TypeId) : Bool := t == 35 || t == 5 || t == 73
def keepB (n i : Nat) (o : Obj) : Bool := decide (i < n) || (match o with | .cells _ t _ => keepT t | _ => false)
def filterW (w : World) (n : Nat) : World := { w with heap := w.heap.mapIdx fun i o => if keepB n i o then o else .cells #[] 0 }
theorem filt_size (w : World) (n : Nat) : (filterW w n).heap.size = w.heap.size := by simp [filterW]
theorem filt_at (w : World) (n k : Nat) : (filterW w n).heap[k]? = (w.heap[k]?).map fun o => if keepB n k o then o else .cells #[] 0 := by
 simp only [filterW, Array.getElem?_mapIdx]
theorem filt_keep {w : World} {n k : Nat} {cs : Array Value} {t : TypeId} {fz : Nat × Nat} (h : w.heap[k]? = some (.cells cs t fz)) (hk : k < n ∨ keepT t = true) : (filterW w n).heap[k]? = some (.cells cs t fz) := by
 rw [filt_at, h]
 have : keepB n k (.cells cs t fz) = true := by
  unfold keepB
  rcases hk with hk | hk
  ·simp [hk]
  ·simp [hk]
 simp [this]
theorem filt_cell {w : World} {n : Nat} {a : Addr} {v : Value} (h : (filterW w n).cell? a = some v) : ∃ cs t fz, w.heap[a.block]? = some (.cells cs t fz) ∧ (a.block < n ∨ keepT t = true) ∧ a.spot.isSome = false ∧ cs[a.off]? = some v := by
 unfold World.cell? at h
 rw [filt_at] at h
 cases ho : w.heap[a.block]? with
 | none => rw [ho] at h; simp at h
 | some o =>
  rw [ho] at h
  simp only [Option.map_some] at h
  by_cases hk : keepB n a.block o = true
  ·rw [if_pos hk] at h
   cases o with
   | cells cs t fz =>
    dsimp only at h
    split at h
    ·simp at h
    ·rename_i hs
     refine ⟨cs, t, fz, rfl, ?_, by simpa using hs, h⟩
     unfold keepB at hk
     simp only [Bool.or_eq_true, decide_eq_true_eq] at hk
     exact hk
   | _ => simp at h
  ·rw [if_neg hk] at h
   dsimp only at h
   split at h <;> simp at h
theorem filt_sub (w : World) (n : Nat) : Sub (filterW w n) w := by
 refine ⟨by rw [filt_size]; exact Nat.le_refl _, fun a v h => ?_⟩
 obtain ⟨cs, t, fz, h1, _, h3, h4⟩ := filt_cell h
 unfold World.cell?
 rw [h1]
 simp [h3, h4]
theorem filt_step {w w' : World} {n : Nat} (hs : w.heap.size ≤ w'.heap.size) (h : ∀ (k : Nat) (cs : Array Value) (t : TypeId) (fz : Nat × Nat), w.heap[k]? = some (.cells cs t fz) → (k < n ∨ keepT t = true) → ∃ fz' : Nat × Nat, w'.heap[k]? = some (.cells cs t fz')) : Sub (filterW w n) (filterW w' n) := by
 refine ⟨by rw [filt_size, filt_size]; exact hs, fun a v hc => ?_⟩
 obtain ⟨cs, t, fz, h1, h2, h3, h4⟩ := filt_cell hc
 obtain ⟨fz', h5⟩ := h _ _ _ _ h1 h2
 unfold World.cell?
 rw [filt_keep h5 h2]
 simp [h3, h4]
theorem filt_ck {N n : Nat} {w w' : World} (h : CK N w w') : Sub (filterW w n) (filterW w' n) :=
 filt_step h.size fun _ _ _ fz hk _ => h.blk ⟨fz, hk⟩
theorem filt_below {n : Nat} {w w' : World} (h : Below w.heap.size w w') : Sub (filterW w n) (filterW w' n) := filt_ck (CK.of_below h (Nat.le_refl _))
theorem filt_stored {n g : Nat} {l l0 : List Value} {w w' : World} (k : Stored g 28 l w w') (hg : w.heap[g]? = some (Obj.cells l0.toArray 28 (0, 0))) (hn : n ≤ g) : Sub (filterW w n) (filterW w' n) :=
 filt_step (by rw [k.size]; exact Nat.le_refl _) fun j cs t fz hj hk => by
  refine ⟨fz, ?_⟩
  rw [k.other j (fun e => ?_)]
  ·exact hj
  ·subst e
   rw [hg] at hj
   injection hj with hj
   injection hj with _ hj _
   subst hj
   rcases hk with hk | hk
   ·omega
   ·exact absurd hk (by decide)
theorem LH.sub {w w' : World} {h : LHead} {l : List Value} (H : LH w h l) (hs : Sub w w') : LH w' h l := (H.x w').lh hs
theorem SHs.sub {w w' : World} {v : Value} {l : List LHead} (h : SHs w v l) (hb : Sub w w') : SHs w' v l := by
 obtain ⟨A, c, h1, h2, h3, h4, h5⟩ := h
 refine ⟨A, c, h1, h2, h3, h4, fun i hi => ?_⟩
 obtain ⟨a, cs, e, hc, hd⟩ := h5 i hi
 exact ⟨a, cs, e, hc.sub hb, fun j u hj => hb.cell _ _ (hd j u hj)⟩
theorem LM.sub {w w' : World} {m : LMsg} {l : List Value} (h : LM w m l) (hb : Sub w w') : LM w' m l := by
 obtain ⟨a, ul, b, c, hs, d, h0, h1, h2, h3, h4, h5, h6, h7⟩ := h
 exact ⟨a, ul, b, c, hs, d, h0, h1.sub hb, h2.sub hb, h3.sub hb, h4.sub hb, h5.sub hb, h6.sub hb, h7⟩
theorem sub_filt {w w' : World} {n : Nat} (h : Below w.heap.size w w') (hn : w.heap.size ≤ n) : Sub w (filterW w' n) := by
 refine ⟨by rw [filt_size]; exact h.size, fun a v hc => ?_⟩
 have hlt := World.block_lt_of_cell? w a hc
 have h2 := h.cell hlt
 rw [hc] at h2
 unfold World.cell? at h2 ⊢
 cases ho : w'.heap[a.block]? with
 | none => rw [ho] at h2; cases h2
 | some o =>
  rw [ho] at h2
  cases o with
  | cells cs t fz =>
   rw [filt_keep ho (.inl (by omega))]
   exact h2
  | _ => cases h2
theorem SBf.filt {b n : Nat} {w : World} {v : Value} {l : Bytes} (h : SBf b w v l) : SBf b (filterW w n) v l := by
 obtain ⟨k, cap, cs, fz, h1, h2, h3, h4, h5, h6⟩ := h
 exact ⟨k, cap, cs, fz, h1, h2, h3, h4, filt_keep h5 (.inr (by decide)), h6⟩
theorem SBx.filt {n : Nat} {w0 w : World} {v : Value} {l : Bytes} (h : SBx w0 w v l) : SBx w0 (filterW w n) v l := h.imp id SBf.filt
theorem LHx.filt {n : Nat} {w0 w : World} {h : LHead} {l : List Value} (H : LHx w0 w h l) : LHx w0 (filterW w n) h l := by
 obtain ⟨a, b, c, ul, p, d, e, f, g, h0, h1, h2, h3⟩ := H
 exact ⟨a, b, c, ul, p, d, e, f, g, h0, h1.filt, h2.filt, h3⟩
theorem OHs.filt {n base : Nat} {w0 w : World} {v : Value} {hs : List LHead} (H : OHs w0 base w v hs) : OHs w0 base (filterW w n) v hs := by
 obtain ⟨css, h1, h2, h3⟩ := H
 refine ⟨css, h1, ?_, fun i hi => ?_⟩
 ·rcases h2 with ⟨k1, k2 | ⟨b, cap, cur, k3, k4, k5, k6⟩⟩
  ·exact ⟨k1, .inl k2⟩
  ·exact ⟨k1, .inr ⟨b, cap, cur, k3, k4, filt_keep k5 (.inr (by decide)), k6⟩⟩
 ·obtain ⟨c, e1, e2⟩ := h3 i hi
  exact ⟨c, e1, e2.filt⟩
def LMh (n : Nat) (w : World) (m : LMsg) (l : List Value) : Prop := LM (filterW w n) m l
def LHh (n : Nat) (w : World) (h : LHead) (l : List Value) : Prop := LH (filterW w n) h l
theorem LMh.lm {n : Nat} {w : World} {m : LMsg} {l : List Value} (h : LMh n w m l) : LM w m l := LM.sub h (filt_sub w n)
theorem LHh.lh {n : Nat} {w : World} {m : LHead} {l : List Value} (h : LHh n w m l) : LH w m l := LH.sub h (filt_sub w n)
theorem LMh.ck {n N : Nat} {w w' : World} {m : LMsg} {l : List Value} (h : LMh n w m l) (k : CK N w w') : LMh n w' m l := LM.sub h (filt_ck k)
theorem LHh.ck {n N : Nat} {w w' : World} {m : LHead} {l : List Value} (h : LHh n w m l) (k : CK N w w') : LHh n w' m l := LH.sub h (filt_ck k)
theorem LMh.below {n : Nat} {w w' : World} {m : LMsg} {l : List Value} (h : LMh n w m l) (k : Below w.heap.size w w') : LMh n w' m l := LM.sub h (filt_below k)
theorem LHh.below {n : Nat} {w w' : World} {m : LHead} {l : List Value} (h : LHh n w m l) (k : Below w.heap.size w w') : LHh n w' m l := LH.sub h (filt_below k)
theorem LMh.stored {n g : Nat} {l1 l0 : List Value} {w w' : World} {m : LMsg} {l : List Value} (h : LMh n w m l) (k : Stored g 28 l1 w w') (hg : w.heap[g]? = some (Obj.cells l0.toArray 28 (0, 0))) (hn : n ≤ g) : LMh n w' m l := LM.sub h (filt_stored k hg hn)
theorem LHh.stored {n g : Nat} {l1 l0 : List Value} {w w' : World} {m : LHead} {l : List Value} (h : LHh n w m l) (k : Stored g 28 l1 w w') (hg : w.heap[g]? = some (Obj.cells l0.toArray 28 (0, 0))) (hn : n ≤ g) : LHh n w' m l := LH.sub h (filt_stored k hg hn)
theorem LM.h {n : Nat} {w w' : World} {m : LMsg} {l : List Value} (h : LM w m l) (hb : Below w.heap.size w w') (hn : w.heap.size ≤ n) : LMh n w' m l := LM.sub h (sub_filt hb hn)
theorem LHx.h {n : Nat} {w w' : World} {h : LHead} {l : List Value} (H : LHx w w' h l) (hb : Below w.heap.size w w') (hn : w.heap.size ≤ n) : LHh n w' h l := H.filt.lh (sub_filt hb hn)
def ChgH (n : Nat) (m : LMsg) (w : World) (e : Ending) (w' : World) : Prop := ∃ rs, e = .returned (.agg rs.toArray) ∧ LMh n w' m rs ∧ Below w.heap.size w w'
theorem LM.parts {w : World} {m : LMsg} {l : List Value} (h : LM w m l) : ∃ v1 v15 A15 c15 A1 c1, l[0]? = some (.bool m.resp) ∧ l[1]? = some v1 ∧ l[15]? = some v15 ∧ v1 = .slice A1 m.method.length c1 ∧ v15 = .slice A15 m.heads.length c15 ∧ SB w v1 m.method ∧ SHs w v15 m.heads := by
 obtain ⟨v15, h15, hs⟩ := h.heads_at
 obtain ⟨A15, c15, rfl, -⟩ := hs.form
 obtain ⟨va, ul, vb, vc, vh, vd, rfl, hm, -⟩ := h
 obtain ⟨A1, c1, rfl, hml⟩ := hm.form
 exact ⟨_, _, A15, c15, A1, c1, rfl, rfl, h15, rfl, rfl, hm, hs⟩
theorem isword_says (v : Value) (l : Bytes) (w : World) (hS : SB w v l) : Calls Tryz.prog 10 #[v] w (Says (wordS l = true) w) :=
 (isword_any v l w hS).mono fun _ _ ⟨h1, h2⟩ => ⟨⟨_, h1, fun h => h⟩, by rw [h2]; exact Below.refl _ _⟩
theorem LH.h {n : Nat} {w w' : World} {h : LHead} {l : List Value} (H : LH w h l) (hb : Below w.heap.size w w') (hn : w.heap.size ≤ n) : LHh n w' h l := LH.sub H (sub_filt hb hn)
theorem SBs.ck {N : Nat} {w w' : World} {v : Value} {ls : List Bytes} (h : SBs w v ls) (k : CK N w w') : SBs w' v ls := by
 obtain ⟨A, c, h1, h2, h3, h4⟩ := h
 refine ⟨A, c, h1, h2, h3, fun i hi => ?_⟩
 obtain ⟨a, u, e1, e2, e3⟩ := h4 i hi
 exact ⟨a, u, e1, k.cell e2, e3.ck k⟩
theorem first_filt {l : List LHead} {t : Int} {x : LHead} (hf : l.filter (isT t) = [x]) : firstH t l = plainH x := by
 unfold firstH
 rw [← List.head?_filter, hf]
 rfl
theorem valb_app {a b : Bytes} (ha : ∀ c ∈ a, c.toNat < 128 ∧ c.toNat ≠ 32 ∧ c.toNat ≠ 9) (hb : ValB ⟨b.toArray⟩) : ValB ⟨(a ++ b).toArray⟩ := by
 intro i hi
 have hi' : i < (a ++ b).length := by rw [← sz]; exact hi
 have e : (⟨(a ++ b).toArray⟩ : ByteArray)[i] = (a ++ b)[i] := rfl
 rw [e]
 rcases List.mem_append.1 (List.getElem_mem hi') with h | h
 ·exact ha _ h
 ·obtain ⟨j, hj, e2⟩ := List.getElem_of_mem h
  rw [← e2]
  exact hb j (by rw [sz]; exact hj)
theorem bool_same (p : Bool) : (p == p) = true := by cases p <;> rfl
theorem append_right_iff {a b c : Bytes} : (a ++ c = b ++ c) ↔ a = b := ⟨List.append_cancel_right, fun h => by rw [h]⟩
def ClientKeyOk (w : World) (e : Ending) (w' : World) : Prop := e = .returned (.bool true) ∧ Below w.heap.size w w'
structure HsIn (l : List LHead) : Prop where
 heads : ∀ h ∈ l, HBd2 h
 nums : ∀ h ∈ l, 0 ≤ h.num ∧ h.num < 4294967296
theorem HsIn.of {w : World} {v : Value} {l : List LHead} {n : Nat} (hS : SHs w v l) (hB : ∀ h ∈ l, HBk h n) (hn : n ≤ 1048576) : HsIn l := by
 refine ⟨fun h hk => ?_, fun h hk => ?_⟩
 ·obtain ⟨⟨r1, r2, r3, r4, r5⟩, r6, -⟩ := hB h hk
  exact ⟨⟨by omega, by omega, by omega, by omega⟩, by omega⟩
 ·obtain ⟨i, hi, rfl⟩ := List.getElem_of_mem hk
  obtain ⟨A, c', -, -, -, -, h5⟩ := hS
  obtain ⟨a', cs', -, hl, -⟩ := h5 i hi
  obtain ⟨_, _, _, _, _, _, _, _, _, _, _, _, _, _, _, _, _, _, _, _, hnum, _⟩ := hl
  exact hnum
def moreM (m : LMsg) (more : List LHead) (body : Bytes) : LMsg := { m with heads := m.heads ++ more, body := body }
theorem PMsg.more {m : LMsg} (R : RMsg m) (P : PMsg m) {more : List LHead} (hi : HsIn more) (hr : ∀ h ∈ more, RHead h) (h0 : ∀ h ∈ more, h.t = 0) (hl : more.length ≤ 64) {body : Bytes} (hb : body.length ≤ 8192) : PMsg (moreM m more body) :=
 ⟨P.hasBody, P.compact, P.version, P.len, (by show body.length < _; omega), (by show (m.heads ++ more).length ≤ _; rw [List.length_append]; have := R.many; omega), fun h hh => by
  rcases List.mem_append.1 hh with h1 | h1
  ·exact P.heads h h1
  ·exact hms_of (hr h h1) (hi.nums h h1) (hi.heads h h1) (by rw [h0 h h1]; decide), P.uri⟩
theorem more_filt {m : LMsg} {more : List LHead} {body : Bytes} (h0 : ∀ h ∈ more, h.t = 0) {t : Int} (ht : t ≠ 0) : (moreM m more body).heads.filter (isT t) = m.heads.filter (isT t) := by
 show (m.heads ++ more).filter (isT t) = _
 rw [List.filter_append, show more.filter (isT t) = [] from List.filter_eq_nil_iff.2 (fun x hx => by simp [isT, h0 x hx, Ne.symm ht]), List.append_nil]
theorem plain_9v {h : LHead} (ht : h.t = 9) : (plainH h).host = h.host ∧ (plainH h).port = h.port ∧ (plainH h).transport = h.transport := by
 obtain ⟨t, name, text, display, u, params, num, proto, version, transport, host, port⟩ := h
 dsimp only at ht
 subst ht
 exact ⟨rfl, rfl, rfl⟩
theorem serverK_br {a b : Bytes} {h k : ByteArray} {p : Int} : decide (serverK (bs a) h p k = serverK (bs b) h p k) = decide (a = b) := by
 unfold serverK
 rw [decide_eq_decide]
 simp only [append_right_iff]
 simp [bs]
structure CallS (m : LMsg) (pv : LHead) : Prop where
 hostl : pv.host.length ≤ 8192
 trl : pv.transport.length ≤ 8192
 port : 0 ≤ pv.port ∧ pv.port ≤ 65535
theorem CallS.of {m : LMsg} (R : RCall m) {pv : LHead} (h9 : m.heads.filter (isT 9) = [pv]) : CallS m pv := by
 have hm : pv ∈ m.heads.filter (isT 9) := by rw [h9]; simp
 have hv := (R.msg.heads pv (List.mem_filter.1 hm).1).1.via (filt_t h9)
 obtain ⟨-, -, h3, h4, h5, -⟩ := hv
 simp only [textS, Bool.and_eq_true, decide_eq_true_eq] at h4
 exact ⟨h4.2, (wordS_ok h3).2, h5⟩
