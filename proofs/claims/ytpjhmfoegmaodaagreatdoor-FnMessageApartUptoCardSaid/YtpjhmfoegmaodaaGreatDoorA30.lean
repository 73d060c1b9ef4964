import Derived.Test.YtpjhmfoegmaodaaGreatDoorA27
set_option maxRecDepth 100000
set_option maxHeartbeats 16000000
set_option linter.all false
namespace Go.Proofs.YtpjhmfoegmaodaaGreatDoor
open Go.Lib (hid)
open Go.RowKit

theorem heard_step {hs : List LHead} {j : Nat} (h : j < hs.length) : ((hs.take (j + 1)).map heardH ++ hs.drop (j + 1)) = ((hs.take j).map heardH ++ hs.drop j).set j (heardH hs[j]) := by
 apply List.ext_getElem?
 intro q
 have h1 : ((hs.take j).map heardH).length = j := by simp; omega
 have h2 : ((hs.take (j + 1)).map heardH).length = j + 1 := by simp; omega
 by_cases hq : q = j
 ·subst hq
  rw [List.getElem?_append_left (by omega), List.getElem?_set_self (by simp; omega), List.getElem?_map, List.getElem?_take_of_lt (by omega), List.getElem?_eq_getElem h]
  rfl
 ·rw [List.getElem?_set_ne (Ne.symm hq)]
  by_cases hl : q < j
  ·rw [List.getElem?_append_left (by omega), List.getElem?_append_left (by omega), List.getElem?_map, List.getElem?_map, List.getElem?_take_of_lt hl, List.getElem?_take_of_lt (by omega)]
  ·rw [List.getElem?_append_right (by omega), List.getElem?_append_right (by omega), h1, h2, List.getElem?_drop, List.getElem?_drop]
   congr 1
   omega
theorem read_of (w0 : World) (cs pre post : List Value) (w : World) (hs : List LHead) (hlen : cs.length = 19) (hpre : pre.length = 15) (hpost : post.length = 3) (hone : ∀ A n c, (pre ++ .slice A n c :: post).all (·.oneCell') = true) (hw : Sub w0 w) (ht : ∀ h ∈ hs, 0 ≤ h.t ∧ h.t ≤ 14) (hl : hs.length ≤ 1000)
  (hmade : ∀ wz, Below w.heap.size w wz → Calls Tryz.prog 30 #[.agg cs.toArray] wz fun e w' => ∃ v, e = .returned (.agg (pre ++ v :: post).toArray) ∧ OHs w0 wz.heap.size w' v hs ∧ Below wz.heap.size wz w') :
  Calls Tryz.prog 11 #[.agg cs.toArray] w fun e w' => ∃ v, e = .returned (.agg (pre ++ v :: post).toArray) ∧ OHs w0 w.heap.size w' v (hs.map heardH) ∧ Below w.heap.size w w' := by
 obtain ⟨x0, x1, x2, x3, x4, x5, x6, x7, x8, x9, x10, x11, x12, x13, x14, x15, x16, x17, x18, rfl⟩ := list19 hlen
 have HMD := hid hmade
 have HW := hid hw
 have HT := hid ht
 have HL := hid hl
 have HONE := hid hone
 have HFL := hid (show ∀ v, (pre ++ v :: post).length = 19 from fun v => by simp [hpre, hpost])
 have HP15 := hid (show ∀ v, (pre ++ v :: post)[15]? = some v from fun v => by rw [List.getElem?_append_right (by omega), hpre]; rfl)
 clear hmade hw ht hl hone hpre hpost hlen
 obtain ⟨wb, hwb⟩ : ∃ wb, wb = (w.alloc (.cells #[x0, x1, x2, x3, x4, x5, x6, x7, x8, x9, x10, x11, x12, x13, x14, x15, x16, x17, x18] 28)).alloc (.cells #[false, (), (), (), false, false, (), (), (), .int .i64 0, (), (), .int .i64 0, (), (), (), (), false, false] 28) := ⟨_, rfl⟩
 have HWB1 := hid (show wb.heap[w.heap.size]? = some (.cells ([x0, x1, x2, x3, x4, x5, x6, x7, x8, x9, x10, x11, x12, x13, x14, x15, x16, x17, x18] : List Value).toArray 28 (0, 0)) by rw [hwb]; exact ((Below.refl _ _).alloc (Nat.le_refl _) _).block w.heap.size (by simp) |>.trans (heap_alloc_new w _))
 have HWB2 := hid (show wb.heap[w.heap.size + 1]? = some (.cells ([false, (), (), (), false, false, (), (), (), .int .i64 0, (), (), .int .i64 0, (), (), (), (), false, false] : List Value).toArray 28 (0, 0)) by rw [hwb]; have := heap_alloc_new (w.alloc (.cells #[x0, x1, x2, x3, x4, x5, x6, x7, x8, x9, x10, x11, x12, x13, x14, x15, x16, x17, x18] 28)) (.cells #[false, (), (), (), false, false, (), (), (), .int .i64 0, (), (), .int .i64 0, (), (), (), (), false, false] 28); rwa [World.size_alloc] at this)
 have HB0 := hid (show Below w.heap.size w wb by rw [hwb]; exact ((Below.refl _ w).alloc (Nat.le_refl _) _).alloc (by simp) _)
 have HSZ := hid (show wb.heap.size = w.heap.size + 2 by rw [hwb]; simp)
 go_enter Tryz.func11, Tryz.ntmps11
 go_upto_region 1 with fail
 rw [← hwb]
 generalize Value.agg #[x0, x1, x2, x3, x4, x5, x6, x7, x8, x9, x10, x11, x12, x13, x14, x15, x16, x17, x18] = arg0
 clear hwb
 go_upto_region 2 with (first
  | (refine wpList_load_blk (by rfl) 28 (.tmp 1) (by rfl) w.heap.size 28 (0, 0) _ (by rfl) HWB1.out _ Tryz.underlying28 rfl 19 msg_size rfl ?_)
  | (go_at_call 30; refine (HMD.out _ HB0.out).mono ?_; rintro e w2 ⟨v, rfl, hoh, hb⟩; have OH := hid hoh; have HB := hid hb; obtain ⟨A1, c1, rfl⟩ := hoh.form; clear hoh hb)
  | (refine wpList_store_blk (by rfl) 28 (.tmp 3) (.tmp 6) (by rfl) w2.heap.size 28 [false, (), (), (), false, false, (), (), (), .int .i64 0, (), (), .int .i64 0, (), (), (), (), false, false] (pre ++ .slice A1 hs.length c1 :: post) (by rfl) (by rfl) (by rw [HFL.out]; rfl) (heap_alloc_new w2 _) 19 msg_size (HFL.out _) (HONE.out _ _ _) ?_; intro W3 hst3)
  | fail)
 obtain ⟨k, hk⟩ : ∃ k, k = w2.heap.size := ⟨_, rfl⟩
 rw [← hk] at hst3 ⊢
 have HKB := hid (show wb.heap.size ≤ k by rw [hk]; exact HB.out.size)
 have HA3 := hid (show Below w2.heap.size w2 (w2.alloc (.cells #[false, (), (), (), false, false, (), (), (), .int .i64 0, (), (), .int .i64 0, (), (), (), (), false, false] 28)) from (Below.refl _ _).alloc (Nat.le_refl _) _)
 have OH3 := hid ((OH.out.kept HA3.out).stored hst3 (by rw [hk]; exact heap_alloc_new w2 (.cells #[false, (), (), (), false, false, (), (), (), .int .i64 0, (), (), .int .i64 0, (), (), (), (), false, false] 28)) (by decide) (by decide))
 have HG3 := hid hst3.blk
 have HB3 := hid (show Below wb.heap.size wb W3 from HB.out.trans ((HA3.out.mono HB.out.size).trans (hst3.below.mono HKB.out)))
 clear hst3 hk
 go_wp2_with fail
 go_loopw [4] (fun i wr => ∃ j : Nat, j ≤ hs.length ∧ i = .int .i64 j ∧ OHs w0 wb.heap.size wr (.slice A1 hs.length c1) ((hs.take j).map heardH ++ hs.drop j) ∧ wr.heap[k]? = some (.cells (pre ++ .slice A1 hs.length c1 :: post).toArray 28 (0, 0)) ∧ Below wb.heap.size wb wr) (fun i _ => hs.length - (intOf i).toNat)
 case atStart => exact ⟨0, Nat.zero_le _, rfl, by simpa using OH3.out, HG3.out, HB3.out⟩
 case round =>
  obtain ⟨j, hj, rfl, hoh, hg, hb⟩ := hrel
  obtain ⟨wo, rfl⟩ : ∃ wo : World, wo = wr := ⟨_, rfl⟩
  have OHJ := hid hoh
  have HG := hid hg
  have HBJ := hid hb
  have c15 := row_at hg 15 _ (HP15.out _)
  have hln : (hs.length : Int) ≤ 1000 := by have := HL.out; omega
  clear hoh hg hb
  by_cases hlt : j < hs.length
  ·have hi1 : (j : Int) < hs.length := by omega
   have hi0 : (0 : Int) ≤ j := by omega
   have hjl : ((hs.take j).map heardH ++ hs.drop j).length = hs.length := by simp; omega
   obtain ⟨rb, rc, ec, rpre, rsuf, rpost, hv, hbl, hbh, hp1, hp2, hp3, hx, hput⟩ := OHJ.out.at_ j (by omega)
   rw [hjl] at hv
   obtain ⟨hj2, e1⟩ : ∃ hj2, ((hs.take j).map heardH ++ hs.drop j)[j]'(by omega) = hj2 := ⟨_, rfl⟩
   rw [e1] at hx
   have e2 : hs[j]? = some hj2 := by
    have h1 : ((hs.take j).map heardH).length = j := by simp; omega
    have e3 : ((hs.take j).map heardH ++ hs.drop j)[j]? = some hj2 := by rw [List.getElem?_eq_getElem (by omega), e1]
    rw [List.getElem?_append_right (by omega), h1, List.getElem?_drop, Nat.sub_self, Nat.add_zero] at e3
    exact e3
   obtain ⟨hj, rfl⟩ : ∃ hj, hj = hj2 := ⟨_, rfl⟩
   obtain ⟨rfl, rfl⟩ : A1 = some ⟨rb, 0, none⟩ ∧ c1 = rc := by simpa using hv
   subst hp3
   have HLX := hid hx
   have HCELL := hid (show ∀ q u, rsuf[q]? = some u → wo.cell? ((⟨rb, j * 21, none⟩ : Addr).add q) = some u from fun q u hq => by
    rw [Addr.add_lit, blk_cell hbh]
    have hql : q < rsuf.length := (List.getElem?_eq_some_iff.1 hq).1
    simp only [List.getElem?_toArray]
    rw [List.append_assoc, List.getElem?_append_right (by omega), List.getElem?_append_left (by omega), hp1, show j * 21 + q - j * 21 = q by omega]
    exact hq)
   have HWO := hid (HW.out.trans ((HB0.out.trans (HBJ.out.mono (by have := HSZ.out; omega))).mono HW.out.size))
   have HTJ := hid (HT.out hj (List.mem_of_getElem? e2))
   have HBH := hid hbh
   have HPL := hid (And.intro hp1 (And.intro hp2 (And.intro hbl hlt)))
   have HPUT := hid hput
   have HE2 := hid e2
   have HKW := hid (heap_lt HG.out)
   clear hx hbh hp1 hp2 hbl hput e1 e2 hv hjl hlt
   go_wp2_with fail
   refine wp_region_grow 10 (CK wo.heap.size) (IW wo)
    (fun i v w' => match i with
     | 0 => v = .pointer (some ⟨k, 15, none⟩)
     | 1 => v = .slice (some ⟨rb, 0, none⟩) hs.length c1
     | 2 => v = .int .i64 (j : Int)
     | 3 => v = .pointer (some ⟨k, 15, none⟩)
     | 4 => v = .slice (some ⟨rb, 0, none⟩) hs.length c1
     | 5 => v = .int .i64 (j : Int)
     | 6 => v = .pointer (some ⟨rb, j * 21, none⟩)
     | 7 => v = .agg rsuf.toArray
     | 8 => ∃ e2 : List Value, v = .agg e2.toArray ∧ LHx w0 w' (heardH hj) e2
     | 9 => v = .pointer (some ⟨rb, j * 21, none⟩)
     | _ => True)
    [[], [0], [], [], [3], [], [4, 5], [6], [7], [1, 2]] rfl (by kernel_rfl) (by kernel_rfl) (fun _ _ => IW.step) ?_ ?_ ?_ ?_
   ·intro j hj v w'
    match j, hj with
    | j + 10, _ => trivial
   ·exact CK.of_below (Below.refl _ _).drew (Nat.le_refl _)
   ·simp only [List.take_succ_cons, List.take_zero, fillAll]
    have c15 := row_at HG.out 15 _ (HP15.out _)
    refine ⟨⟨?_, ?_⟩, ⟨?_, ?_⟩, ⟨?_, ?_⟩, ⟨?_, ?_⟩, ⟨?_, ?_⟩, ⟨?_, ?_⟩, ⟨?_, ?_⟩, ⟨?_, ?_⟩, ⟨?_, ?_⟩, ⟨?_, ?_⟩, trivial⟩
    ·exact fun v w1 w2 h k => h
    ·intro vals w1 hI hd
     unfold GStep
     go_wp2
     exact CK.refl _ _
    ·exact fun v w1 w2 h k => h
    ·intro vals w1 hI hd
     have h1 : vals 0 = _ := hd.1
     have dc15 := hI.cell c15
     unfold GStep
     go_wp2
     exact CK.refl _ _
    ·exact fun v w1 w2 h k => h
    ·intro vals w1 hI hd
     unfold GStep
     go_wp2
     exact CK.refl _ _
    ·exact fun v w1 w2 h k => h
    ·intro vals w1 hI hd
     unfold GStep
     go_wp2
     exact CK.refl _ _
    ·exact fun v w1 w2 h k => h
    ·intro vals w1 hI hd
     have h1 : vals 3 = _ := hd.1
     have dc15 := hI.cell c15
     unfold GStep
     go_wp2
     exact CK.refl _ _
    ·exact fun v w1 w2 h k => h
    ·intro vals w1 hI hd
     unfold GStep
     go_wp2
     exact CK.refl _ _
    ·exact fun v w1 w2 h k => h
    ·intro vals w1 hI hd
     have h1 : vals 4 = _ := hd.1
     have h2 : vals 5 = _ := hd.2.1
     unfold GStep
     go_wp2
     exact CK.refl _ _
    ·exact fun v w1 w2 h k => h
    ·intro vals w1 hI hd
     have h1 : vals 6 = _ := hd.1
     have HCE := hid (fun q u hq => hI.cell (HCELL.out q u hq))
     clear hd
     unfold GStep
     dsimp only
     rw [h1]
     clear h1
     go_simp
     refine wpList_load_any (by rfl) 41 (.tmp 20) (by rfl) ⟨rb, j * 21, none⟩ (by rfl) rsuf _ HCE.out Tryz.underlying41 rfl (by rw [head_size, HLX.out.len]) ?_
     go_wp2
     exact CK.refl _ _
    ·rintro v w1 w2 ⟨e2, h1, h2⟩ q
     exact ⟨e2, h1, h2.ku q.ku⟩
    ·intro vals w1 hI hd
     have h1 : vals 7 = _ := hd.1
     have HP := hid (heard_any w0 hj rsuf w1 (HLX.out.ku (CK.ku hI)) (HWO.out.trans (hI.below.mono HWO.out.size)) HTJ.out)
     unfold GStep
     go_wp2_with (go_at_call 31; refine HP.out.mono ?_; rintro e w2 ⟨e2, rfl, hx, hb⟩)
     have hk := CK.of_below hb hI.size
     first | exact hk | exact ⟨hk, _, rfl, hx⟩ | exact ⟨hk, hx⟩
    ·exact fun v w1 w2 h k => h
    ·intro vals w1 hI hd
     have h1 : vals 1 = _ := hd.1
     have h2 : vals 2 = _ := hd.2.1
     unfold GStep
     go_wp2
     exact CK.refl _ _
   ·intro vals w1 hI hR
    simp only [List.drop_succ_cons, List.drop_zero, List.take_succ_cons, List.take_zero, fillAll]
    obtain ⟨-, -, -, -, -, -, -, -, r8, r9, -⟩ := hR
    have e9 : vals 9 = _ := r9
    rw [e9]
    clear e9 r9
    generalize vals 8 = x8 at r8 ⊢
    obtain ⟨e2, rfl, hx2⟩ := r8
    have HX2 := hid hx2
    have hjl : ((hs.take j).map heardH ++ hs.drop j).length = hs.length := by have := HPL.out.2.2.2; simp; omega
    obtain ⟨rb2, rc2, ec2, pre2, suf2, post2, hv2, hbl2, hbh2, hp21, hp22, hp23, -, hput2⟩ := (OHJ.out.ck hI).at_ j (by have := HPL.out.2.2.2; omega)
    rw [hjl] at hv2
    obtain rfl : rb = rb2 := by
     injection hv2 with h1 _ _
     injection h1 with h1
     injection h1
    have HBH2 := hid hbh2
    have HPUT := hid hput2
    have HS1 := hid (show suf2.length = e2.length by rw [hp22, hx2.len])
    have HS2 := hid hp21.symm
    have HI := hid hI
    clear hx2 hv2 hbl2 hbh2 hp21 hp22 hp23 hput2 hjl hI
    go_simp
    go_wp2_with (refine wpList_store_part (by rfl) 41 (.tmp 23) (.tmp 22) (by rfl) rb (j * 21) 41 pre2 suf2 post2 e2 (by rfl) (by rfl) HS1.out HS2.out HBH2.out 21 head_size HX2.out.len HX2.out.one ?_; intro W5 hst; have HST := hid hst; clear hst)
    have HK5 := hid (show W5.heap[k]? = some (.cells (pre ++ .slice (some ⟨rb, 0, none⟩) hs.length c1 :: post).toArray 28 (0, 0)) by
     have h1 := (HI.out.below.block k HKW.out).trans HG.out
     rw [HST.out.other k (fun e => by rw [e, HBH2.out] at h1; injection h1 with h1; injection h1 with _ h1 _; exact absurd h1 (by decide))]
     exact h1)
    have HB5 := hid (show Below wb.heap.size wb W5 from (HBJ.out.trans (HI.out.below.mono HBJ.out.size)).trans (HST.out.below.mono HPL.out.2.2.1))
    have HO5 := hid (HPUT.out W5 (heardH hj) e2 HST.out (HX2.out.ku (HST.out.ku (N := 0) (Nat.zero_le _) HBH2.out (by decide))))
    go_roundw
    case rel =>
     refine ⟨j + 1, HPL.out.2.2.2, by simp, ?_, HK5.out, HB5.out⟩
     rw [heard_step HPL.out.2.2.2, show hs[j]'HPL.out.2.2.2 = hj from by have := HE2.out; rw [List.getElem?_eq_getElem HPL.out.2.2.2] at this; exact Option.some.inj this]
     exact HO5.out
    case measure => exact meas_step HPL.out.2.2.2 (by simp)
  ·have hje : j = hs.length := by omega
   subst hje
   have HOF := hid (show OHs w0 wb.heap.size wo (.slice A1 hs.length c1) (hs.map heardH) by simpa using OHJ.out)
   have HZ := hid ((HBJ.out.block (w.heap.size + 1) (by have := HSZ.out; omega)).trans HWB2.out)
   go_wp2_with (first
    | (refine wpList_load_blk (by rfl) 28 (.tmp 3) (by rfl) k 28 (0, 0) (pre ++ .slice A1 hs.length c1 :: post) (by rfl) HG.out _ Tryz.underlying28 rfl 19 msg_size (HFL.out _) ?_)
    | (refine wpList_store_blk (by rfl) 28 (.tmp 2) (.tmp 24) (by rfl) (w.heap.size + 1) 28 [false, (), (), (), false, false, (), (), (), .int .i64 0, (), (), .int .i64 0, (), (), (), (), false, false] (pre ++ .slice A1 hs.length c1 :: post) (by rfl) (by rfl) (by rw [HFL.out]; rfl) HZ.out 19 msg_size (HFL.out _) (HONE.out _ _ _) ?_; intro W4 hst4; have HST4 := hid hst4; clear hst4))
   exact ret_cell 2 28 ⟨w.heap.size + 1, 0, none⟩ (pre ++ .slice A1 hs.length c1 :: post) _ rfl rfl (row_cells HST4.out.blk) Tryz.underlying28 rfl 19 msg_size (HFL.out _) rfl ⟨_, rfl, (HOF.out.stored HST4.out HZ.out (by decide) (by decide)).less (by have := HSZ.out; omega), (HB0.out.trans (HBJ.out.mono (by have := HSZ.out; omega))).trans (HST4.out.below.mono (by omega))⟩
def readHs (m : LMsg) : List LHead := (m.heads.map plainH ++ [lenH m.body.length]).map heardH
theorem plainH_t (h : LHead) : (plainH h).t = h.t := by
 unfold plainH
 repeat' split
 all_goals rfl
theorem made_ts {l : List LHead} (h : ∀ x ∈ l, 0 ≤ x.t ∧ x.t ≤ 14) (n : Int) : ∀ x ∈ l.map plainH ++ [lenH n], 0 ≤ x.t ∧ x.t ≤ 14 := by
 intro x hx
 rcases List.mem_append.1 hx with h1 | h1
 ·obtain ⟨y, hy, rfl⟩ := List.mem_map.1 h1
  rw [plainH_t]
  exact h y hy
 ·simp only [List.mem_cons, List.not_mem_nil, or_false] at h1
  subst h1
  show (0 : Int) ≤ 8 ∧ (8 : Int) ≤ 14
  omega
def sameH (a b : LHead) : Bool := (a.t == b.t) && decide (a.name = b.name) && decide (a.text = b.text) && decide (a.display = b.display) && sameU a.uri b.uri && decide (a.params = b.params) && (a.num == b.num) && decide (a.proto = b.proto) && decide (a.version = b.version) && decide (a.transport = b.transport) && decide (a.host = b.host) && (a.port == b.port)
theorem sameH_iff (a b : LHead) : sameH a b = true ↔ a = b := by
 obtain ⟨⟩ := a
 obtain ⟨⟩ := b
 simp [sameH, sameU_iff, and_assoc]
theorem first12 (q0 q1 q2 q3 q4 q5 q6 q7 q8 q9 q10 q11 : Bool) : (q0 = false) ∨ (q0 = true ∧ q1 = false) ∨ (q0 = true ∧ q1 = true ∧ q2 = false) ∨ (q0 = true ∧ q1 = true ∧ q2 = true ∧ q3 = false) ∨ (q0 = true ∧ q1 = true ∧ q2 = true ∧ q3 = true ∧ q4 = false) ∨ (q0 = true ∧ q1 = true ∧ q2 = true ∧ q3 = true ∧ q4 = true ∧ q5 = false) ∨ (q0 = true ∧ q1 = true ∧ q2 = true ∧ q3 = true ∧ q4 = true ∧ q5 = true ∧ q6 = false) ∨ (q0 = true ∧ q1 = true ∧ q2 = true ∧ q3 = true ∧ q4 = true ∧ q5 = true ∧ q6 = true ∧ q7 = false) ∨ (q0 = true ∧ q1 = true ∧ q2 = true ∧ q3 = true ∧ q4 = true ∧ q5 = true ∧ q6 = true ∧ q7 = true ∧ q8 = false) ∨ (q0 = true ∧ q1 = true ∧ q2 = true ∧ q3 = true ∧ q4 = true ∧ q5 = true ∧ q6 = true ∧ q7 = true ∧ q8 = true ∧ q9 = false) ∨ (q0 = true ∧ q1 = true ∧ q2 = true ∧ q3 = true ∧ q4 = true ∧ q5 = true ∧ q6 = true ∧ q7 = true ∧ q8 = true ∧ q9 = true ∧ q10 = false) ∨ (q0 = true ∧ q1 = true ∧ q2 = true ∧ q3 = true ∧ q4 = true ∧ q5 = true ∧ q6 = true ∧ q7 = true ∧ q8 = true ∧ q9 = true ∧ q10 = true ∧ q11 = false) ∨ (q0 = true ∧ q1 = true ∧ q2 = true ∧ q3 = true ∧ q4 = true ∧ q5 = true ∧ q6 = true ∧ q7 = true ∧ q8 = true ∧ q9 = true ∧ q10 = true ∧ q11 = true) := by
 cases q0
 ·exact .inl rfl
 cases q1
 ·exact .inr (.inl (⟨rfl, rfl⟩))
 cases q2
 ·exact .inr (.inr (.inl (⟨rfl, rfl, rfl⟩)))
 cases q3
 ·exact .inr (.inr (.inr (.inl (⟨rfl, rfl, rfl, rfl⟩))))
 cases q4
 ·exact .inr (.inr (.inr (.inr (.inl (⟨rfl, rfl, rfl, rfl, rfl⟩)))))
 cases q5
 ·exact .inr (.inr (.inr (.inr (.inr (.inl (⟨rfl, rfl, rfl, rfl, rfl, rfl⟩))))))
 cases q6
 ·exact .inr (.inr (.inr (.inr (.inr (.inr (.inl (⟨rfl, rfl, rfl, rfl, rfl, rfl, rfl⟩)))))))
 cases q7
 ·exact .inr (.inr (.inr (.inr (.inr (.inr (.inr (.inl (⟨rfl, rfl, rfl, rfl, rfl, rfl, rfl, rfl⟩))))))))
 cases q8
 ·exact .inr (.inr (.inr (.inr (.inr (.inr (.inr (.inr (.inl (⟨rfl, rfl, rfl, rfl, rfl, rfl, rfl, rfl, rfl⟩)))))))))
 cases q9
 ·exact .inr (.inr (.inr (.inr (.inr (.inr (.inr (.inr (.inr (.inl (⟨rfl, rfl, rfl, rfl, rfl, rfl, rfl, rfl, rfl, rfl⟩))))))))))
 cases q10
 ·exact .inr (.inr (.inr (.inr (.inr (.inr (.inr (.inr (.inr (.inr (.inl (⟨rfl, rfl, rfl, rfl, rfl, rfl, rfl, rfl, rfl, rfl, rfl⟩)))))))))))
 cases q11
 ·exact .inr (.inr (.inr (.inr (.inr (.inr (.inr (.inr (.inr (.inr (.inr (.inl (⟨rfl, rfl, rfl, rfl, rfl, rfl, rfl, rfl, rfl, rfl, rfl, rfl⟩))))))))))))
 exact .inr (.inr (.inr (.inr (.inr (.inr (.inr (.inr (.inr (.inr (.inr (.inr (⟨rfl, rfl, rfl, rfl, rfl, rfl, rfl, rfl, rfl, rfl, rfl, rfl⟩))))))))))))
theorem samehead_any (a b : LHead) (la lb : List Value) (w : World) (hA : LH w a la) (hB : LH w b lb) : Calls Tryz.prog 58 #[.agg la.toArray, .agg lb.toArray] w fun e w' => e = .returned (.bool (sameH a b)) ∧ Below w.heap.size w w' := by
 obtain ⟨r, hr⟩ : ∃ r, r = sameH a b := ⟨_, rfl⟩
 rw [← hr]
 obtain ⟨xt, xname, xtext, xdisplay, xu, xparams, xnum, xproto, xversion, xtransport, xhost, xport⟩ := a
 obtain ⟨xa1, xa2, xa3, xul, xa5, xa7, xa8, xa9, xa10, rfl, xs1, xs2, xs3, xsu, xs5, xs7, xs8, xs9, xs10, -, -, -⟩ := hA
 have HXU := hid xsu
 obtain ⟨xu0, xu1, xu4, xu5, xu6, xu8, xu9, rfl, -⟩ := xsu
 obtain ⟨yt, yname, ytext, ydisplay, yu, yparams, ynum, yproto, yversion, ytransport, yhost, yport⟩ := b
 obtain ⟨ya1, ya2, ya3, yul, ya5, ya7, ya8, ya9, ya10, rfl, ys1, ys2, ys3, ysu, ys5, ys7, ys8, ys9, ys10, -, -, -⟩ := hB
 have HYU := hid ysu
 obtain ⟨yu0, yu1, yu4, yu5, yu6, yu8, yu9, rfl, -⟩ := ysu
 dsimp only at *
 simp only [List.cons_append, List.nil_append]
 obtain ⟨q0, hq0⟩ : ∃ q, q = (xt == yt) := ⟨_, rfl⟩
 have HQ0 := hid hq0
 have E0 := hq0.symm
 clear hq0
 obtain ⟨q1, hq1⟩ : ∃ q, q = decide (xname = yname) := ⟨_, rfl⟩
 have HE1 := hid (show ∀ wx, Below w.heap.size w wx → Calls Tryz.prog 9 #[xa1, ya1] wx (Quiet q1 wx) from fun wx h => by rw [hq1]; exact equal_q _ _ xname yname wx (xs1.below h) (ys1.below h))
 have HQ1 := hid hq1
 clear hq1
 obtain ⟨q2, hq2⟩ : ∃ q, q = decide (xtext = ytext) := ⟨_, rfl⟩
 have HE2 := hid (show ∀ wx, Below w.heap.size w wx → Calls Tryz.prog 9 #[xa2, ya2] wx (Quiet q2 wx) from fun wx h => by rw [hq2]; exact equal_q _ _ xtext ytext wx (xs2.below h) (ys2.below h))
 have HQ2 := hid hq2
 clear hq2
 obtain ⟨q3, hq3⟩ : ∃ q, q = decide (xdisplay = ydisplay) := ⟨_, rfl⟩
 have HE3 := hid (show ∀ wx, Below w.heap.size w wx → Calls Tryz.prog 9 #[xa3, ya3] wx (Quiet q3 wx) from fun wx h => by rw [hq3]; exact equal_q _ _ xdisplay ydisplay wx (xs3.below h) (ys3.below h))
 have HQ3 := hid hq3
 clear hq3
 obtain ⟨q4, hq4⟩ : ∃ q, q = sameU xu yu := ⟨_, rfl⟩
 have HE4 := hid (show ∀ wx, Below w.heap.size w wx → Calls Tryz.prog 26 #[.agg #[xu0, xu1, .bool xu.star, .bool xu.slashes, xu4, xu5, xu6, .int .i64 xu.port, xu8, xu9], .agg #[yu0, yu1, .bool yu.star, .bool yu.slashes, yu4, yu5, yu6, .int .i64 yu.port, yu8, yu9]] wx fun e w' => e = .returned (.bool q4) ∧ Below wx.heap.size wx w' from fun wx h => by rw [hq4]; exact sameuri_any xu yu _ _ wx (HXU.out.below h) (HYU.out.below h))
 have HQ4 := hid hq4
 clear hq4
 obtain ⟨q5, hq5⟩ : ∃ q, q = decide (xparams = yparams) := ⟨_, rfl⟩
 have HE5 := hid (show ∀ wx, Below w.heap.size w wx → Calls Tryz.prog 53 #[xa5, ya5] wx (Quiet q5 wx) from fun wx h => by rw [hq5]; exact samekvs_any _ _ xparams yparams wx (xs5.below h) (ys5.below h))
 have HQ5 := hid hq5
 clear hq5
 obtain ⟨q6, hq6⟩ : ∃ q, q = (xnum == ynum) := ⟨_, rfl⟩
 have HQ6 := hid hq6
 have E6 := hq6.symm
 clear hq6
 obtain ⟨q7, hq7⟩ : ∃ q, q = decide (xproto = yproto) := ⟨_, rfl⟩
 have HE7 := hid (show ∀ wx, Below w.heap.size w wx → Calls Tryz.prog 9 #[xa7, ya7] wx (Quiet q7 wx) from fun wx h => by rw [hq7]; exact equal_q _ _ xproto yproto wx (xs7.below h) (ys7.below h))
 have HQ7 := hid hq7
 clear hq7
 obtain ⟨q8, hq8⟩ : ∃ q, q = decide (xversion = yversion) := ⟨_, rfl⟩
 have HE8 := hid (show ∀ wx, Below w.heap.size w wx → Calls Tryz.prog 9 #[xa8, ya8] wx (Quiet q8 wx) from fun wx h => by rw [hq8]; exact equal_q _ _ xversion yversion wx (xs8.below h) (ys8.below h))
 have HQ8 := hid hq8
 clear hq8
 obtain ⟨q9, hq9⟩ : ∃ q, q = decide (xtransport = ytransport) := ⟨_, rfl⟩
 have HE9 := hid (show ∀ wx, Below w.heap.size w wx → Calls Tryz.prog 9 #[xa9, ya9] wx (Quiet q9 wx) from fun wx h => by rw [hq9]; exact equal_q _ _ xtransport ytransport wx (xs9.below h) (ys9.below h))
 have HQ9 := hid hq9
 clear hq9
 obtain ⟨q10, hq10⟩ : ∃ q, q = decide (xhost = yhost) := ⟨_, rfl⟩
 have HE10 := hid (show ∀ wx, Below w.heap.size w wx → Calls Tryz.prog 9 #[xa10, ya10] wx (Quiet q10 wx) from fun wx h => by rw [hq10]; exact equal_q _ _ xhost yhost wx (xs10.below h) (ys10.below h))
 have HQ10 := hid hq10
 clear hq10
 obtain ⟨q11, hq11⟩ : ∃ q, q = (xport == yport) := ⟨_, rfl⟩
 have HQ11 := hid hq11
 have E11 := hq11.symm
 clear hq11
 have HR := hid hr
 clear hr xs1 xs2 xs3 xs5 xs7 xs8 xs9 xs10 ys1 ys2 ys3 ys5 ys7 ys8 ys9 ys10
 have HZ := hid (below_two (w := w) (.cells #[.int .i64 xt, xa1, xa2, xa3, xu0, xu1, .bool xu.star, .bool xu.slashes, xu4, xu5, xu6, .int .i64 xu.port, xu8, xu9, xa5, .int .u32 xnum, xa7, xa8, xa9, xa10, .int .i64 xport] 41) (.cells #[.int .i64 yt, ya1, ya2, ya3, yu0, yu1, .bool yu.star, .bool yu.slashes, yu4, yu5, yu6, .int .i64 yu.port, yu8, yu9, ya5, .int .u32 ynum, ya7, ya8, ya9, ya10, .int .i64 yport] 41))
 obtain ⟨wb, hwb⟩ : ∃ wb, wb = (w.alloc (.cells #[.int .i64 xt, xa1, xa2, xa3, xu0, xu1, .bool xu.star, .bool xu.slashes, xu4, xu5, xu6, .int .i64 xu.port, xu8, xu9, xa5, .int .u32 xnum, xa7, xa8, xa9, xa10, .int .i64 xport] 41)).alloc (.cells #[.int .i64 yt, ya1, ya2, ya3, yu0, yu1, .bool yu.star, .bool yu.slashes, yu4, yu5, yu6, .int .i64 yu.port, yu8, yu9, ya5, .int .u32 ynum, ya7, ya8, ya9, ya10, .int .i64 yport] 41) := ⟨_, rfl⟩
 have HWB := hid hwb
 have HZB := hid (show Below w.heap.size w wb by rw [hwb]; exact HZ.out)
 have HSZ := hid (show wb.heap.size = w.heap.size + 2 by rw [hwb]; simp)
 have HX1 := hid (show wb.heap[w.heap.size]? = some (.cells #[.int .i64 xt, xa1, xa2, xa3, xu0, xu1, .bool xu.star, .bool xu.slashes, xu4, xu5, xu6, .int .i64 xu.port, xu8, xu9, xa5, .int .u32 xnum, xa7, xa8, xa9, xa10, .int .i64 xport] 41 (0, 0)) by rw [hwb]; exact ((Below.refl _ _).alloc (Nat.le_refl _) _).block w.heap.size (by simp) |>.trans (heap_alloc_new w _))
 have HX2 := hid (show wb.heap[w.heap.size + 1]? = some (.cells #[.int .i64 yt, ya1, ya2, ya3, yu0, yu1, .bool yu.star, .bool yu.slashes, yu4, yu5, yu6, .int .i64 yu.port, yu8, yu9, ya5, .int .u32 ynum, ya7, ya8, ya9, ya10, .int .i64 yport] 41 (0, 0)) by rw [hwb]; have := heap_alloc_new (w.alloc (.cells #[.int .i64 xt, xa1, xa2, xa3, xu0, xu1, .bool xu.star, .bool xu.slashes, xu4, xu5, xu6, .int .i64 xu.port, xu8, xu9, xa5, .int .u32 xnum, xa7, xa8, xa9, xa10, .int .i64 xport] 41)) (.cells #[.int .i64 yt, ya1, ya2, ya3, yu0, yu1, .bool yu.star, .bool yu.slashes, yu4, yu5, yu6, .int .i64 yu.port, yu8, yu9, ya5, .int .u32 ynum, ya7, ya8, ya9, ya10, .int .i64 yport] 41); rwa [World.size_alloc] at this)
 clear hwb
 rcases first12 q0 q1 q2 q3 q4 q5 q6 q7 q8 q9 q10 q11 with rfl | ⟨rfl, rfl⟩ | ⟨rfl, rfl, rfl⟩ | ⟨rfl, rfl, rfl, rfl⟩ | ⟨rfl, rfl, rfl, rfl, rfl⟩ | ⟨rfl, rfl, rfl, rfl, rfl, rfl⟩ | ⟨rfl, rfl, rfl, rfl, rfl, rfl, rfl⟩ | ⟨rfl, rfl, rfl, rfl, rfl, rfl, rfl, rfl⟩ | ⟨rfl, rfl, rfl, rfl, rfl, rfl, rfl, rfl, rfl⟩ | ⟨rfl, rfl, rfl, rfl, rfl, rfl, rfl, rfl, rfl, rfl⟩ | ⟨rfl, rfl, rfl, rfl, rfl, rfl, rfl, rfl, rfl, rfl, rfl⟩ | ⟨rfl, rfl, rfl, rfl, rfl, rfl, rfl, rfl, rfl, rfl, rfl, rfl⟩ | ⟨rfl, rfl, rfl, rfl, rfl, rfl, rfl, rfl, rfl, rfl, rfl, rfl⟩
 all_goals
  (go_enter Tryz.func58, Tryz.ntmps58
   go_wp2_with (first | (go_at_call_of 9 xa1; refine (HE1.out _ (by first | exact HZ.out | exact below_drewN HZ.out _ | exact H5.out | exact below_drewN H5.out _)).mono ?_; rintro e w21 ⟨rfl, n1, rfl⟩) | (go_at_call_of 9 xa2; refine (HE2.out _ (by first | exact HZ.out | exact below_drewN HZ.out _ | exact H5.out | exact below_drewN H5.out _)).mono ?_; rintro e w22 ⟨rfl, n2, rfl⟩) | (go_at_call_of 9 xa3; refine (HE3.out _ (by first | exact HZ.out | exact below_drewN HZ.out _ | exact H5.out | exact below_drewN H5.out _)).mono ?_; rintro e w23 ⟨rfl, n3, rfl⟩) | (go_at_call 26; refine (HE4.out _ (by first | exact HZ.out | exact below_drewN HZ.out _ | exact H5.out | exact below_drewN H5.out _)).mono ?_; rintro e w5 ⟨rfl, hb5⟩; have HW5 := hid (show Below wb.heap.size wb w5 by rw [HWB.out]; exact Below.trans (by first | exact Below.refl _ _ | exact below_drewN (Below.refl _ _) _) (hb5.mono (by simp))); have H5 := hid (show Below w.heap.size w w5 from HZB.out.trans (HW5.out.mono (by have := HSZ.out; omega))); obtain ⟨_, _, _, _, _, _, _, _, _, _, _, _, _, _, d14, d15, d16, d17, d18, d19, d20⟩ := blk21 ((HW5.out.block w.heap.size (by have := HSZ.out; omega)).trans HX1.out); obtain ⟨_, _, _, _, _, _, _, _, _, _, _, _, _, _, c14, c15, c16, c17, c18, c19, c20⟩ := blk21 ((HW5.out.block (w.heap.size + 1) (by have := HSZ.out; omega)).trans HX2.out); clear hb5) | (go_at_call_of 53 xa5; refine (HE5.out _ (by first | exact HZ.out | exact below_drewN HZ.out _ | exact H5.out | exact below_drewN H5.out _)).mono ?_; rintro e w25 ⟨rfl, n5, rfl⟩) | (go_at_call_of 9 xa7; refine (HE7.out _ (by first | exact HZ.out | exact below_drewN HZ.out _ | exact H5.out | exact below_drewN H5.out _)).mono ?_; rintro e w27 ⟨rfl, n7, rfl⟩) | (go_at_call_of 9 xa8; refine (HE8.out _ (by first | exact HZ.out | exact below_drewN HZ.out _ | exact H5.out | exact below_drewN H5.out _)).mono ?_; rintro e w28 ⟨rfl, n8, rfl⟩) | (go_at_call_of 9 xa9; refine (HE9.out _ (by first | exact HZ.out | exact below_drewN HZ.out _ | exact H5.out | exact below_drewN H5.out _)).mono ?_; rintro e w29 ⟨rfl, n9, rfl⟩) | (go_at_call_of 9 xa10; refine (HE10.out _ (by first | exact HZ.out | exact below_drewN HZ.out _ | exact H5.out | exact below_drewN H5.out _)).mono ?_; rintro e w30 ⟨rfl, n10, rfl⟩) | fail)
   go_ret
   refine ⟨ret_bool ?_, by first | exact below_drewN HZ.out _ | exact HZ.out | exact H5.out | exact below_drewN H5.out _⟩
   rw [HR.out, sameH]
   simp only [← HQ0.out, ← HQ1.out, ← HQ2.out, ← HQ3.out, ← HQ4.out, ← HQ5.out, ← HQ6.out, ← HQ7.out, ← HQ8.out, ← HQ9.out, ← HQ10.out, ← HQ11.out, Bool.false_and, Bool.and_false, Bool.true_and, Bool.and_true])
instance : DecidableEq LHead := fun a b => decidable_of_decidable_of_iff (sameH_iff a b)
theorem sameheads_any (v u : Value) (l m : List LHead) (w : World) (hS : SHs w v l) (hT : SHs w u m) : Calls Tryz.prog 29 #[v, u] w fun e w' => e = .returned (.bool (decide (l = m))) ∧ Below w.heap.size w w' := by
 have HS := hid hS
 have HT := hid hT
 obtain ⟨A, c, rfl, hlen, hc9, -, -⟩ := hS
 obtain ⟨A2, c2, rfl, hlen2, hc92, -, -⟩ := hT
 by_cases hlm : l.length = m.length
 ·have HLM := hid hlm
  have HMX := hid (And.intro hlen hc9)
  rw [← hlm] at hlen2 ⊢
  clear hlm hlen2 hc92 hlen hc9
  go_enter Tryz.func29, Tryz.ntmps29
  go_wp2_with fail
  go_loopw [5] (fun i wr => ∃ k : Nat, k ≤ l.length ∧ i = .int .i64 k ∧ l.take k = m.take k ∧ Below w.heap.size w wr) (fun i _ => l.length - (intOf i).toNat)
  case atStart => exact ⟨0, Nat.zero_le _, rfl, by simp, Below.refl _ _⟩
  case round =>
   obtain ⟨k, hk, rfl, hall, hb⟩ := hrel
   have HA := hid hall
   have HB := hid hb
   obtain ⟨wo, rfl⟩ : ∃ wo : World, wo = wr := ⟨_, rfl⟩
   clear hall hb
   by_cases hlt : k < l.length
   ·obtain ⟨a, c', cs, h, e1, hh, hl1, hc1⟩ := HS.out.at_ k hlt
    cases e1
    obtain ⟨a2, c2', cs2, h2, e2, hh2, hl2, hc2⟩ := HT.out.at_ k (by rw [← HLM.out]; exact hlt)
    rw [← HLM.out] at e2
    cases e2
    have HLT := hid (And.intro (Nat.succ_le_of_lt hlt) (And.intro hh hh2))
    have HL1 := hid (hl1.below HB.out)
    have HL2 := hid (hl2.below HB.out)
    have HC := hid (show ∀ j u, cs[j]? = some u → wo.cell? ((a.add (k * 21)).add j) = some u from fun j u hj => cell_at_below (hc1 j u hj) HB.out)
    have HC2 := hid (show ∀ j u, cs2[j]? = some u → wo.cell? ((a2.add (k * 21)).add j) = some u from fun j u hj => cell_at_below (hc2 j u hj) HB.out)
    have b1 : (k : Int) < l.length := by omega
    have b2 : (0 : Int) ≤ k := by omega
    have b3 : (l.length : Int) ≤ 9223372036854775807 := by have := HMX.out; omega
    clear hh hh2 hl1 hl2 hc1 hc2
    go_wp2_with fail
    refine wp_region_grow 9 (CK wo.heap.size) (IW wo)
     (fun i v w' => match i with
      | 0 => v = .slice (some a) l.length c
      | 1 => v = .int .i64 (k : Int)
      | 2 => v = .pointer (some (a.add (k * 21)))
      | 3 => v = .agg cs.toArray
      | 4 => v = .slice (some a2) l.length c2
      | 5 => v = .int .i64 (k : Int)
      | 6 => v = .pointer (some (a2.add (k * 21)))
      | 7 => v = .agg cs2.toArray
      | 8 => v = .bool (sameH h h2)
      | _ => True)
     [[], [], [0, 1], [2], [], [], [4, 5], [6], [3, 7]] rfl (by kernel_rfl) (by kernel_rfl) (fun _ _ => IW.step) ?_ ?_ ?_ ?_
    ·intro j hj v w'
     match j, hj with
     | j + 9, _ => trivial
    ·exact CK.of_below (Below.refl _ _).drew (Nat.le_refl _)
    ·simp only [List.take_succ_cons, List.take_zero, fillAll]
     refine ⟨⟨?_, ?_⟩, ⟨?_, ?_⟩, ⟨?_, ?_⟩, ⟨?_, ?_⟩, ⟨?_, ?_⟩, ⟨?_, ?_⟩, ⟨?_, ?_⟩, ⟨?_, ?_⟩, ⟨?_, ?_⟩, trivial⟩
     ·exact fun v w1 w2 h k => h
     ·intro vals w1 hI hd
      unfold GStep
      go_wp2
      exact CK.refl _ _
     ·exact fun v w1 w2 h k => h
     ·intro vals w1 hI hd
      unfold GStep
      go_wp2
      exact CK.refl _ _
     ·exact fun v w1 w2 h k => h
     ·intro vals w1 hI hd
      have h1 : vals 0 = _ := hd.1
      have h2 : vals 1 = _ := hd.2.1
      unfold GStep
      go_wp2
      exact CK.refl _ _
     ·exact fun v w1 w2 h k => h
     ·intro vals w1 hI hd
      have h1 : vals 2 = _ := hd.1
      have HCE := hid (show ∀ j u, cs[j]? = some u → w1.cell? ((a.add (k * 21)).add j) = some u from fun j u hj => hI.cell (HC.out j u hj))
      clear hd
      unfold GStep
      dsimp only
      rw [h1]
      clear h1
      go_simp
      refine wpList_load_any (by rfl) 41 (.tmp 19) (by rfl) (a.add (k * 21)) (by rfl) cs _ HCE.out Tryz.underlying41 rfl (by rw [head_size, (HL1.out.x w1).len]) ?_
      go_wp2
      exact CK.refl _ _
     ·exact fun v w1 w2 h k => h
     ·intro vals w1 hI hd
      unfold GStep
      go_wp2
      exact CK.refl _ _
     ·exact fun v w1 w2 h k => h
     ·intro vals w1 hI hd
      unfold GStep
      go_wp2
      exact CK.refl _ _
     ·exact fun v w1 w2 h k => h
     ·intro vals w1 hI hd
      have h1 : vals 4 = _ := hd.1
      have h2 : vals 5 = _ := hd.2.1
      unfold GStep
      go_wp2
      exact CK.refl _ _
     ·exact fun v w1 w2 h k => h
     ·intro vals w1 hI hd
      have h1 : vals 6 = _ := hd.1
      have HCE := hid (show ∀ j u, cs2[j]? = some u → w1.cell? ((a2.add (k * 21)).add j) = some u from fun j u hj => hI.cell (HC2.out j u hj))
      clear hd
      unfold GStep
      dsimp only
      rw [h1]
      clear h1
      go_simp
      refine wpList_load_any (by rfl) 41 (.tmp 23) (by rfl) (a2.add (k * 21)) (by rfl) cs2 _ HCE.out Tryz.underlying41 rfl (by rw [head_size, (HL2.out.x w1).len]) ?_
      go_wp2
      exact CK.refl _ _
     ·exact fun v w1 w2 h k => h
     ·intro vals w1 hI hd
      have e3 : vals 3 = _ := hd.1
      have e7 : vals 7 = _ := hd.2.1
      have HP := hid (samehead_any h h2 cs cs2 w1 (HL1.out.below hI.below) (HL2.out.below hI.below))
      unfold GStep
      go_wp2_with (go_at_call 58; refine HP.out.mono ?_; rintro e w2 ⟨rfl, hb⟩)
      exact CK.of_below hb hI.size
    ·intro vals w1 hI hR
     simp only [List.drop_succ_cons, List.drop_zero, List.take_succ_cons, List.take_zero, fillAll]
     obtain ⟨-, -, -, -, -, -, -, -, r8, -⟩ := hR
     have e8 : vals 8 = _ := r8
     rw [e8]
     clear e8 r8
     have HB1 := hid (HB.out.trans (hI.below.mono HB.out.size))
     clear hI
     by_cases hq : h = h2
     ·have hq2 : sameH h h2 = true := (sameH_iff _ _).2 hq
      have HQ := hid hq
      rw [hq2]
      clear hq hq2
      go_simp
      go_wp2
      go_roundw
      case rel => exact ⟨k + 1, HLT.out.1, by simp, take_eq_step HLT.out.2.1 HLT.out.2.2 HA.out HQ.out, HB1.out⟩
      case measure => exact meas_step HLT.out.1 (by simp)
     ·have hq2 : sameH h h2 = false := by
       cases hz : sameH h h2 with
       | false => rfl
       | true => exact absurd ((sameH_iff _ _).1 hz) hq
      have HQ := hid hq
      rw [hq2]
      clear hq hq2
      go_simp
      go_wp2
      go_ret
      refine ⟨ret_bool ?_, HB1.out⟩
      symm
      rw [decide_eq_false_iff_not]
      intro e
      subst e
      exact HQ.out (Option.some.inj (HLT.out.2.1.symm.trans HLT.out.2.2))
   ·have HLT := hid hlt
    go_wp2
    go_ret
    refine ⟨ret_bool ?_, HB.out⟩
    have := HA.out
    rw [List.take_of_length_le (by have := HLT.out; omega), List.take_of_length_le (by have := HLT.out; have := HLM.out; omega)] at this
    simp [this]
 ·have hne : ¬ (l.length : Int) = m.length := by omega
  have HLM := hid hlm
  clear hlm
  go_enter Tryz.func29, Tryz.ntmps29
  go_wp2
  go_ret
  refine ⟨ret_bool ?_, Below.refl _ _⟩
  symm
  rw [decide_eq_false_iff_not]
  exact fun e => HLM.out (by rw [e])
