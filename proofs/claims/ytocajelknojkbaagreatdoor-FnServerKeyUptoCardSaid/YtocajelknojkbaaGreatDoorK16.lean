import Derived.Test.YtocajelknojkbaaGreatDoorK15
set_option maxRecDepth 100000
set_option maxHeartbeats 16000000
set_option linter.all false
namespace Go.Proofs.YtocajelknojkbaaGreatDoor
open Go.Lib (hid)
open Go.RowKit
theorem blk19 {w : World} {g : Nat} {t : TypeId} {fz : Nat × Nat} {v0 v1 v2 v3 v4 v5 v6 v7 v8 v9 v10 v11 v12 v13 v14 v15 v16 v17 v18 : Value} (h : w.heap[g]? = some (.cells #[v0, v1, v2, v3, v4, v5, v6, v7, v8, v9, v10, v11, v12, v13, v14, v15, v16, v17, v18] t fz)) :
  w.cell? ⟨g, 0, none⟩ = some v0 ∧ w.cell? ⟨g, 1, none⟩ = some v1 ∧ w.cell? ⟨g, 2, none⟩ = some v2 ∧ w.cell? ⟨g, 3, none⟩ = some v3 ∧ w.cell? ⟨g, 4, none⟩ = some v4 ∧ w.cell? ⟨g, 5, none⟩ = some v5 ∧ w.cell? ⟨g, 6, none⟩ = some v6 ∧ w.cell? ⟨g, 7, none⟩ = some v7 ∧ w.cell? ⟨g, 8, none⟩ = some v8 ∧ w.cell? ⟨g, 9, none⟩ = some v9 ∧ w.cell? ⟨g, 10, none⟩ = some v10 ∧ w.cell? ⟨g, 11, none⟩ = some v11 ∧ w.cell? ⟨g, 12, none⟩ = some v12 ∧ w.cell? ⟨g, 13, none⟩ = some v13 ∧ w.cell? ⟨g, 14, none⟩ = some v14 ∧ w.cell? ⟨g, 15, none⟩ = some v15 ∧ w.cell? ⟨g, 16, none⟩ = some v16 ∧ w.cell? ⟨g, 17, none⟩ = some v17 ∧ w.cell? ⟨g, 18, none⟩ = some v18 := by
 refine ⟨?_, ?_, ?_, ?_, ?_, ?_, ?_, ?_, ?_, ?_, ?_, ?_, ?_, ?_, ?_, ?_, ?_, ?_, ?_⟩ <;> rw [blk_cell h] <;> rfl
def HBd (h : LHead) : Prop := luriN h.uri ≤ 70368744177664 ∧ (lparT 59 h.params).length ≤ 70368744177664
def MBd (m : LMsg) : Prop := luriN m.uri ≤ 70368744177664 ∧ ∀ h ∈ m.heads, HBd h
theorem SHs.at_ {w : World} {v : Value} {l : List LHead} (hs : SHs w v l) (i : Nat) (hi : i < l.length) : ∃ a c cs, ∃ h : LHead, v = .slice (some a) l.length c ∧ l[i]? = some h ∧ LH w h cs ∧ ∀ j u, cs[j]? = some u → w.cell? ((a.add (i * 21)).add j) = some u := by
 obtain ⟨A, c, h1, _, _, _, h5⟩ := hs
 obtain ⟨a, cs, rfl, h6, h7⟩ := h5 i hi
 exact ⟨a, c, cs, l[i], h1, List.getElem?_eq_getElem hi, h6, h7⟩
def SomeI (w : World) (e : Ending) (w' : World) : Prop := (∃ n : Int, e = .returned (.int .i64 n)) ∧ Below w.heap.size w w'
theorem textsize_any (m : LMsg) (cs : List Value) (w : World) (hM : LM w m cs) (hB : MBd m) : Calls Tryz.prog 64 #[.agg cs.toArray] w (SomeI w) := by
 obtain ⟨resp, method, u, code, reason, version, heads, body, hasBody, compact⟩ := m
 obtain ⟨va, ul, vb, vc, vh, vd, rfl, hm, hu, hr, hv, hh, hbo, hcode⟩ := hM
 have HLU := hid hu
 have HMB := hid hB
 obtain ⟨ua, ub, uc, ud, ue, up, uq, rfl, k1, k2, k3, k4, k5, k6, k7, k8⟩ := hu
 obtain ⟨Am, cm, rfl, n1⟩ := hm.form
 obtain ⟨A0, c0, rfl, n4⟩ := k1.form
 obtain ⟨A1, c1, rfl, n5⟩ := k2.form
 obtain ⟨A4, c4, rfl, n6⟩ := k3.form
 obtain ⟨A5, c5, rfl, n7⟩ := k4.form
 obtain ⟨A6, c6, rfl, n8⟩ := k5.form
 obtain ⟨A8, c8, rfl, n9⟩ := k6.form
 obtain ⟨A9, c9, rfl, n10⟩ := k7.form
 obtain ⟨Ar, cr, rfl, n11⟩ := hr.form
 obtain ⟨Av, cv, rfl, n12⟩ := hv.form
 obtain ⟨Ah, ch, rfl, n13⟩ := hh.form
 obtain ⟨Ab, cb, rfl, n14⟩ := hbo.form
 have HX := hid hh
 simp only [List.cons_append, List.nil_append]
 obtain ⟨wb, hwb⟩ : ∃ wb, wb = w.alloc (.cells #[.bool resp, .slice Am method.length cm, .slice A0 u.scheme.length c0, .slice A1 u.raw.length c1, .bool u.star, .bool u.slashes, .slice A4 u.user.length c4, .slice A5 u.pass.length c5, .slice A6 u.host.length c6, .int .i64 u.port, .slice A8 u.params.length c8, .slice A9 u.hdrs.length c9, .int .i64 code, .slice Ar reason.length cr, .slice Av version.length cv, .slice Ah heads.length ch, .slice Ab body.length cb, .bool hasBody, .bool compact] 28) := ⟨_, rfl⟩
 have HWB := hid (show wb.heap[w.heap.size]? = some (.cells #[.bool resp, .slice Am method.length cm, .slice A0 u.scheme.length c0, .slice A1 u.raw.length c1, .bool u.star, .bool u.slashes, .slice A4 u.user.length c4, .slice A5 u.pass.length c5, .slice A6 u.host.length c6, .int .i64 u.port, .slice A8 u.params.length c8, .slice A9 u.hdrs.length c9, .int .i64 code, .slice Ar reason.length cr, .slice Av version.length cv, .slice Ah heads.length ch, .slice Ab body.length cb, .bool hasBody, .bool compact] 28 (0, 0)) by rw [hwb]; exact heap_alloc_new w _)
 have HB0 := hid (show Below w.heap.size w wb by rw [hwb]; exact (Below.refl _ w).alloc (Nat.le_refl _) _)
 have hsz : wb.heap.size = w.heap.size + 1 := by rw [hwb]; simp
 have HSZ := hid hsz
 have HBX := hid (show ∀ wx, Below wb.heap.size wb wx → wx.heap[w.heap.size]? = some (.cells #[.bool resp, .slice Am method.length cm, .slice A0 u.scheme.length c0, .slice A1 u.raw.length c1, .bool u.star, .bool u.slashes, .slice A4 u.user.length c4, .slice A5 u.pass.length c5, .slice A6 u.host.length c6, .int .i64 u.port, .slice A8 u.params.length c8, .slice A9 u.hdrs.length c9, .int .i64 code, .slice Ar reason.length cr, .slice Av version.length cv, .slice Ah heads.length ch, .slice Ab body.length cb, .bool hasBody, .bool compact] 28 (0, 0)) from fun wx h => (h.block w.heap.size (by rw [HSZ.out]; omega)).trans HWB.out)
 have HW := hid (show ∀ wx, Below wb.heap.size wb wx → Below w.heap.size w wx from fun wx h => HB0.out.trans (h.mono (by rw [HSZ.out]; omega)))
 have HST := hid (show ∀ wx wy, Below wb.heap.size wb wx → Below wx.heap.size wx wy → Below wb.heap.size wb wy from fun wx wy h k => h.trans (k.mono h.size))
 have HBb := hid (Below.refl wb.heap.size wb)
 have HUR := hid (show ∀ wx, Below wb.heap.size wb wx → Calls Tryz.prog 89 #[.agg #[.slice A0 u.scheme.length c0, .slice A1 u.raw.length c1, .bool u.star, .bool u.slashes, .slice A4 u.user.length c4, .slice A5 u.pass.length c5, .slice A6 u.host.length c6, .int .i64 u.port, .slice A8 u.params.length c8, .slice A9 u.hdrs.length c9]] wx (UTPost u wx) from fun wx h => uritext_any u _ wx (HLU.out.below (HW.out wx h)) HMB.out.1)
 obtain ⟨d0, d1, d2, d3, d4, d5, d6, d7, d8, d9, d10, d11, d12, d13, d14, d15, d16, d17, d18⟩ := blk19 HWB.out
 have hlt : w.heap.size < wb.heap.size := by omega
 clear hm hr hv hh hbo k1 k2 k3 k4 k5 k6 k7 k8 hsz hcode hB n1 n4 n5 n6 n7 n8 n9 n10 n11 n12 n14
 go_enter Tryz.func64, Tryz.ntmps64
 go_upto_region 1 with fail
 rw [← hwb]
 generalize Value.agg #[.bool resp, .slice Am method.length cm, .slice A0 u.scheme.length c0, .slice A1 u.raw.length c1, .bool u.star, .bool u.slashes, .slice A4 u.user.length c4, .slice A5 u.pass.length c5, .slice A6 u.host.length c6, .int .i64 u.port, .slice A8 u.params.length c8, .slice A9 u.hdrs.length c9, .int .i64 code, .slice Ar reason.length cr, .slice Av version.length cv, .slice Ah heads.length ch, .slice Ab body.length cb, .bool hasBody, .bool compact] = arg0
 clear hwb
 go_cut [3] (fun s wx => (∃ n : Int, s = .int .i64 n) ∧ Below wb.heap.size wb wx)
 case first =>
  go_region_held3 (fun w' => w'.cell? ⟨w.heap.size, 1, none⟩ = some (.slice Am method.length cm) ∧ w'.cell? ⟨w.heap.size, 2, none⟩ = some (.slice A0 u.scheme.length c0) ∧ w'.cell? ⟨w.heap.size, 3, none⟩ = some (.slice A1 u.raw.length c1) ∧ w'.cell? ⟨w.heap.size, 4, none⟩ = some (.bool u.star) ∧ w'.cell? ⟨w.heap.size, 5, none⟩ = some (.bool u.slashes) ∧ w'.cell? ⟨w.heap.size, 6, none⟩ = some (.slice A4 u.user.length c4) ∧ w'.cell? ⟨w.heap.size, 7, none⟩ = some (.slice A5 u.pass.length c5) ∧ w'.cell? ⟨w.heap.size, 8, none⟩ = some (.slice A6 u.host.length c6) ∧ w'.cell? ⟨w.heap.size, 9, none⟩ = some (.int .i64 u.port) ∧ w'.cell? ⟨w.heap.size, 10, none⟩ = some (.slice A8 u.params.length c8) ∧ w'.cell? ⟨w.heap.size, 11, none⟩ = some (.slice A9 u.hdrs.length c9) ∧ w'.cell? ⟨w.heap.size, 13, none⟩ = some (.slice Ar reason.length cr) ∧ w'.cell? ⟨w.heap.size, 16, none⟩ = some (.slice Ab body.length cb)) (first | exact ⟨d1, d2, d3, d4, d5, d6, d7, d8, d9, d10, d11, d13, d16⟩ | exact (by obtain ⟨x0, x1, x2, x3, x4, x5, x6, x7, x8, x9, x10, x11, x12, x13, x14, x15, x16, x17, x18⟩ := blk19 (HBX.out _ HB1.out); exact ⟨x1, x2, x3, x4, x5, x6, x7, x8, x9, x10, x11, x13, x16⟩))
   (first
    | (go_at_call 89; refine (HUR.out _ HBb.out.drew).mono ?_; rintro e w1 ⟨v1, l1, rfl, ho1, -, -, hb1⟩; have HB1 := hid (HST.out _ _ HBb.out.drew hb1); (obtain ⟨A1x, c1x, rfl⟩ := ho1.slice); clear ho1 hb1)
    | fail)
  go_wp2_with fail
  go_meet
  exact ⟨⟨_, rfl⟩, HB1.out⟩
 case rest =>
  obtain ⟨⟨nn, rfl⟩, hB⟩ := hcut
  have HB1' := hid hB
  clear hB d0 d1 d2 d3 d4 d5 d6 d7 d8 d9 d10 d11 d12 d13 d14 d15 d16 d17 d18
  go_wp2_with fail
  go_loopw [3, 4, 5] (fun nv iv _ wr => ∃ (n : Int) (k : Nat), nv = .int .i64 n ∧ iv = .int .i64 k ∧ k ≤ heads.length ∧ Below wb.heap.size wb wr) (fun _ iv _ _ => heads.length - (intOf iv).toNat)
  case atStart => exact ⟨_, 0, rfl, rfl, Nat.zero_le _, HB1'.out⟩
  case round =>
   obtain ⟨n, k, rfl, rfl, hk, hb⟩ := hrel
   have HBw := hid hb
   obtain ⟨wo, rfl⟩ : ∃ wo : World, wo = wr := ⟨_, rfl⟩
   have z15 := (blk19 (HBX.out wo HBw.out)).2.2.2.2.2.2.2.2.2.2.2.2.2.2.2.1
   clear hb
   by_cases hlt2 : k < heads.length
   ·by_cases hn : n ≤ 65536
    ·have hnd : decide (n ≤ 65536) = true := decide_eq_true hn
     obtain ⟨a, c', hcs, h, e1, hh, hL, hcell⟩ := HX.out.at_ k hlt2
     cases e1
     have HLT := hid (And.intro (Nat.succ_le_of_lt hlt2) hh)
     have HBDh := hid (HMB.out.2 h (List.mem_of_getElem? hh))
     obtain ⟨xa, xb, xc, xl, xp, xd, xe, xf, xg, rfl, g1, g2, g3, gu, g5, g6, g7, g8, g9, -⟩ := hL
     have HLh := hid (And.intro gu g5)
     obtain ⟨ya, yb, yc, yd, ye, yp, yq, rfl, y1, y2, y3, y4, y5, y6, y7, y8⟩ := gu
     obtain ⟨Bn, en, rfl, m1⟩ := g1.form
     obtain ⟨Bt, et, rfl, m2⟩ := g2.form
     obtain ⟨Bd, ed, rfl, m3⟩ := g3.form
     obtain ⟨B0, e0, rfl, m4⟩ := y1.form
     obtain ⟨B1, e1, rfl, m5⟩ := y2.form
     obtain ⟨B4, e4, rfl, m6⟩ := y3.form
     obtain ⟨B5, e5, rfl, m7⟩ := y4.form
     obtain ⟨B6, e6, rfl, m8⟩ := y5.form
     obtain ⟨B8, e8, rfl, m9⟩ := y6.form
     obtain ⟨B9, e9, rfl, m10⟩ := y7.form
     obtain ⟨Bp, ep, rfl, m11⟩ := g5.form
     obtain ⟨Bo, eo, rfl, m12⟩ := g6.form
     obtain ⟨Bv, ev, rfl, m13⟩ := g7.form
     obtain ⟨Br, er, rfl, m14⟩ := g8.form
     obtain ⟨Bh, eh, rfl, m15⟩ := g9.form
     have HBo := hid (HW.out wo HBw.out)
     have HCL := hid (show ∀ j v, (#[.int .i64 h.t, .slice Bn h.name.length en, .slice Bt h.text.length et, .slice Bd h.display.length ed, .slice B0 h.uri.scheme.length e0, .slice B1 h.uri.raw.length e1, .bool h.uri.star, .bool h.uri.slashes, .slice B4 h.uri.user.length e4, .slice B5 h.uri.pass.length e5, .slice B6 h.uri.host.length e6, .int .i64 h.uri.port, .slice B8 h.uri.params.length e8, .slice B9 h.uri.hdrs.length e9, .slice Bp h.params.length ep, .int .u32 h.num, .slice Bo h.proto.length eo, .slice Bv h.version.length ev, .slice Br h.transport.length er, .slice Bh h.host.length eh, .int .i64 h.port].toList : List Value)[j]? = some v → wo.cell? ((a.add (k * 21)).add j) = some v from fun j v hj => cell_at_below (hcell j v hj) HBo.out)
     have wl : wo.heap.size < (wo.alloc (.cells #[.int .i64 h.t, .slice Bn h.name.length en, .slice Bt h.text.length et, .slice Bd h.display.length ed, .slice B0 h.uri.scheme.length e0, .slice B1 h.uri.raw.length e1, .bool h.uri.star, .bool h.uri.slashes, .slice B4 h.uri.user.length e4, .slice B5 h.uri.pass.length e5, .slice B6 h.uri.host.length e6, .int .i64 h.uri.port, .slice B8 h.uri.params.length e8, .slice B9 h.uri.hdrs.length e9, .slice Bp h.params.length ep, .int .u32 h.num, .slice Bo h.proto.length eo, .slice Bv h.version.length ev, .slice Br h.transport.length er, .slice Bh h.host.length eh, .int .i64 h.port] 35)).heap.size := by simp
     have HNB := hid (show ∀ wx, Below (wo.alloc (.cells #[.int .i64 h.t, .slice Bn h.name.length en, .slice Bt h.text.length et, .slice Bd h.display.length ed, .slice B0 h.uri.scheme.length e0, .slice B1 h.uri.raw.length e1, .bool h.uri.star, .bool h.uri.slashes, .slice B4 h.uri.user.length e4, .slice B5 h.uri.pass.length e5, .slice B6 h.uri.host.length e6, .int .i64 h.uri.port, .slice B8 h.uri.params.length e8, .slice B9 h.uri.hdrs.length e9, .slice Bp h.params.length ep, .int .u32 h.num, .slice Bo h.proto.length eo, .slice Bv h.version.length ev, .slice Br h.transport.length er, .slice Bh h.host.length eh, .int .i64 h.port] 35)).heap.size (wo.alloc (.cells #[.int .i64 h.t, .slice Bn h.name.length en, .slice Bt h.text.length et, .slice Bd h.display.length ed, .slice B0 h.uri.scheme.length e0, .slice B1 h.uri.raw.length e1, .bool h.uri.star, .bool h.uri.slashes, .slice B4 h.uri.user.length e4, .slice B5 h.uri.pass.length e5, .slice B6 h.uri.host.length e6, .int .i64 h.uri.port, .slice B8 h.uri.params.length e8, .slice B9 h.uri.hdrs.length e9, .slice Bp h.params.length ep, .int .u32 h.num, .slice Bo h.proto.length eo, .slice Bv h.version.length ev, .slice Br h.transport.length er, .slice Bh h.host.length eh, .int .i64 h.port] 35)) wx → wx.heap[wo.heap.size]? = some (.cells #[.int .i64 h.t, .slice Bn h.name.length en, .slice Bt h.text.length et, .slice Bd h.display.length ed, .slice B0 h.uri.scheme.length e0, .slice B1 h.uri.raw.length e1, .bool h.uri.star, .bool h.uri.slashes, .slice B4 h.uri.user.length e4, .slice B5 h.uri.pass.length e5, .slice B6 h.uri.host.length e6, .int .i64 h.uri.port, .slice B8 h.uri.params.length e8, .slice B9 h.uri.hdrs.length e9, .slice Bp h.params.length ep, .int .u32 h.num, .slice Bo h.proto.length eo, .slice Bv h.version.length ev, .slice Br h.transport.length er, .slice Bh h.host.length eh, .int .i64 h.port] 35 (0, 0)) from fun wx h2 => (h2.block wo.heap.size (by simp)).trans (heap_alloc_new wo _))
     have HNW := hid (show ∀ wx, Below (wo.alloc (.cells #[.int .i64 h.t, .slice Bn h.name.length en, .slice Bt h.text.length et, .slice Bd h.display.length ed, .slice B0 h.uri.scheme.length e0, .slice B1 h.uri.raw.length e1, .bool h.uri.star, .bool h.uri.slashes, .slice B4 h.uri.user.length e4, .slice B5 h.uri.pass.length e5, .slice B6 h.uri.host.length e6, .int .i64 h.uri.port, .slice B8 h.uri.params.length e8, .slice B9 h.uri.hdrs.length e9, .slice Bp h.params.length ep, .int .u32 h.num, .slice Bo h.proto.length eo, .slice Bv h.version.length ev, .slice Br h.transport.length er, .slice Bh h.host.length eh, .int .i64 h.port] 35)).heap.size (wo.alloc (.cells #[.int .i64 h.t, .slice Bn h.name.length en, .slice Bt h.text.length et, .slice Bd h.display.length ed, .slice B0 h.uri.scheme.length e0, .slice B1 h.uri.raw.length e1, .bool h.uri.star, .bool h.uri.slashes, .slice B4 h.uri.user.length e4, .slice B5 h.uri.pass.length e5, .slice B6 h.uri.host.length e6, .int .i64 h.uri.port, .slice B8 h.uri.params.length e8, .slice B9 h.uri.hdrs.length e9, .slice Bp h.params.length ep, .int .u32 h.num, .slice Bo h.proto.length eo, .slice Bv h.version.length ev, .slice Br h.transport.length er, .slice Bh h.host.length eh, .int .i64 h.port] 35)) wx → Below wb.heap.size wb wx from fun wx h2 => (HBw.out.alloc HBw.out.size _).trans (h2.mono (Nat.le_trans HBw.out.size (by simp))))
     have HB20 := hid (Below.refl (wo.alloc (.cells #[.int .i64 h.t, .slice Bn h.name.length en, .slice Bt h.text.length et, .slice Bd h.display.length ed, .slice B0 h.uri.scheme.length e0, .slice B1 h.uri.raw.length e1, .bool h.uri.star, .bool h.uri.slashes, .slice B4 h.uri.user.length e4, .slice B5 h.uri.pass.length e5, .slice B6 h.uri.host.length e6, .int .i64 h.uri.port, .slice B8 h.uri.params.length e8, .slice B9 h.uri.hdrs.length e9, .slice Bp h.params.length ep, .int .u32 h.num, .slice Bo h.proto.length eo, .slice Bv h.version.length ev, .slice Br h.transport.length er, .slice Bh h.host.length eh, .int .i64 h.port] 35)).heap.size (wo.alloc (.cells #[.int .i64 h.t, .slice Bn h.name.length en, .slice Bt h.text.length et, .slice Bd h.display.length ed, .slice B0 h.uri.scheme.length e0, .slice B1 h.uri.raw.length e1, .bool h.uri.star, .bool h.uri.slashes, .slice B4 h.uri.user.length e4, .slice B5 h.uri.pass.length e5, .slice B6 h.uri.host.length e6, .int .i64 h.uri.port, .slice B8 h.uri.params.length e8, .slice B9 h.uri.hdrs.length e9, .slice Bp h.params.length ep, .int .u32 h.num, .slice Bo h.proto.length eo, .slice Bv h.version.length ev, .slice Br h.transport.length er, .slice Bh h.host.length eh, .int .i64 h.port] 35))).drew
     obtain ⟨r0, r1, r2, r3, r4, r5, r6, r7, r8, r9, r10, r11, r12, r13, r14, r15, r16, r17, r18, r19, r20⟩ := blk21 (heap_alloc_new wo (.cells #[.int .i64 h.t, .slice Bn h.name.length en, .slice Bt h.text.length et, .slice Bd h.display.length ed, .slice B0 h.uri.scheme.length e0, .slice B1 h.uri.raw.length e1, .bool h.uri.star, .bool h.uri.slashes, .slice B4 h.uri.user.length e4, .slice B5 h.uri.pass.length e5, .slice B6 h.uri.host.length e6, .int .i64 h.uri.port, .slice B8 h.uri.params.length e8, .slice B9 h.uri.hdrs.length e9, .slice Bp h.params.length ep, .int .u32 h.num, .slice Bo h.proto.length eo, .slice Bv h.version.length ev, .slice Br h.transport.length er, .slice Bh h.host.length eh, .int .i64 h.port] 35))
     have HU2 := hid (show ∀ wx, Below wb.heap.size wb wx → Calls Tryz.prog 89 #[.agg #[.slice B0 h.uri.scheme.length e0, .slice B1 h.uri.raw.length e1, .bool h.uri.star, .bool h.uri.slashes, .slice B4 h.uri.user.length e4, .slice B5 h.uri.pass.length e5, .slice B6 h.uri.host.length e6, .int .i64 h.uri.port, .slice B8 h.uri.params.length e8, .slice B9 h.uri.hdrs.length e9]] wx (UTPost h.uri wx) from fun wx h2 => uritext_any h.uri _ wx (HLh.out.1.below (HW.out wx h2)) HBDh.out.1)
     have HP2 := hid (show ∀ wx, Below wb.heap.size wb wx → Calls Tryz.prog 90 #[.slice Bp h.params.length ep, .int .u8 59] wx (JPost (lparT 59 h.params) wx) from fun wx h2 => partext_any _ 59 h.params wx (HLh.out.2.below (HW.out wx h2)) HBDh.out.2)
     clear g1 g2 g3 g5 g6 g7 g8 g9 y1 y2 y3 y4 y5 y6 y7 y8 hcell hh m1 m2 m3 m4 m5 m6 m7 m8 m9 m10 m11 m12 m13 m14 m15
     have hinf := hid (show (Tryz.prog.info? 35).map (·.size) = some (#[.int .i64 h.t, .slice Bn h.name.length en, .slice Bt h.text.length et, .slice Bd h.display.length ed, .slice B0 h.uri.scheme.length e0, .slice B1 h.uri.raw.length e1, .bool h.uri.star, .bool h.uri.slashes, .slice B4 h.uri.user.length e4, .slice B5 h.uri.pass.length e5, .slice B6 h.uri.host.length e6, .int .i64 h.uri.port, .slice B8 h.uri.params.length e8, .slice B9 h.uri.hdrs.length e9, .slice Bp h.params.length ep, .int .u32 h.num, .slice Bo h.proto.length eo, .slice Bv h.version.length ev, .slice Br h.transport.length er, .slice Bh h.host.length eh, .int .i64 h.port] : Array Value).size by kernel_rfl)
     have hone := hid (show (#[.int .i64 h.t, .slice Bn h.name.length en, .slice Bt h.text.length et, .slice Bd h.display.length ed, .slice B0 h.uri.scheme.length e0, .slice B1 h.uri.raw.length e1, .bool h.uri.star, .bool h.uri.slashes, .slice B4 h.uri.user.length e4, .slice B5 h.uri.pass.length e5, .slice B6 h.uri.host.length e6, .int .i64 h.uri.port, .slice B8 h.uri.params.length e8, .slice B9 h.uri.hdrs.length e9, .slice Bp h.params.length ep, .int .u32 h.num, .slice Bo h.proto.length eo, .slice Bv h.version.length ev, .slice Br h.transport.length er, .slice Bh h.host.length eh, .int .i64 h.port] : Array Value).all (·.oneCell') = true by simp [Value.oneCell'])
     have hund := Tryz.underlying35
     have HUN := hid hund
     clear hund
     go_wp2_with (first | (refine wpList_load_any (by rfl) 35 (.tmp 37) (by rfl) _ (by rfl) #[.int .i64 h.t, .slice Bn h.name.length en, .slice Bt h.text.length et, .slice Bd h.display.length ed, .slice B0 h.uri.scheme.length e0, .slice B1 h.uri.raw.length e1, .bool h.uri.star, .bool h.uri.slashes, .slice B4 h.uri.user.length e4, .slice B5 h.uri.pass.length e5, .slice B6 h.uri.host.length e6, .int .i64 h.uri.port, .slice B8 h.uri.params.length e8, .slice B9 h.uri.hdrs.length e9, .slice Bp h.params.length ep, .int .u32 h.num, .slice Bo h.proto.length eo, .slice Bv h.version.length ev, .slice Br h.transport.length er, .slice Bh h.host.length eh, .int .i64 h.port].toList _ HCL.out HUN.out (by rfl) hinf.out ?_) | (refine wpList_store_new (by rfl) 35 (.tmp 5) (.tmp 38) (by rfl) _ #[.int .i64 h.t, .slice Bn h.name.length en, .slice Bt h.text.length et, .slice Bd h.display.length ed, .slice B0 h.uri.scheme.length e0, .slice B1 h.uri.raw.length e1, .bool h.uri.star, .bool h.uri.slashes, .slice B4 h.uri.user.length e4, .slice B5 h.uri.pass.length e5, .slice B6 h.uri.host.length e6, .int .i64 h.uri.port, .slice B8 h.uri.params.length e8, .slice B9 h.uri.hdrs.length e9, .slice Bp h.params.length ep, .int .u32 h.num, .slice Bo h.proto.length eo, .slice Bv h.version.length ev, .slice Br h.transport.length er, .slice Bh h.host.length eh, .int .i64 h.port] (by rfl) (by rfl) (by rfl) hinf.out hone.out ?_) | fail)
     go_region_held3 (fun w' => w'.cell? ⟨wo.heap.size, 1, none⟩ = some (.slice Bn h.name.length en) ∧ w'.cell? ⟨wo.heap.size, 2, none⟩ = some (.slice Bt h.text.length et) ∧ w'.cell? ⟨wo.heap.size, 3, none⟩ = some (.slice Bd h.display.length ed) ∧ w'.cell? ⟨wo.heap.size, 4, none⟩ = some (.slice B0 h.uri.scheme.length e0) ∧ w'.cell? ⟨wo.heap.size, 5, none⟩ = some (.slice B1 h.uri.raw.length e1) ∧ w'.cell? ⟨wo.heap.size, 6, none⟩ = some (.bool h.uri.star) ∧ w'.cell? ⟨wo.heap.size, 7, none⟩ = some (.bool h.uri.slashes) ∧ w'.cell? ⟨wo.heap.size, 8, none⟩ = some (.slice B4 h.uri.user.length e4) ∧ w'.cell? ⟨wo.heap.size, 9, none⟩ = some (.slice B5 h.uri.pass.length e5) ∧ w'.cell? ⟨wo.heap.size, 10, none⟩ = some (.slice B6 h.uri.host.length e6) ∧ w'.cell? ⟨wo.heap.size, 11, none⟩ = some (.int .i64 h.uri.port) ∧ w'.cell? ⟨wo.heap.size, 12, none⟩ = some (.slice B8 h.uri.params.length e8) ∧ w'.cell? ⟨wo.heap.size, 13, none⟩ = some (.slice B9 h.uri.hdrs.length e9) ∧ w'.cell? ⟨wo.heap.size, 14, none⟩ = some (.slice Bp h.params.length ep) ∧ w'.cell? ⟨wo.heap.size, 18, none⟩ = some (.slice Br h.transport.length er) ∧ w'.cell? ⟨wo.heap.size, 19, none⟩ = some (.slice Bh h.host.length eh)) (first | exact ⟨r1, r2, r3, r4, r5, r6, r7, r8, r9, r10, r11, r12, r13, r14, r18, r19⟩ | exact (by obtain ⟨x0, x1, x2, x3, x4, x5, x6, x7, x8, x9, x10, x11, x12, x13, x14, x15, x16, x17, x18, x19, x20⟩ := blk21 (HNB.out _ HB22.out); exact ⟨x1, x2, x3, x4, x5, x6, x7, x8, x9, x10, x11, x12, x13, x14, x18, x19⟩) | exact (by obtain ⟨x0, x1, x2, x3, x4, x5, x6, x7, x8, x9, x10, x11, x12, x13, x14, x15, x16, x17, x18, x19, x20⟩ := blk21 (HNB.out _ HB21.out); exact ⟨x1, x2, x3, x4, x5, x6, x7, x8, x9, x10, x11, x12, x13, x14, x18, x19⟩))
      (first
       | (go_at_call 89; refine (HU2.out _ (HNW.out _ HB20.out)).mono ?_; rintro e w2 ⟨v2, l2, rfl, ho2, -, -, hb2⟩; have HB21 := hid (HB20.out.trans (hb2.mono HB20.out.size)); (obtain ⟨A2x, c2x, rfl⟩ := ho2.slice); clear ho2 hb2)
       | (go_at_call 90; refine (HP2.out _ (HNW.out _ HB21.out)).mono ?_; rintro e w3 ⟨v3, rfl, ho3, hb3⟩; have HB22 := hid (HB21.out.trans (hb3.mono HB21.out.size)); (obtain ⟨A3x, c3x, rfl⟩ := ho3.slice); clear ho3 hb3)
       | fail)
     go_wp2_with fail
     go_roundw
     case rel =>
      first | exact ⟨_, k + 1, rfl, by simp, HLT.out.1, HNW.out _ HB22.out⟩ | exact ⟨k + 1, by simp, HLT.out.1, HNW.out _ HB22.out⟩
     case measure => exact meas_step HLT.out.1 (by simp)
    ·have hnd : decide (n ≤ 65536) = false := decide_eq_false hn
     go_wp2
     go_ret
     exact ⟨⟨_, rfl⟩, HW.out _ HBw.out⟩
   ·go_wp2
    go_ret
    exact ⟨⟨_, rfl⟩, HW.out _ HBw.out⟩
def sip20B : Bytes := [83, 73, 80, 47, 50, 46, 48]
structure RMsg (m : LMsg) : Prop where
 many : m.heads.length ≤ 64
 hasBody : m.hasBody = true
 compact : m.compact = false
 body : m.body.length ≤ 8192
 version : m.version = sip20B
 res : m.resp = true → 100 ≤ m.code ∧ m.code ≤ 699 ∧ lineS m.reason = true
 req : m.resp = false → loudS m.method = true ∧ RUri m.uri
 heads : ∀ h ∈ m.heads, RHead h ∧ h.t ≠ 8
theorem take_more {P : LHead → Prop} {l : List LHead} {k : Nat} {h : LHead} (hh : l[k]? = some h) (ha : ∀ x ∈ l.take k, P x) (hp : P h) : ∀ x ∈ l.take (k + 1), P x := by
 intro x hx
 rw [List.take_add_one, hh] at hx
 simp only [Option.toList_some, List.mem_append, List.mem_singleton] at hx
 rcases hx with hx | rfl
 ·exact ha x hx
 ·exact hp
theorem ismsg_res (method : Bytes) (u : LUri) (code : Int) (reason version : Bytes) (heads : List LHead) (body : Bytes) (hasBody compact : Bool) (cs : List Value) (w : World) (hM : LM w ⟨true, method, u, code, reason, version, heads, body, hasBody, compact⟩ cs) (hB : MBd ⟨true, method, u, code, reason, version, heads, body, hasBody, compact⟩) : Calls Tryz.prog 33 #[.agg cs.toArray] w (Says (RMsg ⟨true, method, u, code, reason, version, heads, body, hasBody, compact⟩) w) := by
 have HMM := hid hM
 obtain ⟨va, ul, vb, vc, vh, vd, rfl, hm, hu, hr, hv, hh, hbo, hcode⟩ := hM
 have HLU := hid hu
 have HMB := hid hB
 obtain ⟨ua, ub, uc, ud, ue, up, uq, rfl, k1, k2, k3, k4, k5, k6, k7, k8⟩ := hu
 obtain ⟨Am, cm, rfl, n1⟩ := hm.form
 obtain ⟨A0, c0, rfl, n4⟩ := k1.form
 obtain ⟨A1, c1, rfl, n5⟩ := k2.form
 obtain ⟨A4, c4, rfl, n6⟩ := k3.form
 obtain ⟨A5, c5, rfl, n7⟩ := k4.form
 obtain ⟨A6, c6, rfl, n8⟩ := k5.form
 obtain ⟨A8, c8, rfl, n9⟩ := k6.form
 obtain ⟨A9, c9, rfl, n10⟩ := k7.form
 obtain ⟨Ar, cr, rfl, n11⟩ := hr.form
 obtain ⟨Av, cv, rfl, n12⟩ := hv.form
 obtain ⟨Ah, ch, rfl, n13⟩ := hh.form
 obtain ⟨Ab, cb, rfl, n14⟩ := hbo.form
 have HX := hid (And.intro hh (And.intro hm (And.intro hr hv)))
 simp only [List.cons_append, List.nil_append]
 obtain ⟨wb, hwb⟩ : ∃ wb, wb = w.alloc (.cells #[.bool true, .slice Am method.length cm, .slice A0 u.scheme.length c0, .slice A1 u.raw.length c1, .bool u.star, .bool u.slashes, .slice A4 u.user.length c4, .slice A5 u.pass.length c5, .slice A6 u.host.length c6, .int .i64 u.port, .slice A8 u.params.length c8, .slice A9 u.hdrs.length c9, .int .i64 code, .slice Ar reason.length cr, .slice Av version.length cv, .slice Ah heads.length ch, .slice Ab body.length cb, .bool hasBody, .bool compact] 28) := ⟨_, rfl⟩
 have HWB := hid (show wb.heap[w.heap.size]? = some (.cells #[.bool true, .slice Am method.length cm, .slice A0 u.scheme.length c0, .slice A1 u.raw.length c1, .bool u.star, .bool u.slashes, .slice A4 u.user.length c4, .slice A5 u.pass.length c5, .slice A6 u.host.length c6, .int .i64 u.port, .slice A8 u.params.length c8, .slice A9 u.hdrs.length c9, .int .i64 code, .slice Ar reason.length cr, .slice Av version.length cv, .slice Ah heads.length ch, .slice Ab body.length cb, .bool hasBody, .bool compact] 28 (0, 0)) by rw [hwb]; exact heap_alloc_new w _)
 have HB0 := hid (show Below w.heap.size w wb by rw [hwb]; exact (Below.refl _ w).alloc (Nat.le_refl _) _)
 have hsz : wb.heap.size = w.heap.size + 1 := by rw [hwb]; simp
 have HSZ := hid hsz
 have HBX := hid (show ∀ wx, Below wb.heap.size wb wx → wx.heap[w.heap.size]? = some (.cells #[.bool true, .slice Am method.length cm, .slice A0 u.scheme.length c0, .slice A1 u.raw.length c1, .bool u.star, .bool u.slashes, .slice A4 u.user.length c4, .slice A5 u.pass.length c5, .slice A6 u.host.length c6, .int .i64 u.port, .slice A8 u.params.length c8, .slice A9 u.hdrs.length c9, .int .i64 code, .slice Ar reason.length cr, .slice Av version.length cv, .slice Ah heads.length ch, .slice Ab body.length cb, .bool hasBody, .bool compact] 28 (0, 0)) from fun wx h => (h.block w.heap.size (by rw [HSZ.out]; omega)).trans HWB.out)
 have HW := hid (show ∀ wx, Below wb.heap.size wb wx → Below w.heap.size w wx from fun wx h => HB0.out.trans (h.mono (by rw [HSZ.out]; omega)))
 have HST := hid (show ∀ wx wy, Below wb.heap.size wb wx → Below wx.heap.size wx wy → Below wb.heap.size wb wy from fun wx wy h k => h.trans (k.mono h.size))
 have HBb := hid (Below.refl wb.heap.size wb)
 have HTS := hid (show ∀ wx, Below wb.heap.size wb wx → Calls Tryz.prog 64 #[.agg #[.bool true, .slice Am method.length cm, .slice A0 u.scheme.length c0, .slice A1 u.raw.length c1, .bool u.star, .bool u.slashes, .slice A4 u.user.length c4, .slice A5 u.pass.length c5, .slice A6 u.host.length c6, .int .i64 u.port, .slice A8 u.params.length c8, .slice A9 u.hdrs.length c9, .int .i64 code, .slice Ar reason.length cr, .slice Av version.length cv, .slice Ah heads.length ch, .slice Ab body.length cb, .bool hasBody, .bool compact]] wx (SomeI wx) from fun wx h => textsize_any ⟨true, method, u, code, reason, version, heads, body, hasBody, compact⟩ _ wx (HMM.out.below (HW.out wx h)) HMB.out)
 have HI1 := hid (show ∀ wx, Below wb.heap.size wb wx → Calls Tryz.prog 35 #[.slice Av version.length cv, .string ⟨#[83, 73, 80, 47, 50, 46, 48]⟩] wx fun e w' => e = .returned (.bool (decide (version = sip20B))) ∧ Below wx.heap.size wx w' from fun wx h => is_any _ version ⟨#[83, 73, 80, 47, 50, 46, 48]⟩ wx (HX.out.2.2.2.below (HW.out wx h)) (by decide))
 have HRE := hid (show ∀ wx, Below wb.heap.size wb wx → Calls Tryz.prog 61 #[.slice Ar reason.length cr] wx fun e w' => (∃ b, e = .returned (.bool b) ∧ (b = true → lineS reason = true)) ∧ Below wx.heap.size wx w' from fun wx h => isreason_any _ reason wx (HX.out.2.2.1.below (HW.out wx h)))
 obtain ⟨d0, d1, d2, d3, d4, d5, d6, d7, d8, d9, d10, d11, d12, d13, d14, d15, d16, d17, d18⟩ := blk19 HWB.out
 have hlt : w.heap.size < wb.heap.size := by omega
 clear hm hr hv hh hbo k1 k2 k3 k4 k5 k6 k7 k8 hsz hcode hB n1 n4 n5 n6 n7 n8 n9 n10 n11 n12 n14
 go_enter Tryz.func33, Tryz.ntmps33
 go_upto_region 1 with fail
 rw [← hwb]
 generalize Value.agg #[.bool true, .slice Am method.length cm, .slice A0 u.scheme.length c0, .slice A1 u.raw.length c1, .bool u.star, .bool u.slashes, .slice A4 u.user.length c4, .slice A5 u.pass.length c5, .slice A6 u.host.length c6, .int .i64 u.port, .slice A8 u.params.length c8, .slice A9 u.hdrs.length c9, .int .i64 code, .slice Ar reason.length cr, .slice Av version.length cv, .slice Ah heads.length ch, .slice Ab body.length cb, .bool hasBody, .bool compact] = arg0
 clear hwb
 by_cases h64 : heads.length ≤ 64
 ·have b64 : decide ((64 : Int) < (heads.length : Int)) = false := decide_eq_false (by omega)
  have H64 := hid h64
  clear h64
  cases hasBody
  ·go_wp2_with fail
   go_ret
   exact ⟨⟨false, rfl, fun h => by simp at h⟩, HW.out _ HBb.out⟩
  ·cases compact
   ·by_cases hbl : body.length ≤ 8192
    ·have bbl : decide ((8192 : Int) < (body.length : Int)) = false := decide_eq_false (by omega)
     have HBL := hid hbl
     clear hbl
     go_wp2_with fail
     refine (HI1.out _ HBb.out).mono ?_
     rintro e w1 ⟨rfl, hB⟩
     have HB1 := hid (HST.out _ _ HBb.out hB)
     clear hB d0 d1 d2 d3 d4 d5 d6 d7 d8 d9 d10 d11 d12 d13 d14 d15 d16 d17 d18
     obtain ⟨d0, d1, d2, d3, d4, d5, d6, d7, d8, d9, d10, d11, d12, d13, d14, d15, d16, d17, d18⟩ := blk19 (HBX.out w1 HB1.out)
     by_cases hve : version = sip20B
     ·have HVE := hid hve
      rw [decide_eq_true hve]
      clear hve
      by_cases hc0 : 100 ≤ code
      ·have bc0 : decide (code < 100) = false := decide_eq_false (by omega)
       by_cases hc1 : code ≤ 699
       ·have bc1 : decide (699 < code) = false := decide_eq_false (by omega)
        have HC := hid (And.intro hc0 hc1)
        clear hc0 hc1
        go_wp2_with fail
        refine (HRE.out _ HB1.out).mono ?_
        rintro e w2 ⟨⟨b, rfl, hb⟩, hB⟩
        have HB2 := hid (HST.out _ _ HB1.out hB)
        clear hB d0 d1 d2 d3 d4 d5 d6 d7 d8 d9 d10 d11 d12 d13 d14 d15 d16 d17 d18
        obtain ⟨d0, d1, d2, d3, d4, d5, d6, d7, d8, d9, d10, d11, d12, d13, d14, d15, d16, d17, d18⟩ := blk19 (HBX.out w2 HB2.out)
        cases b
        ·clear hb
         go_wp2_with fail
         go_ret
         exact ⟨⟨false, rfl, fun h => by simp at h⟩, HW.out _ HB2.out⟩
        ·have HRS := hid (hb rfl)
         clear hb
         go_wp2_with fail
         go_loopw [3] (fun iv wr => ∃ k : Nat, iv = .int .i64 k ∧ k ≤ heads.length ∧ (∀ x ∈ heads.take k, RHead x ∧ x.t ≠ 8) ∧ Below wb.heap.size wb wr) (fun iv _ => heads.length - (intOf iv).toNat)
         case atStart => exact ⟨0, rfl, Nat.zero_le _, fun x hx => absurd hx (by simp), HB2.out⟩
         case round =>
          obtain ⟨k, rfl, hk, hall, hb⟩ := hrel
          have HBw := hid hb
          have HALL := hid hall
          obtain ⟨wo, rfl⟩ : ∃ wo : World, wo = wr := ⟨_, rfl⟩
          clear hb hall d0 d1 d2 d3 d4 d5 d6 d7 d8 d9 d10 d11 d12 d13 d14 d15 d16 d17 d18
          obtain ⟨d0, d1, d2, d3, d4, d5, d6, d7, d8, d9, d10, d11, d12, d13, d14, d15, d16, d17, d18⟩ := blk19 (HBX.out wo HBw.out)
          by_cases hlt2 : k < heads.length
          ·obtain ⟨a, c', hcs, h, e1, hh, hL, hcell⟩ := HX.out.1.at_ k hlt2
           cases e1
           have HLT := hid (And.intro (Nat.succ_le_of_lt hlt2) hh)
           have HLh := hid hL
           obtain ⟨xa, xb, xc, xl, xp, xd, xe, xf, xg, rfl, g1, g2, g3, gu, g5, g6, g7, g8, g9, -⟩ := hL
           obtain ⟨ya, yb, yc, yd, ye, yp, yq, rfl, y1, y2, y3, y4, y5, y6, y7, y8⟩ := gu
           obtain ⟨Bn, en, rfl, m1⟩ := g1.form
           obtain ⟨Bt, et, rfl, m2⟩ := g2.form
           obtain ⟨Bd, ed, rfl, m3⟩ := g3.form
           obtain ⟨B0, e0, rfl, m4⟩ := y1.form
           obtain ⟨B1, e1, rfl, m5⟩ := y2.form
           obtain ⟨B4, e4, rfl, m6⟩ := y3.form
           obtain ⟨B5, e5, rfl, m7⟩ := y4.form
           obtain ⟨B6, e6, rfl, m8⟩ := y5.form
           obtain ⟨B8, e8, rfl, m9⟩ := y6.form
           obtain ⟨B9, e9, rfl, m10⟩ := y7.form
           obtain ⟨Bp, ep, rfl, m11⟩ := g5.form
           obtain ⟨Bo, eo, rfl, m12⟩ := g6.form
           obtain ⟨Bv, ev, rfl, m13⟩ := g7.form
           obtain ⟨Br, er, rfl, m14⟩ := g8.form
           obtain ⟨Bh, eh, rfl, m15⟩ := g9.form
           have HBo := hid (HW.out wo HBw.out)
           have q0 : wo.cell? (a.add (k * 21)) = some (.int .i64 h.t) := cell_at_below (hcell 0 _ rfl) HBo.out
           have HCL := hid (show ∀ j v, (#[.int .i64 h.t, .slice Bn h.name.length en, .slice Bt h.text.length et, .slice Bd h.display.length ed, .slice B0 h.uri.scheme.length e0, .slice B1 h.uri.raw.length e1, .bool h.uri.star, .bool h.uri.slashes, .slice B4 h.uri.user.length e4, .slice B5 h.uri.pass.length e5, .slice B6 h.uri.host.length e6, .int .i64 h.uri.port, .slice B8 h.uri.params.length e8, .slice B9 h.uri.hdrs.length e9, .slice Bp h.params.length ep, .int .u32 h.num, .slice Bo h.proto.length eo, .slice Bv h.version.length ev, .slice Br h.transport.length er, .slice Bh h.host.length eh, .int .i64 h.port].toList : List Value)[j]? = some v → wo.cell? ((a.add (k * 21)).add j) = some v from fun j v hj => cell_at_below (hcell j v hj) HBo.out)
           have hinf := hid (show (Tryz.prog.info? 35).map (·.size) = some (#[.int .i64 h.t, .slice Bn h.name.length en, .slice Bt h.text.length et, .slice Bd h.display.length ed, .slice B0 h.uri.scheme.length e0, .slice B1 h.uri.raw.length e1, .bool h.uri.star, .bool h.uri.slashes, .slice B4 h.uri.user.length e4, .slice B5 h.uri.pass.length e5, .slice B6 h.uri.host.length e6, .int .i64 h.uri.port, .slice B8 h.uri.params.length e8, .slice B9 h.uri.hdrs.length e9, .slice Bp h.params.length ep, .int .u32 h.num, .slice Bo h.proto.length eo, .slice Bv h.version.length ev, .slice Br h.transport.length er, .slice Bh h.host.length eh, .int .i64 h.port] : Array Value).size by kernel_rfl)
           have hund := Tryz.underlying35
           have HUN := hid hund
           clear hund
           have HIH := hid (show ∀ wx, Below wb.heap.size wb wx → Calls Tryz.prog 36 #[.agg #[.int .i64 h.t, .slice Bn h.name.length en, .slice Bt h.text.length et, .slice Bd h.display.length ed, .slice B0 h.uri.scheme.length e0, .slice B1 h.uri.raw.length e1, .bool h.uri.star, .bool h.uri.slashes, .slice B4 h.uri.user.length e4, .slice B5 h.uri.pass.length e5, .slice B6 h.uri.host.length e6, .int .i64 h.uri.port, .slice B8 h.uri.params.length e8, .slice B9 h.uri.hdrs.length e9, .slice Bp h.params.length ep, .int .u32 h.num, .slice Bo h.proto.length eo, .slice Bv h.version.length ev, .slice Br h.transport.length er, .slice Bh h.host.length eh, .int .i64 h.port]] wx (Says (RHead h) wx) from fun wx h2 => ishead_any h _ wx (HLh.out.below (HW.out wx h2)))
           clear g1 g2 g3 g5 g6 g7 g8 g9 y1 y2 y3 y4 y5 y6 y7 y8 hcell hh m1 m2 m3 m4 m5 m6 m7 m8 m9 m10 m11 m12 m13 m14 m15
           by_cases h8 : h.t = 8
           ·have h8b : (h.t == 8) = true := by rw [h8]; rfl
            clear h8
            go_wp2_with fail
            go_ret
            exact ⟨⟨false, rfl, fun h => by simp at h⟩, HW.out _ HBw.out⟩
           ·have h8b : (h.t == 8) = false := by rw [beq_eq_false_iff_ne]; exact h8
            have H8 := hid h8
            clear h8
            go_wp2_with (first | (refine wpList_load_any_w (by rfl) 35 (.tmp 82) (by rfl) _ (by rfl) #[.int .i64 h.t, .slice Bn h.name.length en, .slice Bt h.text.length et, .slice Bd h.display.length ed, .slice B0 h.uri.scheme.length e0, .slice B1 h.uri.raw.length e1, .bool h.uri.star, .bool h.uri.slashes, .slice B4 h.uri.user.length e4, .slice B5 h.uri.pass.length e5, .slice B6 h.uri.host.length e6, .int .i64 h.uri.port, .slice B8 h.uri.params.length e8, .slice B9 h.uri.hdrs.length e9, .slice Bp h.params.length ep, .int .u32 h.num, .slice Bo h.proto.length eo, .slice Bv h.version.length ev, .slice Br h.transport.length er, .slice Bh h.host.length eh, .int .i64 h.port].toList _ HCL.out HUN.out (by rfl) hinf.out ?_) | fail)
            refine (HIH.out _ HBw.out).mono ?_
            rintro e w4 ⟨⟨b, rfl, hb⟩, hB⟩
            have HB4 := hid (HST.out _ _ HBw.out hB)
            cases b
            ·clear hb
             go_wp2_with fail
             go_ret
             exact ⟨⟨false, rfl, fun h => by simp at h⟩, HW.out _ HB4.out⟩
            ·have HRH := hid (hb rfl)
             clear hb
             go_wp2_with fail
             go_roundw
             case rel => exact ⟨k + 1, by simp, HLT.out.1, take_more HLT.out.2 HALL.out ⟨HRH.out, H8.out⟩, HB4.out⟩
             case measure => exact meas_step HLT.out.1 (by simp)
          ·have HF := hid (show RMsg ⟨true, method, u, code, reason, version, heads, body, true, false⟩ from ⟨H64.out, rfl, rfl, HBL.out, HVE.out, fun _ => ⟨HC.out.1, HC.out.2, HRS.out⟩, fun h => by simp at h, fun x hx => HALL.out x (by rwa [List.take_of_length_le (by show heads.length ≤ k; omega)])⟩)
           have HCM := hid (show ∀ j v, (#[.bool true, .slice Am method.length cm, .slice A0 u.scheme.length c0, .slice A1 u.raw.length c1, .bool u.star, .bool u.slashes, .slice A4 u.user.length c4, .slice A5 u.pass.length c5, .slice A6 u.host.length c6, .int .i64 u.port, .slice A8 u.params.length c8, .slice A9 u.hdrs.length c9, .int .i64 code, .slice Ar reason.length cr, .slice Av version.length cv, .slice Ah heads.length ch, .slice Ab body.length cb, .bool true, .bool false].toList : List Value)[j]? = some v → wo.cell? ((⟨w.heap.size, 0, none⟩ : Addr).add j) = some v from fun j v hj => by
            rw [Addr.add_lit, Nat.zero_add, blk_cell (HBX.out _ HBw.out)]
            simpa using hj)
           have hinfm := hid (show (Tryz.prog.info? 28).map (·.size) = some (#[.bool true, .slice Am method.length cm, .slice A0 u.scheme.length c0, .slice A1 u.raw.length c1, .bool u.star, .bool u.slashes, .slice A4 u.user.length c4, .slice A5 u.pass.length c5, .slice A6 u.host.length c6, .int .i64 u.port, .slice A8 u.params.length c8, .slice A9 u.hdrs.length c9, .int .i64 code, .slice Ar reason.length cr, .slice Av version.length cv, .slice Ah heads.length ch, .slice Ab body.length cb, .bool true, .bool false] : Array Value).size by kernel_rfl)
           have hundm := Tryz.underlying28
           have HUM := hid hundm
           clear hundm
           go_wp2_with (first | (refine wpList_load_any (by rfl) 28 (.tmp 1) (by rfl) _ (by rfl) #[.bool true, .slice Am method.length cm, .slice A0 u.scheme.length c0, .slice A1 u.raw.length c1, .bool u.star, .bool u.slashes, .slice A4 u.user.length c4, .slice A5 u.pass.length c5, .slice A6 u.host.length c6, .int .i64 u.port, .slice A8 u.params.length c8, .slice A9 u.hdrs.length c9, .int .i64 code, .slice Ar reason.length cr, .slice Av version.length cv, .slice Ah heads.length ch, .slice Ab body.length cb, .bool true, .bool false].toList _ HCM.out HUM.out (by rfl) hinfm.out ?_) | fail)
           refine (HTS.out _ HBw.out).mono ?_
           rintro e w5 ⟨⟨n, rfl⟩, hB⟩
           have HB5 := hid (HST.out _ _ HBw.out hB)
           clear hB
           go_wp2_with fail
           go_ret
           exact ⟨⟨_, rfl, fun _ => HF.out⟩, HW.out _ HB5.out⟩
       ·have bc1 : decide (699 < code) = true := decide_eq_true (by omega)
        go_wp2_with fail
        go_ret
        exact ⟨⟨false, rfl, fun h => by simp at h⟩, HW.out _ HB1.out⟩
      ·have bc0 : decide (code < 100) = true := decide_eq_true (by omega)
       go_wp2_with fail
       go_ret
       exact ⟨⟨false, rfl, fun h => by simp at h⟩, HW.out _ HB1.out⟩
     ·rw [decide_eq_false hve]
      clear hve
      go_wp2_with fail
      go_ret
      exact ⟨⟨false, rfl, fun h => by simp at h⟩, HW.out _ HB1.out⟩
    ·have bbl : decide ((8192 : Int) < (body.length : Int)) = true := decide_eq_true (by omega)
     clear hbl
     go_wp2_with fail
     go_ret
     exact ⟨⟨false, rfl, fun h => by simp at h⟩, HW.out _ HBb.out⟩
   ·go_wp2_with fail
    go_ret
    exact ⟨⟨false, rfl, fun h => by simp at h⟩, HW.out _ HBb.out⟩
 ·have b64 : decide ((64 : Int) < (heads.length : Int)) = true := decide_eq_true (by omega)
  clear h64
  go_wp2_with fail
  go_ret
  exact ⟨⟨false, rfl, fun h => by simp at h⟩, HW.out _ HBb.out⟩
theorem ismsg_req (method : Bytes) (u : LUri) (code : Int) (reason version : Bytes) (heads : List LHead) (body : Bytes) (hasBody compact : Bool) (cs : List Value) (w : World) (hM : LM w ⟨false, method, u, code, reason, version, heads, body, hasBody, compact⟩ cs) (hB : MBd ⟨false, method, u, code, reason, version, heads, body, hasBody, compact⟩) : Calls Tryz.prog 33 #[.agg cs.toArray] w (Says (RMsg ⟨false, method, u, code, reason, version, heads, body, hasBody, compact⟩) w) := by
 have HMM := hid hM
 obtain ⟨va, ul, vb, vc, vh, vd, rfl, hm, hu, hr, hv, hh, hbo, hcode⟩ := hM
 have HLU := hid hu
 have HMB := hid hB
 obtain ⟨ua, ub, uc, ud, ue, up, uq, rfl, k1, k2, k3, k4, k5, k6, k7, k8⟩ := hu
 obtain ⟨Am, cm, rfl, n1⟩ := hm.form
 obtain ⟨A0, c0, rfl, n4⟩ := k1.form
 obtain ⟨A1, c1, rfl, n5⟩ := k2.form
 obtain ⟨A4, c4, rfl, n6⟩ := k3.form
 obtain ⟨A5, c5, rfl, n7⟩ := k4.form
 obtain ⟨A6, c6, rfl, n8⟩ := k5.form
 obtain ⟨A8, c8, rfl, n9⟩ := k6.form
 obtain ⟨A9, c9, rfl, n10⟩ := k7.form
 obtain ⟨Ar, cr, rfl, n11⟩ := hr.form
 obtain ⟨Av, cv, rfl, n12⟩ := hv.form
 obtain ⟨Ah, ch, rfl, n13⟩ := hh.form
 obtain ⟨Ab, cb, rfl, n14⟩ := hbo.form
 have HX := hid (And.intro hh (And.intro hm (And.intro hr hv)))
 simp only [List.cons_append, List.nil_append]
 obtain ⟨wb, hwb⟩ : ∃ wb, wb = w.alloc (.cells #[.bool false, .slice Am method.length cm, .slice A0 u.scheme.length c0, .slice A1 u.raw.length c1, .bool u.star, .bool u.slashes, .slice A4 u.user.length c4, .slice A5 u.pass.length c5, .slice A6 u.host.length c6, .int .i64 u.port, .slice A8 u.params.length c8, .slice A9 u.hdrs.length c9, .int .i64 code, .slice Ar reason.length cr, .slice Av version.length cv, .slice Ah heads.length ch, .slice Ab body.length cb, .bool hasBody, .bool compact] 28) := ⟨_, rfl⟩
 have HWB := hid (show wb.heap[w.heap.size]? = some (.cells #[.bool false, .slice Am method.length cm, .slice A0 u.scheme.length c0, .slice A1 u.raw.length c1, .bool u.star, .bool u.slashes, .slice A4 u.user.length c4, .slice A5 u.pass.length c5, .slice A6 u.host.length c6, .int .i64 u.port, .slice A8 u.params.length c8, .slice A9 u.hdrs.length c9, .int .i64 code, .slice Ar reason.length cr, .slice Av version.length cv, .slice Ah heads.length ch, .slice Ab body.length cb, .bool hasBody, .bool compact] 28 (0, 0)) by rw [hwb]; exact heap_alloc_new w _)
 have HB0 := hid (show Below w.heap.size w wb by rw [hwb]; exact (Below.refl _ w).alloc (Nat.le_refl _) _)
 have hsz : wb.heap.size = w.heap.size + 1 := by rw [hwb]; simp
 have HSZ := hid hsz
 have HBX := hid (show ∀ wx, Below wb.heap.size wb wx → wx.heap[w.heap.size]? = some (.cells #[.bool false, .slice Am method.length cm, .slice A0 u.scheme.length c0, .slice A1 u.raw.length c1, .bool u.star, .bool u.slashes, .slice A4 u.user.length c4, .slice A5 u.pass.length c5, .slice A6 u.host.length c6, .int .i64 u.port, .slice A8 u.params.length c8, .slice A9 u.hdrs.length c9, .int .i64 code, .slice Ar reason.length cr, .slice Av version.length cv, .slice Ah heads.length ch, .slice Ab body.length cb, .bool hasBody, .bool compact] 28 (0, 0)) from fun wx h => (h.block w.heap.size (by rw [HSZ.out]; omega)).trans HWB.out)
 have HW := hid (show ∀ wx, Below wb.heap.size wb wx → Below w.heap.size w wx from fun wx h => HB0.out.trans (h.mono (by rw [HSZ.out]; omega)))
 have HST := hid (show ∀ wx wy, Below wb.heap.size wb wx → Below wx.heap.size wx wy → Below wb.heap.size wb wy from fun wx wy h k => h.trans (k.mono h.size))
 have HBb := hid (Below.refl wb.heap.size wb)
 have HUR := hid (show ∀ wx, Below wb.heap.size wb wx → Calls Tryz.prog 63 #[.agg #[.slice A0 u.scheme.length c0, .slice A1 u.raw.length c1, .bool u.star, .bool u.slashes, .slice A4 u.user.length c4, .slice A5 u.pass.length c5, .slice A6 u.host.length c6, .int .i64 u.port, .slice A8 u.params.length c8, .slice A9 u.hdrs.length c9]] wx (Says (RUri u) wx) from fun wx h => isuri_any u _ wx (HLU.out.below (HW.out wx h)))
 have HTS := hid (show ∀ wx, Below wb.heap.size wb wx → Calls Tryz.prog 64 #[.agg #[.bool false, .slice Am method.length cm, .slice A0 u.scheme.length c0, .slice A1 u.raw.length c1, .bool u.star, .bool u.slashes, .slice A4 u.user.length c4, .slice A5 u.pass.length c5, .slice A6 u.host.length c6, .int .i64 u.port, .slice A8 u.params.length c8, .slice A9 u.hdrs.length c9, .int .i64 code, .slice Ar reason.length cr, .slice Av version.length cv, .slice Ah heads.length ch, .slice Ab body.length cb, .bool hasBody, .bool compact]] wx (SomeI wx) from fun wx h => textsize_any ⟨false, method, u, code, reason, version, heads, body, hasBody, compact⟩ _ wx (HMM.out.below (HW.out wx h)) HMB.out)
 have HI1 := hid (show ∀ wx, Below wb.heap.size wb wx → Calls Tryz.prog 35 #[.slice Av version.length cv, .string ⟨#[83, 73, 80, 47, 50, 46, 48]⟩] wx fun e w' => e = .returned (.bool (decide (version = sip20B))) ∧ Below wx.heap.size wx w' from fun wx h => is_any _ version ⟨#[83, 73, 80, 47, 50, 46, 48]⟩ wx (HX.out.2.2.2.below (HW.out wx h)) (by decide))
 have HLO := hid (show ∀ wx, Below wb.heap.size wb wx → Calls Tryz.prog 62 #[.slice Am method.length cm] wx fun e w' => e = .returned (.bool (loudS method)) ∧ w' = wx from fun wx h => isloud_any _ method wx (HX.out.2.1.below (HW.out wx h)))
 obtain ⟨d0, d1, d2, d3, d4, d5, d6, d7, d8, d9, d10, d11, d12, d13, d14, d15, d16, d17, d18⟩ := blk19 HWB.out
 have hlt : w.heap.size < wb.heap.size := by omega
 clear hm hr hv hh hbo k1 k2 k3 k4 k5 k6 k7 k8 hsz hcode hB n1 n4 n5 n6 n7 n8 n9 n10 n11 n12 n14
 go_enter Tryz.func33, Tryz.ntmps33
 go_upto_region 1 with fail
 rw [← hwb]
 generalize Value.agg #[.bool false, .slice Am method.length cm, .slice A0 u.scheme.length c0, .slice A1 u.raw.length c1, .bool u.star, .bool u.slashes, .slice A4 u.user.length c4, .slice A5 u.pass.length c5, .slice A6 u.host.length c6, .int .i64 u.port, .slice A8 u.params.length c8, .slice A9 u.hdrs.length c9, .int .i64 code, .slice Ar reason.length cr, .slice Av version.length cv, .slice Ah heads.length ch, .slice Ab body.length cb, .bool hasBody, .bool compact] = arg0
 clear hwb
 by_cases h64 : heads.length ≤ 64
 ·have b64 : decide ((64 : Int) < (heads.length : Int)) = false := decide_eq_false (by omega)
  have H64 := hid h64
  clear h64
  cases hasBody
  ·go_wp2_with fail
   go_ret
   exact ⟨⟨false, rfl, fun h => by simp at h⟩, HW.out _ HBb.out⟩
  ·cases compact
   ·by_cases hbl : body.length ≤ 8192
    ·have bbl : decide ((8192 : Int) < (body.length : Int)) = false := decide_eq_false (by omega)
     have HBL := hid hbl
     clear hbl
     go_wp2_with fail
     refine (HI1.out _ HBb.out).mono ?_
     rintro e w1 ⟨rfl, hB⟩
     have HB1 := hid (HST.out _ _ HBb.out hB)
     clear hB d0 d1 d2 d3 d4 d5 d6 d7 d8 d9 d10 d11 d12 d13 d14 d15 d16 d17 d18
     obtain ⟨d0, d1, d2, d3, d4, d5, d6, d7, d8, d9, d10, d11, d12, d13, d14, d15, d16, d17, d18⟩ := blk19 (HBX.out w1 HB1.out)
     by_cases hve : version = sip20B
     ·have HVE := hid hve
      rw [decide_eq_true hve]
      clear hve
      cases hlo : loudS method
      ·go_wp2_with (first | (go_at_call 62; refine (HLO.out _ HB1.out).mono ?_; rintro e wq ⟨rfl, rfl⟩; rw [hlo]) | fail)
       go_ret
       exact ⟨⟨false, rfl, fun h => by simp at h⟩, HW.out _ HB1.out⟩
      ·go_wp2_with (first | (go_at_call 62; refine (HLO.out _ HB1.out).mono ?_; rintro e wq ⟨rfl, rfl⟩; rw [hlo]) | fail)
       refine (HUR.out _ HB1.out).mono ?_
       rintro e w2 ⟨⟨b, rfl, hb⟩, hB⟩
       have HB2 := hid (HST.out _ _ HB1.out hB)
       clear hB d0 d1 d2 d3 d4 d5 d6 d7 d8 d9 d10 d11 d12 d13 d14 d15 d16 d17 d18
       obtain ⟨d0, d1, d2, d3, d4, d5, d6, d7, d8, d9, d10, d11, d12, d13, d14, d15, d16, d17, d18⟩ := blk19 (HBX.out w2 HB2.out)
       cases b
       ·clear hb
        go_wp2_with fail
        go_ret
        exact ⟨⟨false, rfl, fun h => by simp at h⟩, HW.out _ HB2.out⟩
       ·have HRU := hid (And.intro hlo (hb rfl))
        clear hb
        go_wp2_with fail
        go_loopw [3] (fun iv wr => ∃ k : Nat, iv = .int .i64 k ∧ k ≤ heads.length ∧ (∀ x ∈ heads.take k, RHead x ∧ x.t ≠ 8) ∧ Below wb.heap.size wb wr) (fun iv _ => heads.length - (intOf iv).toNat)
        case atStart => exact ⟨0, rfl, Nat.zero_le _, fun x hx => absurd hx (by simp), HB2.out⟩
        case round =>
         obtain ⟨k, rfl, hk, hall, hb⟩ := hrel
         have HBw := hid hb
         have HALL := hid hall
         obtain ⟨wo, rfl⟩ : ∃ wo : World, wo = wr := ⟨_, rfl⟩
         clear hb hall d0 d1 d2 d3 d4 d5 d6 d7 d8 d9 d10 d11 d12 d13 d14 d15 d16 d17 d18
         obtain ⟨d0, d1, d2, d3, d4, d5, d6, d7, d8, d9, d10, d11, d12, d13, d14, d15, d16, d17, d18⟩ := blk19 (HBX.out wo HBw.out)
         by_cases hlt2 : k < heads.length
         ·obtain ⟨a, c', hcs, h, e1, hh, hL, hcell⟩ := HX.out.1.at_ k hlt2
          cases e1
          have HLT := hid (And.intro (Nat.succ_le_of_lt hlt2) hh)
          have HLh := hid hL
          obtain ⟨xa, xb, xc, xl, xp, xd, xe, xf, xg, rfl, g1, g2, g3, gu, g5, g6, g7, g8, g9, -⟩ := hL
          obtain ⟨ya, yb, yc, yd, ye, yp, yq, rfl, y1, y2, y3, y4, y5, y6, y7, y8⟩ := gu
          obtain ⟨Bn, en, rfl, m1⟩ := g1.form
          obtain ⟨Bt, et, rfl, m2⟩ := g2.form
          obtain ⟨Bd, ed, rfl, m3⟩ := g3.form
          obtain ⟨B0, e0, rfl, m4⟩ := y1.form
          obtain ⟨B1, e1, rfl, m5⟩ := y2.form
          obtain ⟨B4, e4, rfl, m6⟩ := y3.form
          obtain ⟨B5, e5, rfl, m7⟩ := y4.form
          obtain ⟨B6, e6, rfl, m8⟩ := y5.form
          obtain ⟨B8, e8, rfl, m9⟩ := y6.form
          obtain ⟨B9, e9, rfl, m10⟩ := y7.form
          obtain ⟨Bp, ep, rfl, m11⟩ := g5.form
          obtain ⟨Bo, eo, rfl, m12⟩ := g6.form
          obtain ⟨Bv, ev, rfl, m13⟩ := g7.form
          obtain ⟨Br, er, rfl, m14⟩ := g8.form
          obtain ⟨Bh, eh, rfl, m15⟩ := g9.form
          have HBo := hid (HW.out wo HBw.out)
          have q0 : wo.cell? (a.add (k * 21)) = some (.int .i64 h.t) := cell_at_below (hcell 0 _ rfl) HBo.out
          have HCL := hid (show ∀ j v, (#[.int .i64 h.t, .slice Bn h.name.length en, .slice Bt h.text.length et, .slice Bd h.display.length ed, .slice B0 h.uri.scheme.length e0, .slice B1 h.uri.raw.length e1, .bool h.uri.star, .bool h.uri.slashes, .slice B4 h.uri.user.length e4, .slice B5 h.uri.pass.length e5, .slice B6 h.uri.host.length e6, .int .i64 h.uri.port, .slice B8 h.uri.params.length e8, .slice B9 h.uri.hdrs.length e9, .slice Bp h.params.length ep, .int .u32 h.num, .slice Bo h.proto.length eo, .slice Bv h.version.length ev, .slice Br h.transport.length er, .slice Bh h.host.length eh, .int .i64 h.port].toList : List Value)[j]? = some v → wo.cell? ((a.add (k * 21)).add j) = some v from fun j v hj => cell_at_below (hcell j v hj) HBo.out)
          have hinf := hid (show (Tryz.prog.info? 35).map (·.size) = some (#[.int .i64 h.t, .slice Bn h.name.length en, .slice Bt h.text.length et, .slice Bd h.display.length ed, .slice B0 h.uri.scheme.length e0, .slice B1 h.uri.raw.length e1, .bool h.uri.star, .bool h.uri.slashes, .slice B4 h.uri.user.length e4, .slice B5 h.uri.pass.length e5, .slice B6 h.uri.host.length e6, .int .i64 h.uri.port, .slice B8 h.uri.params.length e8, .slice B9 h.uri.hdrs.length e9, .slice Bp h.params.length ep, .int .u32 h.num, .slice Bo h.proto.length eo, .slice Bv h.version.length ev, .slice Br h.transport.length er, .slice Bh h.host.length eh, .int .i64 h.port] : Array Value).size by kernel_rfl)
          have hund := Tryz.underlying35
          have HUN := hid hund
          clear hund
          have HIH := hid (show ∀ wx, Below wb.heap.size wb wx → Calls Tryz.prog 36 #[.agg #[.int .i64 h.t, .slice Bn h.name.length en, .slice Bt h.text.length et, .slice Bd h.display.length ed, .slice B0 h.uri.scheme.length e0, .slice B1 h.uri.raw.length e1, .bool h.uri.star, .bool h.uri.slashes, .slice B4 h.uri.user.length e4, .slice B5 h.uri.pass.length e5, .slice B6 h.uri.host.length e6, .int .i64 h.uri.port, .slice B8 h.uri.params.length e8, .slice B9 h.uri.hdrs.length e9, .slice Bp h.params.length ep, .int .u32 h.num, .slice Bo h.proto.length eo, .slice Bv h.version.length ev, .slice Br h.transport.length er, .slice Bh h.host.length eh, .int .i64 h.port]] wx (Says (RHead h) wx) from fun wx h2 => ishead_any h _ wx (HLh.out.below (HW.out wx h2)))
          clear g1 g2 g3 g5 g6 g7 g8 g9 y1 y2 y3 y4 y5 y6 y7 y8 hcell hh m1 m2 m3 m4 m5 m6 m7 m8 m9 m10 m11 m12 m13 m14 m15
          by_cases h8 : h.t = 8
          ·have h8b : (h.t == 8) = true := by rw [h8]; rfl
           clear h8
           go_wp2_with fail
           go_ret
           exact ⟨⟨false, rfl, fun h => by simp at h⟩, HW.out _ HBw.out⟩
          ·have h8b : (h.t == 8) = false := by rw [beq_eq_false_iff_ne]; exact h8
           have H8 := hid h8
           clear h8
           go_wp2_with (first | (refine wpList_load_any_w (by rfl) 35 (.tmp 82) (by rfl) _ (by rfl) #[.int .i64 h.t, .slice Bn h.name.length en, .slice Bt h.text.length et, .slice Bd h.display.length ed, .slice B0 h.uri.scheme.length e0, .slice B1 h.uri.raw.length e1, .bool h.uri.star, .bool h.uri.slashes, .slice B4 h.uri.user.length e4, .slice B5 h.uri.pass.length e5, .slice B6 h.uri.host.length e6, .int .i64 h.uri.port, .slice B8 h.uri.params.length e8, .slice B9 h.uri.hdrs.length e9, .slice Bp h.params.length ep, .int .u32 h.num, .slice Bo h.proto.length eo, .slice Bv h.version.length ev, .slice Br h.transport.length er, .slice Bh h.host.length eh, .int .i64 h.port].toList _ HCL.out HUN.out (by rfl) hinf.out ?_) | fail)
           refine (HIH.out _ HBw.out).mono ?_
           rintro e w4 ⟨⟨b, rfl, hb⟩, hB⟩
           have HB4 := hid (HST.out _ _ HBw.out hB)
           cases b
           ·clear hb
            go_wp2_with fail
            go_ret
            exact ⟨⟨false, rfl, fun h => by simp at h⟩, HW.out _ HB4.out⟩
           ·have HRH := hid (hb rfl)
            clear hb
            go_wp2_with fail
            go_roundw
            case rel => exact ⟨k + 1, by simp, HLT.out.1, take_more HLT.out.2 HALL.out ⟨HRH.out, H8.out⟩, HB4.out⟩
            case measure => exact meas_step HLT.out.1 (by simp)
         ·have HF := hid (show RMsg ⟨false, method, u, code, reason, version, heads, body, true, false⟩ from ⟨H64.out, rfl, rfl, HBL.out, HVE.out, fun h => by simp at h, fun _ => HRU.out, fun x hx => HALL.out x (by rwa [List.take_of_length_le (by show heads.length ≤ k; omega)])⟩)
          have HCM := hid (show ∀ j v, (#[.bool false, .slice Am method.length cm, .slice A0 u.scheme.length c0, .slice A1 u.raw.length c1, .bool u.star, .bool u.slashes, .slice A4 u.user.length c4, .slice A5 u.pass.length c5, .slice A6 u.host.length c6, .int .i64 u.port, .slice A8 u.params.length c8, .slice A9 u.hdrs.length c9, .int .i64 code, .slice Ar reason.length cr, .slice Av version.length cv, .slice Ah heads.length ch, .slice Ab body.length cb, .bool true, .bool false].toList : List Value)[j]? = some v → wo.cell? ((⟨w.heap.size, 0, none⟩ : Addr).add j) = some v from fun j v hj => by
           rw [Addr.add_lit, Nat.zero_add, blk_cell (HBX.out _ HBw.out)]
           simpa using hj)
          have hinfm := hid (show (Tryz.prog.info? 28).map (·.size) = some (#[.bool false, .slice Am method.length cm, .slice A0 u.scheme.length c0, .slice A1 u.raw.length c1, .bool u.star, .bool u.slashes, .slice A4 u.user.length c4, .slice A5 u.pass.length c5, .slice A6 u.host.length c6, .int .i64 u.port, .slice A8 u.params.length c8, .slice A9 u.hdrs.length c9, .int .i64 code, .slice Ar reason.length cr, .slice Av version.length cv, .slice Ah heads.length ch, .slice Ab body.length cb, .bool true, .bool false] : Array Value).size by kernel_rfl)
          have hundm := Tryz.underlying28
          have HUM := hid hundm
          clear hundm
          go_wp2_with (first | (refine wpList_load_any (by rfl) 28 (.tmp 1) (by rfl) _ (by rfl) #[.bool false, .slice Am method.length cm, .slice A0 u.scheme.length c0, .slice A1 u.raw.length c1, .bool u.star, .bool u.slashes, .slice A4 u.user.length c4, .slice A5 u.pass.length c5, .slice A6 u.host.length c6, .int .i64 u.port, .slice A8 u.params.length c8, .slice A9 u.hdrs.length c9, .int .i64 code, .slice Ar reason.length cr, .slice Av version.length cv, .slice Ah heads.length ch, .slice Ab body.length cb, .bool true, .bool false].toList _ HCM.out HUM.out (by rfl) hinfm.out ?_) | fail)
          refine (HTS.out _ HBw.out).mono ?_
          rintro e w5 ⟨⟨n, rfl⟩, hB⟩
          have HB5 := hid (HST.out _ _ HBw.out hB)
          clear hB
          go_wp2_with fail
          go_ret
          exact ⟨⟨_, rfl, fun _ => HF.out⟩, HW.out _ HB5.out⟩
     ·rw [decide_eq_false hve]
      clear hve
      go_wp2_with fail
      go_ret
      exact ⟨⟨false, rfl, fun h => by simp at h⟩, HW.out _ HB1.out⟩
    ·have bbl : decide ((8192 : Int) < (body.length : Int)) = true := decide_eq_true (by omega)
     clear hbl
     go_wp2_with fail
     go_ret
     exact ⟨⟨false, rfl, fun h => by simp at h⟩, HW.out _ HBb.out⟩
   ·go_wp2_with fail
    go_ret
    exact ⟨⟨false, rfl, fun h => by simp at h⟩, HW.out _ HBb.out⟩
 ·have b64 : decide ((64 : Int) < (heads.length : Int)) = true := decide_eq_true (by omega)
  clear h64
  go_wp2_with fail
  go_ret
  exact ⟨⟨false, rfl, fun h => by simp at h⟩, HW.out _ HBb.out⟩
theorem ismsg_any (m : LMsg) (cs : List Value) (w : World) (hM : LM w m cs) (hB : MBd m) : Calls Tryz.prog 33 #[.agg cs.toArray] w (Says (RMsg m) w) := by
 obtain ⟨resp, method, u, code, reason, version, heads, body, hasBody, compact⟩ := m
 cases resp
 ·exact ismsg_req method u code reason version heads body hasBody compact cs w hM hB
 ·exact ismsg_res method u code reason version heads body hasBody compact cs w hM hB
def nameS (t : Int) : Bytes :=
 if t = 1 then [84, 111]
 else if t = 2 then [70, 114, 111, 109]
 else if t = 3 then [67, 111, 110, 116, 97, 99, 116]
 else if t = 4 then [67, 97, 108, 108, 45, 73, 68]
 else if t = 5 then [67, 83, 101, 113]
 else if t = 6 then [77, 97, 120, 45, 70, 111, 114, 119, 97, 114, 100, 115]
 else if t = 7 then [69, 120, 112, 105, 114, 101, 115]
 else if t = 8 then [67, 111, 110, 116, 101, 110, 116, 45, 76, 101, 110, 103, 116, 104]
 else if t = 9 then [86, 105, 97]
 else if t = 10 then [67, 111, 110, 116, 101, 110, 116, 45, 84, 121, 112, 101]
 else if t = 11 then [82, 111, 117, 116, 101]
 else if t = 12 then [82, 101, 99, 111, 114, 100, 45, 82, 111, 117, 116, 101]
 else if t = 13 then [82, 101, 102, 101, 114, 45, 84, 111]
 else if t = 14 then [82, 101, 102, 101, 114, 114, 101, 100, 45, 66, 121]
 else []
theorem nameof_any (t : Int) (w : World) : Calls Tryz.prog 50 #[.int .i64 t] w fun e w' => e = .returned (.string ⟨(nameS t).toArray⟩) ∧ w' = w := by
 obtain ⟨r, hr⟩ : ∃ r, r = nameS t := ⟨_, rfl⟩
 have HR := hid hr
 rw [← hr]
 clear hr
 by_cases hx : 1 ≤ t ∧ t ≤ 14
 ·rcases (show t = 1 ∨ t = 2 ∨ t = 3 ∨ t = 4 ∨ t = 5 ∨ t = 6 ∨ t = 7 ∨ t = 8 ∨ t = 9 ∨ t = 10 ∨ t = 11 ∨ t = 12 ∨ t = 13 ∨ t = 14 by omega) with rfl | rfl | rfl | rfl | rfl | rfl | rfl | rfl | rfl | rfl | rfl | rfl | rfl | rfl
  all_goals
   (go_enter Tryz.func50, Tryz.ntmps50
    go_wp2
    go_ret
    exact ⟨by rw [HR.out]; rfl, rfl⟩)
 ·have e1 : (t == 1) = false := by rw [beq_eq_false_iff_ne]; omega
  have e2 : (t == 2) = false := by rw [beq_eq_false_iff_ne]; omega
  have e3 : (t == 3) = false := by rw [beq_eq_false_iff_ne]; omega
  have e4 : (t == 4) = false := by rw [beq_eq_false_iff_ne]; omega
  have e5 : (t == 5) = false := by rw [beq_eq_false_iff_ne]; omega
  have e6 : (t == 6) = false := by rw [beq_eq_false_iff_ne]; omega
  have e7 : (t == 7) = false := by rw [beq_eq_false_iff_ne]; omega
  have e8 : (t == 8) = false := by rw [beq_eq_false_iff_ne]; omega
  have e9 : (t == 9) = false := by rw [beq_eq_false_iff_ne]; omega
  have e10 : (t == 10) = false := by rw [beq_eq_false_iff_ne]; omega
  have e11 : (t == 11) = false := by rw [beq_eq_false_iff_ne]; omega
  have e12 : (t == 12) = false := by rw [beq_eq_false_iff_ne]; omega
  have e13 : (t == 13) = false := by rw [beq_eq_false_iff_ne]; omega
  have e14 : (t == 14) = false := by rw [beq_eq_false_iff_ne]; omega
  have hn : nameS t = [] := by
   unfold nameS
   repeat rw [if_neg (by omega)]
  have HN := hid (HR.out.trans hn)
  clear hx hn
  go_enter Tryz.func50, Tryz.ntmps50
  go_wp2
  go_ret
  exact ⟨by rw [HN.out]; rfl, rfl⟩
theorem fits4_any (vk vv : Value) (p : Bytes × Bytes) (w : World) (hk : SB w vk p.1) (hv : SB w vv p.2) : Calls Tryz.prog 87 #[.agg #[vk, vv]] w (SomeB w) := by
 obtain ⟨Ak, ck, rfl, nk⟩ := hk.form
 obtain ⟨Av, cv, rfl, nv⟩ := hv.form
 have HB := hid (show ∀ t, Below w.heap.size w (w.alloc (.cells #[.slice Ak p.1.length ck, .slice Av p.2.length cv] t)) from fun t => (Below.refl _ w).alloc (Nat.le_refl _) _)
 clear hk hv nk nv
 go_enter Tryz.func87, Tryz.ntmps87
 go_wp2
 all_goals
  (go_ret
   exact ⟨⟨_, rfl⟩, HB.out _⟩)
theorem fits3_any (v : Value) (l : BKVs) (w : World) (hS : SK w v l) : Calls Tryz.prog 60 #[v] w (SomeB w) := by
 have HS := hid hS
 obtain ⟨A, c, rfl, hlen⟩ := hS.form
 clear hS
 by_cases hbig : (2147483647 : Int) < l.length
 ·go_enter Tryz.func60, Tryz.ntmps60
  go_wp2
  go_ret
  exact ⟨⟨_, rfl⟩, Below.refl _ _⟩
 ·go_enter Tryz.func60, Tryz.ntmps60
  go_wp2_with fail
  go_loopw [10] (fun i wr => ∃ k : Nat, k ≤ l.length ∧ i = .int .i64 k ∧ Below w.heap.size w wr) (fun i _ => l.length - (intOf i).toNat)
  case atStart => exact ⟨0, Nat.zero_le _, rfl, Below.refl _ _⟩
  case round =>
   obtain ⟨k, hk, rfl, hb⟩ := hrel
   have HB := hid hb
   obtain ⟨wo, rfl⟩ : ∃ wo : World, wo = wr := ⟨_, rfl⟩
   clear hb
   by_cases hlt : k < l.length
   ·obtain ⟨a, c', vk, vv, p, e1, hc0, hc1, hk1, hv1, hp⟩ := HS.out.at_ k hlt
    cases e1
    have HLT := hid (Nat.succ_le_of_lt hlt)
    have KV := hid (And.intro (hk1.below HB.out) (hv1.below HB.out))
    obtain ⟨Ak, ck, rfl, nk⟩ := hk1.form
    obtain ⟨Av, cv, rfl, nv⟩ := hv1.form
    have d0 := cell_at_below hc0 HB.out
    have d1 := cell_at_below hc1 HB.out
    clear hc0 hc1 hk1 hv1 hp nk nv
    have HB1 := hid (show ∀ t, Below wo.heap.size wo (wo.alloc (.cells #[.slice Ak p.1.length ck, .slice Av p.2.length cv] t)) from fun t => (Below.refl _ wo).alloc (Nat.le_refl _) _)
    have HF := hid (show ∀ wx, Below wo.heap.size wo wx → Calls Tryz.prog 87 #[.agg #[.slice Ak p.1.length ck, .slice Av p.2.length cv]] wx (SomeB wx) from fun wx h => fits4_any _ _ p wx (KV.out.1.below h) (KV.out.2.below h))
    go_wp2_with fail
    refine (HF.out _ (HB1.out _)).mono ?_
    rintro e w1 ⟨⟨b, rfl⟩, hb1⟩
    have HB2 := hid (HB.out.trans (((HB1.out _).trans (hb1.mono (HB1.out _).size)).mono HB.out.size))
    clear hb1
    cases b
    ·go_wp2
     go_ret
     exact ⟨⟨_, rfl⟩, HB2.out⟩
    ·go_wp2
     go_roundw
     case rel => exact ⟨k + 1, HLT.out, by simp, HB2.out⟩
     case measure => exact meas_step HLT.out (by simp)
   ·go_wp2
    go_ret
    exact ⟨⟨_, rfl⟩, HB.out⟩
theorem fits2_any (u : LUri) (cs : List Value) (w : World) (hU : LU w u cs) : Calls Tryz.prog 31 #[.agg cs.toArray] w (SomeB w) := by
 obtain ⟨va, vb, vc, vd, ve, vp, vq, rfl, ha, hb, hc, hd, he, hp, hq, h64⟩ := hU
 have HA := hid (And.intro hp hq)
 obtain ⟨A0, c0, rfl, n0⟩ := ha.form
 obtain ⟨A1, c1, rfl, n1⟩ := hb.form
 obtain ⟨A4, c4, rfl, n4⟩ := hc.form
 obtain ⟨A5, c5, rfl, n5⟩ := hd.form
 obtain ⟨A6, c6, rfl, n6⟩ := he.form
 obtain ⟨A8, c8, rfl, n8⟩ := hp.form
 obtain ⟨A9, c9, rfl, n9⟩ := hq.form
 obtain ⟨wb, hwb⟩ : ∃ wb, wb = w.alloc (.cells #[.slice A0 u.scheme.length c0, .slice A1 u.raw.length c1, .bool u.star, .bool u.slashes, .slice A4 u.user.length c4, .slice A5 u.pass.length c5, .slice A6 u.host.length c6, .int .i64 u.port, .slice A8 u.params.length c8, .slice A9 u.hdrs.length c9] 25) := ⟨_, rfl⟩
 have HWB := hid (show wb.heap[w.heap.size]? = some (.cells #[.slice A0 u.scheme.length c0, .slice A1 u.raw.length c1, .bool u.star, .bool u.slashes, .slice A4 u.user.length c4, .slice A5 u.pass.length c5, .slice A6 u.host.length c6, .int .i64 u.port, .slice A8 u.params.length c8, .slice A9 u.hdrs.length c9] 25 (0, 0)) by rw [hwb]; exact heap_alloc_new w _)
 have HB0 := hid (show Below w.heap.size w wb by rw [hwb]; exact (Below.refl _ w).alloc (Nat.le_refl _) _)
 have hsz : wb.heap.size = w.heap.size + 1 := by rw [hwb]; simp
 have HSZ := hid hsz
 have HBX := hid (show ∀ wx, Below wb.heap.size wb wx → wx.heap[w.heap.size]? = some (.cells #[.slice A0 u.scheme.length c0, .slice A1 u.raw.length c1, .bool u.star, .bool u.slashes, .slice A4 u.user.length c4, .slice A5 u.pass.length c5, .slice A6 u.host.length c6, .int .i64 u.port, .slice A8 u.params.length c8, .slice A9 u.hdrs.length c9] 25 (0, 0)) from fun wx h => (h.block w.heap.size (by rw [HSZ.out]; omega)).trans HWB.out)
 have HW := hid (show ∀ wx, Below wb.heap.size wb wx → Below w.heap.size w wx from fun wx h => HB0.out.trans (h.mono (by rw [HSZ.out]; omega)))
 have HST := hid (show ∀ wx wy, Below wb.heap.size wb wx → Below wx.heap.size wx wy → Below wb.heap.size wb wy from fun wx wy h k => h.trans (k.mono h.size))
 have HBb := hid (Below.refl wb.heap.size wb)
 have HP8 := hid (show ∀ wx, Below wb.heap.size wb wx → Calls Tryz.prog 60 #[.slice A8 u.params.length c8] wx (SomeB wx) from fun wx h => fits3_any _ u.params wx (HA.out.1.below (HW.out wx h)))
 have HP9 := hid (show ∀ wx, Below wb.heap.size wb wx → Calls Tryz.prog 60 #[.slice A9 u.hdrs.length c9] wx (SomeB wx) from fun wx h => fits3_any _ u.hdrs wx (HA.out.2.below (HW.out wx h)))
 obtain ⟨d0, d1, d2, d3, d4, d5, d6, d7, d8, d9⟩ := blk10 HWB.out
 have hlt : w.heap.size < wb.heap.size := by omega
 clear ha hb hc hd he hp hq h64 hsz n0 n1 n4 n5 n6 n8 n9
 go_enter Tryz.func31, Tryz.ntmps31
 go_upto_region 1 with fail
 rw [← hwb]
 generalize Value.agg #[.slice A0 u.scheme.length c0, .slice A1 u.raw.length c1, .bool u.star, .bool u.slashes, .slice A4 u.user.length c4, .slice A5 u.pass.length c5, .slice A6 u.host.length c6, .int .i64 u.port, .slice A8 u.params.length c8, .slice A9 u.hdrs.length c9] = arg0
 clear hwb
 go_wp2_with (first
  | (go_at_call_of 60 (Value.slice A8 u.params.length c8); refine (HP8.out _ HBb.out).mono ?_; rintro e w1 ⟨⟨b1, rfl⟩, hB⟩; have HB1 := hid (HST.out _ _ HBb.out hB); have x9 := (blk10 (HBX.out w1 HB1.out)).2.2.2.2.2.2.2.2.2; clear hB; cases b1)
  | (go_at_call_of 60 (Value.slice A9 u.hdrs.length c9); refine (HP9.out _ HB1.out).mono ?_; rintro e w2 ⟨⟨b2, rfl⟩, hB⟩; have HB2 := hid (HST.out _ _ HB1.out hB); clear hB; cases b2)
  | fail)
 all_goals (first
  | (go_ret
     exact ⟨⟨_, rfl⟩, HW.out _ HB2.out⟩)
  | (go_ret
     exact ⟨⟨_, rfl⟩, HW.out _ HB1.out⟩)
  | (go_ret
     exact ⟨⟨_, rfl⟩, HW.out _ HBb.out⟩)
  | go_goals)
