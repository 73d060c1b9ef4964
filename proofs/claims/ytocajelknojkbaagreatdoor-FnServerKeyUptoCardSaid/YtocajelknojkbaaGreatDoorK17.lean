import Derived.Test.YtocajelknojkbaaGreatDoorK16
set_option maxRecDepth 100000
set_option maxHeartbeats 16000000
set_option linter.all false
namespace Go.Proofs.YtocajelknojkbaaGreatDoor
section
open Go.Lib (hid)
open Go.RowKit
theorem fits6_any (h : LHead) (cs : List Value) (w : World) (hH : LH w h cs) : Calls Tryz.prog 32 #[.agg cs.toArray] w (SomeB w) := by
 obtain ⟨t, name, text, display, u, params, num, proto, version, transport, host, port⟩ := h
 obtain ⟨va, vb, vc, ul, vp, vd, ve, vf, vg, rfl, hn, ht, hd, hu, hp, ho, hv, hr, hh, hst, hnum, hport⟩ := hH
 have HLU := hid hu
 have HP := hid hp
 obtain ⟨ua, ub, uc, ud, ue, up, uq, rfl, k1, k2, k3, k4, k5, k6, k7, k8⟩ := hu
 obtain ⟨An, cn, rfl, n1⟩ := hn.form
 obtain ⟨At, ct, rfl, n2⟩ := ht.form
 obtain ⟨Ad, cd, rfl, n3⟩ := hd.form
 obtain ⟨A0, c0, rfl, n4⟩ := k1.form
 obtain ⟨A1, c1, rfl, n5⟩ := k2.form
 obtain ⟨A4, c4, rfl, n6⟩ := k3.form
 obtain ⟨A5, c5, rfl, n7⟩ := k4.form
 obtain ⟨A6, c6, rfl, n8⟩ := k5.form
 obtain ⟨A8, c8, rfl, n9⟩ := k6.form
 obtain ⟨A9, c9, rfl, n10⟩ := k7.form
 obtain ⟨Ap, cp, rfl, n11⟩ := hp.form
 obtain ⟨Ao, co, rfl, n12⟩ := ho.form
 obtain ⟨Av, cv, rfl, n13⟩ := hv.form
 obtain ⟨Ar, cr, rfl, n14⟩ := hr.form
 obtain ⟨Ah, ch, rfl, n15⟩ := hh.form
 simp only [List.cons_append, List.nil_append]
 obtain ⟨wb, hwb⟩ : ∃ wb, wb = w.alloc (.cells #[.int .i64 t, .slice An name.length cn, .slice At text.length ct, .slice Ad display.length cd, .slice A0 u.scheme.length c0, .slice A1 u.raw.length c1, .bool u.star, .bool u.slashes, .slice A4 u.user.length c4, .slice A5 u.pass.length c5, .slice A6 u.host.length c6, .int .i64 u.port, .slice A8 u.params.length c8, .slice A9 u.hdrs.length c9, .slice Ap params.length cp, .int .u32 num, .slice Ao proto.length co, .slice Av version.length cv, .slice Ar transport.length cr, .slice Ah host.length ch, .int .i64 port] 35) := ⟨_, rfl⟩
 have HWB := hid (show wb.heap[w.heap.size]? = some (.cells #[.int .i64 t, .slice An name.length cn, .slice At text.length ct, .slice Ad display.length cd, .slice A0 u.scheme.length c0, .slice A1 u.raw.length c1, .bool u.star, .bool u.slashes, .slice A4 u.user.length c4, .slice A5 u.pass.length c5, .slice A6 u.host.length c6, .int .i64 u.port, .slice A8 u.params.length c8, .slice A9 u.hdrs.length c9, .slice Ap params.length cp, .int .u32 num, .slice Ao proto.length co, .slice Av version.length cv, .slice Ar transport.length cr, .slice Ah host.length ch, .int .i64 port] 35 (0, 0)) by rw [hwb]; exact heap_alloc_new w _)
 have HB0 := hid (show Below w.heap.size w wb by rw [hwb]; exact (Below.refl _ w).alloc (Nat.le_refl _) _)
 have hsz : wb.heap.size = w.heap.size + 1 := by rw [hwb]; simp
 have HSZ := hid hsz
 have HBX := hid (show ∀ wx, Below wb.heap.size wb wx → wx.heap[w.heap.size]? = some (.cells #[.int .i64 t, .slice An name.length cn, .slice At text.length ct, .slice Ad display.length cd, .slice A0 u.scheme.length c0, .slice A1 u.raw.length c1, .bool u.star, .bool u.slashes, .slice A4 u.user.length c4, .slice A5 u.pass.length c5, .slice A6 u.host.length c6, .int .i64 u.port, .slice A8 u.params.length c8, .slice A9 u.hdrs.length c9, .slice Ap params.length cp, .int .u32 num, .slice Ao proto.length co, .slice Av version.length cv, .slice Ar transport.length cr, .slice Ah host.length ch, .int .i64 port] 35 (0, 0)) from fun wx h => (h.block w.heap.size (by rw [HSZ.out]; omega)).trans HWB.out)
 have HW := hid (show ∀ wx, Below wb.heap.size wb wx → Below w.heap.size w wx from fun wx h => HB0.out.trans (h.mono (by rw [HSZ.out]; omega)))
 have HST := hid (show ∀ wx wy, Below wb.heap.size wb wx → Below wx.heap.size wx wy → Below wb.heap.size wb wy from fun wx wy h k => h.trans (k.mono h.size))
 have HBb := hid (Below.refl wb.heap.size wb)
 have HU2 := hid (show ∀ wx, Below wb.heap.size wb wx → Calls Tryz.prog 31 #[.agg #[.slice A0 u.scheme.length c0, .slice A1 u.raw.length c1, .bool u.star, .bool u.slashes, .slice A4 u.user.length c4, .slice A5 u.pass.length c5, .slice A6 u.host.length c6, .int .i64 u.port, .slice A8 u.params.length c8, .slice A9 u.hdrs.length c9]] wx (SomeB wx) from fun wx h => fits2_any u _ wx (HLU.out.below (HW.out wx h)))
 have HP3 := hid (show ∀ wx, Below wb.heap.size wb wx → Calls Tryz.prog 60 #[.slice Ap params.length cp] wx (SomeB wx) from fun wx h => fits3_any _ params wx (HP.out.below (HW.out wx h)))
 obtain ⟨d0, d1, d2, d3, d4, d5, d6, d7, d8, d9, d10, d11, d12, d13, d14, d15, d16, d17, d18, d19, d20⟩ := blk21 HWB.out
 have hlt : w.heap.size < wb.heap.size := by omega
 clear hn ht hd hp ho hv hr hh k1 k2 k3 k4 k5 k6 k7 k8 hst hnum hsz hport n1 n2 n3 n4 n5 n6 n7 n8 n9 n10 n11 n12 n13 n14 n15
 go_enter Tryz.func32, Tryz.ntmps32
 go_upto_region 1 with fail
 rw [← hwb]
 generalize Value.agg #[.int .i64 t, .slice An name.length cn, .slice At text.length ct, .slice Ad display.length cd, .slice A0 u.scheme.length c0, .slice A1 u.raw.length c1, .bool u.star, .bool u.slashes, .slice A4 u.user.length c4, .slice A5 u.pass.length c5, .slice A6 u.host.length c6, .int .i64 u.port, .slice A8 u.params.length c8, .slice A9 u.hdrs.length c9, .slice Ap params.length cp, .int .u32 num, .slice Ao proto.length co, .slice Av version.length cv, .slice Ar transport.length cr, .slice Ah host.length ch, .int .i64 port] = arg0
 clear hwb
 go_wp2_with (first
  | (go_at_call 31; refine (HU2.out _ HBb.out).mono ?_; rintro e w1 ⟨⟨b1, rfl⟩, hB⟩; have HB1 := hid (HST.out _ _ HBb.out hB); obtain ⟨-, -, -, -, -, -, -, -, -, -, -, -, -, -, x14, -, x16, x17, x18, x19, -⟩ := blk21 (HBX.out w1 HB1.out); clear hB; cases b1)
  | (go_at_call 60; refine (HP3.out _ HB1.out).mono ?_; rintro e w2 ⟨⟨b2, rfl⟩, hB⟩; have HB2 := hid (HST.out _ _ HB1.out hB); obtain ⟨-, -, -, -, -, -, -, -, -, -, -, -, -, -, -, -, y16, y17, y18, y19, -⟩ := blk21 (HBX.out w2 HB2.out); clear hB; cases b2)
  | fail)
 all_goals (first
  | (go_ret
     exact ⟨⟨_, rfl⟩, HW.out _ HB2.out⟩)
  | (go_ret
     exact ⟨⟨_, rfl⟩, HW.out _ HB1.out⟩)
  | (go_ret
     exact ⟨⟨_, rfl⟩, HW.out _ HBb.out⟩)
  | go_goals)
theorem fits5_any (v : Value) (l : List LHead) (w : World) (hS : SHs w v l) : Calls Tryz.prog 7 #[v] w (SomeB w) := by
 have HS := hid hS
 obtain ⟨A, c, rfl, hlen⟩ := hS.form
 clear hS
 by_cases hbig : (2147483647 : Int) < l.length
 ·go_enter Tryz.func7, Tryz.ntmps7
  go_wp2
  go_ret
  exact ⟨⟨_, rfl⟩, Below.refl _ _⟩
 ·go_enter Tryz.func7, Tryz.ntmps7
  go_wp2_with fail
  go_loopw [10] (fun i wr => ∃ k : Nat, k ≤ l.length ∧ i = .int .i64 k ∧ Below w.heap.size w wr) (fun i _ => l.length - (intOf i).toNat)
  case atStart => exact ⟨0, Nat.zero_le _, rfl, Below.refl _ _⟩
  case round =>
   obtain ⟨k, hk, rfl, hb⟩ := hrel
   have HB := hid hb
   obtain ⟨wo, rfl⟩ : ∃ wo : World, wo = wr := ⟨_, rfl⟩
   clear hb
   by_cases hlt : k < l.length
   ·obtain ⟨a, c', hcs, h, e1, hh, hL, hcell⟩ := HS.out.at_ k hlt
    cases e1
    have HLT := hid (Nat.succ_le_of_lt hlt)
    have HLh := hid (hL.below HB.out)
    obtain ⟨xa, xb, xc, xl, xp, xd, xe, xf, xg, rfl, g1, g2, g3, gu, g5, g6, g7, g8, g9, -⟩ := hL
    obtain ⟨ya, yb, yc, yd, ye, yp, yq, rfl, y1, y2, y3, y4, y5, y6, y7, y8⟩ := gu
    obtain ⟨Bn, en, rfl, m1⟩ := g1.form
    obtain ⟨Bt, et, rfl, m2⟩ := g2.form
    obtain ⟨Bd, ed, rfl, m3⟩ := g3.form
    obtain ⟨B0, e0, rfl, m4⟩ := y1.form
    obtain ⟨B1, e1, rfl, m5⟩ := y2.form
    obtain ⟨B4, e4, rfl, m6⟩ := y3.form
    obtain ⟨B5, e5, rfl, m7⟩ := y4.form
    obtain ⟨B6, e6, rfl, m8⟩ := y5.form
    obtain ⟨B8, e8, rfl, m9⟩ := y6.form
    obtain ⟨B9, e9, rfl, m10⟩ := y7.form
    obtain ⟨Bp, ep, rfl, m11⟩ := g5.form
    obtain ⟨Bo, eo, rfl, m12⟩ := g6.form
    obtain ⟨Bv, ev, rfl, m13⟩ := g7.form
    obtain ⟨Br, er, rfl, m14⟩ := g8.form
    obtain ⟨Bh, eh, rfl, m15⟩ := g9.form
    have HCL := hid (show ∀ j v, (#[.int .i64 h.t, .slice Bn h.name.length en, .slice Bt h.text.length et, .slice Bd h.display.length ed, .slice B0 h.uri.scheme.length e0, .slice B1 h.uri.raw.length e1, .bool h.uri.star, .bool h.uri.slashes, .slice B4 h.uri.user.length e4, .slice B5 h.uri.pass.length e5, .slice B6 h.uri.host.length e6, .int .i64 h.uri.port, .slice B8 h.uri.params.length e8, .slice B9 h.uri.hdrs.length e9, .slice Bp h.params.length ep, .int .u32 h.num, .slice Bo h.proto.length eo, .slice Bv h.version.length ev, .slice Br h.transport.length er, .slice Bh h.host.length eh, .int .i64 h.port].toList : List Value)[j]? = some v → wo.cell? ((a.add (k * 21)).add j) = some v from fun j v hj => cell_at_below (hcell j v hj) HB.out)
    have HNB := hid (show ∀ j v, (#[.int .i64 h.t, .slice Bn h.name.length en, .slice Bt h.text.length et, .slice Bd h.display.length ed, .slice B0 h.uri.scheme.length e0, .slice B1 h.uri.raw.length e1, .bool h.uri.star, .bool h.uri.slashes, .slice B4 h.uri.user.length e4, .slice B5 h.uri.pass.length e5, .slice B6 h.uri.host.length e6, .int .i64 h.uri.port, .slice B8 h.uri.params.length e8, .slice B9 h.uri.hdrs.length e9, .slice Bp h.params.length ep, .int .u32 h.num, .slice Bo h.proto.length eo, .slice Bv h.version.length ev, .slice Br h.transport.length er, .slice Bh h.host.length eh, .int .i64 h.port].toList : List Value)[j]? = some v → (wo.alloc (.cells #[.int .i64 h.t, .slice Bn h.name.length en, .slice Bt h.text.length et, .slice Bd h.display.length ed, .slice B0 h.uri.scheme.length e0, .slice B1 h.uri.raw.length e1, .bool h.uri.star, .bool h.uri.slashes, .slice B4 h.uri.user.length e4, .slice B5 h.uri.pass.length e5, .slice B6 h.uri.host.length e6, .int .i64 h.uri.port, .slice B8 h.uri.params.length e8, .slice B9 h.uri.hdrs.length e9, .slice Bp h.params.length ep, .int .u32 h.num, .slice Bo h.proto.length eo, .slice Bv h.version.length ev, .slice Br h.transport.length er, .slice Bh h.host.length eh, .int .i64 h.port] 35)).cell? ((⟨wo.heap.size, 0, none⟩ : Addr).add j) = some v from fun j v hj => by
     rw [Addr.add_lit, Nat.zero_add, blk_cell (heap_alloc_new wo _)]
     simpa using hj)
    have hinf := hid (show (Tryz.prog.info? 35).map (·.size) = some (#[.int .i64 h.t, .slice Bn h.name.length en, .slice Bt h.text.length et, .slice Bd h.display.length ed, .slice B0 h.uri.scheme.length e0, .slice B1 h.uri.raw.length e1, .bool h.uri.star, .bool h.uri.slashes, .slice B4 h.uri.user.length e4, .slice B5 h.uri.pass.length e5, .slice B6 h.uri.host.length e6, .int .i64 h.uri.port, .slice B8 h.uri.params.length e8, .slice B9 h.uri.hdrs.length e9, .slice Bp h.params.length ep, .int .u32 h.num, .slice Bo h.proto.length eo, .slice Bv h.version.length ev, .slice Br h.transport.length er, .slice Bh h.host.length eh, .int .i64 h.port] : Array Value).size by kernel_rfl)
    have hone := hid (show (#[.int .i64 h.t, .slice Bn h.name.length en, .slice Bt h.text.length et, .slice Bd h.display.length ed, .slice B0 h.uri.scheme.length e0, .slice B1 h.uri.raw.length e1, .bool h.uri.star, .bool h.uri.slashes, .slice B4 h.uri.user.length e4, .slice B5 h.uri.pass.length e5, .slice B6 h.uri.host.length e6, .int .i64 h.uri.port, .slice B8 h.uri.params.length e8, .slice B9 h.uri.hdrs.length e9, .slice Bp h.params.length ep, .int .u32 h.num, .slice Bo h.proto.length eo, .slice Bv h.version.length ev, .slice Br h.transport.length er, .slice Bh h.host.length eh, .int .i64 h.port] : Array Value).all (·.oneCell') = true by simp [Value.oneCell'])
    have hund := Tryz.underlying35
    have HUN := hid hund
    have HB1 := hid (show Below wo.heap.size wo (wo.alloc (.cells #[.int .i64 h.t, .slice Bn h.name.length en, .slice Bt h.text.length et, .slice Bd h.display.length ed, .slice B0 h.uri.scheme.length e0, .slice B1 h.uri.raw.length e1, .bool h.uri.star, .bool h.uri.slashes, .slice B4 h.uri.user.length e4, .slice B5 h.uri.pass.length e5, .slice B6 h.uri.host.length e6, .int .i64 h.uri.port, .slice B8 h.uri.params.length e8, .slice B9 h.uri.hdrs.length e9, .slice Bp h.params.length ep, .int .u32 h.num, .slice Bo h.proto.length eo, .slice Bv h.version.length ev, .slice Br h.transport.length er, .slice Bh h.host.length eh, .int .i64 h.port] 35)) from (Below.refl _ wo).alloc (Nat.le_refl _) _)
    have HF := hid (show ∀ wx, Below wo.heap.size wo wx → Calls Tryz.prog 32 #[.agg #[.int .i64 h.t, .slice Bn h.name.length en, .slice Bt h.text.length et, .slice Bd h.display.length ed, .slice B0 h.uri.scheme.length e0, .slice B1 h.uri.raw.length e1, .bool h.uri.star, .bool h.uri.slashes, .slice B4 h.uri.user.length e4, .slice B5 h.uri.pass.length e5, .slice B6 h.uri.host.length e6, .int .i64 h.uri.port, .slice B8 h.uri.params.length e8, .slice B9 h.uri.hdrs.length e9, .slice Bp h.params.length ep, .int .u32 h.num, .slice Bo h.proto.length eo, .slice Bv h.version.length ev, .slice Br h.transport.length er, .slice Bh h.host.length eh, .int .i64 h.port]] wx (SomeB wx) from fun wx h2 => fits6_any h _ wx (HLh.out.below h2))
    clear hund g1 g2 g3 g5 g6 g7 g8 g9 y1 y2 y3 y4 y5 y6 y7 y8 hcell hh m1 m2 m3 m4 m5 m6 m7 m8 m9 m10 m11 m12 m13 m14 m15
    go_wp2_with (first
     | (refine wpList_load_any (by rfl) 35 (.tmp 12) (by rfl) _ (by rfl) #[.int .i64 h.t, .slice Bn h.name.length en, .slice Bt h.text.length et, .slice Bd h.display.length ed, .slice B0 h.uri.scheme.length e0, .slice B1 h.uri.raw.length e1, .bool h.uri.star, .bool h.uri.slashes, .slice B4 h.uri.user.length e4, .slice B5 h.uri.pass.length e5, .slice B6 h.uri.host.length e6, .int .i64 h.uri.port, .slice B8 h.uri.params.length e8, .slice B9 h.uri.hdrs.length e9, .slice Bp h.params.length ep, .int .u32 h.num, .slice Bo h.proto.length eo, .slice Bv h.version.length ev, .slice Br h.transport.length er, .slice Bh h.host.length eh, .int .i64 h.port].toList _ HCL.out HUN.out (by rfl) hinf.out ?_)
     | (refine wpList_store_new (by rfl) 35 (.tmp 4) (.tmp 13) (by rfl) _ #[.int .i64 h.t, .slice Bn h.name.length en, .slice Bt h.text.length et, .slice Bd h.display.length ed, .slice B0 h.uri.scheme.length e0, .slice B1 h.uri.raw.length e1, .bool h.uri.star, .bool h.uri.slashes, .slice B4 h.uri.user.length e4, .slice B5 h.uri.pass.length e5, .slice B6 h.uri.host.length e6, .int .i64 h.uri.port, .slice B8 h.uri.params.length e8, .slice B9 h.uri.hdrs.length e9, .slice Bp h.params.length ep, .int .u32 h.num, .slice Bo h.proto.length eo, .slice Bv h.version.length ev, .slice Br h.transport.length er, .slice Bh h.host.length eh, .int .i64 h.port] (by rfl) (by rfl) (by rfl) hinf.out hone.out ?_)
     | (refine wpList_load_any (by rfl) 35 (.tmp 4) (by rfl) _ (by rfl) #[.int .i64 h.t, .slice Bn h.name.length en, .slice Bt h.text.length et, .slice Bd h.display.length ed, .slice B0 h.uri.scheme.length e0, .slice B1 h.uri.raw.length e1, .bool h.uri.star, .bool h.uri.slashes, .slice B4 h.uri.user.length e4, .slice B5 h.uri.pass.length e5, .slice B6 h.uri.host.length e6, .int .i64 h.uri.port, .slice B8 h.uri.params.length e8, .slice B9 h.uri.hdrs.length e9, .slice Bp h.params.length ep, .int .u32 h.num, .slice Bo h.proto.length eo, .slice Bv h.version.length ev, .slice Br h.transport.length er, .slice Bh h.host.length eh, .int .i64 h.port].toList _ HNB.out HUN.out (by rfl) hinf.out ?_)
     | fail)
    refine (HF.out _ HB1.out).mono ?_
    rintro e w1 ⟨⟨b, rfl⟩, hb1⟩
    have HB2 := hid (HB.out.trans ((HB1.out.trans (hb1.mono HB1.out.size)).mono HB.out.size))
    clear hb1
    cases b
    ·go_wp2
     go_ret
     exact ⟨⟨_, rfl⟩, HB2.out⟩
    ·go_wp2
     go_roundw
     case rel => exact ⟨k + 1, HLT.out, by simp, HB2.out⟩
     case measure => exact meas_step HLT.out (by simp)
   ·go_wp2
    go_ret
    exact ⟨⟨_, rfl⟩, HB.out⟩
theorem fits1_any (m : LMsg) (cs : List Value) (w : World) (hM : LM w m cs) : Calls Tryz.prog 6 #[.agg cs.toArray] w (SomeB w) := by
 obtain ⟨resp, method, u, code, reason, version, heads, body, hasBody, compact⟩ := m
 obtain ⟨va, ul, vb, vc, vh, vd, rfl, hm, hu, hr, hv, hh, hbo, hcode⟩ := hM
 have HLU := hid hu
 have HHS := hid hh
 obtain ⟨ua, ub, uc, ud, ue, up, uq, rfl, k1, k2, k3, k4, k5, k6, k7, k8⟩ := hu
 obtain ⟨Am, cm, rfl, n1⟩ := hm.form
 obtain ⟨A0, c0, rfl, n4⟩ := k1.form
 obtain ⟨A1, c1, rfl, n5⟩ := k2.form
 obtain ⟨A4, c4, rfl, n6⟩ := k3.form
 obtain ⟨A5, c5, rfl, n7⟩ := k4.form
 obtain ⟨A6, c6, rfl, n8⟩ := k5.form
 obtain ⟨A8, c8, rfl, n9⟩ := k6.form
 obtain ⟨A9, c9, rfl, n10⟩ := k7.form
 obtain ⟨Ar, cr, rfl, n11⟩ := hr.form
 obtain ⟨Av, cv, rfl, n12⟩ := hv.form
 obtain ⟨Ah, ch, rfl, n13⟩ := hh.form
 obtain ⟨Ab, cb, rfl, n14⟩ := hbo.form
 simp only [List.cons_append, List.nil_append]
 obtain ⟨wb, hwb⟩ : ∃ wb, wb = w.alloc (.cells #[.bool resp, .slice Am method.length cm, .slice A0 u.scheme.length c0, .slice A1 u.raw.length c1, .bool u.star, .bool u.slashes, .slice A4 u.user.length c4, .slice A5 u.pass.length c5, .slice A6 u.host.length c6, .int .i64 u.port, .slice A8 u.params.length c8, .slice A9 u.hdrs.length c9, .int .i64 code, .slice Ar reason.length cr, .slice Av version.length cv, .slice Ah heads.length ch, .slice Ab body.length cb, .bool hasBody, .bool compact] 28) := ⟨_, rfl⟩
 have HWB := hid (show wb.heap[w.heap.size]? = some (.cells #[.bool resp, .slice Am method.length cm, .slice A0 u.scheme.length c0, .slice A1 u.raw.length c1, .bool u.star, .bool u.slashes, .slice A4 u.user.length c4, .slice A5 u.pass.length c5, .slice A6 u.host.length c6, .int .i64 u.port, .slice A8 u.params.length c8, .slice A9 u.hdrs.length c9, .int .i64 code, .slice Ar reason.length cr, .slice Av version.length cv, .slice Ah heads.length ch, .slice Ab body.length cb, .bool hasBody, .bool compact] 28 (0, 0)) by rw [hwb]; exact heap_alloc_new w _)
 have HB0 := hid (show Below w.heap.size w wb by rw [hwb]; exact (Below.refl _ w).alloc (Nat.le_refl _) _)
 have hsz : wb.heap.size = w.heap.size + 1 := by rw [hwb]; simp
 have HSZ := hid hsz
 have HBX := hid (show ∀ wx, Below wb.heap.size wb wx → wx.heap[w.heap.size]? = some (.cells #[.bool resp, .slice Am method.length cm, .slice A0 u.scheme.length c0, .slice A1 u.raw.length c1, .bool u.star, .bool u.slashes, .slice A4 u.user.length c4, .slice A5 u.pass.length c5, .slice A6 u.host.length c6, .int .i64 u.port, .slice A8 u.params.length c8, .slice A9 u.hdrs.length c9, .int .i64 code, .slice Ar reason.length cr, .slice Av version.length cv, .slice Ah heads.length ch, .slice Ab body.length cb, .bool hasBody, .bool compact] 28 (0, 0)) from fun wx h => (h.block w.heap.size (by rw [HSZ.out]; omega)).trans HWB.out)
 have HW := hid (show ∀ wx, Below wb.heap.size wb wx → Below w.heap.size w wx from fun wx h => HB0.out.trans (h.mono (by rw [HSZ.out]; omega)))
 have HST := hid (show ∀ wx wy, Below wb.heap.size wb wx → Below wx.heap.size wx wy → Below wb.heap.size wb wy from fun wx wy h k => h.trans (k.mono h.size))
 have HBb := hid (Below.refl wb.heap.size wb)
 have HU2 := hid (show ∀ wx, Below wb.heap.size wb wx → Calls Tryz.prog 31 #[.agg #[.slice A0 u.scheme.length c0, .slice A1 u.raw.length c1, .bool u.star, .bool u.slashes, .slice A4 u.user.length c4, .slice A5 u.pass.length c5, .slice A6 u.host.length c6, .int .i64 u.port, .slice A8 u.params.length c8, .slice A9 u.hdrs.length c9]] wx (SomeB wx) from fun wx h => fits2_any u _ wx (HLU.out.below (HW.out wx h)))
 have HH5 := hid (show ∀ wx, Below wb.heap.size wb wx → Calls Tryz.prog 7 #[.slice Ah heads.length ch] wx (SomeB wx) from fun wx h => fits5_any _ heads wx (HHS.out.below (HW.out wx h)))
 obtain ⟨d0, d1, d2, d3, d4, d5, d6, d7, d8, d9, d10, d11, d12, d13, d14, d15, d16, d17, d18⟩ := blk19 HWB.out
 have hlt : w.heap.size < wb.heap.size := by omega
 clear hm hr hv hh hbo k1 k2 k3 k4 k5 k6 k7 k8 hsz hcode n1 n4 n5 n6 n7 n8 n9 n10 n11 n12 n13 n14
 go_enter Tryz.func6, Tryz.ntmps6
 go_upto_region 1 with fail
 rw [← hwb]
 generalize Value.agg #[.bool resp, .slice Am method.length cm, .slice A0 u.scheme.length c0, .slice A1 u.raw.length c1, .bool u.star, .bool u.slashes, .slice A4 u.user.length c4, .slice A5 u.pass.length c5, .slice A6 u.host.length c6, .int .i64 u.port, .slice A8 u.params.length c8, .slice A9 u.hdrs.length c9, .int .i64 code, .slice Ar reason.length cr, .slice Av version.length cv, .slice Ah heads.length ch, .slice Ab body.length cb, .bool hasBody, .bool compact] = arg0
 clear hwb
 go_wp2_with (first
  | (go_at_call 31; refine (HU2.out _ HBb.out).mono ?_; rintro e w1 ⟨⟨b1, rfl⟩, hB⟩; have HB1 := hid (HST.out _ _ HBb.out hB); obtain ⟨-, -, -, -, -, -, -, -, -, -, -, -, -, x13, x14, x15, x16, -, -⟩ := blk19 (HBX.out w1 HB1.out); clear hB; cases b1)
  | (go_at_call 7; refine (HH5.out _ HB1.out).mono ?_; rintro e w2 ⟨⟨b2, rfl⟩, hB⟩; have HB2 := hid (HST.out _ _ HB1.out hB); obtain ⟨-, -, -, -, -, -, -, -, -, -, -, -, -, -, -, -, y16, -, -⟩ := blk19 (HBX.out w2 HB2.out); clear hB; cases b2)
  | fail)
 all_goals (first
  | (go_ret
     exact ⟨⟨_, rfl⟩, HW.out _ HB2.out⟩)
  | (go_ret
     exact ⟨⟨_, rfl⟩, HW.out _ HB1.out⟩)
  | (go_ret
     exact ⟨⟨_, rfl⟩, HW.out _ HBb.out⟩)
  | go_goals)
end
section
open Go.Lib (hid)
open Go
def unl (l : List Bool) : Nat := l.countP (fun b => !b)
theorem unl_set (l : List Bool) (i : Nat) (h : l[i]? = some false) : unl (l.set i true) + 1 = unl l := by
 induction l generalizing i with
 | nil => simp at h
 | cons a l ih =>
  cases i with
  | zero =>
   simp only [List.getElem?_cons_zero, Option.some.injEq] at h
   subst h
   simp [unl]
  | succ i =>
   simp only [List.getElem?_cons_succ] at h
   have := ih i h
   simp only [unl, List.set_cons_succ, List.countP_cons] at *
   omega
theorem letsOut_normal {Z : Act → World → Prop} (h : LetsOut (fun x a w => x = .normal ∧ Z a w)) : False := by
 obtain ⟨_, _, h, _⟩ := h
 cases h
def fill (L : Nat → Bool) (vals : Nat → Value) : List Oper → Nat → Act → Act
 | [], _, a => a
 | o :: l, k, a => fill L vals l (k + 1) (if L k then a.put o.dst (vals k) else a)
def fillAll (vals : Nat → Value) : List Oper → Nat → Act → Act
 | [], _, a => a
 | o :: l, k, a => fillAll vals l (k + 1) (a.put o.dst (vals k))
theorem fillAll_eq (vals : Nat → Value) : ∀ (l : List Oper) (k : Nat) (a : Act) (L : Nat → Bool), (∀ j, k ≤ j → j < k + l.length → L j = true) → fill L vals l k a = fillAll vals l k a
 | [], _, _, _, _ => rfl
 | o :: l, k, a, L, h => by
  rw [fill, fillAll, h k (Nat.le_refl _) (by simp), if_pos rfl]
  exact fillAll_eq vals l (k + 1) _ L (fun j h1 h2 => h j (by omega) (by simp; omega))
theorem put_size (a : Act) (d : Option Tmp) (v : Value) : (a.put d v).tmps.size = a.tmps.size := by
 cases d <;> simp [Act.put]
theorem fill_size (L : Nat → Bool) (vals : Nat → Value) : ∀ (l : List Oper) (k : Nat) (a : Act), (fill L vals l k a).tmps.size = a.tmps.size
 | [], _, _ => rfl
 | o :: l, k, a => by
  rw [fill, fill_size L vals l (k + 1)]
  split
  ·exact put_size _ _ _
  ·rfl
theorem eval_put_self (a : Act) (t : Tmp) (v : Value) : (a.put (some t) v).eval (.tmp t) = if t < a.tmps.size then v else undef := by
 simp only [Act.eval, Act.put, Array.getD_eq_getD_getElem?]
 by_cases h : t < a.tmps.size
 ·simp [h]
 ·simp [h]
theorem put_eval (a b : Act) (d : Option Tmp) (v : Value) (t : Tmp) (hs : a.tmps.size = b.tmps.size) (he : d ≠ some t → a.eval (.tmp t) = b.eval (.tmp t)) : (a.put d v).eval (.tmp t) = (b.put d v).eval (.tmp t) := by
 by_cases h : d = some t
 ·subst h
  rw [eval_put_self, eval_put_self, hs]
 ·have h1 : ∀ e, d = some e → Operand.tmp t ≠ .tmp e := fun e h2 h3 => h (by injection h3 with h3; rw [h2, h3])
  rw [Act.eval_put h1, Act.eval_put h1]
  exact he h
theorem fill_eval (vals : Nat → Value) (t : Tmp) (L1 L2 : Nat → Bool) : ∀ (l : List Oper) (k : Nat) (a b : Act), a.tmps.size = b.tmps.size → a.eval (.tmp t) = b.eval (.tmp t) →
  (∀ j o, l[j]? = some o → L1 (k + j) = L2 (k + j) ∨ o.dst ≠ some t) → (fill L1 vals l k a).eval (.tmp t) = (fill L2 vals l k b).eval (.tmp t)
 | [], _, _, _, _, he, _ => he
 | o :: l, k, a, b, hs, he, h => by
  rw [fill, fill]
  have h0 := h 0 o rfl
  rw [Nat.add_zero] at h0
  refine fill_eval vals t L1 L2 l (k + 1) _ _ ?_ ?_ (fun j o' hj => by have := h (j + 1) o' (by simpa using hj); rwa [show k + (j + 1) = k + 1 + j by omega] at this)
  ·split <;> split <;> simp [put_size, hs]
  ·rcases h0 with h0 | h0
   ·rw [h0]
    split
    ·exact put_eval a b _ _ t hs (fun _ => he)
    ·exact he
   ·have h1 : ∀ e, o.dst = some e → Operand.tmp t ≠ .tmp e := fun e h2 h3 => h0 (by injection h3 with h3; rw [h2, h3])
    split <;> split <;> simp [Act.eval_put h1, he]
theorem fill_put (L : Nat → Bool) (vals : Nat → Value) (d : Option Tmp) (v : Value) : ∀ (l : List Oper) (k : Nat) (a : Act), (∀ (j : Nat) (o : Oper), l[j]? = some o → ∀ e, d = some e → o.dst ≠ some e) →
  (fill L vals l k a).put d v = fill L vals l k (a.put d v)
 | [], _, _, _ => rfl
 | o :: l, k, a, h => by
  rw [fill, fill, fill_put L vals d v l (k + 1) _ (fun j o' hj => h (j + 1) o' (by simpa using hj))]
  split
  ·rw [Act.put_comm a v (vals k) (fun e he => h 0 o rfl e he)]
  ·rfl
theorem fill_congr (L1 L2 : Nat → Bool) (v1 v2 : Nat → Value) : ∀ (l : List Oper) (k : Nat) (a : Act), (∀ j, k ≤ j → L1 j = L2 j ∧ v1 j = v2 j) → fill L1 v1 l k a = fill L2 v2 l k a
 | [], _, _, _ => rfl
 | o :: l, k, a, h => by
  rw [fill, fill, (h k (Nat.le_refl _)).1, (h k (Nat.le_refl _)).2]
  exact fill_congr L1 L2 v1 v2 l (k + 1) _ (fun j hj => h j (by omega))
theorem fill_step (L : Nat → Bool) (vals : Nat → Value) (v : Value) : ∀ (l : List Oper) (k i : Nat) (o : Oper) (a : Act), l[i]? = some o → L (k + i) = false →
  (∀ j o', l[j]? = some o' → j ≠ i → ∀ e, o.dst = some e → o'.dst ≠ some e) →
  (fill L vals l k a).put o.dst v = fill (fun j => if j = k + i then true else L j) (fun j => if j = k + i then v else vals j) l k a
 | [], _, _, _, _, h, _, _ => by simp at h
 | x :: l, k, 0, o, a, h, hL, hd => by
  simp only [List.getElem?_cons_zero, Option.some.injEq] at h
  subst h
  rw [Nat.add_zero] at hL ⊢
  rw [fill, fill, hL, if_pos rfl, if_pos rfl, if_pos rfl, if_neg (by simp)]
  rw [fill_put L vals x.dst v l (k + 1) a (fun j o' hj e he => hd (j + 1) o' (by simpa using hj) (by omega) e he)]
  exact fill_congr _ _ _ _ l (k + 1) _ (fun j hj => by rw [if_neg (by omega), if_neg (by omega)]; exact ⟨rfl, rfl⟩)
 | x :: l, k, i + 1, o, a, h, hL, hd => by
  rw [fill, fill, if_neg (show ¬ k = k + (i + 1) by omega), if_neg (show ¬ k = k + (i + 1) by omega)]
  have := fill_step L vals v l (k + 1) i o (if L k = true then a.put x.dst (vals k) else a) (by simpa using h) (by rwa [show k + 1 + i = k + (i + 1) by omega])
   (fun j o' hj hji => hd (j + 1) o' (by simpa using hj) (by omega))
  rw [this, show k + 1 + i = k + (i + 1) by omega]
def headB (ops : Array Oper) (n : Nat) : Bool :=
 (List.range n).all fun i => match ops[i]? with
  | none => false
  | some o => o.guard.isNone && (o.after.all fun e => !Region.binds .any e || decide (e.on < i)) && (List.range n).all fun j => match ops[j]? with
   | none => false
   | some p => (j == i || !(o.dst.isSome && o.dst == p.dst)) && (Region.waitsFor .any ops i j || match p.dst with | none => true | some d => !(o.looksAt ops).contains d)
def growB (ops : Array Oper) (n : Nat) : Bool :=
 Region.noSelect ops && decide (n < ops.size) && Region.sinkB .any ops n && Region.chainB .any ops n && headB ops n && Region.seqB .any ops (ops.size - n) n ((List.range ops.size).map (fun i => decide (i < n))).toArray
theorem headB_spec {ops : Array Oper} {n : Nat} (h : headB ops n = true) {i : Nat} {o : Oper} (hi : i < n) (ho : ops[i]? = some o) :
  o.guard = none ∧ (∀ e ∈ o.after, Region.binds .any e = true → e.on < i) ∧ (∀ j p, j < n → ops[j]? = some p → j ≠ i → ∀ e, o.dst = some e → p.dst ≠ some e) ∧
  ∀ j p d, j < n → ops[j]? = some p → Region.waitsFor .any ops i j = false → p.dst = some d → d ∉ o.looksAt ops := by
 have h1 := List.all_eq_true.1 h i (List.mem_range.2 hi)
 simp only [ho, Bool.and_eq_true, Option.isNone_iff_eq_none] at h1
 obtain ⟨⟨h2, h3⟩, h4⟩ := h1
 refine ⟨h2, fun e he hb => ?_, fun j p hj hp hne e he hpe => ?_, fun j p d hj hp hw hpd hmem => ?_⟩
 ·have := Array.all_eq_true_iff_forall_mem.1 h3 e he
  simpa [hb] using this
 ·have h5 := List.all_eq_true.1 h4 j (List.mem_range.2 hj)
  simp [hp, hne, he, hpe] at h5
 ·have h5 := List.all_eq_true.1 h4 j (List.mem_range.2 hj)
  simp [hp, hw, hpd] at h5
  exact h5.2 hmem
def GStep (P : Program) (Le : World → World → Prop) (o : Oper) (R : Value → World → Prop) (A : Act) (w : World) : Prop :=
 wpList P #[] (fun x a' w' => x = .normal ∧ ∃ v, a' = A.put o.dst v ∧ Le w w' ∧ R v w') [o] A w
theorem put_inj {A B : Act} {d : Option Tmp} {v u : Value} (h : A.put d v = A.put d u) (hs : A.tmps.size = B.tmps.size) : B.put d v = B.put d u := by
 cases d with
 | none => rfl
 | some t =>
  by_cases ht : t < A.tmps.size
  ·have := congrArg (fun a => a.eval (.tmp t)) h
   simp only [eval_put_self, if_pos ht] at this
   rw [this]
  ·simp only [Act.put]
   have h1 : B.tmps.size ≤ t := by rw [← hs]; exact Nat.le_of_not_lt ht
   rw [Array.setIfInBounds_eq_of_size_le h1, Array.setIfInBounds_eq_of_size_le h1]
theorem gstep_use {P : Program} {Le : World → World → Prop} {o : Oper} {R : Value → World → Prop} {A B : Act} {w : World} {Q : Exit → Act → World → Prop} {K : Act → World → Prop}
  (h : GStep P Le o R A w) (hg : o.guard = none) (he : execOp A.eval o = execOp B.eval o) (hs : A.tmps.size = B.tmps.size) (hd : A.defers = B.defers)
  (hK : ∀ v w', Le w w' → R v w' → K (B.put o.dst v) w') : o.wp P B w K Q := by
 unfold GStep wpList at h
 rw [if_pos (by simp [Region.wanted, hg])] at h
 rcases h with h | ⟨_, h⟩
 ·unfold Oper.wp at *
  rw [he] at h
  generalize (execOp B.eval o).run P w = r at *
  have key : ∀ u w', wpList P #[] (fun x a' w' => x = .normal ∧ ∃ v, a' = A.put o.dst v ∧ Le w w' ∧ R v w') [] (A.put o.dst u) w' → K (B.put o.dst u) w' := by
   rintro u w' ⟨_, v, h1, h2, h3⟩
   rw [put_inj h1 hs]
   exact hK v w' h2 h3
  cases r with
  | ok n w' =>
   cases n <;> simp only [Oper.upon] at h ⊢
   case value u => exact key _ _ h
   case skip => exact key _ _ h
   case defer d =>
    obtain ⟨_, v, h1, _⟩ := h
    exfalso
    have h2 := congrArg (fun a => a.defers.length) h1
    cases hdst : o.dst <;> rw [hdst] at h2 <;> simp [Act.put] at h2
   case enter f args =>
    refine Calls.mono h fun e w'' he => ?_
    cases e with
    | returned u => exact key _ _ he
    | panicked c => obtain ⟨h1, _⟩ := he; cases h1
    | outgrown => exact (letsOut_normal he).elim
   case row row args => exact Rows.mono h fun u w'' he => key _ _ he
  | halt x w' =>
   cases x <;> simp only [Oper.upon] at h ⊢
   case panic u => obtain ⟨h1, _⟩ := h; cases h1
 ·exact (letsOut_normal h).elim
theorem fill_defers (L : Nat → Bool) (vals : Nat → Value) : ∀ (l : List Oper) (k : Nat) (a : Act), (fill L vals l k a).defers = a.defers
 | [], _, _ => rfl
 | o :: l, k, a => by
  rw [fill, fill_defers L vals l (k + 1)]
  split
  ·cases o.dst <;> rfl
  ·rfl
theorem unl_range (n : Nat) : ∀ m, unl ((List.range m).map (fun i => decide (i < n))) = m - n
 | 0 => by simp [unl]
 | m + 1 => by
  have := unl_range n m
  unfold unl at *
  rw [List.range_succ, List.map_append, List.countP_append, this]
  by_cases h : m < n
  ·simp [h]; omega
  ·simp [h]; omega
theorem wpAny_grow {P : Program} {ops : Array Oper} {Q : Exit → Act → World → Prop} (n : Nat) (a0 : Act) (Le : World → World → Prop) (I0 : World → Prop) (R : Nat → Value → World → Prop)
  (hG : growB ops n = true) (hI : ∀ w w', I0 w → Le w w' → I0 w') (hR : ∀ j v w w', R j v w → Le w w' → R j v w')
  (hstep : ∀ i o, ops[i]? = some o → i < n → ∀ vals w, I0 w → (∀ j, Region.waitsFor .any ops i j = true → R j (vals j) w) → GStep P Le o (R i) (fillAll vals (ops.toList.take n) 0 a0) w)
  (hend : ∀ vals w, I0 w → (∀ j, j < n → R j (vals j) w) → wpList P ops Q (ops.toList.drop n) (fillAll vals (ops.toList.take n) 0 a0) w) :
  ∀ (fuel : Nat) (listed : Array Bool) (a : Act) (w : World), HeadInv .any ops n listed → unl listed.toList = fuel →
   (∃ vals, a = fill (fun k => listed.getD k false) vals (ops.toList.take n) 0 a0 ∧ ∀ j, j < n → listed.getD j false = true → R j (vals j) w) → I0 w → wpAny P .any ops Q fuel listed a w := by
 simp only [growB, Bool.and_eq_true, decide_eq_true_eq] at hG
 obtain ⟨⟨⟨⟨⟨hsel, hn⟩, hs⟩, hc⟩, hh⟩, hseq⟩ := hG
 intro fuel
 induction fuel with
 | zero =>
  intro listed a w inv hu _ _
  exfalso
  have h1 := inv.tail n (Nat.le_refl _) hn
  have h2 : listed.toList[n]? = some false := by
   have h3 : n < listed.size := by rw [inv.size]; exact hn
   rw [Array.getD_eq_getD_getElem?, Array.getElem?_eq_getElem h3] at h1
   simpa [h3] using h1
  have := unl_set _ _ h2
  omega
 | succ fuel ih =>
  intro listed a w inv hu ⟨vals, ha, hv⟩ hI0
  by_cases hall : ∀ j, j < n → listed.getD j false = true
  ·have hl : listed = ((List.range ops.size).map (fun i => decide (i < n))).toArray := by
    apply Array.ext
    ·simp [inv.size]
    ·intro j h1 h2
     have h3 : j < ops.size := by rw [← inv.size]; exact h1
     simp only [List.getElem_toArray, List.getElem_map, List.getElem_range]
     by_cases hj : j < n
     ·have := hall j hj
      simp [h1] at this
      simp [this, hj]
     ·have := inv.tail j (by omega) h3
      simp [h1] at this
      simp [this, hj]
   have hfu : fuel + 1 = (ops.toList.drop n).length := by
    rw [← hu, hl]
    simp only [List.length_drop, Array.length_toList]
    exact unl_range n ops.size
   rw [hfu]
   have he : a = fillAll vals (ops.toList.take n) 0 a0 := by
    rw [ha]
    exact fillAll_eq vals _ 0 a0 _ (fun j _ h2 => hall j (by have := List.length_take_le n ops.toList; omega))
   refine wpAny_of_seq (ops.toList.drop n) n listed a w (fun j => by simp) ?_ ?_
   ·rw [List.length_drop, Array.length_toList, hl]
    exact hseq
   ·rw [he]
    exact hend vals w hI0 (fun j hj => hv j hj (hall j hj))
  ·have hex : ∃ j, j < n ∧ listed.getD j false = false := by
    apply Classical.byContradiction
    intro hne
    exact hall (fun j hj => by
     cases h : listed.getD j false with
     | true => rfl
     | false => exact absurd ⟨j, hj, h⟩ hne)
   have hmin : ∃ j, j < n ∧ listed.getD j false = false ∧ ∀ i, i < j → listed.getD i false = true := by
    obtain ⟨j, hj, hjf⟩ := hex
    induction j using Nat.strongRecOn with
    | _ j jh =>
     by_cases h : ∃ i, i < j ∧ listed.getD i false = false
     ·obtain ⟨i, h1, h2⟩ := h
      exact jh i h1 (by omega) h2
     ·exact ⟨j, hj, hjf, fun i hi => by
       cases hx : listed.getD i false with
       | true => rfl
       | false => exact absurd ⟨i, hi, hx⟩ h⟩
   obtain ⟨m, hm, hmf, hml⟩ := hmin
   have hmu : listed.getD m true = false := getD_in (by rw [inv.size]; omega) hmf
   have hready : m ∈ Region.ready .any ops listed := by
    have hlt : m < ops.size := by omega
    refine mem_ready.2 ⟨hmu, ops[m], Array.getElem?_eq_getElem hlt, fun e he hb => hml _ ?_⟩
    exact (headB_spec hh hm (Array.getElem?_eq_getElem hlt)).2.1 e he hb
   refine ⟨fun h0 => (by rw [h0] at hready; cases hready), fun i hi => ?_⟩
   have hin : i < n := by
    rcases Nat.lt_or_ge i n with h | h
    ·exact h
    ·exact absurd hi (tail_waits hs hc hn inv _ m rfl hm hmu i h)
   obtain ⟨hiu, o, ho, hwait⟩ := mem_ready.1 hi
   obtain ⟨h1, h2, h3, h4⟩ := headB_spec hh hin ho
   have hw : ∀ j, Region.waitsFor .any ops i j = true → listed.getD j false = true ∧ j < n := by
    intro j hj
    obtain ⟨o', ho', e, he, hb, rfl⟩ := Region.waitsFor_spec hj
    obtain rfl : o' = o := Option.some.inj (ho'.symm.trans ho)
    exact ⟨hwait e he hb, by have := h2 e he hb; omega⟩
   have htk : ∀ (j : Nat) (p : Oper), (ops.toList.take n)[j]? = some p → j < n ∧ ops[j]? = some p := by
    intro j p hp
    have hjl : j < n := by
     have := (List.getElem?_eq_some_iff.1 hp).1
     rw [List.length_take] at this
     omega
    rw [List.getElem?_take_of_lt hjl] at hp
    exact ⟨hjl, by simpa using hp⟩
   unfold wpOp
   simp only [ho]
   rw [if_pos (by simp [Region.wanted, h1])]
   refine .inl (gstep_use (hstep i o ho hin vals w hI0 (fun j hj => hv j (hw j hj).2 (hw j hj).1)) h1 ?_ ?_ ?_ ?_)
   ·refine execOp_congr o (fun cs b => Region.noSelect_spec hsel i o cs b ho) (fun x hx => ?_)
    cases x with
    | tmp t =>
     rw [ha, ← fillAll_eq vals (ops.toList.take n) 0 a0 (fun _ => true) (fun _ _ _ => rfl)]
     refine fill_eval vals t _ _ _ 0 a0 a0 rfl rfl (fun j p hp => ?_)
     obtain ⟨hjl, hp'⟩ := htk j p hp
     rw [Nat.zero_add]
     cases hlj : listed.getD j false with
     | true => exact .inl rfl
     | false =>
      refine .inr (fun hd => h4 j p t hjl hp' ?_ hd ?_)
      ·cases hwj : Region.waitsFor .any ops i j with
       | false => rfl
       | true => rw [(hw j hwj).1] at hlj; cases hlj
      ·exact List.mem_append_left _ (List.mem_filterMap.2 ⟨.tmp t, by simpa using hx, rfl⟩)
    | _ => rfl
   ·rw [ha, ← fillAll_eq vals (ops.toList.take n) 0 a0 (fun _ => true) (fun _ _ _ => rfl), fill_size, fill_size]
   ·rw [ha, ← fillAll_eq vals (ops.toList.take n) 0 a0 (fun _ => true) (fun _ _ _ => rfl), fill_defers, fill_defers]
   ·intro v w' hle hr
    have hset : ∀ k, (listed.setIfInBounds i true).getD k false = if k = i then true else listed.getD k false := by
     intro k
     have his : i < listed.size := by rw [inv.size]; omega
     by_cases hk : k = i
     ·subst hk
      simp [his]
     ·rw [if_neg hk, getD_set_ne false (Ne.symm hk)]
    refine ih _ _ _ (inv.set hi hin) ?_ ⟨fun j => if j = i then v else vals j, ?_, fun j hj hjl => ?_⟩ (hI _ _ hI0 hle)
    ·have h5 : listed.toList[i]? = some false := by
      have his : i < listed.size := by rw [inv.size]; omega
      rw [Array.getD_eq_getD_getElem?, Array.getElem?_eq_getElem his] at hiu
      simpa [his] using hiu
     have := unl_set _ _ h5
     rw [Array.toList_setIfInBounds]
     omega
    ·rw [ha, fill_step (fun k => listed.getD k false) vals v (ops.toList.take n) 0 i o a0 (by rw [List.getElem?_take_of_lt hin]; simpa using ho) (by rw [Nat.zero_add]; exact getD_both hiu)
      (fun j p hp hji => h3 j p (htk j p hp).1 (htk j p hp).2 hji)]
     refine fill_congr _ _ _ _ _ 0 a0 (fun j _ => ?_)
     rw [Nat.zero_add, hset]
     exact ⟨rfl, rfl⟩
    ·show R j (if j = i then v else vals j) w'
     by_cases hji : j = i
     ·subst hji
      rw [if_pos rfl]
      exact hr
     ·rw [if_neg hji]
      rw [hset, if_neg hji] at hjl
      exact hR _ _ _ _ (hv j hj hjl) hle
theorem wp_region_grow0 {P : Program} {Q : Exit → Act → World → Prop} {id : Nat} {a : Act} {w : World} {l : List Oper} (n : Nat) (Le : World → World → Prop) (I0 : World → Prop) (R : Nat → Value → World → Prop)
  (hm : P.follows .mixedOrders = true) (hG : growB l.toArray n = true) (hI : ∀ w w', I0 w → Le w w' → I0 w') (hR : ∀ j v w w', R j v w → Le w w' → R j v w') (h0 : I0 w.drew)
  (hstep : ∀ i o, l.toArray[i]? = some o → i < n → ∀ vals w, I0 w → (∀ j, Region.waitsFor .any l.toArray i j = true → R j (vals j) w) → GStep P Le o (R i) (fillAll vals (l.take n) 0 a) w)
  (hend : ∀ vals w, I0 w → (∀ j, j < n → R j (vals j) w) → wpList P l.toArray Q (l.drop n) (fillAll vals (l.take n) 0 a) w) : (Code.region id l.toArray true).wp P Q a w := by
 refine wp_region_any hm ?_
 refine wpAny_grow n a Le I0 R hG hI hR hstep hend _ _ _ _ ?_ ?_ ⟨fun _ => undef, ?_, fun j _ hj => ?_⟩ h0
 ·exact ⟨by simp, fun j oj _ hl => (by rw [getD_replicate_false] at hl; cases hl), fun t _ ht => getD_in (by simpa using ht) (getD_replicate_false _ _)⟩
 ·simp [unl, List.countP_replicate]
 ·have h1 : ∀ (l : List Oper) (k : Nat) (a : Act) (L : Nat → Bool), (∀ j, L j = false) → fill L (fun _ => undef) l k a = a := by
   intro l
   induction l with
   | nil => intro k a L _; rfl
   | cons o l ih =>
    intro k a L hL
    rw [fill, hL, if_neg (by simp)]
    exact ih _ _ _ hL
  exact (h1 _ _ _ _ (fun j => getD_replicate_false _ _)).symm
 ·rw [getD_replicate_false] at hj
  cases hj
def Deps (R : Nat → Value → World → Prop) (vals : Nat → Value) (w : World) : List Nat → Prop
 | [] => True
 | j :: d => R j (vals j) w ∧ Deps R vals w d
theorem Deps.of {R : Nat → Value → World → Prop} {vals : Nat → Value} {w : World} : ∀ (d : List Nat), (∀ j ∈ d, R j (vals j) w) → Deps R vals w d
 | [], _ => trivial
 | j :: d, h => ⟨h j (by simp), Deps.of d (fun k hk => h k (by simp [hk]))⟩
def GSteps (P : Program) (Le : World → World → Prop) (I0 : World → Prop) (R : Nat → Value → World → Prop) (A : (Nat → Value) → Act) : List Oper → List (List Nat) → Nat → Prop
 | [], _, _ => True
 | _ :: _, [], _ => False
 | o :: l, d :: D, i => ((∀ v w w', R i v w → Le w w' → R i v w') ∧ ∀ vals w, I0 w → Deps R vals w d → GStep P Le o (R i) (A vals) w) ∧ GSteps P Le I0 R A l D (i + 1)
theorem GSteps.get {P : Program} {Le : World → World → Prop} {I0 : World → Prop} {R : Nat → Value → World → Prop} {A : (Nat → Value) → Act} : ∀ {l : List Oper} {D : List (List Nat)} {k : Nat}, GSteps P Le I0 R A l D k →
  ∀ (i : Nat) (o : Oper), l[i]? = some o → (∀ v w w', R (k + i) v w → Le w w' → R (k + i) v w') ∧ ∀ vals w, I0 w → Deps R vals w (D.getD i []) → GStep P Le o (R (k + i)) (A vals) w
 | [], _, _, _, _, _, h => by simp at h
 | _ :: _, [], _, h, _, _, _ => h.elim
 | x :: l, d :: D, k, h, 0, o, ho => by
  simp only [List.getElem?_cons_zero, Option.some.injEq] at ho
  subst ho
  exact h.1
 | x :: l, d :: D, k, h, i + 1, o, ho => by
  have := GSteps.get h.2 i o (by simpa using ho)
  rw [show k + 1 + i = k + (i + 1) by omega] at this
  exact this
def depsB (ops : Array Oper) (n : Nat) (D : List (List Nat)) : Bool := (List.range n).all fun i => (D.getD i []).all fun j => Region.waitsFor .any ops i j
theorem wp_region_grow {P : Program} {Q : Exit → Act → World → Prop} {id : Nat} {a : Act} {w : World} {l : List Oper} (n : Nat) (Le : World → World → Prop) (I0 : World → Prop) (R : Nat → Value → World → Prop) (D : List (List Nat))
  (hm : P.follows .mixedOrders = true) (hG : growB l.toArray n = true) (hD : depsB l.toArray n D = true) (hI : ∀ w w', I0 w → Le w w' → I0 w') (hRn : ∀ j, n ≤ j → ∀ v w, R j v w) (h0 : I0 w.drew)
  (hstep : GSteps P Le I0 R (fun vals => fillAll vals (l.take n) 0 a) (l.take n) D 0)
  (hend : ∀ vals w, I0 w → Deps R vals w (List.range n) → wpList P l.toArray Q (l.drop n) (fillAll vals (l.take n) 0 a) w) : (Code.region id l.toArray true).wp P Q a w := by
 have hln : n ≤ l.length := by
  simp only [growB, Bool.and_eq_true, decide_eq_true_eq] at hG
  have := hG.1.1.1.1.2
  simp at this
  omega
 have hget : ∀ i, i < n → ∃ o, (l.take n)[i]? = some o := fun i hi => ⟨(l.take n)[i]'(by rw [List.length_take]; omega), List.getElem?_eq_getElem _⟩
 refine wp_region_grow0 n Le I0 R hm hG hI (fun j v w1 w2 h1 h2 => ?_) h0 (fun i o ho hi vals w1 h1 h2 => ?_) (fun vals w1 h1 h2 => hend vals w1 h1 (Deps.of _ (fun j hj => h2 j (List.mem_range.1 hj))))
 ·by_cases hj : j < n
  ·obtain ⟨o, ho⟩ := hget j hj
   have := (hstep.get j o ho).1
   rw [Nat.zero_add] at this
   exact this v w1 w2 h1 h2
  ·exact hRn j (by omega) v w2
 ·have h3 : (l.take n)[i]? = some o := by
   rw [List.getElem?_take_of_lt hi]
   simpa using ho
  have := (hstep.get i o h3).2 vals w1 h1
  rw [Nat.zero_add] at this
  refine this (Deps.of _ (fun j hj => h2 j ?_))
  exact List.all_eq_true.1 (List.all_eq_true.1 hD i (List.mem_range.2 hi)) j hj
end
section
open Go.Lib (hid)
open Go.RowKit
def CK (N : Nat) (w w' : World) : Prop := Below N w w' ∧ ∀ (k : Nat) (cs : Array Value) (t : TypeId) (fz : Nat × Nat), w.heap[k]? = some (Obj.cells cs t fz) → ∃ fz' : Nat × Nat, w'.heap[k]? = some (Obj.cells cs t fz') ∧ (t ≠ 5 → fz' = fz)
theorem CK.refl (N : Nat) (w : World) : CK N w w := ⟨Below.refl _ _, fun _ _ _ fz h => ⟨fz, h, fun _ => rfl⟩⟩
theorem CK.trans {N : Nat} {a b c : World} (h : CK N a b) (k : CK N b c) : CK N a c := ⟨h.1.trans k.1, fun i cs t fz hi => by
 obtain ⟨f1, h1, e1⟩ := h.2 i cs t fz hi
 obtain ⟨f2, h2, e2⟩ := k.2 i cs t f1 h1
 exact ⟨f2, h2, fun ht => (e2 ht).trans (e1 ht)⟩⟩
theorem CK.of_below {N : Nat} {w w' : World} (h : Below w.heap.size w w') (hn : N ≤ w.heap.size) : CK N w w' := ⟨h.mono hn, fun k _ _ fz hk => ⟨fz, (h.block k (heap_lt hk)).trans hk, fun _ => rfl⟩⟩
theorem CK.cell {N : Nat} {w w' : World} (h : CK N w w') {a : Addr} {v : Value} (hc : w.cell? a = some v) : w'.cell? a = some v := by
 unfold World.cell? at hc ⊢
 split at hc
 ·rename_i cs t fz hk
  obtain ⟨fz', hk', _⟩ := h.2 _ _ _ _ hk
  rw [hk']
  exact hc
 ·cases hc
theorem CK.blk {N : Nat} {w w' : World} (h : CK N w w') {k : Nat} {cs : Array Value} {t : TypeId} (hc : ∃ fz, w.heap[k]? = some (.cells cs t fz)) : ∃ fz, w'.heap[k]? = some (.cells cs t fz) := by
 obtain ⟨fz, hk⟩ := hc
 obtain ⟨fz', h1, _⟩ := h.2 _ _ _ _ hk
 exact ⟨fz', h1⟩
theorem CK.same {N : Nat} {w w' : World} (h : CK N w w') {k : Nat} {cs : Array Value} {t : TypeId} {fz : Nat × Nat} (hk : w.heap[k]? = some (Obj.cells cs t fz)) (ht : t ≠ 5) : w'.heap[k]? = some (Obj.cells cs t fz) := by
 obtain ⟨fz', h1, h2⟩ := h.2 _ _ _ _ hk
 rw [h1, h2 ht]
theorem SB.ck {N : Nat} {w w' : World} {v : Value} {l : Bytes} (h : SB w v l) (hb : CK N w w') : SB w' v l := by
 obtain ⟨A, c, h1, h2, h3, h4, h5⟩ := h
 refine ⟨A, c, h1, h2, h3, h4, fun i hi => ?_⟩
 obtain ⟨a, e, hc⟩ := h5 i hi
 exact ⟨a, e, hb.cell hc⟩
theorem SK.ck {N : Nat} {w w' : World} {v : Value} {l : BKVs} (h : SK w v l) (hb : CK N w w') : SK w' v l := by
 obtain ⟨A, c, h1, h2, h3, h4, h5⟩ := h
 refine ⟨A, c, h1, h2, h3, h4, fun i hi => ?_⟩
 obtain ⟨a, vk, vv, e, hc, hd, h6, h7⟩ := h5 i hi
 exact ⟨a, vk, vv, e, hb.cell hc, hb.cell hd, h6.ck hb, h7.ck hb⟩
theorem LU.ck {N : Nat} {w w' : World} {u : LUri} {l : List Value} (h : LU w u l) (hb : CK N w w') : LU w' u l := by
 obtain ⟨a, b, c, d, e, p, q, h0, h1, h2, h3, h4, h5, h6, h7, h8⟩ := h
 exact ⟨a, b, c, d, e, p, q, h0, h1.ck hb, h2.ck hb, h3.ck hb, h4.ck hb, h5.ck hb, h6.ck hb, h7.ck hb, h8⟩
def IW (w0 w : World) : Prop := CK w0.heap.size w0 w
theorem IW.step {w0 w w' : World} (h : IW w0 w) (k : CK w0.heap.size w w') : IW w0 w' := h.trans k
theorem IW.size {w0 w : World} (h : IW w0 w) : w0.heap.size ≤ w.heap.size := h.1.size
theorem IW.below {w0 w : World} (h : IW w0 w) : Below w0.heap.size w0 w := h.1
theorem heap_freeze {w : World} {g n : Nat} {cs : Array Value} {t : TypeId} {fz : Nat × Nat} (h : w.heap[g]? = some (.cells cs t fz)) (hn : n ≠ 0) (o : Nat) (k : Nat) :
  (∃ fz', (w.freeze ⟨g, o, none⟩ n).heap[g]? = some (.cells cs t fz')) ∧ (k ≠ g → (w.freeze ⟨g, o, none⟩ n).heap[k]? = w.heap[k]?) := by
 unfold World.freeze
 rw [if_neg hn]
 obtain ⟨lo, hi⟩ := fz
 constructor
 ·refine ⟨if lo == hi then (o, o + n) else (min lo o, max hi (o + n)), ?_⟩
  simp [Array.getElem?_modify, h]
 ·intro hk
  simp [Array.getElem?_modify, Ne.symm hk]
theorem conv_lit {w : World} {g : Nat} {cs : Array Value} {fz : Nat × Nat} (h : w.heap[g]? = some (.cells cs 5 fz)) (N n c : Nat) (hN : N ≤ g) :
  ∃ w', Sem.run Tryz.prog (convert 22 22 (.slice (some ⟨g, 0, none⟩) n c)) w = .ok (.slice (some ⟨g, 0, none⟩) n c) w' ∧ CK N w w' := by
 have hsh : w.shape? g = some (5, cs.size) := by
  unfold World.shape?
  rw [h]
 refine ⟨w.freeze ⟨g, cs.size, none⟩ 1, ?_, ⟨⟨?_, ?_, ?_, ?_, ?_⟩, ?_⟩⟩
 ·simp [convert, run_underlying Tryz.underlying22, run_underlying Tryz.underlying5, markStringish, hsh]
 ·unfold World.freeze; rw [if_neg (by decide)]
 ·unfold World.freeze; rw [if_neg (by decide)]
 ·unfold World.freeze; rw [if_neg (by decide)]
 ·unfold World.freeze; rw [if_neg (by decide)]; simp
 ·intro k hk
  exact (heap_freeze h (by decide) cs.size k).2 (by omega)
 ·intro k ck tk fk hk
  by_cases hkg : k = g
  ·subst hkg
   rw [h] at hk
   injection hk with hk
   injection hk with h1 h2 h3
   subst h1 h2
   obtain ⟨f, hf⟩ := (heap_freeze (n := 1) h (by decide) cs.size k).1
   exact ⟨f, hf, fun h => absurd rfl h⟩
  ·exact ⟨fk, by rw [(heap_freeze h (by decide) cs.size k).2 hkg]; exact hk, fun _ => rfl⟩
theorem CK.size {N : Nat} {w w' : World} (h : CK N w w') : w.heap.size ≤ w'.heap.size := h.1.size
theorem CK.new {N : Nat} {w : World} (h : N ≤ w.heap.size) (o : Obj) : CK N w (w.alloc o) := CK.of_below ((Below.refl _ _).alloc (Nat.le_refl _) _) h
theorem SB.litB {w : World} {g : Nat} {l : Bytes} {t : TypeId} (hg : ∃ fz, w.heap[g]? = some (Obj.cells (Lib.byteCells l).toArray t fz)) (hl : l.length ≤ 1000) : SB w (.slice (some ⟨g, 0, none⟩) l.length l.length) l := by
 obtain ⟨fz, hg⟩ := hg
 exact SB.lit hg (fun i hi => by simp [Lib.byteCells, hi]) _ (Nat.le_refl _) (by omega)
theorem OB.text {b : Nat} {w : World} {v : Value} {l m : Bytes} (h : OB b w v l) (e : l = m) : OB b w v m := e ▸ h
theorem itoa_len (n : Int) (h : I64 n) : (Lib.itoa n).length ≤ 21 := Lib.itoa_length_le n h.1 h.2
end
