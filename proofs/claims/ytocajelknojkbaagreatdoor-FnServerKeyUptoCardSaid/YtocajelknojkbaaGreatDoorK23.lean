import Derived.Test.YtocajelknojkbaaGreatDoorK20
import Derived.Test.YtocajelknojkbaaGreatDoorK22
set_option maxRecDepth 100000
set_option maxHeartbeats 16000000
set_option linter.all false
namespace Go.Proofs.YtocajelknojkbaaGreatDoor
open Go.Lib (hid)
open Go.RowKit
def hdrS (h : LHead) : SH :=
 if h.t = 1 then .to_ (bs h.display) (toS h.uri) (strKVs h.params)
 else if h.t = 2 then .from_ (bs h.display) (toS h.uri) (strKVs h.params)
 else if h.t = 3 then .contact (bs h.display) (toS h.uri) (strKVs h.params)
 else if h.t = 9 then .via ⟨bs h.proto, bs h.version, bs h.transport, bs h.host, h.port, strKVs h.params⟩
 else if h.t = 11 then .route (toS h.uri)
 else if h.t = 12 then .rroute (toS h.uri)
 else if h.t = 13 then .referto (toS h.uri)
 else if h.t = 14 then .refby (bs h.display) (toS h.uri) (strKVs h.params)
 else if h.t = 4 then .callid (bs h.text)
 else if h.t = 5 then .cseq h.num (bs h.text)
 else if h.t = 6 then .maxf h.num
 else if h.t = 7 then .expires h.num
 else if h.t = 8 then .clen h.num
 else if h.t = 10 then .ctype (bs h.text)
 else .generic (bs h.name) (bs h.text)
theorem LH.len {w : World} {h : LHead} {l : List Value} (H : LH w h l) : l.length = 21 := (H.x w).len
theorem header_of (sh : SH) (cs : List Value) (w : World) (hlen : cs.length = 21) (hmade : ∀ wz, Below w.heap.size w wz → Calls Tryz.prog 96 #[.agg cs.toArray] wz (NewH sh wz)) : Calls Tryz.prog 74 #[.agg cs.toArray] w (NewH sh w) := by
 obtain ⟨x0, x1, x2, x3, x4, x5, x6, x7, x8, x9, x10, x11, x12, x13, x14, x15, x16, x17, x18, x19, x20, rfl⟩ := list21 hlen
 have HMD := hid hmade
 clear hmade hlen
 obtain ⟨wb, hwb⟩ : ∃ wb, wb = w.alloc (.cells #[x0, x1, x2, x3, x4, x5, x6, x7, x8, x9, x10, x11, x12, x13, x14, x15, x16, x17, x18, x19, x20] 35) := ⟨_, rfl⟩
 have HWB1 := hid (show wb.heap[w.heap.size]? = some (.cells ([x0, x1, x2, x3, x4, x5, x6, x7, x8, x9, x10, x11, x12, x13, x14, x15, x16, x17, x18, x19, x20] : List Value).toArray 35 (0, 0)) by rw [hwb]; exact heap_alloc_new w _)
 have HB0 := hid (show Below w.heap.size w wb by rw [hwb]; exact (Below.refl _ w).alloc (Nat.le_refl _) _)
 go_enter Tryz.func74, Tryz.ntmps74
 go_upto_region 1 with fail
 rw [← hwb]
 generalize Value.agg #[x0, x1, x2, x3, x4, x5, x6, x7, x8, x9, x10, x11, x12, x13, x14, x15, x16, x17, x18, x19, x20] = arg0
 clear hwb
 go_wp2_with (first
  | (refine wpList_load_blk (by rfl) 35 (.tmp 1) (by rfl) w.heap.size 35 (0, 0) [x0, x1, x2, x3, x4, x5, x6, x7, x8, x9, x10, x11, x12, x13, x14, x15, x16, x17, x18, x19, x20] (by rfl) HWB1.out _ Tryz.underlying35 rfl 21 head_size rfl ?_)
  | (go_at_call 96; refine (HMD.out _ HB0.out).mono ?_; rintro e w2 ⟨g, rfl, hr, h1, h2, hb⟩; unfold SH.v))
 go_ret
 exact ⟨g, rfl, hr, Nat.le_trans HB0.out.size h1, h2, HB0.out.trans (hb.mono HB0.out.size)⟩
theorem header_4 (N : Nat) (name text display : Bytes) (u : LUri) (params : BKVs) (num : Int) (proto version transport host : Bytes) (port : Int) (cs : List Value) (w : World) (hG : Gl N w) (hB : HBd2 ⟨4, name, text, display, u, params, num, proto, version, transport, host, port⟩) (hH : LH w ⟨4, name, text, display, u, params, num, proto, version, transport, host, port⟩ cs) : Calls Tryz.prog 74 #[.agg cs.toArray] w (NewH (.callid (bs text)) w) := by
 have HMD := hid (show ∀ wz, Below w.heap.size w wz → Calls Tryz.prog 96 #[.agg cs.toArray] wz (fun e w' => e = .returned .nilIface ∧ Below wz.heap.size wz w') from fun wz hz => impmade_x N 4 name text display u params num proto version transport host port cs wz (hG.below hz hG.le) (by decide) hB (hH.below hz))
 obtain ⟨a, b, c, ul0, p, d, e, f, g, rfl, ha, hb, hc, hu, hp, hd, he, hf, hg, ht64, hnum, hport⟩ := hH
 obtain ⟨u0, u1, u4, u5, u6, u8, u9, rfl, -⟩ := hu
 dsimp only at *
 simp only [List.cons_append, List.nil_append] at HMD ⊢
 have HX := hid (And.intro ha hb)
 obtain ⟨Aa, ca, rfl, -⟩ := ha.form
 obtain ⟨Ab, cb, rfl, -⟩ := hb.form
 obtain ⟨Ac, cc, rfl, -⟩ := hc.form
 obtain ⟨Ap, cp, rfl, -⟩ := hp.form
 obtain ⟨Ad, cd, rfl, -⟩ := hd.form
 obtain ⟨Ae, ce, rfl, -⟩ := he.form
 obtain ⟨Af, cf, rfl, -⟩ := hf.form
 obtain ⟨Ag, cg, rfl, -⟩ := hg.form
 clear ha hb hc hp hd he hf hg ht64 hnum hport hG hB
 obtain ⟨wb, hwb⟩ : ∃ wb, wb = w.alloc (.cells #[.int .i64 4, .slice Aa name.length ca, .slice Ab text.length cb, .slice Ac display.length cc, u0, u1, .bool u.star, .bool u.slashes, u4, u5, u6, .int .i64 u.port, u8, u9, .slice Ap params.length cp, .int .u32 num, .slice Ad proto.length cd, .slice Ae version.length ce, .slice Af transport.length cf, .slice Ag host.length cg, .int .i64 port] 35) := ⟨_, rfl⟩
 have HWB1 := hid (show wb.heap[w.heap.size]? = some (.cells ([.int .i64 4, .slice Aa name.length ca, .slice Ab text.length cb, .slice Ac display.length cc, u0, u1, .bool u.star, .bool u.slashes, u4, u5, u6, .int .i64 u.port, u8, u9, .slice Ap params.length cp, .int .u32 num, .slice Ad proto.length cd, .slice Ae version.length ce, .slice Af transport.length cf, .slice Ag host.length cg, .int .i64 port] : List Value).toArray 35 (0, 0)) by rw [hwb]; exact heap_alloc_new w _)
 have HB0 := hid (show Below w.heap.size w wb by rw [hwb]; exact (Below.refl _ w).alloc (Nat.le_refl _) _)
 have HSZ := hid (show wb.heap.size = w.heap.size + 1 by rw [hwb]; simp)
 go_enter Tryz.func74, Tryz.ntmps74
 go_upto_region 1 with fail
 rw [← hwb]
 generalize Value.agg #[.int .i64 4, .slice Aa name.length ca, .slice Ab text.length cb, .slice Ac display.length cc, u0, u1, .bool u.star, .bool u.slashes, u4, u5, u6, .int .i64 u.port, u8, u9, .slice Ap params.length cp, .int .u32 num, .slice Ad proto.length cd, .slice Ae version.length ce, .slice Af transport.length cf, .slice Ag host.length cg, .int .i64 port] = arg0
 clear hwb
 go_upto_region 4 with (first
  | (refine wpList_load_blk (by rfl) 35 (.tmp 1) (by rfl) w.heap.size 35 (0, 0) [.int .i64 4, .slice Aa name.length ca, .slice Ab text.length cb, .slice Ac display.length cc, u0, u1, .bool u.star, .bool u.slashes, u4, u5, u6, .int .i64 u.port, u8, u9, .slice Ap params.length cp, .int .u32 num, .slice Ad proto.length cd, .slice Ae version.length ce, .slice Af transport.length cf, .slice Ag host.length cg, .int .i64 port] (by rfl) HWB1.out _ Tryz.underlying35 rfl 21 head_size rfl ?_)
  | (go_at_call 96; refine (HMD.out _ HB0.out).mono ?_; rintro e W2 ⟨rfl, hb⟩; have HB := hid hb; clear hb))
 have HB2 := hid ((HB.out.block w.heap.size (by have := HSZ.out; omega)).trans HWB1.out)
 have HBW := hid (HB0.out.trans (HB.out.mono HB0.out.size))
 have c0 := row_at HB2.out 0 _ rfl
 have c1 := row_at HB2.out 1 _ rfl
 have c2 := row_at HB2.out 2 _ rfl
 have c15 := row_at HB2.out 15 _ rfl
 have hsz : w.heap.size ≤ W2.heap.size := HBW.out.size
 have HSZ2 := hid hsz
 have v2 := (HX.out.2.below (HBW.out)).conv 154 Tryz.underlying154
 have v3 := fun (o : Obj) => (HX.out.2.below (HBW.out.alloc hsz o)).conv 154 Tryz.underlying154
 clear hsz
 go_wp2
 go_ret
 have hbn := (Below.refl W2.heap.size W2).alloc (Nat.le_refl _) (.cells #[.string (bs text)] 154)
 exact ⟨W2.heap.size, rfl, ⟨heap_alloc_new W2 _, by decide, by decide⟩, HSZ2.out, by simp, HBW.out.trans (hbn.mono HSZ2.out)⟩
theorem header_10 (N : Nat) (name text display : Bytes) (u : LUri) (params : BKVs) (num : Int) (proto version transport host : Bytes) (port : Int) (cs : List Value) (w : World) (hG : Gl N w) (hB : HBd2 ⟨10, name, text, display, u, params, num, proto, version, transport, host, port⟩) (hH : LH w ⟨10, name, text, display, u, params, num, proto, version, transport, host, port⟩ cs) : Calls Tryz.prog 74 #[.agg cs.toArray] w (NewH (.ctype (bs text)) w) := by
 have HMD := hid (show ∀ wz, Below w.heap.size w wz → Calls Tryz.prog 96 #[.agg cs.toArray] wz (fun e w' => e = .returned .nilIface ∧ Below wz.heap.size wz w') from fun wz hz => impmade_x N 10 name text display u params num proto version transport host port cs wz (hG.below hz hG.le) (by decide) hB (hH.below hz))
 obtain ⟨a, b, c, ul0, p, d, e, f, g, rfl, ha, hb, hc, hu, hp, hd, he, hf, hg, ht64, hnum, hport⟩ := hH
 obtain ⟨u0, u1, u4, u5, u6, u8, u9, rfl, -⟩ := hu
 dsimp only at *
 simp only [List.cons_append, List.nil_append] at HMD ⊢
 have HX := hid (And.intro ha hb)
 obtain ⟨Aa, ca, rfl, -⟩ := ha.form
 obtain ⟨Ab, cb, rfl, -⟩ := hb.form
 obtain ⟨Ac, cc, rfl, -⟩ := hc.form
 obtain ⟨Ap, cp, rfl, -⟩ := hp.form
 obtain ⟨Ad, cd, rfl, -⟩ := hd.form
 obtain ⟨Ae, ce, rfl, -⟩ := he.form
 obtain ⟨Af, cf, rfl, -⟩ := hf.form
 obtain ⟨Ag, cg, rfl, -⟩ := hg.form
 clear ha hb hc hp hd he hf hg ht64 hnum hport hG hB
 obtain ⟨wb, hwb⟩ : ∃ wb, wb = w.alloc (.cells #[.int .i64 10, .slice Aa name.length ca, .slice Ab text.length cb, .slice Ac display.length cc, u0, u1, .bool u.star, .bool u.slashes, u4, u5, u6, .int .i64 u.port, u8, u9, .slice Ap params.length cp, .int .u32 num, .slice Ad proto.length cd, .slice Ae version.length ce, .slice Af transport.length cf, .slice Ag host.length cg, .int .i64 port] 35) := ⟨_, rfl⟩
 have HWB1 := hid (show wb.heap[w.heap.size]? = some (.cells ([.int .i64 10, .slice Aa name.length ca, .slice Ab text.length cb, .slice Ac display.length cc, u0, u1, .bool u.star, .bool u.slashes, u4, u5, u6, .int .i64 u.port, u8, u9, .slice Ap params.length cp, .int .u32 num, .slice Ad proto.length cd, .slice Ae version.length ce, .slice Af transport.length cf, .slice Ag host.length cg, .int .i64 port] : List Value).toArray 35 (0, 0)) by rw [hwb]; exact heap_alloc_new w _)
 have HB0 := hid (show Below w.heap.size w wb by rw [hwb]; exact (Below.refl _ w).alloc (Nat.le_refl _) _)
 have HSZ := hid (show wb.heap.size = w.heap.size + 1 by rw [hwb]; simp)
 go_enter Tryz.func74, Tryz.ntmps74
 go_upto_region 1 with fail
 rw [← hwb]
 generalize Value.agg #[.int .i64 10, .slice Aa name.length ca, .slice Ab text.length cb, .slice Ac display.length cc, u0, u1, .bool u.star, .bool u.slashes, u4, u5, u6, .int .i64 u.port, u8, u9, .slice Ap params.length cp, .int .u32 num, .slice Ad proto.length cd, .slice Ae version.length ce, .slice Af transport.length cf, .slice Ag host.length cg, .int .i64 port] = arg0
 clear hwb
 go_upto_region 4 with (first
  | (refine wpList_load_blk (by rfl) 35 (.tmp 1) (by rfl) w.heap.size 35 (0, 0) [.int .i64 10, .slice Aa name.length ca, .slice Ab text.length cb, .slice Ac display.length cc, u0, u1, .bool u.star, .bool u.slashes, u4, u5, u6, .int .i64 u.port, u8, u9, .slice Ap params.length cp, .int .u32 num, .slice Ad proto.length cd, .slice Ae version.length ce, .slice Af transport.length cf, .slice Ag host.length cg, .int .i64 port] (by rfl) HWB1.out _ Tryz.underlying35 rfl 21 head_size rfl ?_)
  | (go_at_call 96; refine (HMD.out _ HB0.out).mono ?_; rintro e W2 ⟨rfl, hb⟩; have HB := hid hb; clear hb))
 have HB2 := hid ((HB.out.block w.heap.size (by have := HSZ.out; omega)).trans HWB1.out)
 have HBW := hid (HB0.out.trans (HB.out.mono HB0.out.size))
 have c0 := row_at HB2.out 0 _ rfl
 have c1 := row_at HB2.out 1 _ rfl
 have c2 := row_at HB2.out 2 _ rfl
 have c15 := row_at HB2.out 15 _ rfl
 have hsz : w.heap.size ≤ W2.heap.size := HBW.out.size
 have HSZ2 := hid hsz
 have v2 := (HX.out.2.below (HBW.out)).conv 161 Tryz.underlying161
 have v3 := fun (o : Obj) => (HX.out.2.below (HBW.out.alloc hsz o)).conv 161 Tryz.underlying161
 clear hsz
 go_wp2
 go_ret
 have hbn := (Below.refl W2.heap.size W2).alloc (Nat.le_refl _) (.cells #[.string (bs text)] 161)
 exact ⟨W2.heap.size, rfl, ⟨heap_alloc_new W2 _, by decide, by decide⟩, HSZ2.out, by simp, HBW.out.trans (hbn.mono HSZ2.out)⟩
theorem header_6 (N : Nat) (name text display : Bytes) (u : LUri) (params : BKVs) (num : Int) (proto version transport host : Bytes) (port : Int) (cs : List Value) (w : World) (hG : Gl N w) (hB : HBd2 ⟨6, name, text, display, u, params, num, proto, version, transport, host, port⟩) (hH : LH w ⟨6, name, text, display, u, params, num, proto, version, transport, host, port⟩ cs) : Calls Tryz.prog 74 #[.agg cs.toArray] w (NewH (.maxf num) w) := by
 have HMD := hid (show ∀ wz, Below w.heap.size w wz → Calls Tryz.prog 96 #[.agg cs.toArray] wz (fun e w' => e = .returned .nilIface ∧ Below wz.heap.size wz w') from fun wz hz => impmade_x N 6 name text display u params num proto version transport host port cs wz (hG.below hz hG.le) (by decide) hB (hH.below hz))
 obtain ⟨a, b, c, ul0, p, d, e, f, g, rfl, ha, hb, hc, hu, hp, hd, he, hf, hg, ht64, hnum, hport⟩ := hH
 obtain ⟨u0, u1, u4, u5, u6, u8, u9, rfl, -⟩ := hu
 dsimp only at *
 simp only [List.cons_append, List.nil_append] at HMD ⊢
 obtain ⟨Aa, ca, rfl, -⟩ := ha.form
 obtain ⟨Ab, cb, rfl, -⟩ := hb.form
 obtain ⟨Ac, cc, rfl, -⟩ := hc.form
 obtain ⟨Ap, cp, rfl, -⟩ := hp.form
 obtain ⟨Ad, cd, rfl, -⟩ := hd.form
 obtain ⟨Ae, ce, rfl, -⟩ := he.form
 obtain ⟨Af, cf, rfl, -⟩ := hf.form
 obtain ⟨Ag, cg, rfl, -⟩ := hg.form
 clear ha hb hc hp hd he hf hg ht64 hnum hport hG hB
 obtain ⟨wb, hwb⟩ : ∃ wb, wb = w.alloc (.cells #[.int .i64 6, .slice Aa name.length ca, .slice Ab text.length cb, .slice Ac display.length cc, u0, u1, .bool u.star, .bool u.slashes, u4, u5, u6, .int .i64 u.port, u8, u9, .slice Ap params.length cp, .int .u32 num, .slice Ad proto.length cd, .slice Ae version.length ce, .slice Af transport.length cf, .slice Ag host.length cg, .int .i64 port] 35) := ⟨_, rfl⟩
 have HWB1 := hid (show wb.heap[w.heap.size]? = some (.cells ([.int .i64 6, .slice Aa name.length ca, .slice Ab text.length cb, .slice Ac display.length cc, u0, u1, .bool u.star, .bool u.slashes, u4, u5, u6, .int .i64 u.port, u8, u9, .slice Ap params.length cp, .int .u32 num, .slice Ad proto.length cd, .slice Ae version.length ce, .slice Af transport.length cf, .slice Ag host.length cg, .int .i64 port] : List Value).toArray 35 (0, 0)) by rw [hwb]; exact heap_alloc_new w _)
 have HB0 := hid (show Below w.heap.size w wb by rw [hwb]; exact (Below.refl _ w).alloc (Nat.le_refl _) _)
 have HSZ := hid (show wb.heap.size = w.heap.size + 1 by rw [hwb]; simp)
 go_enter Tryz.func74, Tryz.ntmps74
 go_upto_region 1 with fail
 rw [← hwb]
 generalize Value.agg #[.int .i64 6, .slice Aa name.length ca, .slice Ab text.length cb, .slice Ac display.length cc, u0, u1, .bool u.star, .bool u.slashes, u4, u5, u6, .int .i64 u.port, u8, u9, .slice Ap params.length cp, .int .u32 num, .slice Ad proto.length cd, .slice Ae version.length ce, .slice Af transport.length cf, .slice Ag host.length cg, .int .i64 port] = arg0
 clear hwb
 go_upto_region 4 with (first
  | (refine wpList_load_blk (by rfl) 35 (.tmp 1) (by rfl) w.heap.size 35 (0, 0) [.int .i64 6, .slice Aa name.length ca, .slice Ab text.length cb, .slice Ac display.length cc, u0, u1, .bool u.star, .bool u.slashes, u4, u5, u6, .int .i64 u.port, u8, u9, .slice Ap params.length cp, .int .u32 num, .slice Ad proto.length cd, .slice Ae version.length ce, .slice Af transport.length cf, .slice Ag host.length cg, .int .i64 port] (by rfl) HWB1.out _ Tryz.underlying35 rfl 21 head_size rfl ?_)
  | (go_at_call 96; refine (HMD.out _ HB0.out).mono ?_; rintro e W2 ⟨rfl, hb⟩; have HB := hid hb; clear hb))
 have HB2 := hid ((HB.out.block w.heap.size (by have := HSZ.out; omega)).trans HWB1.out)
 have HBW := hid (HB0.out.trans (HB.out.mono HB0.out.size))
 have c0 := row_at HB2.out 0 _ rfl
 have c1 := row_at HB2.out 1 _ rfl
 have c2 := row_at HB2.out 2 _ rfl
 have c15 := row_at HB2.out 15 _ rfl
 have hsz : w.heap.size ≤ W2.heap.size := HBW.out.size
 have HSZ2 := hid hsz
 clear hsz
 go_wp2
 go_ret
 have hbn := (Below.refl W2.heap.size W2).alloc (Nat.le_refl _) (.cells #[.int .u32 num] 157)
 exact ⟨W2.heap.size, rfl, ⟨heap_alloc_new W2 _, by decide, by decide⟩, HSZ2.out, by simp, HBW.out.trans (hbn.mono HSZ2.out)⟩
theorem header_7 (N : Nat) (name text display : Bytes) (u : LUri) (params : BKVs) (num : Int) (proto version transport host : Bytes) (port : Int) (cs : List Value) (w : World) (hG : Gl N w) (hB : HBd2 ⟨7, name, text, display, u, params, num, proto, version, transport, host, port⟩) (hH : LH w ⟨7, name, text, display, u, params, num, proto, version, transport, host, port⟩ cs) : Calls Tryz.prog 74 #[.agg cs.toArray] w (NewH (.expires num) w) := by
 have HMD := hid (show ∀ wz, Below w.heap.size w wz → Calls Tryz.prog 96 #[.agg cs.toArray] wz (fun e w' => e = .returned .nilIface ∧ Below wz.heap.size wz w') from fun wz hz => impmade_x N 7 name text display u params num proto version transport host port cs wz (hG.below hz hG.le) (by decide) hB (hH.below hz))
 obtain ⟨a, b, c, ul0, p, d, e, f, g, rfl, ha, hb, hc, hu, hp, hd, he, hf, hg, ht64, hnum, hport⟩ := hH
 obtain ⟨u0, u1, u4, u5, u6, u8, u9, rfl, -⟩ := hu
 dsimp only at *
 simp only [List.cons_append, List.nil_append] at HMD ⊢
 obtain ⟨Aa, ca, rfl, -⟩ := ha.form
 obtain ⟨Ab, cb, rfl, -⟩ := hb.form
 obtain ⟨Ac, cc, rfl, -⟩ := hc.form
 obtain ⟨Ap, cp, rfl, -⟩ := hp.form
 obtain ⟨Ad, cd, rfl, -⟩ := hd.form
 obtain ⟨Ae, ce, rfl, -⟩ := he.form
 obtain ⟨Af, cf, rfl, -⟩ := hf.form
 obtain ⟨Ag, cg, rfl, -⟩ := hg.form
 clear ha hb hc hp hd he hf hg ht64 hnum hport hG hB
 obtain ⟨wb, hwb⟩ : ∃ wb, wb = w.alloc (.cells #[.int .i64 7, .slice Aa name.length ca, .slice Ab text.length cb, .slice Ac display.length cc, u0, u1, .bool u.star, .bool u.slashes, u4, u5, u6, .int .i64 u.port, u8, u9, .slice Ap params.length cp, .int .u32 num, .slice Ad proto.length cd, .slice Ae version.length ce, .slice Af transport.length cf, .slice Ag host.length cg, .int .i64 port] 35) := ⟨_, rfl⟩
 have HWB1 := hid (show wb.heap[w.heap.size]? = some (.cells ([.int .i64 7, .slice Aa name.length ca, .slice Ab text.length cb, .slice Ac display.length cc, u0, u1, .bool u.star, .bool u.slashes, u4, u5, u6, .int .i64 u.port, u8, u9, .slice Ap params.length cp, .int .u32 num, .slice Ad proto.length cd, .slice Ae version.length ce, .slice Af transport.length cf, .slice Ag host.length cg, .int .i64 port] : List Value).toArray 35 (0, 0)) by rw [hwb]; exact heap_alloc_new w _)
 have HB0 := hid (show Below w.heap.size w wb by rw [hwb]; exact (Below.refl _ w).alloc (Nat.le_refl _) _)
 have HSZ := hid (show wb.heap.size = w.heap.size + 1 by rw [hwb]; simp)
 go_enter Tryz.func74, Tryz.ntmps74
 go_upto_region 1 with fail
 rw [← hwb]
 generalize Value.agg #[.int .i64 7, .slice Aa name.length ca, .slice Ab text.length cb, .slice Ac display.length cc, u0, u1, .bool u.star, .bool u.slashes, u4, u5, u6, .int .i64 u.port, u8, u9, .slice Ap params.length cp, .int .u32 num, .slice Ad proto.length cd, .slice Ae version.length ce, .slice Af transport.length cf, .slice Ag host.length cg, .int .i64 port] = arg0
 clear hwb
 go_upto_region 4 with (first
  | (refine wpList_load_blk (by rfl) 35 (.tmp 1) (by rfl) w.heap.size 35 (0, 0) [.int .i64 7, .slice Aa name.length ca, .slice Ab text.length cb, .slice Ac display.length cc, u0, u1, .bool u.star, .bool u.slashes, u4, u5, u6, .int .i64 u.port, u8, u9, .slice Ap params.length cp, .int .u32 num, .slice Ad proto.length cd, .slice Ae version.length ce, .slice Af transport.length cf, .slice Ag host.length cg, .int .i64 port] (by rfl) HWB1.out _ Tryz.underlying35 rfl 21 head_size rfl ?_)
  | (go_at_call 96; refine (HMD.out _ HB0.out).mono ?_; rintro e W2 ⟨rfl, hb⟩; have HB := hid hb; clear hb))
 have HB2 := hid ((HB.out.block w.heap.size (by have := HSZ.out; omega)).trans HWB1.out)
 have HBW := hid (HB0.out.trans (HB.out.mono HB0.out.size))
 have c0 := row_at HB2.out 0 _ rfl
 have c1 := row_at HB2.out 1 _ rfl
 have c2 := row_at HB2.out 2 _ rfl
 have c15 := row_at HB2.out 15 _ rfl
 have hsz : w.heap.size ≤ W2.heap.size := HBW.out.size
 have HSZ2 := hid hsz
 clear hsz
 go_wp2
 go_ret
 have hbn := (Below.refl W2.heap.size W2).alloc (Nat.le_refl _) (.cells #[.int .u32 num] 158)
 exact ⟨W2.heap.size, rfl, ⟨heap_alloc_new W2 _, by decide, by decide⟩, HSZ2.out, by simp, HBW.out.trans (hbn.mono HSZ2.out)⟩
theorem header_8 (N : Nat) (name text display : Bytes) (u : LUri) (params : BKVs) (num : Int) (proto version transport host : Bytes) (port : Int) (cs : List Value) (w : World) (hG : Gl N w) (hB : HBd2 ⟨8, name, text, display, u, params, num, proto, version, transport, host, port⟩) (hH : LH w ⟨8, name, text, display, u, params, num, proto, version, transport, host, port⟩ cs) : Calls Tryz.prog 74 #[.agg cs.toArray] w (NewH (.clen num) w) := by
 have HMD := hid (show ∀ wz, Below w.heap.size w wz → Calls Tryz.prog 96 #[.agg cs.toArray] wz (fun e w' => e = .returned .nilIface ∧ Below wz.heap.size wz w') from fun wz hz => impmade_x N 8 name text display u params num proto version transport host port cs wz (hG.below hz hG.le) (by decide) hB (hH.below hz))
 obtain ⟨a, b, c, ul0, p, d, e, f, g, rfl, ha, hb, hc, hu, hp, hd, he, hf, hg, ht64, hnum, hport⟩ := hH
 obtain ⟨u0, u1, u4, u5, u6, u8, u9, rfl, -⟩ := hu
 dsimp only at *
 simp only [List.cons_append, List.nil_append] at HMD ⊢
 obtain ⟨Aa, ca, rfl, -⟩ := ha.form
 obtain ⟨Ab, cb, rfl, -⟩ := hb.form
 obtain ⟨Ac, cc, rfl, -⟩ := hc.form
 obtain ⟨Ap, cp, rfl, -⟩ := hp.form
 obtain ⟨Ad, cd, rfl, -⟩ := hd.form
 obtain ⟨Ae, ce, rfl, -⟩ := he.form
 obtain ⟨Af, cf, rfl, -⟩ := hf.form
 obtain ⟨Ag, cg, rfl, -⟩ := hg.form
 clear ha hb hc hp hd he hf hg ht64 hnum hport hG hB
 obtain ⟨wb, hwb⟩ : ∃ wb, wb = w.alloc (.cells #[.int .i64 8, .slice Aa name.length ca, .slice Ab text.length cb, .slice Ac display.length cc, u0, u1, .bool u.star, .bool u.slashes, u4, u5, u6, .int .i64 u.port, u8, u9, .slice Ap params.length cp, .int .u32 num, .slice Ad proto.length cd, .slice Ae version.length ce, .slice Af transport.length cf, .slice Ag host.length cg, .int .i64 port] 35) := ⟨_, rfl⟩
 have HWB1 := hid (show wb.heap[w.heap.size]? = some (.cells ([.int .i64 8, .slice Aa name.length ca, .slice Ab text.length cb, .slice Ac display.length cc, u0, u1, .bool u.star, .bool u.slashes, u4, u5, u6, .int .i64 u.port, u8, u9, .slice Ap params.length cp, .int .u32 num, .slice Ad proto.length cd, .slice Ae version.length ce, .slice Af transport.length cf, .slice Ag host.length cg, .int .i64 port] : List Value).toArray 35 (0, 0)) by rw [hwb]; exact heap_alloc_new w _)
 have HB0 := hid (show Below w.heap.size w wb by rw [hwb]; exact (Below.refl _ w).alloc (Nat.le_refl _) _)
 have HSZ := hid (show wb.heap.size = w.heap.size + 1 by rw [hwb]; simp)
 go_enter Tryz.func74, Tryz.ntmps74
 go_upto_region 1 with fail
 rw [← hwb]
 generalize Value.agg #[.int .i64 8, .slice Aa name.length ca, .slice Ab text.length cb, .slice Ac display.length cc, u0, u1, .bool u.star, .bool u.slashes, u4, u5, u6, .int .i64 u.port, u8, u9, .slice Ap params.length cp, .int .u32 num, .slice Ad proto.length cd, .slice Ae version.length ce, .slice Af transport.length cf, .slice Ag host.length cg, .int .i64 port] = arg0
 clear hwb
 go_upto_region 4 with (first
  | (refine wpList_load_blk (by rfl) 35 (.tmp 1) (by rfl) w.heap.size 35 (0, 0) [.int .i64 8, .slice Aa name.length ca, .slice Ab text.length cb, .slice Ac display.length cc, u0, u1, .bool u.star, .bool u.slashes, u4, u5, u6, .int .i64 u.port, u8, u9, .slice Ap params.length cp, .int .u32 num, .slice Ad proto.length cd, .slice Ae version.length ce, .slice Af transport.length cf, .slice Ag host.length cg, .int .i64 port] (by rfl) HWB1.out _ Tryz.underlying35 rfl 21 head_size rfl ?_)
  | (go_at_call 96; refine (HMD.out _ HB0.out).mono ?_; rintro e W2 ⟨rfl, hb⟩; have HB := hid hb; clear hb))
 have HB2 := hid ((HB.out.block w.heap.size (by have := HSZ.out; omega)).trans HWB1.out)
 have HBW := hid (HB0.out.trans (HB.out.mono HB0.out.size))
 have c0 := row_at HB2.out 0 _ rfl
 have c1 := row_at HB2.out 1 _ rfl
 have c2 := row_at HB2.out 2 _ rfl
 have c15 := row_at HB2.out 15 _ rfl
 have hsz : w.heap.size ≤ W2.heap.size := HBW.out.size
 have HSZ2 := hid hsz
 clear hsz
 go_wp2
 go_ret
 have hbn := (Below.refl W2.heap.size W2).alloc (Nat.le_refl _) (.cells #[.int .u32 num] 160)
 exact ⟨W2.heap.size, rfl, ⟨heap_alloc_new W2 _, by decide, by decide⟩, HSZ2.out, by simp, HBW.out.trans (hbn.mono HSZ2.out)⟩
theorem header_5 (N : Nat) (name text display : Bytes) (u : LUri) (params : BKVs) (num : Int) (proto version transport host : Bytes) (port : Int) (cs : List Value) (w : World) (hG : Gl N w) (hB : HBd2 ⟨5, name, text, display, u, params, num, proto, version, transport, host, port⟩) (hH : LH w ⟨5, name, text, display, u, params, num, proto, version, transport, host, port⟩ cs) : Calls Tryz.prog 74 #[.agg cs.toArray] w (NewH (.cseq num (bs text)) w) := by
 have HMD := hid (show ∀ wz, Below w.heap.size w wz → Calls Tryz.prog 96 #[.agg cs.toArray] wz (fun e w' => e = .returned .nilIface ∧ Below wz.heap.size wz w') from fun wz hz => impmade_x N 5 name text display u params num proto version transport host port cs wz (hG.below hz hG.le) (by decide) hB (hH.below hz))
 obtain ⟨a, b, c, ul0, p, d, e, f, g, rfl, ha, hb, hc, hu, hp, hd, he, hf, hg, ht64, hnum, hport⟩ := hH
 obtain ⟨u0, u1, u4, u5, u6, u8, u9, rfl, -⟩ := hu
 dsimp only at *
 simp only [List.cons_append, List.nil_append] at HMD ⊢
 have HX := hid (And.intro ha hb)
 obtain ⟨Aa, ca, rfl, -⟩ := ha.form
 obtain ⟨Ab, cb, rfl, -⟩ := hb.form
 obtain ⟨Ac, cc, rfl, -⟩ := hc.form
 obtain ⟨Ap, cp, rfl, -⟩ := hp.form
 obtain ⟨Ad, cd, rfl, -⟩ := hd.form
 obtain ⟨Ae, ce, rfl, -⟩ := he.form
 obtain ⟨Af, cf, rfl, -⟩ := hf.form
 obtain ⟨Ag, cg, rfl, -⟩ := hg.form
 clear ha hb hc hp hd he hf hg ht64 hnum hport hG hB
 obtain ⟨wb, hwb⟩ : ∃ wb, wb = w.alloc (.cells #[.int .i64 5, .slice Aa name.length ca, .slice Ab text.length cb, .slice Ac display.length cc, u0, u1, .bool u.star, .bool u.slashes, u4, u5, u6, .int .i64 u.port, u8, u9, .slice Ap params.length cp, .int .u32 num, .slice Ad proto.length cd, .slice Ae version.length ce, .slice Af transport.length cf, .slice Ag host.length cg, .int .i64 port] 35) := ⟨_, rfl⟩
 have HWB1 := hid (show wb.heap[w.heap.size]? = some (.cells ([.int .i64 5, .slice Aa name.length ca, .slice Ab text.length cb, .slice Ac display.length cc, u0, u1, .bool u.star, .bool u.slashes, u4, u5, u6, .int .i64 u.port, u8, u9, .slice Ap params.length cp, .int .u32 num, .slice Ad proto.length cd, .slice Ae version.length ce, .slice Af transport.length cf, .slice Ag host.length cg, .int .i64 port] : List Value).toArray 35 (0, 0)) by rw [hwb]; exact heap_alloc_new w _)
 have HB0 := hid (show Below w.heap.size w wb by rw [hwb]; exact (Below.refl _ w).alloc (Nat.le_refl _) _)
 have HSZ := hid (show wb.heap.size = w.heap.size + 1 by rw [hwb]; simp)
 go_enter Tryz.func74, Tryz.ntmps74
 go_upto_region 1 with fail
 rw [← hwb]
 generalize Value.agg #[.int .i64 5, .slice Aa name.length ca, .slice Ab text.length cb, .slice Ac display.length cc, u0, u1, .bool u.star, .bool u.slashes, u4, u5, u6, .int .i64 u.port, u8, u9, .slice Ap params.length cp, .int .u32 num, .slice Ad proto.length cd, .slice Ae version.length ce, .slice Af transport.length cf, .slice Ag host.length cg, .int .i64 port] = arg0
 clear hwb
 go_upto_region 4 with (first
  | (refine wpList_load_blk (by rfl) 35 (.tmp 1) (by rfl) w.heap.size 35 (0, 0) [.int .i64 5, .slice Aa name.length ca, .slice Ab text.length cb, .slice Ac display.length cc, u0, u1, .bool u.star, .bool u.slashes, u4, u5, u6, .int .i64 u.port, u8, u9, .slice Ap params.length cp, .int .u32 num, .slice Ad proto.length cd, .slice Ae version.length ce, .slice Af transport.length cf, .slice Ag host.length cg, .int .i64 port] (by rfl) HWB1.out _ Tryz.underlying35 rfl 21 head_size rfl ?_)
  | (go_at_call 96; refine (HMD.out _ HB0.out).mono ?_; rintro e W2 ⟨rfl, hb⟩; have HB := hid hb; clear hb))
 have HB2 := hid ((HB.out.block w.heap.size (by have := HSZ.out; omega)).trans HWB1.out)
 have HBW := hid (HB0.out.trans (HB.out.mono HB0.out.size))
 have c0 := row_at HB2.out 0 _ rfl
 have c1 := row_at HB2.out 1 _ rfl
 have c2 := row_at HB2.out 2 _ rfl
 have c15 := row_at HB2.out 15 _ rfl
 have hsz : w.heap.size ≤ W2.heap.size := HBW.out.size
 have HSZ2 := hid hsz
 have v2 := (HX.out.2.below HBW.out).conv 82 Tryz.underlying82
 clear hsz
 go_wp2
 go_ret
 have hbn := (Below.refl W2.heap.size W2).alloc (Nat.le_refl _) (.cells #[.int .u32 num, .string (bs text)] 156)
 exact ⟨W2.heap.size, rfl, ⟨heap_alloc_new W2 _, by decide, by decide⟩, HSZ2.out, by simp, HBW.out.trans (hbn.mono HSZ2.out)⟩
theorem header_0 (N : Nat) (name text display : Bytes) (u : LUri) (params : BKVs) (num : Int) (proto version transport host : Bytes) (port : Int) (cs : List Value) (w : World) (hG : Gl N w) (hB : HBd2 ⟨0, name, text, display, u, params, num, proto, version, transport, host, port⟩) (hH : LH w ⟨0, name, text, display, u, params, num, proto, version, transport, host, port⟩ cs) : Calls Tryz.prog 74 #[.agg cs.toArray] w (NewH (.generic (bs name) (bs text)) w) := by
 have HMD := hid (show ∀ wz, Below w.heap.size w wz → Calls Tryz.prog 96 #[.agg cs.toArray] wz (fun e w' => e = .returned .nilIface ∧ Below wz.heap.size wz w') from fun wz hz => impmade_x N 0 name text display u params num proto version transport host port cs wz (hG.below hz hG.le) (by decide) hB (hH.below hz))
 obtain ⟨a, b, c, ul0, p, d, e, f, g, rfl, ha, hb, hc, hu, hp, hd, he, hf, hg, ht64, hnum, hport⟩ := hH
 obtain ⟨u0, u1, u4, u5, u6, u8, u9, rfl, -⟩ := hu
 dsimp only at *
 simp only [List.cons_append, List.nil_append] at HMD ⊢
 have HX := hid (And.intro ha hb)
 obtain ⟨Aa, ca, rfl, -⟩ := ha.form
 obtain ⟨Ab, cb, rfl, -⟩ := hb.form
 obtain ⟨Ac, cc, rfl, -⟩ := hc.form
 obtain ⟨Ap, cp, rfl, -⟩ := hp.form
 obtain ⟨Ad, cd, rfl, -⟩ := hd.form
 obtain ⟨Ae, ce, rfl, -⟩ := he.form
 obtain ⟨Af, cf, rfl, -⟩ := hf.form
 obtain ⟨Ag, cg, rfl, -⟩ := hg.form
 clear ha hb hc hp hd he hf hg ht64 hnum hport hG hB
 obtain ⟨wb, hwb⟩ : ∃ wb, wb = w.alloc (.cells #[.int .i64 0, .slice Aa name.length ca, .slice Ab text.length cb, .slice Ac display.length cc, u0, u1, .bool u.star, .bool u.slashes, u4, u5, u6, .int .i64 u.port, u8, u9, .slice Ap params.length cp, .int .u32 num, .slice Ad proto.length cd, .slice Ae version.length ce, .slice Af transport.length cf, .slice Ag host.length cg, .int .i64 port] 35) := ⟨_, rfl⟩
 have HWB1 := hid (show wb.heap[w.heap.size]? = some (.cells ([.int .i64 0, .slice Aa name.length ca, .slice Ab text.length cb, .slice Ac display.length cc, u0, u1, .bool u.star, .bool u.slashes, u4, u5, u6, .int .i64 u.port, u8, u9, .slice Ap params.length cp, .int .u32 num, .slice Ad proto.length cd, .slice Ae version.length ce, .slice Af transport.length cf, .slice Ag host.length cg, .int .i64 port] : List Value).toArray 35 (0, 0)) by rw [hwb]; exact heap_alloc_new w _)
 have HB0 := hid (show Below w.heap.size w wb by rw [hwb]; exact (Below.refl _ w).alloc (Nat.le_refl _) _)
 have HSZ := hid (show wb.heap.size = w.heap.size + 1 by rw [hwb]; simp)
 go_enter Tryz.func74, Tryz.ntmps74
 go_upto_region 1 with fail
 rw [← hwb]
 generalize Value.agg #[.int .i64 0, .slice Aa name.length ca, .slice Ab text.length cb, .slice Ac display.length cc, u0, u1, .bool u.star, .bool u.slashes, u4, u5, u6, .int .i64 u.port, u8, u9, .slice Ap params.length cp, .int .u32 num, .slice Ad proto.length cd, .slice Ae version.length ce, .slice Af transport.length cf, .slice Ag host.length cg, .int .i64 port] = arg0
 clear hwb
 go_upto_region 4 with (first
  | (refine wpList_load_blk (by rfl) 35 (.tmp 1) (by rfl) w.heap.size 35 (0, 0) [.int .i64 0, .slice Aa name.length ca, .slice Ab text.length cb, .slice Ac display.length cc, u0, u1, .bool u.star, .bool u.slashes, u4, u5, u6, .int .i64 u.port, u8, u9, .slice Ap params.length cp, .int .u32 num, .slice Ad proto.length cd, .slice Ae version.length ce, .slice Af transport.length cf, .slice Ag host.length cg, .int .i64 port] (by rfl) HWB1.out _ Tryz.underlying35 rfl 21 head_size rfl ?_)
  | (go_at_call 96; refine (HMD.out _ HB0.out).mono ?_; rintro e W2 ⟨rfl, hb⟩; have HB := hid hb; clear hb))
 have HB2 := hid ((HB.out.block w.heap.size (by have := HSZ.out; omega)).trans HWB1.out)
 have HBW := hid (HB0.out.trans (HB.out.mono HB0.out.size))
 have c0 := row_at HB2.out 0 _ rfl
 have c1 := row_at HB2.out 1 _ rfl
 have c2 := row_at HB2.out 2 _ rfl
 have c15 := row_at HB2.out 15 _ rfl
 have hsz : w.heap.size ≤ W2.heap.size := HBW.out.size
 have HSZ2 := hid hsz
 have v1 := (HX.out.1.below HBW.out).conv 9 Tryz.underlying9
 have v2 := (HX.out.2.below HBW.out).conv 9 Tryz.underlying9
 have HNH := hid (newhdr_any (bs name) (bs text) W2)
 go_wp2_with (go_at_call 97; refine HNH.out.mono ?_; rintro e w3 ⟨rfl, hr, hlt, hb⟩; unfold SH.v)
 go_ret
 exact ⟨W2.heap.size, rfl, hr, HSZ2.out, hlt, HBW.out.trans (hb.mono HSZ2.out)⟩
def HOkU (h : LHead) : Prop := (addrB h.t = true ∨ routB h.t = true) → h.uri.raw = []
theorem header_any (N : Nat) (h : LHead) (cs : List Value) (w : World) (hG : Gl N w) (hB : HBd2 h) (hH : LH w h cs) (hu : HOkU h) (ht : 0 ≤ h.t ∧ h.t ≤ 14) : Calls Tryz.prog 74 #[.agg cs.toArray] w (NewH (hdrS h) w) := by
 have hlen := hH.len
 obtain ⟨t, name, text, display, u, params, num, proto, version, transport, host, port⟩ := h
 dsimp only at ht
 have hc : t = 0 ∨ t = 1 ∨ t = 2 ∨ t = 3 ∨ t = 4 ∨ t = 5 ∨ t = 6 ∨ t = 7 ∨ t = 8 ∨ t = 9 ∨ t = 10 ∨ t = 11 ∨ t = 12 ∨ t = 13 ∨ t = 14 := by omega
 rcases hc with rfl | rfl | rfl | rfl | rfl | rfl | rfl | rfl | rfl | rfl | rfl | rfl | rfl | rfl | rfl
 ·exact header_0 N name text display u params num proto version transport host port cs w hG hB hH
 ·exact header_of _ cs w hlen (fun wz hz => impmade_1 N name text display u params num proto version transport host port cs wz (hG.below hz hG.le) hB (hH.below hz) (hu (by first | exact .inl rfl | exact .inr rfl)))
 ·exact header_of _ cs w hlen (fun wz hz => impmade_2 N name text display u params num proto version transport host port cs wz (hG.below hz hG.le) hB (hH.below hz) (hu (by first | exact .inl rfl | exact .inr rfl)))
 ·exact header_of _ cs w hlen (fun wz hz => impmade_3 N name text display u params num proto version transport host port cs wz (hG.below hz hG.le) hB (hH.below hz) (hu (by first | exact .inl rfl | exact .inr rfl)))
 ·exact header_4 N name text display u params num proto version transport host port cs w hG hB hH
 ·exact header_5 N name text display u params num proto version transport host port cs w hG hB hH
 ·exact header_6 N name text display u params num proto version transport host port cs w hG hB hH
 ·exact header_7 N name text display u params num proto version transport host port cs w hG hB hH
 ·exact header_8 N name text display u params num proto version transport host port cs w hG hB hH
 ·exact header_of _ cs w hlen (fun wz hz => impmade_9 N name text display u params num proto version transport host port cs wz (hG.below hz hG.le) hB (hH.below hz))
 ·exact header_10 N name text display u params num proto version transport host port cs w hG hB hH
 ·exact header_of _ cs w hlen (fun wz hz => impmade_11 N name text display u params num proto version transport host port cs wz (hG.below hz hG.le) hB (hH.below hz) (hu (by first | exact .inl rfl | exact .inr rfl)))
 ·exact header_of _ cs w hlen (fun wz hz => impmade_12 N name text display u params num proto version transport host port cs wz (hG.below hz hG.le) hB (hH.below hz) (hu (by first | exact .inl rfl | exact .inr rfl)))
 ·exact header_of _ cs w hlen (fun wz hz => impmade_13 N name text display u params num proto version transport host port cs wz (hG.below hz hG.le) hB (hH.below hz) (hu (by first | exact .inl rfl | exact .inr rfl)))
 ·exact header_of _ cs w hlen (fun wz hz => impmade_14 N name text display u params num proto version transport host port cs wz (hG.below hz hG.le) hB (hH.below hz) (hu (by first | exact .inl rfl | exact .inr rfl)))
theorem CK.kt {N : Nat} {w w' : World} (h : CK N w w') : KT w w' := fun g cs t hg h1 _ _ _ _ => h.same hg h1
theorem SH.rep_ck {N : Nat} {w w' : World} {g : Nat} {h : SH} (hr : h.rep w g) (k : CK N w w') : h.rep w' g := SH.rep_kt hr k.kt
theorem setCell_same {w : World} {g : Nat} {t : TypeId} {cs : Array Value} {fz : Nat × Nat} {i : Nat} {v : Value} (hg : w.heap[g]? = some (.cells cs t fz)) (hi : cs[i]? = some v) : w.setCell ⟨g, i, none⟩ v = w := by
 have hlt : g < w.heap.size := heap_lt hg
 have h1 : w.heap[g] = .cells cs t fz := (Array.getElem?_eq_some_iff.1 hg).2
 obtain ⟨hil, hiv⟩ := Array.getElem?_eq_some_iff.1 hi
 have h2 : cs.setIfInBounds i v = cs := by
  apply Array.ext (by simp)
  intro j hj1 hj2
  rw [Array.getElem_setIfInBounds]
  split
  ·rename_i e; subst e; exact hiv.symm
  ·rfl
 unfold World.setCell
 have h3 : (w.heap.modify g fun
   | .cells c elem frozen => .cells (if (none : Option Nat).isSome then c else c.setIfInBounds i v) elem frozen
   | o => o) = w.heap := by
  apply Array.ext (by simp)
  intro j hj1 hj2
  rw [Array.getElem_modify]
  split
  ·rename_i e; subst e; rw [h1]; simp [h2]
  ·rfl
 cases w
 simp only at h3 ⊢
 congr 1
def SBn (base : Nat) (w : World) (v : Value) (l : Bytes) : Prop := ∃ k cap cs fz, v = .slice (some ⟨k, 0, none⟩) l.length cap ∧ base ≤ k ∧ k < w.heap.size ∧ w.heap[k]? = some (.cells cs 5 fz) ∧ ∀ i (h : i < l.length), cs[i]? = some (.int .u8 l[i].toNat)
theorem SBn.ck {base N : Nat} {w w' : World} {v : Value} {l : Bytes} (h : SBn base w v l) (k : CK N w w') : SBn base w' v l := by
 obtain ⟨g, cap, cs, fz, h1, h2, h3, h4, h5⟩ := h
 obtain ⟨fz', h6⟩ := k.blk ⟨fz, h4⟩
 exact ⟨g, cap, cs, fz', h1, h2, heap_lt h6, h6, h5⟩
def CE (N : Nat) (w w' : World) : Prop := CK N w w' ∧ ∀ g : Nat, w.heap[g]? = some (Obj.cells #[] 5 (0, 0)) → w'.heap[g]? = some (Obj.cells #[] 5 (0, 0))
theorem CE.refl (N : Nat) (w : World) : CE N w w := ⟨CK.refl _ _, fun _ h => h⟩
theorem CE.trans {N : Nat} {a b c : World} (h : CE N a b) (k : CE N b c) : CE N a c := ⟨h.1.trans k.1, fun g hg => k.2 g (h.2 g hg)⟩
theorem CE.of_below {N : Nat} {w w' : World} (h : Below w.heap.size w w') (hn : N ≤ w.heap.size) : CE N w w' := ⟨CK.of_below h hn, fun g hg => (h.block g (heap_lt hg)).trans hg⟩
def IE (w0 w : World) : Prop := CE w0.heap.size w0 w
theorem IE.step {w0 w w' : World} (h : IE w0 w) (k : CE w0.heap.size w w') : IE w0 w' := h.trans k
theorem IE.ck {w0 w : World} (h : IE w0 w) : IW w0 w := h.1
theorem run_append0 (W : World) (base g : Nat) (ty : TypeId) (xv : Value) (m : Bytes) (hg : W.heap[g]? = some (.cells #[] 5 (0, 0))) (hbg : base ≤ g) (HS : SB W xv m) (hl : m.length ≤ 70368744177664) :
  ∃ v1 w1, (Builtin.append_ #[22, 22] ty #[.slice (some ⟨g, 0, none⟩) 0 0, xv]).run Tryz.prog W = .ok v1 w1 ∧ SBn base w1 v1 m ∧ Below W.heap.size W w1 := by
 obtain ⟨i0, hi, hzz⟩ := Option.map_eq_some_iff.1 u8_info
 simp only [Prod.mk.injEq] at hzz
 obtain ⟨hz0, hz1, hz2⟩ := hzz
 obtain ⟨A, c, rfl, h2, h3, h4, h5⟩ := HS
 have hlt := heap_lt hg
 cases A with
 | none =>
  obtain ⟨rfl, rfl⟩ := h4 rfl
  have hown : W.ownsRow base 5 1 (.slice (some ⟨g, 0, none⟩) 0 0) 0 [] := ⟨rfl, .inr ⟨g, 0, #[], rfl, hbg, hg, Nat.le_refl _, Nat.zero_le _, rfl, rfl⟩⟩
  exact ⟨_, W, run_append_owned_none (P := Tryz.prog) (w := W) base 22 ty 5 i0 1 Tryz.underlying22 hi _ 0 [] hown, ⟨g, 0, #[], (0, 0), rfl, hbg, hlt, hg, fun i h => absurd h (by simp)⟩, Below.refl _ _⟩
 | some ad =>
  have hnews : ∀ j u, (Lib.byteCells m)[j]? = some u → W.cell? (ad.add j) = some u := by
   intro j u hj
   have hjl : j < m.length := by
    have := (List.getElem?_eq_some_iff.1 hj).1
    simpa [Lib.byteCells] using this
   obtain ⟨a1, e1, hc⟩ := h5 j hjl
   obtain rfl : ad = a1 := Option.some.inj e1
   rw [hc]
   simpa [Lib.byteCells, hjl] using hj
  by_cases hm : m = []
  ·subst hm
   have hr := run_append_room (P := Tryz.prog) W 22 ty 5 i0 Tryz.underlying22 hi g 0 0 #[] hg ad 0 c [] (by simp) (by simp) (by simp) (by simp) (by simp)
   have e0 : W.setRow g (#[] : Array Value) = W := by
    unfold World.setRow
    have h3 : (W.heap.modify g fun
      | .cells _ elem frozen => .cells #[] elem frozen
      | o => o) = W.heap := by
     apply Array.ext (by simp)
     intro j hj1 hj2
     rw [Array.getElem_modify]
     split
     ·rename_i e; subst e; rw [(Array.getElem?_eq_some_iff.1 hg).2]
     ·rfl
    cases W
    simp only at h3 ⊢
    congr 1
   refine ⟨_, _, hr, ?_, ?_⟩
   ·rw [show ((#[] : Array Value).toList.take (0 * i0.size) ++ ([] : List Value) ++ (#[] : Array Value).toList.drop (0 * i0.size + ([] : List Value).length)).toArray = #[] by simp, e0]
    exact ⟨g, 0, #[], (0, 0), rfl, hbg, hlt, hg, fun i h => absurd h (by simp)⟩
   ·rw [show ((#[] : Array Value).toList.take (0 * i0.size) ++ ([] : List Value) ++ (#[] : Array Value).toList.drop (0 * i0.size + ([] : List Value).length)).toArray = #[] by simp, e0]
    exact Below.refl _ _
  ·have hpos : 0 < m.length := List.length_pos_iff.2 hm
   have hr := run_append_grow (P := Tryz.prog) W 22 ty 5 i0 (.int .u8 0) Tryz.underlying22 hi hz0 ⟨g, 0, none⟩ 0 0 [] (by simp) (by simp) ad m.length c (Lib.byteCells m) (by simp [Lib.byteCells, hz1]) hnews (by omega) (by omega)
    (growslice_fits (by omega) (by rw [hz2]; omega))
   refine ⟨_, _, hr, ⟨W.heap.size, _, _, (0, 0), by rw [Nat.zero_add], Nat.le_trans hbg (Nat.le_of_lt hlt), by simp, heap_alloc_new W.drew _, fun i h => ?_⟩, (Below.refl _ _).drew.alloc (Nat.le_refl _) _⟩
   have h9 : i < (Lib.byteCells m).length := by simpa [Lib.byteCells] using h
   simp [Lib.byteCells, Array.getElem?_append, h]
section
variable {ops : Array Oper} {rest : List Oper} {o : Oper} {a : Act} {Q : Exit → Act → World → Prop}
theorem wpList_app0 {W : World} (base g : Nat) (hgd : o.guard = none) (s x : Operand)
  (ho : o.op = .call { callee := .builtin .append, args := #[s, x], argTypes := #[22, 22] })
  (xv : Value) (m : Bytes) (hs : a.eval s = .slice (some ⟨g, 0, none⟩) 0 0) (hx : a.eval x = xv) (hg : W.heap[g]? = some (.cells #[] 5 (0, 0))) (hbg : base ≤ g) (HS : SB W xv m) (hl : m.length ≤ 70368744177664)
  (h : ∀ v1 w1, SBn base w1 v1 m → Below W.heap.size W w1 → wpList Tryz.prog ops Q rest (a.put o.dst v1) w1) :
  wpList Tryz.prog ops Q (o :: rest) a W := by
 refine wpList_plain hgd fun K hK => ?_
 obtain ⟨v1, w1, hr, h2, h3⟩ := run_append0 W base g o.type xv m hg hbg HS hl
 unfold Oper.wp
 simp [execOp, ho, resolve, invoke, builtin, hs, hx, hr, Result.andThen]
 exact hK _ _ (h v1 w1 h2 h3)
end
theorem req_na_ah : NA 85 "AppendHeader" := fun _ _ => by kernel_rfl
theorem req_me_ah (m : Nat) (w : World) : (method 467 85 (.pointer (some ⟨m, 0, none⟩)) "AppendHeader").run Tryz.prog w = .ok (218, .pointer (some ⟨m, 0, none⟩)) w := by kernel_rfl
theorem res_na_ah : NA 83 "AppendHeader" := fun _ _ => by kernel_rfl
theorem res_me_ah (m : Nat) (w : World) : (method 467 83 (.pointer (some ⟨m, 0, none⟩)) "AppendHeader").run Tryz.prog w = .ok (218, .pointer (some ⟨m, 0, none⟩)) w := by kernel_rfl
theorem req_na_sb : NA 85 "SetBody" := fun _ _ => by kernel_rfl
theorem req_me_sb (m : Nat) (w : World) : (method 467 85 (.pointer (some ⟨m, 0, none⟩)) "SetBody").run Tryz.prog w = .ok (237, .pointer (some ⟨m, 0, none⟩)) w := by kernel_rfl
theorem res_na_sb : NA 83 "SetBody" := fun _ _ => by kernel_rfl
theorem res_me_sb (m : Nat) (w : World) : (method 467 83 (.pointer (some ⟨m, 0, none⟩)) "SetBody").run Tryz.prog w = .ok (237, .pointer (some ⟨m, 0, none⟩)) w := by kernel_rfl
structure HMs (h : LHead) : Prop where
 bd : HBd2 h
 u : HOkU h
 t : 0 ≤ h.t ∧ h.t ≤ 14
 ok : (hdrS h).ok
 n7 : (hdrS h).slot ≠ 7
 nm : (hdrS h).nm.length ≤ 70368744177664
 cl : lowT (hdrS h).nm ≠ nmCL ∧ lowT (hdrS h).nm ≠ [108]
theorem addRef7 (R : Nat → Option Nat) (h : SH) (g : Nat) (hr : R 7 = none) (hn : h.slot ≠ 7) : addRef R h g 7 = none := by
 unfold addRef setRef
 split
 ·exact hr
 ·dsimp only
  split
  ·rename_i h1; exact absurd h1.2.symm hn
  ·exact hr
theorem hms_all {hk : List (Nat × SH)} {l : List LHead} (he : hk.map (·.2) = l.map hdrS) (hl : ∀ h ∈ l, HMs h) : (∀ p ∈ hk, p.2.nm.length ≤ 70368744177664) ∧ noCL hk ∧ ∀ p ∈ hk, p.2.ok := by
 have key : ∀ p ∈ hk, ∃ h ∈ l, hdrS h = p.2 := by
  intro p hp
  have h1 : p.2 ∈ hk.map (·.2) := List.mem_map.2 ⟨p, hp, rfl⟩
  rw [he] at h1
  obtain ⟨h, h2, h3⟩ := List.mem_map.1 h1
  exact ⟨h, h2, h3⟩
 refine ⟨fun p hp => ?_, fun p hp => ?_, fun p hp => ?_⟩ <;> obtain ⟨h, h1, h2⟩ := key p hp <;> rw [← h2]
 ·exact (hl h h1).nm
 ·exact (hl h h1).cl
 ·exact (hl h h1).ok
theorem MRep.hlist {n0 m : Nat} {T : TypeId} {hs : List (Nat × SH)} {R : Nat → Option Nat} {X : List Value} {w : World} (hM : MRep n0 w m T hs R X) (h0 : X[0]? = some (.bool false)) (hok : ∀ p ∈ hs, p.2.ok) (hl : hs.length ≤ 4294967296) : HList w m hs := by
 obtain ⟨v, hm, hb, ho, hT⟩ := hM.at_
 have h12 : (mcells v R X)[12]? = some (.bool false) := by simpa [mcells] using h0
 have ht : T ≠ 5 ∧ T ≠ 166 := by rcases hT with rfl | rfl <;> exact ⟨by decide, by decide⟩
 rcases ho.2 with ⟨rfl, h0⟩ | ⟨g, cap, cur, rfl, _, hg, _, _, _, hk⟩
 ·obtain rfl := List.length_eq_zero_iff.1 h0
  exact ⟨_, T, none, 0, hb, ht.1, ht.2, rfl, h12, hl, fun h => absurd rfl h, fun p hp => absurd hp (by simp)⟩
 ·refine ⟨_, T, some ⟨g, 0, none⟩, cap, hb, ht.1, ht.2, rfl, h12, hl, fun _ => ⟨g, cur, (0, 0), rfl, hg, fun i hi => ?_⟩, fun p hp => ⟨hM.reps p hp, hok p hp⟩⟩
  have h1 : (hs.map fun p => p.2.v p.1)[i]? = some (hs[i].2.v hs[i].1) := by simp [hi]
  rw [← hk, List.getElem?_take_of_lt (by omega)] at h1
  simpa using h1
theorem mat_of (M : SMsg) {n0 n1 m : Nat} {R : Nat → Option Nat} {X : List Value} {v : Value} {w : World} (hM : MRep n0 w m (MTy M) M.heads R X) (h0 : X[0]? = some (.bool false)) (h1 : X[1]? = some (.string M.version)) (h2 : X[2]? = some v)
  (hb : BodyAt n1 w v M.body) (h6 : if M.resp then X[6]? = some (.string M.reason) ∧ X[7]? = some (.int .i64 M.code) else X[6]? = some (.string M.method) ∧ UCells w (fun i => X[7 + i]?) M.uri)
  (hok : ∀ p ∈ M.heads, p.2.ok) (hl : M.heads.length ≤ 4294967296) : MsgAt n1 w m M := by
 obtain ⟨v0, _, hbk, _, _⟩ := hM.at_
 refine ⟨hM.hlist h0 hok hl, _, hbk, by simpa [mcells] using h1, ⟨v, by simpa [mcells] using h2, hb⟩, ?_⟩
 have e : ∀ j, (mcells v0 R X)[12 + j]? = X[j]? := fun j => by simp [mcells, Nat.add_comm]
 by_cases hr : M.resp = true
 ·rw [if_pos hr] at h6 ⊢
  exact ⟨(e 6).trans h6.1, (e 7).trans h6.2⟩
 ·rw [if_neg hr] at h6 ⊢
  refine ⟨(e 6).trans h6.1, ?_⟩
  have e2 : (fun i => (mcells v0 R X)[19 + i]?) = fun i => X[7 + i]? := by
   funext i
   rw [← e (7 + i)]
   congr 1
   omega
  rw [e2]
  exact h6.2
theorem SBn.mk {base n0 m : Nat} {T : TypeId} {hs : List (Nat × SH)} {R : Nat → Option Nat} {X : List Value} {w w' : World} {v : Value} {l : Bytes} (h : SBn base w v l) (hM : MRep n0 w m T hs R X) (hk : Lib.OthersKept 91 (some m) w w') (hl : l.length ≤ 9223372036854775807) : BodyAt w'.heap.size w' v (some l) := by
 obtain ⟨g, cap, cs, fz, rfl, h2, h3, h4, h5⟩ := h
 obtain ⟨v0, _, hb, _, hT⟩ := hM.at_
 have hne : g ≠ m := by
  rintro rfl
  rw [hb] at h4
  injection h4 with h4
  injection h4 with _ h4 _
  rcases hT with rfl | rfl
  ·exact absurd h4 (by decide)
  ·exact absurd h4 (by decide)
 have h6 := hk g _ h4 (fun e => hne (by injection e)) (fun c f e => by injection e with _ e _; exact absurd e (by decide))
 exact ⟨g, cap, cs, fz, rfl, heap_lt h6, hl, h6, h5⟩
def msgS (m : LMsg) (hs : List (Nat × SH)) : SMsg := ⟨m.resp, bs m.method, toS m.uri, m.code, bs m.reason, bs m.version, hs, some m.body⟩
def MPost (m : LMsg) (w : World) (e : Ending) (w' : World) : Prop := ∃ mm hs, e = .returned (.iface (if m.resp then 83 else 85) (.pointer (some ⟨mm, 0, none⟩))) ∧ MsgAt w'.heap.size w' mm (msgS m hs) ∧ hs.map (·.2) = m.heads.map hdrS ++ [.clen m.body.length] ∧ Below w.heap.size w w'
def refsOf (hk : List (Nat × SH)) : Nat → Option Nat := hk.foldl (fun R p => addRef R p.2 p.1) fun _ => none
theorem refsOf_snoc (hk : List (Nat × SH)) (g : Nat) (h : SH) : refsOf (hk ++ [(g, h)]) = addRef (refsOf hk) h g := by simp [refsOf]
def MPostR (m : LMsg) (w : World) (e : Ending) (w' : World) : Prop := ∃ mm hs, e = .returned (.iface (if m.resp then 83 else 85) (.pointer (some ⟨mm, 0, none⟩))) ∧ MsgAt w'.heap.size w' mm (msgS m hs) ∧ hs.map (·.2) = m.heads.map hdrS ++ [.clen m.body.length] ∧ Below w.heap.size w w' ∧ ∃ n0 X, MRep n0 w' mm (MTy (msgS m hs)) hs (refsOf hs) X
theorem MPostR.post {m : LMsg} {w : World} {e : Ending} {w' : World} (h : MPostR m w e w') : MPost m w e w' := by
 obtain ⟨mm, hs, h1, h2, h3, h4, -⟩ := h
 exact ⟨mm, hs, h1, h2, h3, h4⟩
theorem ok_more {hk : List (Nat × SH)} (g : Nat) (n : Nat) (h : ∀ p ∈ hk, p.2.ok) (hn : n < 4294967296) : ∀ p ∈ hk ++ [(g, .clen n)], p.2.ok := by
 intro p hp
 rcases List.mem_append.1 hp with h1 | h1
 ·exact h p h1
 ·rw [List.mem_singleton] at h1
  subst h1
  exact ⟨by omega, by omega⟩
theorem row_sub {w : World} {g : Nat} {t : TypeId} {fz : Nat × Nat} {pre mid post : List Value} (hg : w.heap[g]? = some (Obj.cells (pre ++ mid ++ post).toArray t fz)) (n : Nat) (hn : pre.length = n) : ∀ j v, mid[j]? = some v → w.cell? ((⟨g, n, none⟩ : Addr).add j) = some v := by
 intro j v hj
 have h1 : ((⟨g, n, none⟩ : Addr).add j) = ⟨g, n + j, none⟩ := Addr.add_lit _ _ _
 rw [h1, blk_cell hg]
 have hjl := (List.getElem?_eq_some_iff.1 hj).1
 simp only [List.getElem?_toArray]
 rw [List.append_assoc, List.getElem?_append_right (by omega), hn, Nat.add_sub_cancel_left, List.getElem?_append_left hjl]
 exact hj
theorem message_resR (N : Nat) (method : Bytes) (u : LUri) (code : Int) (reason : Bytes) (heads : List LHead) (body : Bytes) (cs : List Value) (w : World) (hG : Gl N w) (hM : LM w ⟨true, method, u, code, reason, sip20B, heads, body, true, false⟩ cs) (hl : reason.length ≤ 70368744177664 ∧ method.length ≤ 70368744177664) (hbl : body.length < 4294967296) (hhl : heads.length ≤ 1000) (hH : ∀ h ∈ heads, HMs h) : Calls Tryz.prog 45 #[.agg cs.toArray] w (MPostR ⟨true, method, u, code, reason, sip20B, heads, body, true, false⟩ w) := by
 obtain ⟨va, ul, vb, vc, vh, vd, rfl, hm, hu, hr, hv, hh, hbo, hcode⟩ := hM
 have HLU := hid hu
 obtain ⟨u0, u1, u4, u5, u6, u8, u9, rfl, q0, q1, q4, q5, q6, q8, q9, q7⟩ := hu
 dsimp only at *
 simp only [List.cons_append, List.nil_append]
 have HX := hid (And.intro hm (And.intro hr (And.intro hv (And.intro hh (And.intro hbo hcode)))))
 have HGL := hid hG
 have HNB := hid (And.intro hl (And.intro hbl (And.intro hhl hH)))
 obtain ⟨Am, cm, rfl, -⟩ := hm.form
 obtain ⟨Ar, cr, rfl, -⟩ := hr.form
 obtain ⟨Av, cv, rfl, -⟩ := hv.form
 obtain ⟨Ah, ch, rfl, -⟩ := hh
 obtain ⟨Ab, cb, rfl, -⟩ := hbo.form
 clear hm hr hv hbo hcode hG hl hbl hhl hH q0 q1 q4 q5 q6 q7 q8 q9
 have hlen7 : sip20B.length = 7 := rfl
 rw [hlen7] at HX ⊢
 obtain ⟨wb, hwb⟩ : ∃ wb, wb = w.alloc (.cells #[.bool true, .slice Am method.length cm, u0, u1, .bool u.star, .bool u.slashes, u4, u5, u6, .int .i64 u.port, u8, u9, .int .i64 code, .slice Ar reason.length cr, .slice Av 7 cv, .slice Ah heads.length ch, .slice Ab body.length cb, .bool true, .bool false] 28) := ⟨_, rfl⟩
 have HWB1 := hid (show wb.heap[w.heap.size]? = some (.cells ([.bool true, .slice Am method.length cm, u0, u1, .bool u.star, .bool u.slashes, u4, u5, u6, .int .i64 u.port, u8, u9, .int .i64 code, .slice Ar reason.length cr, .slice Av 7 cv, .slice Ah heads.length ch, .slice Ab body.length cb, .bool true, .bool false] : List Value).toArray 28 (0, 0)) by rw [hwb]; exact heap_alloc_new w _)
 have HB0 := hid (show Below w.heap.size w wb by rw [hwb]; exact (Below.refl _ w).alloc (Nat.le_refl _) _)
 have HSZ := hid (show wb.heap.size = w.heap.size + 1 by rw [hwb]; simp)
 go_enter Tryz.func45, Tryz.ntmps45
 go_upto_region 1 with fail
 rw [← hwb]
 generalize Value.agg #[.bool true, .slice Am method.length cm, u0, u1, .bool u.star, .bool u.slashes, u4, u5, u6, .int .i64 u.port, u8, u9, .int .i64 code, .slice Ar reason.length cr, .slice Av 7 cv, .slice Ah heads.length ch, .slice Ab body.length cb, .bool true, .bool false] = arg0
 clear hwb
 have c0 := row_at HWB1.out 0 _ rfl
 have c12 := row_at HWB1.out 12 _ rfl
 have c13 := row_at HWB1.out 13 _ rfl
 have v1 := (HX.out.2.1.below HB0.out).conv 9 Tryz.underlying9
 go_upto_region 4 with (go_at_call 78; refine (newres_any code (bs reason) _).mono ?_; rintro e wn ⟨rfl, hm0, hb⟩)
 obtain ⟨mm, hmm⟩ : ∃ mm, mm = wb.heap.size := ⟨_, rfl⟩
 have HB := hid hb
 rw [← hmm] at hm0 ⊢
 obtain ⟨n0, hn0⟩ : ∃ n0, n0 = mm := ⟨_, rfl⟩
 have HM0 := hid (show MRep n0 wn mm _ _ _ _ by rw [hn0]; exact hm0)
 have HMM := hid (show wb.heap.size ≤ n0 by omega)
 clear hmm hm0 hn0 hb c0 c12 c13 v1
 have HBN := hid (show ∀ wz, Below n0 wn wz → Below w.heap.size w wz from fun wz h => HB0.out.trans ((HB.out.trans (h.mono (by have := HMM.out; omega))).mono HB0.out.size))
 have HBX := hid (show ∀ wz, Below n0 wn wz → wz.heap[w.heap.size]? = some (.cells ([.bool true, .slice Am method.length cm, u0, u1, .bool u.star, .bool u.slashes, u4, u5, u6, .int .i64 u.port, u8, u9, .int .i64 code, .slice Ar reason.length cr, .slice Av 7 cv, .slice Ah heads.length ch, .slice Ab body.length cb, .bool true, .bool false] : List Value).toArray 28 (0, 0)) from fun wz h => by
  have h1 := HB.out.block w.heap.size (by have := HSZ.out; omega)
  have h2 := h.block w.heap.size (by have := HSZ.out; have := HMM.out; omega)
  rw [h2, h1]; exact HWB1.out)
 have HWX := hid (show ∀ wz, Below n0 wn wz → wn.heap.size ≤ wz.heap.size from fun wz h => h.size)
 obtain ⟨v0, hmn, hmb, hmo, hmT⟩ := HM0.out.at_
 have e13 : (mcells v0 (fun _ => none) (msgX (.slice none 0 0) ++ [.string (bs reason), .int .i64 code]))[13]? = some (.string sip2) := rfl
 have e12 : (mcells v0 (fun _ => none) (msgX (.slice none 0 0) ++ [.string (bs reason), .int .i64 code]))[12]? = some (.bool false) := rfl
 have s13 := setCell_same hmb e13
 have s12 := setCell_same hmb e12
 have m13 := (blk_cell hmb 13).trans e13
 have m12 := (blk_cell hmb 12).trans e12
 have f13 := blk_frozen hmb 13
 have f12 := blk_frozen hmb 12
 have hmlt := heap_lt hmb
 clear e12 e13 hmn hmb hmo hmT
 have b1 := HBX.out wn (Below.refl _ _)
 have c14 := row_at b1 14 _ rfl
 have c18 := row_at b1 18 _ rfl
 clear b1
 have v1 := (HX.out.2.2.1.below (HBN.out wn (Below.refl _ _))).conv 9 Tryz.underlying9
 have hS2 : (⟨sip20B.toArray⟩ : ByteArray) = sip2 := rfl
 rw [hS2] at v1
 go_upto_region 6 with fail
 try rw [s13]
 go_upto_region 7 with fail
 try rw [s12]
 clear s12 s13 m12 m13 f12 f13 hmlt c14 c18 v1 hS2
 have HNN := hid (show n0 ≤ wn.heap.size from by have := HM0.out.at_; obtain ⟨_, h1, hb, _⟩ := this; exact Nat.le_trans h1 (Nat.le_of_lt (heap_lt hb)))
 have b1 := HBX.out wn (Below.refl _ _)
 have c15 := row_at b1 15 _ rfl
 clear b1
 go_wp2_with fail
 go_loopw [7, 66] (fun _ i wr => ∃ (k : Nat) (hk : List (Nat × SH)) (R : Nat → Option Nat), k ≤ heads.length ∧ i = .int .i64 k ∧ hk.map (·.2) = (heads.take k).map hdrS ∧ MRep n0 wr mm 133 hk R (msgX (.slice none 0 0) ++ [.string (bs reason), .int .i64 code]) ∧ (R 7 = none ∧ R = refsOf hk) ∧ Below n0 wn wr) (fun _ i _ => heads.length - (intOf i).toNat)
 case atStart => exact ⟨0, [], fun _ => none, Nat.zero_le _, rfl, rfl, HM0.out, ⟨rfl, rfl⟩, Below.refl _ _⟩
 case round =>
  obtain ⟨k, hk, R, hkl, rfl, hmap, hmr, hr7, hb⟩ := hrel
  obtain ⟨wo, rfl⟩ : ∃ wo : World, wo = wr := ⟨_, rfl⟩
  have HMP := hid hmap
  have HMR := hid hmr
  have HR7 := hid hr7
  have HBW := hid hb
  have HKL := hid (show hk.length = k by have := congrArg List.length hmap; simpa [Nat.min_eq_left hkl] using this)
  have HNO := hid (Nat.le_trans HNN.out (HWX.out wo hb))
  have hl64 : (heads.length : Int) ≤ 1000 := by have := HNB.out.2.2.1; omega
  clear hmap hmr hr7 hb c15
  by_cases hlt : k < heads.length
  ·obtain ⟨ad, c', hcs, h, e1, hh, hL, hcell⟩ := HX.out.2.2.2.1.at_ k hlt
   cases e1
   have HH := hid hh
   have HHM := hid (HNB.out.2.2.2 h (List.mem_of_getElem? hh))
   have HLH := hid (hL.below (HBN.out wo HBW.out))
   have HON := hid (hL.x w).one
   have HCL := hid (show ∀ j v, hcs[j]? = some v → wo.cell? ((ad.add (k * 21)).add j) = some v from fun j v hj => cell_at_below (hcell j v hj) (HBN.out wo HBW.out))
   have HLN := hid hL.len
   have HIN := hid (show (Tryz.prog.info? 35).map (·.size) = some hcs.length by rw [hL.len]; exact head_size)
   have hi1 : (k : Int) < heads.length := by omega
   have hi0 : (0 : Int) ≤ k := by omega
   clear hL hcell hh
   go_upto_region 16 with (first
    | (refine wpList_load_any_w (by rfl) 35 (.tmp 68) (by rfl) _ (by rfl) hcs _ HCL.out Tryz.underlying35 (by rfl) HIN.out ?_)
    | (refine wpList_store_blk (by rfl) 35 (.tmp 7) (.tmp 69) (by rfl) wo.heap.size 35 [.int .i64 0, .slice none 0 0, .slice none 0 0, .slice none 0 0, .slice none 0 0, .slice none 0 0, .bool false, .bool false, .slice none 0 0, .slice none 0 0, .slice none 0 0, .int .i64 0, .slice none 0 0, .slice none 0 0, .slice none 0 0, .int .u32 0, .slice none 0 0, .slice none 0 0, .slice none 0 0, .slice none 0 0, .int .i64 0] hcs (by rfl) (by rfl) (by rw [HLN.out]; rfl) (heap_alloc_new wo _) 21 head_size HLN.out HON.out ?_; intro W3 hst3)
    | fail)
   have HST := hid hst3
   have HB3 := hid (show Below wo.heap.size wo W3 from ((Below.refl _ wo).alloc (Nat.le_refl _) _).trans hst3.below)
   obtain ⟨g7, hg7⟩ : ∃ g7, g7 = wo.heap.size := ⟨_, rfl⟩
   rw [← hg7] at HST hst3 ⊢
   have HG7 := hid hst3.blk
   clear hst3 HST
   have HB4 := hid (HBW.out.trans (HB3.out.mono HNO.out))
   have HG4 := hid (HGL.out.below (HBN.out W3 HB4.out) HGL.out.le)
   have HLH3 := hid (HLH.out.below HB3.out)
   have HMR3 := hid (HMR.out.below HB3.out)
   have HN3 := hid (Nat.le_trans HNO.out HB3.out.size)
   clear HCL HIN HON hi0 hi1 HX HGL
   refine wp_region_grow 6 (CK W3.heap.size) (IW W3)
    (fun i v w' => match i with
     | 0 => v = .iface 83 (.pointer (some ⟨mm, 0, none⟩))
     | 1 => v = .agg hcs.toArray
     | 2 => ∃ g, v = (hdrS h).v g ∧ (hdrS h).rep w' g ∧ W3.heap.size ≤ g ∧ g < w'.heap.size
     | 3 => v = .func (Fn.method "AppendHeader") #[.iface 83 (.pointer (some ⟨mm, 0, none⟩))] #[]
     | 5 => v = .iface 83 (.pointer (some ⟨mm, 0, none⟩))
     | _ => True)
    [[], [], [1], [0], [3], [0]] rfl (by kernel_rfl) (by kernel_rfl) (fun _ _ => IW.step) ?_ ?_ ?_ ?_
   ·intro j hj v w'
    match j, hj with
    | j + 6, _ => trivial
   ·exact CK.of_below (Below.refl _ _).drew (Nat.le_refl _)
   ·simp only [List.take_succ_cons, List.take_zero, fillAll]
    refine ⟨⟨?_, ?_⟩, ⟨?_, ?_⟩, ⟨?_, ?_⟩, ⟨?_, ?_⟩, ⟨?_, ?_⟩, ⟨?_, ?_⟩, trivial⟩
    ·exact fun v w1 w2 h k => h
    ·intro vals w1 hI hd
     unfold GStep
     go_wp2
     exact CK.refl _ _
    ·exact fun v w1 w2 h k => h
    ·intro vals w1 hI hd
     have hg := hI.same HG7.out (by decide)
     unfold GStep
     go_wp2_with (refine wpList_load_blk (by rfl) 35 (.tmp 7) (by rfl) g7 35 (0, 0) hcs (by rfl) hg _ Tryz.underlying35 rfl 21 head_size HLN.out ?_)
     exact CK.refl _ _
    ·rintro v w1 w2 ⟨g, h1, h2, h3, h4⟩ k
     exact ⟨g, h1, SH.rep_ck h2 k, h3, Nat.lt_of_lt_of_le h4 k.1.size⟩
    ·intro vals w1 hI hd
     have h1 : vals 1 = _ := hd.1
     have HC := hid (header_any N h hcs w1 (HG4.out.below hI.below HG4.out.le) HHM.out.bd (HLH3.out.below hI.below) HHM.out.u HHM.out.t)
     have HI := hid hI.size
     clear hd
     unfold GStep
     go_wp2_with (go_at_call 74; refine HC.out.mono ?_; rintro e w3 ⟨g, rfl, hr, h1, h2, hb⟩)
     have HF := hid (show CK W3.heap.size w1 w3 ∧ ∃ g', (hdrS h).v g = (hdrS h).v g' ∧ (hdrS h).rep w3 g' ∧ W3.heap.size ≤ g' ∧ g' < w3.heap.size from ⟨CK.of_below hb HI.out, g, rfl, hr, Nat.le_trans HI.out h1, h2⟩)
     clear hr h1 h2 hb
     go_wp2
     exact HF.out
    ·exact fun v w1 w2 h k => h
    ·intro vals w1 hI hd
     have h1 : vals 0 = _ := hd.1
     unfold GStep
     go_wp2
     exact CK.refl _ _
    ·exact fun v w1 w2 h k => trivial
    ·intro vals w1 hI hd
     have h1 : vals 3 = _ := hd.1
     have na := res_na_ah
     unfold GStep
     go_wp2
     exact CK.refl _ _
    ·exact fun v w1 w2 h k => h
    ·intro vals w1 hI hd
     have h1 : vals 0 = _ := hd.1
     unfold GStep
     go_wp2
     exact CK.refl _ _
   ·intro vals w1 hI hR
    simp only [List.drop_succ_cons, List.drop_zero, List.take_succ_cons, List.take_zero, fillAll]
    obtain ⟨-, -, ⟨g, e2, hrep, hg1, hg2⟩, -, -, r5, -⟩ := hR
    have e5 : vals 5 = _ := r5
    rw [e2, e5]
    have HI := hid hI
    have na := res_na_ah
    have me := res_me_ah
    have en := enters_of Tryz.func218 (by kernel_rfl) rfl
    have HC := hid (ah_any n0 mm g 133 hk R (msgX (.slice none 0 0) ++ [.string (bs reason), .int .i64 code]) (hdrS h) w1 (Nat.le_trans HN3.out hI.size) (HMR3.out.below hI.below) hrep ⟨Nat.le_trans HN3.out hg1, hg2⟩ (by rw [HKL.out]; have := HNB.out.2.2.1; omega))
    clear hI hrep hg1 hg2 e2 e5 r5
    unfold SH.v at HC ⊢
    go_wp2_with fail
    refine HC.out.mono ?_
    rintro e w5 ⟨rfl, hM5, hK5⟩
    have HM5 := hid hM5
    have HB5 := hid (HB4.out.trans ((HI.out.below.mono HN3.out).trans hK5.1))
    clear hM5 hK5
    go_wp2_with fail
    go_roundw
    case rel =>
     refine ⟨k + 1, hk ++ [(g, hdrS h)], addRef R (hdrS h) g, hlt, by simp, ?_, HM5.out, ?_, HB5.out⟩
     ·rw [List.take_add_one, HH.out, List.map_append, HMP.out]; simp
     ·exact ⟨addRef7 R (hdrS h) g HR7.out.1 HHM.out.n7, by rw [refsOf_snoc, ← HR7.out.2]⟩
    case measure => exact meas_step hlt (by simp)
  ·have hkk : k = heads.length := by omega
   have b1 := HBX.out wo HBW.out
   have c17 := row_at b1 17 _ rfl
   have HC16 := hid (row_at b1 16 _ rfl)
   clear b1
   have hi2 : ¬ (k : Int) < heads.length := by omega
   go_upto_region 19 with fail
   clear c17 hi2
   have HSB := hid (HX.out.2.2.2.2.1.below (HBN.out wo HBW.out))
   refine wp_region_grow 8 (CE wo.heap.size) (IE wo)
    (fun i v w' => match i with
     | 0 => v = .iface 83 (.pointer (some ⟨mm, 0, none⟩))
     | 1 => ∃ g, v = .slice (some ⟨g, 0, none⟩) 0 0 ∧ wo.heap.size ≤ g ∧ w'.heap[g]? = some (Obj.cells #[] 5 (0, 0))
     | 2 => v = .pointer (some ⟨w.heap.size, 16, none⟩)
     | 3 => v = .slice Ab body.length cb
     | 4 => SBn wo.heap.size w' v body
     | 5 => v = .func (Fn.method "SetBody") #[.iface 83 (.pointer (some ⟨mm, 0, none⟩))] #[]
     | 7 => v = .iface 83 (.pointer (some ⟨mm, 0, none⟩))
     | _ => True)
    [[], [], [], [2], [1, 3], [0], [5], [0]] rfl (by kernel_rfl) (by kernel_rfl) (fun _ _ => IE.step) ?_ ?_ ?_ ?_
   ·intro j hj v w'
    match j, hj with
    | j + 8, _ => trivial
   ·exact CE.of_below (Below.refl _ _).drew (Nat.le_refl _)
   ·simp only [List.take_succ_cons, List.take_zero, fillAll]
    refine ⟨⟨?_, ?_⟩, ⟨?_, ?_⟩, ⟨?_, ?_⟩, ⟨?_, ?_⟩, ⟨?_, ?_⟩, ⟨?_, ?_⟩, ⟨?_, ?_⟩, ⟨?_, ?_⟩, trivial⟩
    ·exact fun v w1 w2 h k => h
    ·intro vals w1 hI hd
     unfold GStep
     go_wp2
     exact CE.refl _ _
    ·rintro v w1 w2 ⟨g, h1, h2, h3⟩ k
     exact ⟨g, h1, h2, k.2 g h3⟩
    ·intro vals w1 hI hd
     unfold GStep
     go_wp2
     first | exact ⟨CE.of_below ((Below.refl _ _).alloc (Nat.le_refl _) _) hI.ck.size, _, rfl, hI.ck.size, heap_alloc_new w1 _⟩ | exact ⟨CE.of_below ((Below.refl _ _).alloc (Nat.le_refl _) _) hI.ck.size, hI.ck.size, heap_alloc_new w1 _⟩ | exact ⟨CE.of_below ((Below.refl _ _).alloc (Nat.le_refl _) _) hI.ck.size, hI.ck.size, (Array.getElem?_eq_some_iff.1 (heap_alloc_new w1 (.cells #[] 5))).2⟩
    ·exact fun v w1 w2 h k => h
    ·intro vals w1 hI hd
     unfold GStep
     go_wp2
     exact CE.refl _ _
    ·exact fun v w1 w2 h k => h
    ·intro vals w1 hI hd
     have h1 : vals 2 = _ := hd.1
     have dc := hI.ck.cell HC16.out
     unfold GStep
     go_wp2
     exact CE.refl _ _
    ·exact fun v w1 w2 h k => h.ck k.1
    ·intro vals w1 hI hd
     obtain ⟨g, e1, hg1, hg2⟩ := hd.1
     have e3 : vals 3 = _ := hd.2.1
     have HS := hid (HSB.out.ck hI.ck)
     have HI := hid hI.ck.size
     clear hd hI
     unfold GStep
     dsimp only
     rw [e1, e3]
     go_simp
     refine wpList_app0 wo.heap.size g (by rfl) _ _ (by rfl) _ body (by rfl) (by rfl) hg2 hg1 HS.out (by have := HNB.out.2.1; omega) ?_
     intro v1 w3 h1 h2
     have HF := hid (And.intro (CE.of_below h2 HI.out) h1)
     clear h1 h2
     go_wp2
     exact HF.out
    ·exact fun v w1 w2 h k => h
    ·intro vals w1 hI hd
     have h1 : vals 0 = _ := hd.1
     unfold GStep
     go_wp2
     exact CE.refl _ _
    ·exact fun v w1 w2 h k => trivial
    ·intro vals w1 hI hd
     have h1 : vals 5 = _ := hd.1
     have na := res_na_sb
     unfold GStep
     go_wp2
     exact CE.refl _ _
    ·exact fun v w1 w2 h k => h
    ·intro vals w1 hI hd
     have h1 : vals 0 = _ := hd.1
     unfold GStep
     go_wp2
     exact CE.refl _ _
   ·intro vals w1 hI hR
    simp only [List.drop_succ_cons, List.drop_zero, List.take_succ_cons, List.take_zero, fillAll]
    obtain ⟨-, -, -, -, r4, -, -, r7, -⟩ := hR
    have e7 : vals 7 = _ := r7
    rw [e7]
    generalize vals 4 = vb at r4 ⊢
    have HVB := hid r4
    obtain ⟨kb, capb, csb, fzb, rfl, -⟩ := r4
    have HI := hid hI.ck
    have na := res_na_sb
    have me := res_me_sb
    have en := enters_of Tryz.func237 (by kernel_rfl) rfl
    have HMS := hid (hms_all HMP.out (fun x hx => HNB.out.2.2.2 x (List.mem_of_mem_take hx)))
    have HC := hid (setbody_any n0 mm 133 hk R (msgX (.slice none 0 0) ++ [.string (bs reason), .int .i64 code]) ⟨kb, 0, none⟩ body.length capb w1 (Nat.le_trans HNO.out hI.ck.size) (HMR.out.below hI.ck.below) HMS.out.1 (by rw [HKL.out]; have := HNB.out.2.2.1; omega) HMS.out.2.1 HR7.out.1 (by simp [msgX]) HNB.out.2.1)
    clear hI e7 r7
    go_wp2_with fail
    refine HC.out.mono ?_
    rintro e w5 ⟨rfl, hM5, hK5⟩
    have HM5 := hid hM5
    have HVB5 := hid (show Below n0 w1 w5 from hK5.1)
    have HKB := hid hK5.2
    clear hM5 hK5
    go_wp2
    go_ret
    have hlen : (hk ++ [(w1.heap.size, SH.clen body.length)]).length ≤ 4294967296 := by rw [List.length_append, HKL.out]; have := HNB.out.2.2.1; simp; omega
    have HMM5 : MRep n0 w5 mm (MTy (msgS ⟨true, method, u, code, reason, sip20B, heads, body, true, false⟩ (hk ++ [(w1.heap.size, SH.clen body.length)]))) (msgS ⟨true, method, u, code, reason, sip20B, heads, body, true, false⟩ (hk ++ [(w1.heap.size, SH.clen body.length)])).heads (addRef R (SH.clen body.length) w1.heap.size) (((msgX (.slice none 0 0) ++ [.string (bs reason), .int .i64 code]) : List Value).set 2 (.slice (some ⟨kb, 0, none⟩) body.length capb)) := HM5.out
    have HBD : BodyAt w5.heap.size w5 (.slice (some ⟨kb, 0, none⟩) body.length capb) (some body) := HVB.out.mk (HMR.out.below HI.out.below) HKB.out (by have := HNB.out.2.1; omega)
    refine ⟨mm, hk ++ [(w1.heap.size, SH.clen body.length)], rfl, mat_of (msgS ⟨true, method, u, code, reason, sip20B, heads, body, true, false⟩ (hk ++ [(w1.heap.size, SH.clen body.length)])) HMM5 rfl rfl rfl HBD ⟨rfl, rfl⟩ (ok_more _ _ HMS.out.2.2 HNB.out.2.1) hlen, ?_, HBN.out w5 (HBW.out.trans ((HI.out.below.mono HNO.out).trans HVB5.out)), n0, _, by rw [refsOf_snoc, ← HR7.out.2]; exact HM5.out⟩
    rw [List.map_append, HMP.out, hkk, List.take_length]
    rfl
