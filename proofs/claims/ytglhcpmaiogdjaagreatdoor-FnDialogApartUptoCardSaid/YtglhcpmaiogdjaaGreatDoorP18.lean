import Derived.Test.YtglhcpmaiogdjaaGreatDoorP17
set_option maxRecDepth 100000
set_option maxHeartbeats 16000000
set_option linter.all false
namespace Go.Proofs.YtglhcpmaiogdjaaGreatDoor
open Go.Lib (hid)
open Go.RowKit

theorem cseq_str (N : Nat) (g : Nat) (n : Int) (m : ByteArray) (w : World) (hG : Gl N w) (hA : HB w g 138 #[.int .u32 n, .string m]) (hn : 0 ≤ n ∧ n < 4294967296) (hl : (([67, 83, 101, 113] : Bytes) ++ [58, 32] ++ (Lib.itoa n ++ [32] ++ m.data.toList)).length ≤ 70368744177664) :
  Calls Tryz.prog 307 #[.pointer (some ⟨g, 0, none⟩)] w (StrPost (([67, 83, 101, 113] : Bytes) ++ [58, 32] ++ (Lib.itoa n ++ [32] ++ m.data.toList)) w) := by
 have HG := hid hG
 have HA := hid hA
 have hb0 : Below w.heap.size w (w.alloc (.cells #[.pointer none, .slice none 0 0] 148)) := (Below.refl _ _).alloc (Nat.le_refl _) _
 have HB0 := hid hb0
 have HL := hid hl
 have HE := hid (fun N n0 b bs g w h1 h2 h3 h4 h5 => cseq_sw N n0 b bs g n m w h1 h2 h3 h4 hn h5)
 clear hb0 hG hA hl
 go_enter Tryz.func307, Tryz.ntmps307
 go_wp2_with fail
 refine (HE.out N w.heap.size w.heap.size [] g _ (HG.out.step HB0.out) HG.out.le (BW.fresh w) (HA.out.below HB0.out) (by have := HL.out; simpa using this)).mono ?_
 rintro e w1 ⟨rfl, hB1, hk1⟩
 have HB1 := hid hB1
 have HK1 := hid hk1
 clear hB1 hk1
 go_wp2_with fail
 refine (bstr_any w.heap.size w.heap.size _ _ HB1.out).mono ?_
 rintro e w2 ⟨rfl, hB2, hk2⟩
 go_wp2_with fail
 go_ret
 exact ⟨rets (by simp), (HB0.out.trans HK1.out.1).trans hk2.1⟩
inductive SH where
 | to_ (d : ByteArray) (u : SUri) (p : KVs)
 | from_ (d : ByteArray) (u : SUri) (p : KVs)
 | refby (d : ByteArray) (u : SUri) (p : KVs)
 | contact (d : ByteArray) (u : SUri) (p : KVs)
 | via (v : SVia)
 | callid (s : ByteArray)
 | ctype (s : ByteArray)
 | maxf (n : Int)
 | expires (n : Int)
 | clen (n : Int)
 | cseq (n : Int) (m : ByteArray)
 | route (u : SUri)
 | rroute (u : SUri)
 | referto (u : SUri)
 | generic (n v : ByteArray)
def SH.ty : SH → TypeId
 | .to_ .. => 104
 | .from_ .. => 103
 | .refby .. => 184
 | .contact .. => 106
 | .via .. => 102
 | .callid .. => 105
 | .ctype .. => 109
 | .maxf .. => 112
 | .expires .. => 141
 | .clen .. => 108
 | .cseq .. => 107
 | .route .. => 110
 | .rroute .. => 111
 | .referto .. => 182
 | .generic .. => 186
def SH.v (h : SH) (g : Nat) : Value := .iface h.ty (.pointer (some ⟨g, 0, none⟩))
def SH.rep (w : World) (g : Nat) : SH → Prop
 | .to_ d u p => AddrAt 165 w g d u p
 | .from_ d u p => AddrAt 167 w g d u p
 | .refby d u p => AddrAt 185 w g d u p
 | .contact d u p => AddrAt 178 w g d u p
 | .via v => ViaAt w g v
 | .callid s => HB w g 136 #[.string s]
 | .ctype s => HB w g 143 #[.string s]
 | .maxf n => HB w g 139 #[.int .u32 n]
 | .expires n => HB w g 140 #[.int .u32 n]
 | .clen n => HB w g 142 #[.int .u32 n]
 | .cseq n m => HB w g 138 #[.int .u32 n, .string m]
 | .route u => BareAt 180 w g u
 | .rroute u => BareAt 181 w g u
 | .referto u => BareAt 183 w g u
 | .generic n v => HB w g 188 #[.string n, .string v]
def SH.ok : SH → Prop
 | .to_ d u p => UOk u ∧ KVok p
 | .from_ d u p => UOk u ∧ KVok p
 | .refby d u p => UOk u ∧ KVok p
 | .contact d u p => UOk u ∧ u.star = false ∧ KVok p
 | .via v => VOk v
 | .callid .. => True
 | .ctype .. => True
 | .maxf n => 0 ≤ n ∧ n < 4294967296
 | .expires n => 0 ≤ n ∧ n < 4294967296
 | .clen n => 0 ≤ n ∧ n < 4294967296
 | .cseq n _ => 0 ≤ n ∧ n < 4294967296
 | .route u => UOk u
 | .rroute u => UOk u
 | .referto u => UOk u
 | .generic .. => True
def SH.nm : SH → Bytes
 | .to_ .. => ([84, 111] : Bytes)
 | .from_ .. => ([70, 114, 111, 109] : Bytes)
 | .refby .. => ([82, 101, 102, 101, 114, 114, 101, 100, 45, 66, 121] : Bytes)
 | .contact .. => ([67, 111, 110, 116, 97, 99, 116] : Bytes)
 | .via .. => ([86, 105, 97] : Bytes)
 | .callid .. => ([67, 97, 108, 108, 45, 73, 68] : Bytes)
 | .ctype .. => ([67, 111, 110, 116, 101, 110, 116, 45, 84, 121, 112, 101] : Bytes)
 | .maxf .. => ([77, 97, 120, 45, 70, 111, 114, 119, 97, 114, 100, 115] : Bytes)
 | .expires .. => ([69, 120, 112, 105, 114, 101, 115] : Bytes)
 | .clen .. => ([67, 111, 110, 116, 101, 110, 116, 45, 76, 101, 110, 103, 116, 104] : Bytes)
 | .cseq .. => ([67, 83, 101, 113] : Bytes)
 | .route .. => ([82, 111, 117, 116, 101] : Bytes)
 | .rroute .. => ([82, 101, 99, 111, 114, 100, 45, 82, 111, 117, 116, 101] : Bytes)
 | .referto .. => ([82, 101, 102, 101, 114, 45, 84, 111] : Bytes)
 | .generic n _ => n.data.toList
def SH.val : SH → Bytes
 | .to_ d u p => addrT d u p
 | .from_ d u p => addrT d u p
 | .refby d u p => addrT d u p
 | .contact d u p => addrT d u p
 | .via v => viaT v
 | .callid s => s.data.toList
 | .ctype s => s.data.toList
 | .maxf n => Lib.itoa n
 | .expires n => Lib.itoa n
 | .clen n => Lib.itoa n
 | .cseq n m => Lib.itoa n ++ [32] ++ m.data.toList
 | .route u => [60] ++ uriT u ++ [62]
 | .rroute u => [60] ++ uriT u ++ [62]
 | .referto u => [60] ++ uriT u ++ [62]
 | .generic _ v => v.data.toList
def SH.line (h : SH) : Bytes := h.nm ++ [58, 32] ++ h.val
theorem to_na_Name : NA 104 "Name" := fun _ _ => by kernel_rfl
theorem to_me_Name : ME 104 "Name" 288 := fun _ _ => by kernel_rfl
theorem from_na_Name : NA 103 "Name" := fun _ _ => by kernel_rfl
theorem from_me_Name : ME 103 "Name" 282 := fun _ _ => by kernel_rfl
theorem refby_na_Name : NA 184 "Name" := fun _ _ => by kernel_rfl
theorem refby_me_Name : ME 184 "Name" 358 := fun _ _ => by kernel_rfl
theorem contact_na_Name : NA 106 "Name" := fun _ _ => by kernel_rfl
theorem contact_me_Name : ME 106 "Name" 300 := fun _ _ => by kernel_rfl
theorem via_na_Name : NA 102 "Name" := fun _ _ => by kernel_rfl
theorem via_me_Name : ME 102 "Name" 275 := fun _ _ => by kernel_rfl
theorem callid_na_Name : NA 105 "Name" := fun _ _ => by kernel_rfl
theorem callid_me_Name : ME 105 "Name" 294 := fun _ _ => by kernel_rfl
theorem ctype_na_Name : NA 109 "Name" := fun _ _ => by kernel_rfl
theorem ctype_me_Name : ME 109 "Name" 318 := fun _ _ => by kernel_rfl
theorem maxf_na_Name : NA 112 "Name" := fun _ _ => by kernel_rfl
theorem maxf_me_Name : ME 112 "Name" 337 := fun _ _ => by kernel_rfl
theorem expires_na_Name : NA 141 "Name" := fun _ _ => by kernel_rfl
theorem expires_me_Name : ME 141 "Name" 345 := fun _ _ => by kernel_rfl
theorem clen_na_Name : NA 108 "Name" := fun _ _ => by kernel_rfl
theorem clen_me_Name : ME 108 "Name" 312 := fun _ _ => by kernel_rfl
theorem cseq_na_Name : NA 107 "Name" := fun _ _ => by kernel_rfl
theorem cseq_me_Name : ME 107 "Name" 306 := fun _ _ => by kernel_rfl
theorem cseq_na_Value : NA 107 "Value" := fun _ _ => by kernel_rfl
theorem cseq_me_Value : ME 107 "Value" 309 := fun _ _ => by kernel_rfl
theorem cseq_na_String : NA 107 "String" := fun _ _ => by kernel_rfl
theorem cseq_me_String : ME 107 "String" 307 := fun _ _ => by kernel_rfl
theorem route_na_Name : NA 110 "Name" := fun _ _ => by kernel_rfl
theorem route_me_Name : ME 110 "Name" 324 := fun _ _ => by kernel_rfl
theorem rroute_na_Name : NA 111 "Name" := fun _ _ => by kernel_rfl
theorem rroute_me_Name : ME 111 "Name" 330 := fun _ _ => by kernel_rfl
theorem referto_na_Name : NA 182 "Name" := fun _ _ => by kernel_rfl
theorem referto_me_Name : ME 182 "Name" 352 := fun _ _ => by kernel_rfl
theorem generic_na_Name : NA 186 "Name" := fun _ _ => by kernel_rfl
theorem generic_me_Name : ME 186 "Name" 364 := fun _ _ => by kernel_rfl
theorem disp_name (h : SH) (g : Nat) (w : World) (hr : h.rep w g) : ∃ f r s, (∀ args w, (callFunc f args).run Tryz.prog w = .ok (.enter f args) w) ∧ (∀ w, (nilAhead 454 h.ty (.pointer (some ⟨g, 0, none⟩)) "Name").run Tryz.prog w = .ok (some false) w) ∧
  (method 454 h.ty (.pointer (some ⟨g, 0, none⟩)) "Name").run Tryz.prog w = .ok (f, r) w ∧ s.data.toList = h.nm ∧ Calls Tryz.prog f #[r] w fun e w' => e = .returned (.string s) ∧ w' = w := by
 cases h with
 | to_ d u p => exact ⟨_, _, ⟨#[84, 111]⟩, enters_of Tryz.func288 (by kernel_rfl) rfl, to_na_Name _, to_me_Name _ _, rfl, to_name _ _⟩
 | from_ d u p => exact ⟨_, _, ⟨#[70, 114, 111, 109]⟩, enters_of Tryz.func282 (by kernel_rfl) rfl, from_na_Name _, from_me_Name _ _, rfl, from_name _ _⟩
 | refby d u p => exact ⟨_, _, ⟨#[82, 101, 102, 101, 114, 114, 101, 100, 45, 66, 121]⟩, enters_of Tryz.func358 (by kernel_rfl) rfl, refby_na_Name _, refby_me_Name _ _, rfl, refby_name _ _⟩
 | contact d u p => exact ⟨_, _, ⟨#[67, 111, 110, 116, 97, 99, 116]⟩, enters_of Tryz.func300 (by kernel_rfl) rfl, contact_na_Name _, contact_me_Name _ _, rfl, contact_name _ _⟩
 | via v => exact ⟨_, _, ⟨#[86, 105, 97]⟩, enters_of Tryz.func275 (by kernel_rfl) rfl, via_na_Name _, via_me_Name _ _, rfl, via_name _ _⟩
 | callid s => exact ⟨_, _, ⟨#[67, 97, 108, 108, 45, 73, 68]⟩, enters_of Tryz.func294 (by kernel_rfl) rfl, callid_na_Name _, callid_me_Name _ _, rfl, callid_name _ _⟩
 | ctype s => exact ⟨_, _, ⟨#[67, 111, 110, 116, 101, 110, 116, 45, 84, 121, 112, 101]⟩, enters_of Tryz.func318 (by kernel_rfl) rfl, ctype_na_Name _, ctype_me_Name _ _, rfl, ctype_name _ _⟩
 | maxf n => exact ⟨_, _, ⟨#[77, 97, 120, 45, 70, 111, 114, 119, 97, 114, 100, 115]⟩, enters_of Tryz.func337 (by kernel_rfl) rfl, maxf_na_Name _, maxf_me_Name _ _, rfl, maxf_name _ _⟩
 | expires n => exact ⟨_, _, ⟨#[69, 120, 112, 105, 114, 101, 115]⟩, enters_of Tryz.func345 (by kernel_rfl) rfl, expires_na_Name _, expires_me_Name _ _, rfl, expires_name _ _⟩
 | clen n => exact ⟨_, _, ⟨#[67, 111, 110, 116, 101, 110, 116, 45, 76, 101, 110, 103, 116, 104]⟩, enters_of Tryz.func312 (by kernel_rfl) rfl, clen_na_Name _, clen_me_Name _ _, rfl, clen_name _ _⟩
 | cseq n m => exact ⟨_, _, ⟨#[67, 83, 101, 113]⟩, enters_of Tryz.func306 (by kernel_rfl) rfl, cseq_na_Name _, cseq_me_Name _ _, rfl, cseq_name _ _⟩
 | route u => exact ⟨_, _, ⟨#[82, 111, 117, 116, 101]⟩, enters_of Tryz.func324 (by kernel_rfl) rfl, route_na_Name _, route_me_Name _ _, rfl, route_name _ _⟩
 | rroute u => exact ⟨_, _, ⟨#[82, 101, 99, 111, 114, 100, 45, 82, 111, 117, 116, 101]⟩, enters_of Tryz.func330 (by kernel_rfl) rfl, rroute_na_Name _, rroute_me_Name _ _, rfl, rroute_name _ _⟩
 | referto u => exact ⟨_, _, ⟨#[82, 101, 102, 101, 114, 45, 84, 111]⟩, enters_of Tryz.func352 (by kernel_rfl) rfl, referto_na_Name _, referto_me_Name _ _, rfl, referto_name _ _⟩
 | generic n v => exact ⟨_, _, n, enters_of Tryz.func364 (by kernel_rfl) rfl, generic_na_Name _, generic_me_Name _ _, rfl, generic_name g n v w hr⟩
theorem SH.rep_keep {n0 b : Nat} {bs : Bytes} {w w' : World} {g : Nat} {h : SH} (hr : h.rep w g) (hB : BW n0 b bs w) (hk : WK n0 b w w') : h.rep w' g := by
 cases h <;> first | exact AddrAt.keep hr hB hk | exact ViaAt.keep hr hB hk | exact BareAt.keep hr hB hk | exact HB.keep hr hB hk
theorem SH.rep_below {w w' : World} {g : Nat} {h : SH} (hr : h.rep w g) (hb : Below w.heap.size w w') : h.rep w' g := by
 cases h <;> first | exact AddrAt.below hr hb | exact ViaAt.below hr hb | exact BareAt.below hr hb | exact HB.below hr hb
def HList (w : World) (m : Nat) (hs : List (Nat × SH)) : Prop := ∃ cs t A cap, w.heap[m]? = some (.cells cs t (0, 0)) ∧ t ≠ 5 ∧ t ≠ 148 ∧ cs[0]? = some (.slice A hs.length cap) ∧ cs[12]? = some (.bool false) ∧ hs.length ≤ 4294967296 ∧
 (hs ≠ [] → ∃ bo ocs fz, A = some ⟨bo, 0, none⟩ ∧ w.heap[bo]? = some (.cells ocs 92 fz) ∧ ∀ i (h : i < hs.length), ocs[i]? = some (hs[i].2.v hs[i].1)) ∧ ∀ p ∈ hs, p.2.rep w p.1 ∧ p.2.ok
theorem HList.keep {n0 b : Nat} {bs : Bytes} {w w' : World} {m : Nat} {hs : List (Nat × SH)} (h : HList w m hs) (hB : BW n0 b bs w) (hk : WK n0 b w w') : HList w' m hs := by
 obtain ⟨cs, t, A, cap, h1, h2, h3, h4, h5, h6, h7, h8⟩ := h
 refine ⟨cs, t, A, cap, hk.blk h1 (hB.ne_blk h1 h3) h2, h2, h3, h4, h5, h6, fun hne => ?_, fun p hp => ⟨SH.rep_keep (h8 p hp).1 hB hk, (h8 p hp).2⟩⟩
 obtain ⟨bo, ocs, fz, e, hb, hc⟩ := h7 hne
 exact ⟨bo, ocs, fz, e, hk.blk hb (hB.ne_blk hb (by decide)) (by decide), hc⟩
theorem HList.below {w w' : World} {m : Nat} {hs : List (Nat × SH)} (h : HList w m hs) (hb : Below w.heap.size w w') : HList w' m hs := by
 obtain ⟨cs, t, A, cap, h1, h2, h3, h4, h5, h6, h7, h8⟩ := h
 refine ⟨cs, t, A, cap, (hb.block _ (heap_lt h1)).trans h1, h2, h3, h4, h5, h6, fun hne => ?_, fun p hp => ⟨SH.rep_below (h8 p hp).1 hb, (h8 p hp).2⟩⟩
 obtain ⟨bo, ocs, fz, e, hbo, hc⟩ := h7 hne
 exact ⟨bo, ocs, fz, e, (hb.block _ (heap_lt hbo)).trans hbo, hc⟩
def BodyAt (n1 : Nat) (w : World) (v : Value) : Option Bytes → Prop
 | none => v = .slice none 0 0
 | some l => ∃ g c cs fz, v = .slice (some ⟨g, 0, none⟩) l.length c ∧ g < n1 ∧ l.length ≤ 9223372036854775807 ∧ w.heap[g]? = some (.cells cs 5 fz) ∧ ∀ i (h : i < l.length), cs[i]? = some (.int .u8 l[i].toNat)
theorem BodyAt.below {n1 : Nat} {w w' : World} {v : Value} {l : Option Bytes} (h : BodyAt n1 w v l) (hb : Below n1 w w') : BodyAt n1 w' v l := by
 cases l with
 | none => exact h
 | some l =>
  obtain ⟨g, c, cs, fz, h1, h2, h3, h4, h5⟩ := h
  exact ⟨g, c, cs, fz, h1, h2, h3, (hb.block g h2).trans h4, h5⟩
theorem BodyAt.more {n1 n2 : Nat} {w : World} {v : Value} {l : Option Bytes} (h : BodyAt n1 w v l) (hn : n1 ≤ n2) : BodyAt n2 w v l := by
 cases l with
 | none => exact h
 | some l =>
  obtain ⟨g, c, cs, fz, h1, h2, h3, h4, h5⟩ := h
  exact ⟨g, c, cs, fz, h1, by omega, h3, h4, h5⟩
structure SMsg where
 resp : Bool
 method : ByteArray
 uri : SUri
 code : Int
 reason : ByteArray
 version : ByteArray
 heads : List (Nat × SH)
 body : Option Bytes
def MTy (M : SMsg) : TypeId := if M.resp then 118 else 121
def MCells (n1 : Nat) (w : World) (cs : Array Value) (M : SMsg) : Prop := cs[13]? = some (.string M.version) ∧ (∃ bv, cs[14]? = some bv ∧ BodyAt n1 w bv M.body) ∧
 (if M.resp then cs[18]? = some (.string M.reason) ∧ cs[19]? = some (.int .i64 M.code) else cs[18]? = some (.string M.method) ∧ UCells w (fun i => cs[19 + i]?) M.uri)
def MsgAt (n1 : Nat) (w : World) (m : Nat) (M : SMsg) : Prop := HList w m M.heads ∧ ∃ cs, w.heap[m]? = some (.cells cs (MTy M) (0, 0)) ∧ MCells n1 w cs M
theorem mty (M : SMsg) : MTy M ≠ 5 ∧ MTy M ≠ 148 := by
 unfold MTy
 split <;> exact ⟨by decide, by decide⟩
theorem MsgAt.keep {n1 b : Nat} {bs : Bytes} {w w' : World} {m : Nat} {M : SMsg} (h : MsgAt n1 w m M) (hB : BW n1 b bs w) (hk : WK n1 b w w') : MsgAt n1 w' m M := by
 obtain ⟨h1, cs, h2, h3, ⟨bv, h4, h5⟩, h6⟩ := h
 refine ⟨h1.keep hB hk, cs, hk.blk h2 (hB.ne_blk h2 (mty M).2) (mty M).1, h3, ⟨bv, h4, h5.below hk.1⟩, ?_⟩
 revert h6
 split
 ·exact id
 ·exact fun h6 => ⟨h6.1, h6.2.keep hB hk⟩
theorem MsgAt.below {n1 : Nat} {w w' : World} {m : Nat} {M : SMsg} (h : MsgAt n1 w m M) (hn : n1 ≤ w.heap.size) (hb : Below w.heap.size w w') : MsgAt n1 w' m M := by
 obtain ⟨h1, cs, h2, h3, ⟨bv, h4, h5⟩, h6⟩ := h
 refine ⟨h1.below hb, cs, (hb.block _ (heap_lt h2)).trans h2, h3, ⟨bv, h4, h5.below (hb.mono hn)⟩, ?_⟩
 revert h6
 split
 ·exact id
 ·exact fun h6 => ⟨h6.1, h6.2.below hb⟩
theorem MsgAt.cells {n1 : Nat} {w : World} {m : Nat} {M : SMsg} (h : MsgAt n1 w m M) : w.cell? ⟨m, 13, none⟩ = some (.string M.version) ∧ ∃ bv, w.cell? ⟨m, 14, none⟩ = some bv ∧ BodyAt n1 w bv M.body := by
 obtain ⟨_, cs, h2, h3, ⟨bv, h4, h5⟩, _⟩ := h
 have hc : ∀ j, w.cell? ⟨m, j, none⟩ = cs[j]? := fun j => by simp [World.cell?, h2]
 exact ⟨(hc 13).trans h3, bv, (hc 14).trans h4, h5⟩
theorem MsgAt.req {n1 : Nat} {w : World} {m : Nat} {M : SMsg} (h : MsgAt n1 w m M) (hr : M.resp = false) : w.cell? ⟨m, 18, none⟩ = some (.string M.method) ∧ UriAt w m 19 M.uri := by
 obtain ⟨_, cs, h2, h3, _, h6⟩ := h
 rw [if_neg (by rw [hr]; simp)] at h6
 exact ⟨by simp [World.cell?, h2, h6.1], cs, _, _, h2, (mty M).1, (mty M).2, h6.2⟩
theorem MsgAt.res {n1 : Nat} {w : World} {m : Nat} {M : SMsg} (h : MsgAt n1 w m M) (hr : M.resp = true) : w.cell? ⟨m, 18, none⟩ = some (.string M.reason) ∧ w.cell? ⟨m, 19, none⟩ = some (.int .i64 M.code) := by
 obtain ⟨_, cs, h2, h3, _, h6⟩ := h
 rw [if_pos hr] at h6
 exact ⟨by simp [World.cell?, h2, h6.1], by simp [World.cell?, h2, h6.2]⟩
def KT (w w' : World) : Prop := ∀ (g : Nat) (cs : Array Value) (t : TypeId), w.heap[g]? = some (.cells cs t (0, 0)) → t ≠ 5 → t ≠ 148 → t ≠ 92 → t ≠ 121 → t ≠ 118 → w'.heap[g]? = some (.cells cs t (0, 0))
theorem KT.refl (w : World) : KT w w := fun _ _ _ h _ _ _ _ _ => h
theorem KT.trans {w w1 w2 : World} (h : KT w w1) (k : KT w1 w2) : KT w w2 := fun g cs t hg a b c d e => k g cs t (h g cs t hg a b c d e) a b c d e
theorem KT.of_below {w w' : World} (h : Below w.heap.size w w') : KT w w' := fun g _ _ hg _ _ _ _ _ => (h.block g (heap_lt hg)).trans hg
theorem PRep.kt {w w' : World} {v : Value} {l : KVs} (h : PRep w v l) (k : KT w w') : PRep w' v l := by
 rcases h with h | ⟨g, cap, cs, h1, h2, h2', h3, h4⟩
 ·exact .inl h
 ·exact .inr ⟨g, cap, cs, h1, h2, h2', k g cs _ h3 (by decide) (by decide) (by decide) (by decide) (by decide), h4⟩
theorem UCells.kt {w w' : World} {cs : Nat → Option Value} {u : SUri} (h : UCells w cs u) (k : KT w w') : UCells w' cs u := by
 obtain ⟨c0, c1, c2, c3, c4, c5, c6, c7, vp, vh, c8, c9, p1, p2⟩ := h
 exact ⟨c0, c1, c2, c3, c4, c5, c6, c7, vp, vh, c8, c9, p1.kt k, p2.kt k⟩
theorem HB.kt {w w' : World} {g : Nat} {t : TypeId} {cs : Array Value} (h : HB w g t cs) (k : KT w w') (h1 : t ≠ 92) (h2 : t ≠ 121) (h3 : t ≠ 118) : HB w' g t cs := ⟨k g cs t h.1 h.2.1 h.2.2 h1 h2 h3, h.2⟩
theorem AddrAt.kt {t : TypeId} {w w' : World} {g : Nat} {d : ByteArray} {u : SUri} {p : KVs} (h : AddrAt t w g d u p) (k : KT w w') (h1 : t ≠ 92) (h2 : t ≠ 121) (h3 : t ≠ 118) : AddrAt t w' g d u p := by
 obtain ⟨cs, a1, a2, a3, vp, a4, a5⟩ := h
 exact ⟨cs, a1.kt k h1 h2 h3, a2, a3.kt k, vp, a4, a5.kt k⟩
theorem BareAt.kt {t : TypeId} {w w' : World} {g : Nat} {u : SUri} (h : BareAt t w g u) (k : KT w w') (h1 : t ≠ 92) (h2 : t ≠ 121) (h3 : t ≠ 118) : BareAt t w' g u := by
 obtain ⟨cs, a1, a3⟩ := h
 exact ⟨cs, a1.kt k h1 h2 h3, a3.kt k⟩
theorem ViaAt.kt {w w' : World} {g : Nat} {v : SVia} (h : ViaAt w g v) (k : KT w w') : ViaAt w' g v := by
 obtain ⟨cs, h1, c0, c1, c2, c3, c4, vp, c5, h5⟩ := h
 exact ⟨cs, h1.kt k (by decide) (by decide) (by decide), c0, c1, c2, c3, c4, vp, c5, h5.kt k⟩
theorem SH.rep_kt {w w' : World} {g : Nat} {h : SH} (hr : h.rep w g) (k : KT w w') : h.rep w' g := by
 cases h <;> first | exact AddrAt.kt hr k (by decide) (by decide) (by decide) | exact ViaAt.kt hr k | exact BareAt.kt hr k (by decide) (by decide) (by decide) | exact HB.kt hr k (by decide) (by decide) (by decide)
def MK (n0 m : Nat) (w w' : World) : Prop := Below n0 w w' ∧ Lib.OthersKept 92 (some m) w w'
theorem MK.refl (n0 m : Nat) (w : World) : MK n0 m w w := ⟨Below.refl _ _, Lib.OthersKept.refl _ _ _⟩
theorem MK.trans {n0 m : Nat} {w w1 w2 : World} (h : MK n0 m w w1) (k : MK n0 m w1 w2) : MK n0 m w w2 := ⟨h.1.trans k.1, h.2.trans k.2⟩
theorem MK.of_below {n0 m : Nat} {w w1 : World} (h : Below w.heap.size w w1) (hn : n0 ≤ w.heap.size) : MK n0 m w w1 :=
 ⟨h.mono hn, fun k _ hk _ _ => (h.block k (heap_lt hk)).trans hk⟩
theorem MK.kt {n0 m : Nat} {w w' : World} (h : MK n0 m w w') {cs : Array Value} {T : TypeId} {fz : Nat × Nat} (hm : w.heap[m]? = some (.cells cs T fz)) (hT : T = 121 ∨ T = 118) : KT w w' := by
 intro g cs' t hg _ _ h3 h4 h5
 refine h.2 g _ hg (fun e => ?_) (fun c f e => by injection e with _ e _; exact h3 e)
 injection e with e
 subst e
 rw [hm] at hg
 injection hg with hg
 injection hg with _ hg _
 rcases hT with rfl | rfl
 ·exact h4 hg.symm
 ·exact h5 hg.symm
def SH.slot : SH → Nat
 | .to_ .. => 3
 | .from_ .. => 2
 | .refby .. => 0
 | .contact .. => 5
 | .via .. => 1
 | .callid .. => 4
 | .ctype .. => 8
 | .maxf .. => 11
 | .expires .. => 0
 | .clen .. => 7
 | .cseq .. => 6
 | .route .. => 9
 | .rroute .. => 10
 | .referto .. => 0
 | .generic .. => 0
def SH.first : SH → Bool
 | .via .. => true
 | .route .. => true
 | .rroute .. => true
 | _ => false
def setRef (R : Nat → Option Nat) (h : SH) (g : Nat) : Nat → Option Nat := fun j => if h.slot ≠ 0 ∧ j = h.slot then some g else R j
def addRef (R : Nat → Option Nat) (h : SH) (g : Nat) : Nat → Option Nat := if h.first = true ∧ R h.slot ≠ none then R else setRef R h g
def refV (r : Option Nat) : Value := .pointer (r.map fun g => ⟨g, 0, none⟩)
def refTypes : List TypeId := [102, 103, 104, 105, 106, 107, 108, 109, 110, 111, 112]
theorem ptr_u {U : TypeId} (hU : U ∈ refTypes) : ∃ e, Tryz.prog.underlying U = some (.pointer e) ∧ (Tryz.prog.info? U).map (·.zero) = some (some (.pointer none)) := by
 simp only [refTypes, List.mem_cons, List.not_mem_nil, or_false] at hU
 rcases hU with rfl | rfl | rfl | rfl | rfl | rfl | rfl | rfl | rfl | rfl | rfl
 ·exact ⟨154, by kernel_rfl, by kernel_rfl⟩
 ·exact ⟨167, by kernel_rfl, by kernel_rfl⟩
 ·exact ⟨165, by kernel_rfl, by kernel_rfl⟩
 ·exact ⟨136, by kernel_rfl, by kernel_rfl⟩
 ·exact ⟨178, by kernel_rfl, by kernel_rfl⟩
 ·exact ⟨138, by kernel_rfl, by kernel_rfl⟩
 ·exact ⟨142, by kernel_rfl, by kernel_rfl⟩
 ·exact ⟨143, by kernel_rfl, by kernel_rfl⟩
 ·exact ⟨180, by kernel_rfl, by kernel_rfl⟩
 ·exact ⟨181, by kernel_rfl, by kernel_rfl⟩
 ·exact ⟨139, by kernel_rfl, by kernel_rfl⟩
theorem ta_no {T U : TypeId} (hU : U ∈ refTypes) (h : T ≠ U) (v : Value) (xT : TypeId) (w : World) : Sem.run Tryz.prog (Instr.typeAssert (.iface T v) xT U true) w = .ok (.tuple #[.pointer none, .bool false]) w := by
 obtain ⟨e, hu, hz⟩ := ptr_u hU
 obtain ⟨j, hj, hz'⟩ := Option.map_eq_some_iff.1 hz
 simp [Instr.typeAssert, run_underlying hu, typeInfo, zeroValue, hj, hz', h]
theorem ta_yes {U : TypeId} (hU : U ∈ refTypes) (v : Value) (xT : TypeId) (w : World) : Sem.run Tryz.prog (Instr.typeAssert (.iface U v) xT U true) w = .ok (.tuple #[v, .bool true]) w := by
 obtain ⟨e, hu, hz⟩ := ptr_u hU
 simp [Instr.typeAssert, run_underlying hu, typeInfo]
theorem sethref_any (m g : Nat) (h : SH) (cs : Array Value) (T : TypeId) (w : World) (hb : w.heap[m]? = some (.cells cs T (0, 0))) (hc : 12 ≤ cs.size) :
  Calls Tryz.prog 224 #[.pointer (some ⟨m, 0, none⟩), h.v g] w fun e w' => e = .returned (.tuple #[]) ∧ w' = (if h.slot = 0 then w else w.setCell ⟨m, h.slot, none⟩ (.pointer (some ⟨g, 0, none⟩))) := by
 have hcell : ∀ j, j < 12 → ∃ u, w.cell? ⟨m, j, none⟩ = some u := fun j hj => ⟨cs[j], by simp [World.cell?, hb, Array.getElem?_eq_getElem (show j < cs.size by omega)]⟩
 have hfz : ∀ j, w.frozen? ⟨m, j, none⟩ = false := fun j => by simp [World.frozen?, hb]
 obtain ⟨u1, c1⟩ := hcell 1 (by decide)
 have z1 := hfz 1
 obtain ⟨u2, c2⟩ := hcell 2 (by decide)
 have z2 := hfz 2
 obtain ⟨u3, c3⟩ := hcell 3 (by decide)
 have z3 := hfz 3
 obtain ⟨u4, c4⟩ := hcell 4 (by decide)
 have z4 := hfz 4
 obtain ⟨u5, c5⟩ := hcell 5 (by decide)
 have z5 := hfz 5
 obtain ⟨u6, c6⟩ := hcell 6 (by decide)
 have z6 := hfz 6
 obtain ⟨u7, c7⟩ := hcell 7 (by decide)
 have z7 := hfz 7
 obtain ⟨u8, c8⟩ := hcell 8 (by decide)
 have z8 := hfz 8
 obtain ⟨u9, c9⟩ := hcell 9 (by decide)
 have z9 := hfz 9
 obtain ⟨u10, c10⟩ := hcell 10 (by decide)
 have z10 := hfz 10
 obtain ⟨u11, c11⟩ := hcell 11 (by decide)
 have z11 := hfz 11
 clear hcell hfz hc hb
 cases h
 case to_ d u p =>
  simp only [SH.v, SH.ty, SH.slot]
  have a0 := fun v w => ta_no (T := 104) (U := 102) (by decide) (by decide) v 92 w
  have a1 := fun v w => ta_no (T := 104) (U := 103) (by decide) (by decide) v 92 w
  have a2 := fun v w => ta_yes (U := 104) (by decide) v 92 w
  have a3 := fun v w => ta_no (T := 104) (U := 105) (by decide) (by decide) v 92 w
  have a4 := fun v w => ta_no (T := 104) (U := 106) (by decide) (by decide) v 92 w
  have a5 := fun v w => ta_no (T := 104) (U := 107) (by decide) (by decide) v 92 w
  have a6 := fun v w => ta_no (T := 104) (U := 108) (by decide) (by decide) v 92 w
  have a7 := fun v w => ta_no (T := 104) (U := 109) (by decide) (by decide) v 92 w
  have a8 := fun v w => ta_no (T := 104) (U := 110) (by decide) (by decide) v 92 w
  have a9 := fun v w => ta_no (T := 104) (U := 111) (by decide) (by decide) v 92 w
  have a10 := fun v w => ta_no (T := 104) (U := 112) (by decide) (by decide) v 92 w
  go_enter Tryz.func224, Tryz.ntmps224
  go_wp2
  go_end0
  exact ⟨rfl, rfl⟩
 case from_ d u p =>
  simp only [SH.v, SH.ty, SH.slot]
  have a0 := fun v w => ta_no (T := 103) (U := 102) (by decide) (by decide) v 92 w
  have a1 := fun v w => ta_yes (U := 103) (by decide) v 92 w
  have a2 := fun v w => ta_no (T := 103) (U := 104) (by decide) (by decide) v 92 w
  have a3 := fun v w => ta_no (T := 103) (U := 105) (by decide) (by decide) v 92 w
  have a4 := fun v w => ta_no (T := 103) (U := 106) (by decide) (by decide) v 92 w
  have a5 := fun v w => ta_no (T := 103) (U := 107) (by decide) (by decide) v 92 w
  have a6 := fun v w => ta_no (T := 103) (U := 108) (by decide) (by decide) v 92 w
  have a7 := fun v w => ta_no (T := 103) (U := 109) (by decide) (by decide) v 92 w
  have a8 := fun v w => ta_no (T := 103) (U := 110) (by decide) (by decide) v 92 w
  have a9 := fun v w => ta_no (T := 103) (U := 111) (by decide) (by decide) v 92 w
  have a10 := fun v w => ta_no (T := 103) (U := 112) (by decide) (by decide) v 92 w
  go_enter Tryz.func224, Tryz.ntmps224
  go_wp2
  go_end0
  exact ⟨rfl, rfl⟩
 case refby d u p =>
  simp only [SH.v, SH.ty, SH.slot]
  have a0 := fun v w => ta_no (T := 184) (U := 102) (by decide) (by decide) v 92 w
  have a1 := fun v w => ta_no (T := 184) (U := 103) (by decide) (by decide) v 92 w
  have a2 := fun v w => ta_no (T := 184) (U := 104) (by decide) (by decide) v 92 w
  have a3 := fun v w => ta_no (T := 184) (U := 105) (by decide) (by decide) v 92 w
  have a4 := fun v w => ta_no (T := 184) (U := 106) (by decide) (by decide) v 92 w
  have a5 := fun v w => ta_no (T := 184) (U := 107) (by decide) (by decide) v 92 w
  have a6 := fun v w => ta_no (T := 184) (U := 108) (by decide) (by decide) v 92 w
  have a7 := fun v w => ta_no (T := 184) (U := 109) (by decide) (by decide) v 92 w
  have a8 := fun v w => ta_no (T := 184) (U := 110) (by decide) (by decide) v 92 w
  have a9 := fun v w => ta_no (T := 184) (U := 111) (by decide) (by decide) v 92 w
  have a10 := fun v w => ta_no (T := 184) (U := 112) (by decide) (by decide) v 92 w
  go_enter Tryz.func224, Tryz.ntmps224
  go_wp2
  go_end0
  exact ⟨rfl, rfl⟩
 case contact d u p =>
  simp only [SH.v, SH.ty, SH.slot]
  have a0 := fun v w => ta_no (T := 106) (U := 102) (by decide) (by decide) v 92 w
  have a1 := fun v w => ta_no (T := 106) (U := 103) (by decide) (by decide) v 92 w
  have a2 := fun v w => ta_no (T := 106) (U := 104) (by decide) (by decide) v 92 w
  have a3 := fun v w => ta_no (T := 106) (U := 105) (by decide) (by decide) v 92 w
  have a4 := fun v w => ta_yes (U := 106) (by decide) v 92 w
  have a5 := fun v w => ta_no (T := 106) (U := 107) (by decide) (by decide) v 92 w
  have a6 := fun v w => ta_no (T := 106) (U := 108) (by decide) (by decide) v 92 w
  have a7 := fun v w => ta_no (T := 106) (U := 109) (by decide) (by decide) v 92 w
  have a8 := fun v w => ta_no (T := 106) (U := 110) (by decide) (by decide) v 92 w
  have a9 := fun v w => ta_no (T := 106) (U := 111) (by decide) (by decide) v 92 w
  have a10 := fun v w => ta_no (T := 106) (U := 112) (by decide) (by decide) v 92 w
  go_enter Tryz.func224, Tryz.ntmps224
  go_wp2
  go_end0
  exact ⟨rfl, rfl⟩
 case via v =>
  simp only [SH.v, SH.ty, SH.slot]
  have a0 := fun v w => ta_yes (U := 102) (by decide) v 92 w
  have a1 := fun v w => ta_no (T := 102) (U := 103) (by decide) (by decide) v 92 w
  have a2 := fun v w => ta_no (T := 102) (U := 104) (by decide) (by decide) v 92 w
  have a3 := fun v w => ta_no (T := 102) (U := 105) (by decide) (by decide) v 92 w
  have a4 := fun v w => ta_no (T := 102) (U := 106) (by decide) (by decide) v 92 w
  have a5 := fun v w => ta_no (T := 102) (U := 107) (by decide) (by decide) v 92 w
  have a6 := fun v w => ta_no (T := 102) (U := 108) (by decide) (by decide) v 92 w
  have a7 := fun v w => ta_no (T := 102) (U := 109) (by decide) (by decide) v 92 w
  have a8 := fun v w => ta_no (T := 102) (U := 110) (by decide) (by decide) v 92 w
  have a9 := fun v w => ta_no (T := 102) (U := 111) (by decide) (by decide) v 92 w
  have a10 := fun v w => ta_no (T := 102) (U := 112) (by decide) (by decide) v 92 w
  go_enter Tryz.func224, Tryz.ntmps224
  go_wp2
  go_end0
  exact ⟨rfl, rfl⟩
 case callid s =>
  simp only [SH.v, SH.ty, SH.slot]
  have a0 := fun v w => ta_no (T := 105) (U := 102) (by decide) (by decide) v 92 w
  have a1 := fun v w => ta_no (T := 105) (U := 103) (by decide) (by decide) v 92 w
  have a2 := fun v w => ta_no (T := 105) (U := 104) (by decide) (by decide) v 92 w
  have a3 := fun v w => ta_yes (U := 105) (by decide) v 92 w
  have a4 := fun v w => ta_no (T := 105) (U := 106) (by decide) (by decide) v 92 w
  have a5 := fun v w => ta_no (T := 105) (U := 107) (by decide) (by decide) v 92 w
  have a6 := fun v w => ta_no (T := 105) (U := 108) (by decide) (by decide) v 92 w
  have a7 := fun v w => ta_no (T := 105) (U := 109) (by decide) (by decide) v 92 w
  have a8 := fun v w => ta_no (T := 105) (U := 110) (by decide) (by decide) v 92 w
  have a9 := fun v w => ta_no (T := 105) (U := 111) (by decide) (by decide) v 92 w
  have a10 := fun v w => ta_no (T := 105) (U := 112) (by decide) (by decide) v 92 w
  go_enter Tryz.func224, Tryz.ntmps224
  go_wp2
  go_end0
  exact ⟨rfl, rfl⟩
 case ctype s =>
  simp only [SH.v, SH.ty, SH.slot]
  have a0 := fun v w => ta_no (T := 109) (U := 102) (by decide) (by decide) v 92 w
  have a1 := fun v w => ta_no (T := 109) (U := 103) (by decide) (by decide) v 92 w
  have a2 := fun v w => ta_no (T := 109) (U := 104) (by decide) (by decide) v 92 w
  have a3 := fun v w => ta_no (T := 109) (U := 105) (by decide) (by decide) v 92 w
  have a4 := fun v w => ta_no (T := 109) (U := 106) (by decide) (by decide) v 92 w
  have a5 := fun v w => ta_no (T := 109) (U := 107) (by decide) (by decide) v 92 w
  have a6 := fun v w => ta_no (T := 109) (U := 108) (by decide) (by decide) v 92 w
  have a7 := fun v w => ta_yes (U := 109) (by decide) v 92 w
  have a8 := fun v w => ta_no (T := 109) (U := 110) (by decide) (by decide) v 92 w
  have a9 := fun v w => ta_no (T := 109) (U := 111) (by decide) (by decide) v 92 w
  have a10 := fun v w => ta_no (T := 109) (U := 112) (by decide) (by decide) v 92 w
  go_enter Tryz.func224, Tryz.ntmps224
  go_wp2
  go_end0
  exact ⟨rfl, rfl⟩
 case maxf n =>
  simp only [SH.v, SH.ty, SH.slot]
  have a0 := fun v w => ta_no (T := 112) (U := 102) (by decide) (by decide) v 92 w
  have a1 := fun v w => ta_no (T := 112) (U := 103) (by decide) (by decide) v 92 w
  have a2 := fun v w => ta_no (T := 112) (U := 104) (by decide) (by decide) v 92 w
  have a3 := fun v w => ta_no (T := 112) (U := 105) (by decide) (by decide) v 92 w
  have a4 := fun v w => ta_no (T := 112) (U := 106) (by decide) (by decide) v 92 w
  have a5 := fun v w => ta_no (T := 112) (U := 107) (by decide) (by decide) v 92 w
  have a6 := fun v w => ta_no (T := 112) (U := 108) (by decide) (by decide) v 92 w
  have a7 := fun v w => ta_no (T := 112) (U := 109) (by decide) (by decide) v 92 w
  have a8 := fun v w => ta_no (T := 112) (U := 110) (by decide) (by decide) v 92 w
  have a9 := fun v w => ta_no (T := 112) (U := 111) (by decide) (by decide) v 92 w
  have a10 := fun v w => ta_yes (U := 112) (by decide) v 92 w
  go_enter Tryz.func224, Tryz.ntmps224
  go_wp2
  go_end0
  exact ⟨rfl, rfl⟩
 case expires n =>
  simp only [SH.v, SH.ty, SH.slot]
  have a0 := fun v w => ta_no (T := 141) (U := 102) (by decide) (by decide) v 92 w
  have a1 := fun v w => ta_no (T := 141) (U := 103) (by decide) (by decide) v 92 w
  have a2 := fun v w => ta_no (T := 141) (U := 104) (by decide) (by decide) v 92 w
  have a3 := fun v w => ta_no (T := 141) (U := 105) (by decide) (by decide) v 92 w
  have a4 := fun v w => ta_no (T := 141) (U := 106) (by decide) (by decide) v 92 w
  have a5 := fun v w => ta_no (T := 141) (U := 107) (by decide) (by decide) v 92 w
  have a6 := fun v w => ta_no (T := 141) (U := 108) (by decide) (by decide) v 92 w
  have a7 := fun v w => ta_no (T := 141) (U := 109) (by decide) (by decide) v 92 w
  have a8 := fun v w => ta_no (T := 141) (U := 110) (by decide) (by decide) v 92 w
  have a9 := fun v w => ta_no (T := 141) (U := 111) (by decide) (by decide) v 92 w
  have a10 := fun v w => ta_no (T := 141) (U := 112) (by decide) (by decide) v 92 w
  go_enter Tryz.func224, Tryz.ntmps224
  go_wp2
  go_end0
  exact ⟨rfl, rfl⟩
 case clen n =>
  simp only [SH.v, SH.ty, SH.slot]
  have a0 := fun v w => ta_no (T := 108) (U := 102) (by decide) (by decide) v 92 w
  have a1 := fun v w => ta_no (T := 108) (U := 103) (by decide) (by decide) v 92 w
  have a2 := fun v w => ta_no (T := 108) (U := 104) (by decide) (by decide) v 92 w
  have a3 := fun v w => ta_no (T := 108) (U := 105) (by decide) (by decide) v 92 w
  have a4 := fun v w => ta_no (T := 108) (U := 106) (by decide) (by decide) v 92 w
  have a5 := fun v w => ta_no (T := 108) (U := 107) (by decide) (by decide) v 92 w
  have a6 := fun v w => ta_yes (U := 108) (by decide) v 92 w
  have a7 := fun v w => ta_no (T := 108) (U := 109) (by decide) (by decide) v 92 w
  have a8 := fun v w => ta_no (T := 108) (U := 110) (by decide) (by decide) v 92 w
  have a9 := fun v w => ta_no (T := 108) (U := 111) (by decide) (by decide) v 92 w
  have a10 := fun v w => ta_no (T := 108) (U := 112) (by decide) (by decide) v 92 w
  go_enter Tryz.func224, Tryz.ntmps224
  go_wp2
  go_end0
  exact ⟨rfl, rfl⟩
 case cseq n m =>
  simp only [SH.v, SH.ty, SH.slot]
  have a0 := fun v w => ta_no (T := 107) (U := 102) (by decide) (by decide) v 92 w
  have a1 := fun v w => ta_no (T := 107) (U := 103) (by decide) (by decide) v 92 w
  have a2 := fun v w => ta_no (T := 107) (U := 104) (by decide) (by decide) v 92 w
  have a3 := fun v w => ta_no (T := 107) (U := 105) (by decide) (by decide) v 92 w
  have a4 := fun v w => ta_no (T := 107) (U := 106) (by decide) (by decide) v 92 w
  have a5 := fun v w => ta_yes (U := 107) (by decide) v 92 w
  have a6 := fun v w => ta_no (T := 107) (U := 108) (by decide) (by decide) v 92 w
  have a7 := fun v w => ta_no (T := 107) (U := 109) (by decide) (by decide) v 92 w
  have a8 := fun v w => ta_no (T := 107) (U := 110) (by decide) (by decide) v 92 w
  have a9 := fun v w => ta_no (T := 107) (U := 111) (by decide) (by decide) v 92 w
  have a10 := fun v w => ta_no (T := 107) (U := 112) (by decide) (by decide) v 92 w
  go_enter Tryz.func224, Tryz.ntmps224
  go_wp2
  go_end0
  exact ⟨rfl, rfl⟩
 case route u =>
  simp only [SH.v, SH.ty, SH.slot]
  have a0 := fun v w => ta_no (T := 110) (U := 102) (by decide) (by decide) v 92 w
  have a1 := fun v w => ta_no (T := 110) (U := 103) (by decide) (by decide) v 92 w
  have a2 := fun v w => ta_no (T := 110) (U := 104) (by decide) (by decide) v 92 w
  have a3 := fun v w => ta_no (T := 110) (U := 105) (by decide) (by decide) v 92 w
  have a4 := fun v w => ta_no (T := 110) (U := 106) (by decide) (by decide) v 92 w
  have a5 := fun v w => ta_no (T := 110) (U := 107) (by decide) (by decide) v 92 w
  have a6 := fun v w => ta_no (T := 110) (U := 108) (by decide) (by decide) v 92 w
  have a7 := fun v w => ta_no (T := 110) (U := 109) (by decide) (by decide) v 92 w
  have a8 := fun v w => ta_yes (U := 110) (by decide) v 92 w
  have a9 := fun v w => ta_no (T := 110) (U := 111) (by decide) (by decide) v 92 w
  have a10 := fun v w => ta_no (T := 110) (U := 112) (by decide) (by decide) v 92 w
  go_enter Tryz.func224, Tryz.ntmps224
  go_wp2
  go_end0
  exact ⟨rfl, rfl⟩
 case rroute u =>
  simp only [SH.v, SH.ty, SH.slot]
  have a0 := fun v w => ta_no (T := 111) (U := 102) (by decide) (by decide) v 92 w
  have a1 := fun v w => ta_no (T := 111) (U := 103) (by decide) (by decide) v 92 w
  have a2 := fun v w => ta_no (T := 111) (U := 104) (by decide) (by decide) v 92 w
  have a3 := fun v w => ta_no (T := 111) (U := 105) (by decide) (by decide) v 92 w
  have a4 := fun v w => ta_no (T := 111) (U := 106) (by decide) (by decide) v 92 w
  have a5 := fun v w => ta_no (T := 111) (U := 107) (by decide) (by decide) v 92 w
  have a6 := fun v w => ta_no (T := 111) (U := 108) (by decide) (by decide) v 92 w
  have a7 := fun v w => ta_no (T := 111) (U := 109) (by decide) (by decide) v 92 w
  have a8 := fun v w => ta_no (T := 111) (U := 110) (by decide) (by decide) v 92 w
  have a9 := fun v w => ta_yes (U := 111) (by decide) v 92 w
  have a10 := fun v w => ta_no (T := 111) (U := 112) (by decide) (by decide) v 92 w
  go_enter Tryz.func224, Tryz.ntmps224
  go_wp2
  go_end0
  exact ⟨rfl, rfl⟩
 case referto u =>
  simp only [SH.v, SH.ty, SH.slot]
  have a0 := fun v w => ta_no (T := 182) (U := 102) (by decide) (by decide) v 92 w
  have a1 := fun v w => ta_no (T := 182) (U := 103) (by decide) (by decide) v 92 w
  have a2 := fun v w => ta_no (T := 182) (U := 104) (by decide) (by decide) v 92 w
  have a3 := fun v w => ta_no (T := 182) (U := 105) (by decide) (by decide) v 92 w
  have a4 := fun v w => ta_no (T := 182) (U := 106) (by decide) (by decide) v 92 w
  have a5 := fun v w => ta_no (T := 182) (U := 107) (by decide) (by decide) v 92 w
  have a6 := fun v w => ta_no (T := 182) (U := 108) (by decide) (by decide) v 92 w
  have a7 := fun v w => ta_no (T := 182) (U := 109) (by decide) (by decide) v 92 w
  have a8 := fun v w => ta_no (T := 182) (U := 110) (by decide) (by decide) v 92 w
  have a9 := fun v w => ta_no (T := 182) (U := 111) (by decide) (by decide) v 92 w
  have a10 := fun v w => ta_no (T := 182) (U := 112) (by decide) (by decide) v 92 w
  go_enter Tryz.func224, Tryz.ntmps224
  go_wp2
  go_end0
  exact ⟨rfl, rfl⟩
 case generic n v =>
  simp only [SH.v, SH.ty, SH.slot]
  have a0 := fun v w => ta_no (T := 186) (U := 102) (by decide) (by decide) v 92 w
  have a1 := fun v w => ta_no (T := 186) (U := 103) (by decide) (by decide) v 92 w
  have a2 := fun v w => ta_no (T := 186) (U := 104) (by decide) (by decide) v 92 w
  have a3 := fun v w => ta_no (T := 186) (U := 105) (by decide) (by decide) v 92 w
  have a4 := fun v w => ta_no (T := 186) (U := 106) (by decide) (by decide) v 92 w
  have a5 := fun v w => ta_no (T := 186) (U := 107) (by decide) (by decide) v 92 w
  have a6 := fun v w => ta_no (T := 186) (U := 108) (by decide) (by decide) v 92 w
  have a7 := fun v w => ta_no (T := 186) (U := 109) (by decide) (by decide) v 92 w
  have a8 := fun v w => ta_no (T := 186) (U := 110) (by decide) (by decide) v 92 w
  have a9 := fun v w => ta_no (T := 186) (U := 111) (by decide) (by decide) v 92 w
  have a10 := fun v w => ta_no (T := 186) (U := 112) (by decide) (by decide) v 92 w
  go_enter Tryz.func224, Tryz.ntmps224
  go_wp2
  go_end0
  exact ⟨rfl, rfl⟩
