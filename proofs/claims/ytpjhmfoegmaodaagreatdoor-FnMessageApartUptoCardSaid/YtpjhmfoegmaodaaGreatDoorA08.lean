import Derived.Test.YtpjhmfoegmaodaaGreatDoorA07
set_option maxRecDepth 100000
set_option maxHeartbeats 16000000
set_option linter.all false
namespace Go.Proofs.YtpjhmfoegmaodaaGreatDoor
open Go.Lib (hid)
open Go.RowKit
inductive SH where
 | to_ (d : ByteArray) (u : SUri) (p : KVs)
 | from_ (d : ByteArray) (u : SUri) (p : KVs)
 | refby (d : ByteArray) (u : SUri) (p : KVs)
 | contact (d : ByteArray) (u : SUri) (p : KVs)
 | via (v : SVia)
 | callid (s : ByteArray)
 | ctype (s : ByteArray)
 | maxf (n : Int)
 | expires (n : Int)
 | clen (n : Int)
 | cseq (n : Int) (m : ByteArray)
 | route (u : SUri)
 | rroute (u : SUri)
 | referto (u : SUri)
 | generic (n v : ByteArray)
def SH.ty : SH → TypeId
 | .to_ .. => 87
 | .from_ .. => 86
 | .refby .. => 148
 | .contact .. => 89
 | .via .. => 85
 | .callid .. => 88
 | .ctype .. => 92
 | .maxf .. => 95
 | .expires .. => 119
 | .clen .. => 91
 | .cseq .. => 90
 | .route .. => 93
 | .rroute .. => 94
 | .referto .. => 146
 | .generic .. => 150
def SH.v (h : SH) (g : Nat) : Value := .iface h.ty (.pointer (some ⟨g, 0, none⟩))
def SH.rep (w : World) (g : Nat) : SH → Prop
 | .to_ d u p => AddrAt 138 w g d u p
 | .from_ d u p => AddrAt 139 w g d u p
 | .refby d u p => AddrAt 149 w g d u p
 | .contact d u p => AddrAt 140 w g d u p
 | .via v => ViaAt w g v
 | .callid s => HB w g 114 #[.string s]
 | .ctype s => HB w g 121 #[.string s]
 | .maxf n => HB w g 117 #[.int .u32 n]
 | .expires n => HB w g 118 #[.int .u32 n]
 | .clen n => HB w g 120 #[.int .u32 n]
 | .cseq n m => HB w g 116 #[.int .u32 n, .string m]
 | .route u => BareAt 144 w g u
 | .rroute u => BareAt 145 w g u
 | .referto u => BareAt 147 w g u
 | .generic n v => HB w g 152 #[.string n, .string v]
def SH.ok : SH → Prop
 | .to_ d u p => UOk u ∧ KVok p
 | .from_ d u p => UOk u ∧ KVok p
 | .refby d u p => UOk u ∧ KVok p
 | .contact d u p => UOk u ∧ u.star = false ∧ KVok p
 | .via v => VOk v
 | .callid .. => True
 | .ctype .. => True
 | .maxf n => 0 ≤ n ∧ n < 4294967296
 | .expires n => 0 ≤ n ∧ n < 4294967296
 | .clen n => 0 ≤ n ∧ n < 4294967296
 | .cseq n _ => 0 ≤ n ∧ n < 4294967296
 | .route u => UOk u
 | .rroute u => UOk u
 | .referto u => UOk u
 | .generic .. => True
def SH.nm : SH → Bytes
 | .to_ .. => ([84, 111] : Bytes)
 | .from_ .. => ([70, 114, 111, 109] : Bytes)
 | .refby .. => ([82, 101, 102, 101, 114, 114, 101, 100, 45, 66, 121] : Bytes)
 | .contact .. => ([67, 111, 110, 116, 97, 99, 116] : Bytes)
 | .via .. => ([86, 105, 97] : Bytes)
 | .callid .. => ([67, 97, 108, 108, 45, 73, 68] : Bytes)
 | .ctype .. => ([67, 111, 110, 116, 101, 110, 116, 45, 84, 121, 112, 101] : Bytes)
 | .maxf .. => ([77, 97, 120, 45, 70, 111, 114, 119, 97, 114, 100, 115] : Bytes)
 | .expires .. => ([69, 120, 112, 105, 114, 101, 115] : Bytes)
 | .clen .. => ([67, 111, 110, 116, 101, 110, 116, 45, 76, 101, 110, 103, 116, 104] : Bytes)
 | .cseq .. => ([67, 83, 101, 113] : Bytes)
 | .route .. => ([82, 111, 117, 116, 101] : Bytes)
 | .rroute .. => ([82, 101, 99, 111, 114, 100, 45, 82, 111, 117, 116, 101] : Bytes)
 | .referto .. => ([82, 101, 102, 101, 114, 45, 84, 111] : Bytes)
 | .generic n _ => n.data.toList
def SH.val : SH → Bytes
 | .to_ d u p => addrT d u p
 | .from_ d u p => addrT d u p
 | .refby d u p => addrT d u p
 | .contact d u p => addrT d u p
 | .via v => viaT v
 | .callid s => s.data.toList
 | .ctype s => s.data.toList
 | .maxf n => Lib.itoa n
 | .expires n => Lib.itoa n
 | .clen n => Lib.itoa n
 | .cseq n m => Lib.itoa n ++ [32] ++ m.data.toList
 | .route u => [60] ++ uriT u ++ [62]
 | .rroute u => [60] ++ uriT u ++ [62]
 | .referto u => [60] ++ uriT u ++ [62]
 | .generic _ v => v.data.toList
def SH.line (h : SH) : Bytes := h.nm ++ [58, 32] ++ h.val
theorem to_na_Name : NA 87 "Name" := fun _ _ => by kernel_rfl
theorem to_me_Name : ME 87 "Name" 241 := fun _ _ => by kernel_rfl
theorem to_na_valueStringWrite : NA 87 "pub-hailwright/pub/sipgo/sip.valueStringWrite" := fun _ _ => by kernel_rfl
theorem to_me_valueStringWrite : ME 87 "pub-hailwright/pub/sipgo/sip.valueStringWrite" 246 := fun _ _ => by kernel_rfl
theorem to_na_Value : NA 87 "Value" := fun _ _ => by kernel_rfl
theorem to_me_Value : ME 87 "Value" 244 := fun _ _ => by kernel_rfl
theorem to_na_String : NA 87 "String" := fun _ _ => by kernel_rfl
theorem to_me_String : ME 87 "String" 242 := fun _ _ => by kernel_rfl
theorem from_na_Name : NA 86 "Name" := fun _ _ => by kernel_rfl
theorem from_me_Name : ME 86 "Name" 235 := fun _ _ => by kernel_rfl
theorem from_na_valueStringWrite : NA 86 "pub-hailwright/pub/sipgo/sip.valueStringWrite" := fun _ _ => by kernel_rfl
theorem from_me_valueStringWrite : ME 86 "pub-hailwright/pub/sipgo/sip.valueStringWrite" 240 := fun _ _ => by kernel_rfl
theorem from_na_Value : NA 86 "Value" := fun _ _ => by kernel_rfl
theorem from_me_Value : ME 86 "Value" 238 := fun _ _ => by kernel_rfl
theorem from_na_String : NA 86 "String" := fun _ _ => by kernel_rfl
theorem from_me_String : ME 86 "String" 236 := fun _ _ => by kernel_rfl
theorem refby_na_Name : NA 148 "Name" := fun _ _ => by kernel_rfl
theorem refby_me_Name : ME 148 "Name" 316 := fun _ _ => by kernel_rfl
theorem refby_na_valueStringWrite : NA 148 "pub-hailwright/pub/sipgo/sip.valueStringWrite" := fun _ _ => by kernel_rfl
theorem refby_me_valueStringWrite : ME 148 "pub-hailwright/pub/sipgo/sip.valueStringWrite" 321 := fun _ _ => by kernel_rfl
theorem refby_na_Value : NA 148 "Value" := fun _ _ => by kernel_rfl
theorem refby_me_Value : ME 148 "Value" 319 := fun _ _ => by kernel_rfl
theorem refby_na_String : NA 148 "String" := fun _ _ => by kernel_rfl
theorem refby_me_String : ME 148 "String" 317 := fun _ _ => by kernel_rfl
theorem contact_na_Name : NA 89 "Name" := fun _ _ => by kernel_rfl
theorem contact_me_Name : ME 89 "Name" 253 := fun _ _ => by kernel_rfl
theorem contact_na_valueStringWrite : NA 89 "pub-hailwright/pub/sipgo/sip.valueStringWrite" := fun _ _ => by kernel_rfl
theorem contact_me_valueStringWrite : ME 89 "pub-hailwright/pub/sipgo/sip.valueStringWrite" 258 := fun _ _ => by kernel_rfl
theorem contact_na_Value : NA 89 "Value" := fun _ _ => by kernel_rfl
theorem contact_me_Value : ME 89 "Value" 256 := fun _ _ => by kernel_rfl
theorem contact_na_String : NA 89 "String" := fun _ _ => by kernel_rfl
theorem contact_me_String : ME 89 "String" 254 := fun _ _ => by kernel_rfl
theorem via_na_Name : NA 85 "Name" := fun _ _ => by kernel_rfl
theorem via_me_Name : ME 85 "Name" 228 := fun _ _ => by kernel_rfl
theorem via_na_valueStringWrite : NA 85 "pub-hailwright/pub/sipgo/sip.valueStringWrite" := fun _ _ => by kernel_rfl
theorem via_me_valueStringWrite : ME 85 "pub-hailwright/pub/sipgo/sip.valueStringWrite" 233 := fun _ _ => by kernel_rfl
theorem via_na_Value : NA 85 "Value" := fun _ _ => by kernel_rfl
theorem via_me_Value : ME 85 "Value" 231 := fun _ _ => by kernel_rfl
theorem via_na_String : NA 85 "String" := fun _ _ => by kernel_rfl
theorem via_me_String : ME 85 "String" 229 := fun _ _ => by kernel_rfl
theorem callid_na_Name : NA 88 "Name" := fun _ _ => by kernel_rfl
theorem callid_me_Name : ME 88 "Name" 247 := fun _ _ => by kernel_rfl
theorem callid_na_valueStringWrite : NA 88 "pub-hailwright/pub/sipgo/sip.valueStringWrite" := fun _ _ => by kernel_rfl
theorem callid_me_valueStringWrite : ME 88 "pub-hailwright/pub/sipgo/sip.valueStringWrite" 252 := fun _ _ => by kernel_rfl
theorem callid_na_Value : NA 88 "Value" := fun _ _ => by kernel_rfl
theorem callid_me_Value : ME 88 "Value" 250 := fun _ _ => by kernel_rfl
theorem callid_na_String : NA 88 "String" := fun _ _ => by kernel_rfl
theorem callid_me_String : ME 88 "String" 248 := fun _ _ => by kernel_rfl
theorem ctype_na_Name : NA 92 "Name" := fun _ _ => by kernel_rfl
theorem ctype_me_Name : ME 92 "Name" 271 := fun _ _ => by kernel_rfl
theorem ctype_na_valueStringWrite : NA 92 "pub-hailwright/pub/sipgo/sip.valueStringWrite" := fun _ _ => by kernel_rfl
theorem ctype_me_valueStringWrite : ME 92 "pub-hailwright/pub/sipgo/sip.valueStringWrite" 276 := fun _ _ => by kernel_rfl
theorem ctype_na_Value : NA 92 "Value" := fun _ _ => by kernel_rfl
theorem ctype_me_Value : ME 92 "Value" 274 := fun _ _ => by kernel_rfl
theorem ctype_na_String : NA 92 "String" := fun _ _ => by kernel_rfl
theorem ctype_me_String : ME 92 "String" 272 := fun _ _ => by kernel_rfl
theorem maxf_na_Name : NA 95 "Name" := fun _ _ => by kernel_rfl
theorem maxf_me_Name : ME 95 "Name" 290 := fun _ _ => by kernel_rfl
theorem maxf_na_valueStringWrite : NA 95 "pub-hailwright/pub/sipgo/sip.valueStringWrite" := fun _ _ => by kernel_rfl
theorem maxf_me_valueStringWrite : ME 95 "pub-hailwright/pub/sipgo/sip.valueStringWrite" 295 := fun _ _ => by kernel_rfl
theorem maxf_na_Value : NA 95 "Value" := fun _ _ => by kernel_rfl
theorem maxf_me_Value : ME 95 "Value" 293 := fun _ _ => by kernel_rfl
theorem maxf_na_String : NA 95 "String" := fun _ _ => by kernel_rfl
theorem maxf_me_String : ME 95 "String" 291 := fun _ _ => by kernel_rfl
theorem expires_na_Name : NA 119 "Name" := fun _ _ => by kernel_rfl
theorem expires_me_Name : ME 119 "Name" 304 := fun _ _ => by kernel_rfl
theorem expires_na_valueStringWrite : NA 119 "pub-hailwright/pub/sipgo/sip.valueStringWrite" := fun _ _ => by kernel_rfl
theorem expires_me_valueStringWrite : ME 119 "pub-hailwright/pub/sipgo/sip.valueStringWrite" 308 := fun _ _ => by kernel_rfl
theorem expires_na_Value : NA 119 "Value" := fun _ _ => by kernel_rfl
theorem expires_me_Value (g : Nat) (n : Int) (w : World) (h : w.cell? ⟨g, 0, none⟩ = some (.int .u32 n)) : (method 410 119 (.pointer (some ⟨g, 0, none⟩)) "Value").run Tryz.prog w = .ok (303, .int .u32 n) w := by
 have e : (method 410 119 (.pointer (some ⟨g, 0, none⟩)) "Value").run Tryz.prog w = ((Sem.load .plain ⟨g, 0, none⟩ fun v => Sem.pure (303, v)) : Sem (FuncId × Value)).run Tryz.prog w := by kernel_rfl
 rw [e]
 simp [Sem.run, h]
theorem expires_na_String : NA 119 "String" := fun _ _ => by kernel_rfl
theorem expires_me_String : ME 119 "String" 305 := fun _ _ => by kernel_rfl
theorem clen_na_Name : NA 91 "Name" := fun _ _ => by kernel_rfl
theorem clen_me_Name : ME 91 "Name" 265 := fun _ _ => by kernel_rfl
theorem clen_na_valueStringWrite : NA 91 "pub-hailwright/pub/sipgo/sip.valueStringWrite" := fun _ _ => by kernel_rfl
theorem clen_me_valueStringWrite : ME 91 "pub-hailwright/pub/sipgo/sip.valueStringWrite" 270 := fun _ _ => by kernel_rfl
theorem clen_na_Value : NA 91 "Value" := fun _ _ => by kernel_rfl
theorem clen_me_Value (g : Nat) (n : Int) (w : World) (h : w.cell? ⟨g, 0, none⟩ = some (.int .u32 n)) : (method 410 91 (.pointer (some ⟨g, 0, none⟩)) "Value").run Tryz.prog w = .ok (268, .int .u32 n) w := by
 have e : (method 410 91 (.pointer (some ⟨g, 0, none⟩)) "Value").run Tryz.prog w = ((Sem.load .plain ⟨g, 0, none⟩ fun v => Sem.pure (268, v)) : Sem (FuncId × Value)).run Tryz.prog w := by kernel_rfl
 rw [e]
 simp [Sem.run, h]
theorem clen_na_String : NA 91 "String" := fun _ _ => by kernel_rfl
theorem clen_me_String (g : Nat) (n : Int) (w : World) (h : w.cell? ⟨g, 0, none⟩ = some (.int .u32 n)) : (method 410 91 (.pointer (some ⟨g, 0, none⟩)) "String").run Tryz.prog w = .ok (266, .int .u32 n) w := by
 have e : (method 410 91 (.pointer (some ⟨g, 0, none⟩)) "String").run Tryz.prog w = ((Sem.load .plain ⟨g, 0, none⟩ fun v => Sem.pure (266, v)) : Sem (FuncId × Value)).run Tryz.prog w := by kernel_rfl
 rw [e]
 simp [Sem.run, h]
theorem cseq_na_Name : NA 90 "Name" := fun _ _ => by kernel_rfl
theorem cseq_me_Name : ME 90 "Name" 259 := fun _ _ => by kernel_rfl
theorem cseq_na_valueStringWrite : NA 90 "pub-hailwright/pub/sipgo/sip.valueStringWrite" := fun _ _ => by kernel_rfl
theorem cseq_me_valueStringWrite : ME 90 "pub-hailwright/pub/sipgo/sip.valueStringWrite" 264 := fun _ _ => by kernel_rfl
theorem cseq_na_Value : NA 90 "Value" := fun _ _ => by kernel_rfl
theorem cseq_me_Value : ME 90 "Value" 262 := fun _ _ => by kernel_rfl
theorem cseq_na_String : NA 90 "String" := fun _ _ => by kernel_rfl
theorem cseq_me_String : ME 90 "String" 260 := fun _ _ => by kernel_rfl
theorem route_na_Name : NA 93 "Name" := fun _ _ => by kernel_rfl
theorem route_me_Name : ME 93 "Name" 277 := fun _ _ => by kernel_rfl
theorem route_na_valueStringWrite : NA 93 "pub-hailwright/pub/sipgo/sip.valueStringWrite" := fun _ _ => by kernel_rfl
theorem route_me_valueStringWrite : ME 93 "pub-hailwright/pub/sipgo/sip.valueStringWrite" 282 := fun _ _ => by kernel_rfl
theorem route_na_Value : NA 93 "Value" := fun _ _ => by kernel_rfl
theorem route_me_Value : ME 93 "Value" 280 := fun _ _ => by kernel_rfl
theorem route_na_String : NA 93 "String" := fun _ _ => by kernel_rfl
theorem route_me_String : ME 93 "String" 278 := fun _ _ => by kernel_rfl
theorem rroute_na_Name : NA 94 "Name" := fun _ _ => by kernel_rfl
theorem rroute_me_Name : ME 94 "Name" 283 := fun _ _ => by kernel_rfl
theorem rroute_na_valueStringWrite : NA 94 "pub-hailwright/pub/sipgo/sip.valueStringWrite" := fun _ _ => by kernel_rfl
theorem rroute_me_valueStringWrite : ME 94 "pub-hailwright/pub/sipgo/sip.valueStringWrite" 288 := fun _ _ => by kernel_rfl
theorem rroute_na_Value : NA 94 "Value" := fun _ _ => by kernel_rfl
theorem rroute_me_Value : ME 94 "Value" 286 := fun _ _ => by kernel_rfl
theorem rroute_na_String : NA 94 "String" := fun _ _ => by kernel_rfl
theorem rroute_me_String : ME 94 "String" 284 := fun _ _ => by kernel_rfl
theorem referto_na_Name : NA 146 "Name" := fun _ _ => by kernel_rfl
theorem referto_me_Name : ME 146 "Name" 310 := fun _ _ => by kernel_rfl
theorem referto_na_valueStringWrite : NA 146 "pub-hailwright/pub/sipgo/sip.valueStringWrite" := fun _ _ => by kernel_rfl
theorem referto_me_valueStringWrite : ME 146 "pub-hailwright/pub/sipgo/sip.valueStringWrite" 315 := fun _ _ => by kernel_rfl
theorem referto_na_Value : NA 146 "Value" := fun _ _ => by kernel_rfl
theorem referto_me_Value : ME 146 "Value" 313 := fun _ _ => by kernel_rfl
theorem referto_na_String : NA 146 "String" := fun _ _ => by kernel_rfl
theorem referto_me_String : ME 146 "String" 311 := fun _ _ => by kernel_rfl
theorem generic_na_Name : NA 150 "Name" := fun _ _ => by kernel_rfl
theorem generic_me_Name : ME 150 "Name" 322 := fun _ _ => by kernel_rfl
theorem generic_na_valueStringWrite : NA 150 "pub-hailwright/pub/sipgo/sip.valueStringWrite" := fun _ _ => by kernel_rfl
theorem generic_me_valueStringWrite : ME 150 "pub-hailwright/pub/sipgo/sip.valueStringWrite" 327 := fun _ _ => by kernel_rfl
theorem generic_na_Value : NA 150 "Value" := fun _ _ => by kernel_rfl
theorem generic_me_Value : ME 150 "Value" 325 := fun _ _ => by kernel_rfl
theorem generic_na_String : NA 150 "String" := fun _ _ => by kernel_rfl
theorem generic_me_String : ME 150 "String" 323 := fun _ _ => by kernel_rfl
theorem disp_name (h : SH) (g : Nat) (w : World) (hr : h.rep w g) : ∃ f r s, (∀ args w, (callFunc f args).run Tryz.prog w = .ok (.enter f args) w) ∧ (∀ w, (nilAhead 410 h.ty (.pointer (some ⟨g, 0, none⟩)) "Name").run Tryz.prog w = .ok (some false) w) ∧
  (method 410 h.ty (.pointer (some ⟨g, 0, none⟩)) "Name").run Tryz.prog w = .ok (f, r) w ∧ s.data.toList = h.nm ∧ Calls Tryz.prog f #[r] w fun e w' => e = .returned (.string s) ∧ w' = w := by
 cases h with
 | to_ d u p => exact ⟨_, _, ⟨#[84, 111]⟩, enters_of Tryz.func241 (by kernel_rfl) rfl, to_na_Name _, to_me_Name _ _, rfl, to_name _ _⟩
 | from_ d u p => exact ⟨_, _, ⟨#[70, 114, 111, 109]⟩, enters_of Tryz.func235 (by kernel_rfl) rfl, from_na_Name _, from_me_Name _ _, rfl, from_name _ _⟩
 | refby d u p => exact ⟨_, _, ⟨#[82, 101, 102, 101, 114, 114, 101, 100, 45, 66, 121]⟩, enters_of Tryz.func316 (by kernel_rfl) rfl, refby_na_Name _, refby_me_Name _ _, rfl, refby_name _ _⟩
 | contact d u p => exact ⟨_, _, ⟨#[67, 111, 110, 116, 97, 99, 116]⟩, enters_of Tryz.func253 (by kernel_rfl) rfl, contact_na_Name _, contact_me_Name _ _, rfl, contact_name _ _⟩
 | via v => exact ⟨_, _, ⟨#[86, 105, 97]⟩, enters_of Tryz.func228 (by kernel_rfl) rfl, via_na_Name _, via_me_Name _ _, rfl, via_name _ _⟩
 | callid s => exact ⟨_, _, ⟨#[67, 97, 108, 108, 45, 73, 68]⟩, enters_of Tryz.func247 (by kernel_rfl) rfl, callid_na_Name _, callid_me_Name _ _, rfl, callid_name _ _⟩
 | ctype s => exact ⟨_, _, ⟨#[67, 111, 110, 116, 101, 110, 116, 45, 84, 121, 112, 101]⟩, enters_of Tryz.func271 (by kernel_rfl) rfl, ctype_na_Name _, ctype_me_Name _ _, rfl, ctype_name _ _⟩
 | maxf n => exact ⟨_, _, ⟨#[77, 97, 120, 45, 70, 111, 114, 119, 97, 114, 100, 115]⟩, enters_of Tryz.func290 (by kernel_rfl) rfl, maxf_na_Name _, maxf_me_Name _ _, rfl, maxf_name _ _⟩
 | expires n => exact ⟨_, _, ⟨#[69, 120, 112, 105, 114, 101, 115]⟩, enters_of Tryz.func304 (by kernel_rfl) rfl, expires_na_Name _, expires_me_Name _ _, rfl, expires_name _ _⟩
 | clen n => exact ⟨_, _, ⟨#[67, 111, 110, 116, 101, 110, 116, 45, 76, 101, 110, 103, 116, 104]⟩, enters_of Tryz.func265 (by kernel_rfl) rfl, clen_na_Name _, clen_me_Name _ _, rfl, clen_name _ _⟩
 | cseq n m => exact ⟨_, _, ⟨#[67, 83, 101, 113]⟩, enters_of Tryz.func259 (by kernel_rfl) rfl, cseq_na_Name _, cseq_me_Name _ _, rfl, cseq_name _ _⟩
 | route u => exact ⟨_, _, ⟨#[82, 111, 117, 116, 101]⟩, enters_of Tryz.func277 (by kernel_rfl) rfl, route_na_Name _, route_me_Name _ _, rfl, route_name _ _⟩
 | rroute u => exact ⟨_, _, ⟨#[82, 101, 99, 111, 114, 100, 45, 82, 111, 117, 116, 101]⟩, enters_of Tryz.func283 (by kernel_rfl) rfl, rroute_na_Name _, rroute_me_Name _ _, rfl, rroute_name _ _⟩
 | referto u => exact ⟨_, _, ⟨#[82, 101, 102, 101, 114, 45, 84, 111]⟩, enters_of Tryz.func310 (by kernel_rfl) rfl, referto_na_Name _, referto_me_Name _ _, rfl, referto_name _ _⟩
 | generic n v => exact ⟨_, _, n, enters_of Tryz.func322 (by kernel_rfl) rfl, generic_na_Name _, generic_me_Name _ _, rfl, generic_name g n v w hr⟩
theorem disp_vsw (N n0 b : Nat) (bs : Bytes) (h : SH) (g : Nat) (w : World) (hG : Gl N w) (hN : N ≤ n0) (hB : BW n0 b bs w) (hr : h.rep w g) (ho : h.ok) (hl : bs.length + h.val.length ≤ 70368744177664) :
  ∃ f r, (∀ args w, (callFunc f args).run Tryz.prog w = .ok (.enter f args) w) ∧ (∀ w, (nilAhead 410 h.ty (.pointer (some ⟨g, 0, none⟩)) "pub-hailwright/pub/sipgo/sip.valueStringWrite").run Tryz.prog w = .ok (some false) w) ∧ (method 410 h.ty (.pointer (some ⟨g, 0, none⟩)) "pub-hailwright/pub/sipgo/sip.valueStringWrite").run Tryz.prog w = .ok (f, r) w ∧
   Calls Tryz.prog f #[r, bptr b] w (WrPost n0 b bs h.val w) := by
 cases h with
 | to_ d u p => exact ⟨_, _, enters_of Tryz.func246 (by kernel_rfl) rfl, to_na_valueStringWrite _, to_me_valueStringWrite _ _, to_vsw N n0 b bs g d u p w hG hN hB hr ho.1 ho.2 hl⟩
 | from_ d u p => exact ⟨_, _, enters_of Tryz.func240 (by kernel_rfl) rfl, from_na_valueStringWrite _, from_me_valueStringWrite _ _, from_vsw N n0 b bs g d u p w hG hN hB hr ho.1 ho.2 hl⟩
 | refby d u p => exact ⟨_, _, enters_of Tryz.func321 (by kernel_rfl) rfl, refby_na_valueStringWrite _, refby_me_valueStringWrite _ _, refby_vsw N n0 b bs g d u p w hG hN hB hr ho.1 ho.2 hl⟩
 | contact d u p => exact ⟨_, _, enters_of Tryz.func258 (by kernel_rfl) rfl, contact_na_valueStringWrite _, contact_me_valueStringWrite _ _, contact_vsw N n0 b bs g d u p w hG hN hB hr ho.1 ho.2.1 ho.2.2 hl⟩
 | via v => exact ⟨_, _, enters_of Tryz.func233 (by kernel_rfl) rfl, via_na_valueStringWrite _, via_me_valueStringWrite _ _, via_vsw N n0 b bs g v w hG hN hB hr ho hl⟩
 | callid s => exact ⟨_, _, enters_of Tryz.func252 (by kernel_rfl) rfl, callid_na_valueStringWrite _, callid_me_valueStringWrite _ _, callid_vsw N n0 b bs g s w hG hN hB hr  hl⟩
 | ctype s => exact ⟨_, _, enters_of Tryz.func276 (by kernel_rfl) rfl, ctype_na_valueStringWrite _, ctype_me_valueStringWrite _ _, ctype_vsw N n0 b bs g s w hG hN hB hr  hl⟩
 | maxf n => exact ⟨_, _, enters_of Tryz.func295 (by kernel_rfl) rfl, maxf_na_valueStringWrite _, maxf_me_valueStringWrite _ _, maxf_vsw N n0 b bs g n w hG hN hB hr ho hl⟩
 | expires n => exact ⟨_, _, enters_of Tryz.func308 (by kernel_rfl) rfl, expires_na_valueStringWrite _, expires_me_valueStringWrite _ _, expires_vsw N n0 b bs g n w hG hN hB hr ho hl⟩
 | clen n => exact ⟨_, _, enters_of Tryz.func270 (by kernel_rfl) rfl, clen_na_valueStringWrite _, clen_me_valueStringWrite _ _, clen_vsw N n0 b bs g n w hG hN hB hr ho hl⟩
 | cseq n m => exact ⟨_, _, enters_of Tryz.func264 (by kernel_rfl) rfl, cseq_na_valueStringWrite _, cseq_me_valueStringWrite _ _, cseq_vsw N n0 b bs g n m w hG hN hB hr ho hl⟩
 | route u => exact ⟨_, _, enters_of Tryz.func282 (by kernel_rfl) rfl, route_na_valueStringWrite _, route_me_valueStringWrite _ _, route_vsw N n0 b bs g u w hG hN hB hr ho hl⟩
 | rroute u => exact ⟨_, _, enters_of Tryz.func288 (by kernel_rfl) rfl, rroute_na_valueStringWrite _, rroute_me_valueStringWrite _ _, rroute_vsw N n0 b bs g u w hG hN hB hr ho hl⟩
 | referto u => exact ⟨_, _, enters_of Tryz.func315 (by kernel_rfl) rfl, referto_na_valueStringWrite _, referto_me_valueStringWrite _ _, referto_vsw N n0 b bs g u w hG hN hB hr ho hl⟩
 | generic n v => exact ⟨_, _, enters_of Tryz.func327 (by kernel_rfl) rfl, generic_na_valueStringWrite _, generic_me_valueStringWrite _ _, generic_vsw N n0 b bs g n v w hG hN hB hr  hl⟩
theorem disp_val (N : Nat) (h : SH) (g : Nat) (w : World) (hG : Gl N w) (hr : h.rep w g) (ho : h.ok) (hl : (h.val).length ≤ 70368744177664) :
  ∃ f r, (∀ args w, (callFunc f args).run Tryz.prog w = .ok (.enter f args) w) ∧ (∀ w, (nilAhead 410 h.ty (.pointer (some ⟨g, 0, none⟩)) "Value").run Tryz.prog w = .ok (some false) w) ∧ (method 410 h.ty (.pointer (some ⟨g, 0, none⟩)) "Value").run Tryz.prog w = .ok (f, r) w ∧
   Calls Tryz.prog f #[r] w (StrPost (h.val) w) := by
 cases h with
 | to_ d u p => exact ⟨_, _, enters_of Tryz.func244 (by kernel_rfl) rfl, to_na_Value _, to_me_Value _ _, to_val N g d u p w hG hr ho.1 ho.2 hl⟩
 | from_ d u p => exact ⟨_, _, enters_of Tryz.func238 (by kernel_rfl) rfl, from_na_Value _, from_me_Value _ _, from_val N g d u p w hG hr ho.1 ho.2 hl⟩
 | refby d u p => exact ⟨_, _, enters_of Tryz.func319 (by kernel_rfl) rfl, refby_na_Value _, refby_me_Value _ _, refby_val N g d u p w hG hr ho.1 ho.2 hl⟩
 | contact d u p => exact ⟨_, _, enters_of Tryz.func256 (by kernel_rfl) rfl, contact_na_Value _, contact_me_Value _ _, contact_val N g d u p w hG hr ho.1 ho.2.1 ho.2.2 hl⟩
 | via v => exact ⟨_, _, enters_of Tryz.func231 (by kernel_rfl) rfl, via_na_Value _, via_me_Value _ _, via_val N g v w hG hr ho hl⟩
 | callid s => exact ⟨_, _, enters_of Tryz.func250 (by kernel_rfl) rfl, callid_na_Value _, callid_me_Value _ _, callid_val N g s w hG hr  hl⟩
 | ctype s => exact ⟨_, _, enters_of Tryz.func274 (by kernel_rfl) rfl, ctype_na_Value _, ctype_me_Value _ _, ctype_val N g s w hG hr  hl⟩
 | maxf n => exact ⟨_, _, enters_of Tryz.func293 (by kernel_rfl) rfl, maxf_na_Value _, maxf_me_Value _ _, maxf_val N g n w hG hr ho hl⟩
 | expires n => exact ⟨_, _, enters_of Tryz.func303 (by kernel_rfl) rfl, expires_na_Value _, expires_me_Value g n w (hr.cell 0), expires_val N g n w hG hr ho hl⟩
 | clen n => exact ⟨_, _, enters_of Tryz.func268 (by kernel_rfl) rfl, clen_na_Value _, clen_me_Value g n w (hr.cell 0), clen_val N g n w hG hr ho hl⟩
 | cseq n m => exact ⟨_, _, enters_of Tryz.func262 (by kernel_rfl) rfl, cseq_na_Value _, cseq_me_Value _ _, cseq_val N g n m w hG hr ho hl⟩
 | route u => exact ⟨_, _, enters_of Tryz.func280 (by kernel_rfl) rfl, route_na_Value _, route_me_Value _ _, route_val N g u w hG hr ho hl⟩
 | rroute u => exact ⟨_, _, enters_of Tryz.func286 (by kernel_rfl) rfl, rroute_na_Value _, rroute_me_Value _ _, rroute_val N g u w hG hr ho hl⟩
 | referto u => exact ⟨_, _, enters_of Tryz.func313 (by kernel_rfl) rfl, referto_na_Value _, referto_me_Value _ _, referto_val N g u w hG hr ho hl⟩
 | generic n v => exact ⟨_, _, enters_of Tryz.func325 (by kernel_rfl) rfl, generic_na_Value _, generic_me_Value _ _, generic_val N g n v w hG hr  hl⟩
theorem disp_str (N : Nat) (h : SH) (g : Nat) (w : World) (hG : Gl N w) (hr : h.rep w g) (ho : h.ok) (hl : (h.line).length ≤ 70368744177664) :
  ∃ f r, (∀ args w, (callFunc f args).run Tryz.prog w = .ok (.enter f args) w) ∧ (∀ w, (nilAhead 410 h.ty (.pointer (some ⟨g, 0, none⟩)) "String").run Tryz.prog w = .ok (some false) w) ∧ (method 410 h.ty (.pointer (some ⟨g, 0, none⟩)) "String").run Tryz.prog w = .ok (f, r) w ∧
   Calls Tryz.prog f #[r] w (StrPost (h.line) w) := by
 cases h with
 | to_ d u p => exact ⟨_, _, enters_of Tryz.func242 (by kernel_rfl) rfl, to_na_String _, to_me_String _ _, to_str N g d u p w hG hr ho.1 ho.2 hl⟩
 | from_ d u p => exact ⟨_, _, enters_of Tryz.func236 (by kernel_rfl) rfl, from_na_String _, from_me_String _ _, from_str N g d u p w hG hr ho.1 ho.2 hl⟩
 | refby d u p => exact ⟨_, _, enters_of Tryz.func317 (by kernel_rfl) rfl, refby_na_String _, refby_me_String _ _, refby_str N g d u p w hG hr ho.1 ho.2 hl⟩
 | contact d u p => exact ⟨_, _, enters_of Tryz.func254 (by kernel_rfl) rfl, contact_na_String _, contact_me_String _ _, contact_str N g d u p w hG hr ho.1 ho.2.1 ho.2.2 hl⟩
 | via v => exact ⟨_, _, enters_of Tryz.func229 (by kernel_rfl) rfl, via_na_String _, via_me_String _ _, via_str N g v w hG hr ho hl⟩
 | callid s => exact ⟨_, _, enters_of Tryz.func248 (by kernel_rfl) rfl, callid_na_String _, callid_me_String _ _, callid_str N g s w hG hr  hl⟩
 | ctype s => exact ⟨_, _, enters_of Tryz.func272 (by kernel_rfl) rfl, ctype_na_String _, ctype_me_String _ _, ctype_str N g s w hG hr  hl⟩
 | maxf n => exact ⟨_, _, enters_of Tryz.func291 (by kernel_rfl) rfl, maxf_na_String _, maxf_me_String _ _, maxf_str N g n w hG hr ho hl⟩
 | expires n => exact ⟨_, _, enters_of Tryz.func305 (by kernel_rfl) rfl, expires_na_String _, expires_me_String _ _, expires_str N g n w hG hr ho hl⟩
 | clen n => exact ⟨_, _, enters_of Tryz.func266 (by kernel_rfl) rfl, clen_na_String _, clen_me_String g n w (hr.cell 0), clen_str N n w hG ho hl⟩
 | cseq n m => exact ⟨_, _, enters_of Tryz.func260 (by kernel_rfl) rfl, cseq_na_String _, cseq_me_String _ _, cseq_str N g n m w hG hr ho hl⟩
 | route u => exact ⟨_, _, enters_of Tryz.func278 (by kernel_rfl) rfl, route_na_String _, route_me_String _ _, route_str N g u w hG hr ho hl⟩
 | rroute u => exact ⟨_, _, enters_of Tryz.func284 (by kernel_rfl) rfl, rroute_na_String _, rroute_me_String _ _, rroute_str N g u w hG hr ho hl⟩
 | referto u => exact ⟨_, _, enters_of Tryz.func311 (by kernel_rfl) rfl, referto_na_String _, referto_me_String _ _, referto_str N g u w hG hr ho hl⟩
 | generic n v => exact ⟨_, _, enters_of Tryz.func323 (by kernel_rfl) rfl, generic_na_String _, generic_me_String _ _, generic_str N g n v w hG hr  hl⟩
def linesT (hs : List (Nat × SH)) : Bytes := hs.flatMap fun p => [13, 10] ++ p.2.line
def headsT (hs : List (Nat × SH)) : Bytes := (linesT hs).drop 2 ++ [13, 10]
theorem linesT_snoc (hs : List (Nat × SH)) (p : Nat × SH) : linesT (hs ++ [p]) = linesT hs ++ ([13, 10] ++ p.2.line) := by simp [linesT]
theorem linesT_le (hs : List (Nat × SH)) (k : Nat) : (linesT (hs.take k)).length ≤ (linesT hs).length := by
 have : linesT hs = linesT (hs.take k) ++ linesT (hs.drop k) := by
  unfold linesT
  rw [← List.flatMap_append, List.take_append_drop]
 rw [this, List.length_append]
 omega
theorem SH.rep_keep {n0 b : Nat} {bs : Bytes} {w w' : World} {g : Nat} {h : SH} (hr : h.rep w g) (hB : BW n0 b bs w) (hk : WK n0 b w w') : h.rep w' g := by
 cases h <;> first | exact AddrAt.keep hr hB hk | exact ViaAt.keep hr hB hk | exact BareAt.keep hr hB hk | exact HB.keep hr hB hk
theorem SH.rep_below {w w' : World} {g : Nat} {h : SH} (hr : h.rep w g) (hb : Below w.heap.size w w') : h.rep w' g := by
 cases h <;> first | exact AddrAt.below hr hb | exact ViaAt.below hr hb | exact BareAt.below hr hb | exact HB.below hr hb
def HList (w : World) (m : Nat) (hs : List (Nat × SH)) : Prop := ∃ cs t A cap, w.heap[m]? = some (.cells cs t (0, 0)) ∧ t ≠ 5 ∧ t ≠ 134 ∧ cs[0]? = some (.slice A hs.length cap) ∧ cs[12]? = some (.bool false) ∧ hs.length ≤ 4294967296 ∧
 (hs ≠ [] → ∃ bo ocs fz, A = some ⟨bo, 0, none⟩ ∧ w.heap[bo]? = some (.cells ocs 63 fz) ∧ ∀ i (h : i < hs.length), ocs[i]? = some (hs[i].2.v hs[i].1)) ∧ ∀ p ∈ hs, p.2.rep w p.1 ∧ p.2.ok
theorem HList.keep {n0 b : Nat} {bs : Bytes} {w w' : World} {m : Nat} {hs : List (Nat × SH)} (h : HList w m hs) (hB : BW n0 b bs w) (hk : WK n0 b w w') : HList w' m hs := by
 obtain ⟨cs, t, A, cap, h1, h2, h3, h4, h5, h6, h7, h8⟩ := h
 refine ⟨cs, t, A, cap, hk.blk h1 (hB.ne_blk h1 h3) h2, h2, h3, h4, h5, h6, fun hne => ?_, fun p hp => ⟨SH.rep_keep (h8 p hp).1 hB hk, (h8 p hp).2⟩⟩
 obtain ⟨bo, ocs, fz, e, hb, hc⟩ := h7 hne
 exact ⟨bo, ocs, fz, e, hk.blk hb (hB.ne_blk hb (by decide)) (by decide), hc⟩
theorem HList.below {w w' : World} {m : Nat} {hs : List (Nat × SH)} (h : HList w m hs) (hb : Below w.heap.size w w') : HList w' m hs := by
 obtain ⟨cs, t, A, cap, h1, h2, h3, h4, h5, h6, h7, h8⟩ := h
 refine ⟨cs, t, A, cap, (hb.block _ (heap_lt h1)).trans h1, h2, h3, h4, h5, h6, fun hne => ?_, fun p hp => ⟨SH.rep_below (h8 p hp).1 hb, (h8 p hp).2⟩⟩
 obtain ⟨bo, ocs, fz, e, hbo, hc⟩ := h7 hne
 exact ⟨bo, ocs, fz, e, (hb.block _ (heap_lt hbo)).trans hbo, hc⟩
theorem hsw_any (N n0 b : Nat) (bs : Bytes) (m : Nat) (hs : List (Nat × SH)) (w : World) (hG : Gl N w) (hN : N ≤ n0) (hB : BW n0 b bs w) (hA : HList w m hs) (hl : bs.length + (linesT hs).length + 2 ≤ 70368744177664) :
  Calls Tryz.prog 215 #[.pointer (some ⟨m, 0, none⟩), bptr b] w (WrPost n0 b bs (headsT hs) w) := by
 have hA' := hA
 obtain ⟨cs, t, A, cap, h1, h2, h3, h4, h5, h6, h7, h8⟩ := hA'
 have c0 : w.cell? ⟨m, 0, none⟩ = some (.slice A hs.length cap) := by simp [World.cell?, h1, h4]
 have c12 : w.cell? ⟨m, 12, none⟩ = some (.bool false) := by simp [World.cell?, h1, h5]
 have hlen : hs.length ≤ 9223372036854775807 := by omega
 have H6 := hid h6
 have H7 := hid h7
 have H8 := hid h8
 have HA := hid hA
 have HB0 := hid hB
 have HG := hid hG
 have HL := hid hl
 have hna := ws_nilAhead
 have hme := ws_method
 clear h1 h4 h5 h6 h7 h8 hA hB hG hl
 go_enter Tryz.func215, Tryz.ntmps215
 go_wp2_with fail
 go_loopw [7, 8, 49] (fun _ _ i wr => ∃ k : Nat, k ≤ hs.length ∧ i = .int .i64 k ∧ BW n0 b (bs ++ (linesT (hs.take k)).drop 2) wr ∧ WK n0 b w wr) (fun _ _ i _ => hs.length - (intOf i).toNat)
 case atStart => exact ⟨0, Nat.zero_le _, rfl, by simpa [linesT] using HB0.out, WK.refl _ _ _⟩
 case round =>
  obtain ⟨k, hk, rfl, hB, hbw⟩ := hrel
  obtain ⟨wo, rfl⟩ : ∃ wo : World, wo = wr := ⟨_, rfl⟩
  have HBo := hid hB
  have HKo := hid hbw
  clear hB hbw c0 c12
  by_cases hlt : k < hs.length
  ·have htriv := trivial
   have hne : hs ≠ [] := fun e => by rw [e] at hlt; exact absurd hlt (by simp)
   obtain ⟨bo, ocs, fz, rfl, hbo, hoc⟩ := H7.out hne
   have hbo' := HKo.out.blk hbo (HB0.out.ne_blk hbo (by decide)) (by decide)
   have c1 : wo.cell? ⟨bo, k, none⟩ = some (hs[k].2.v hs[k].1) := by simp [World.cell?, hbo', hoc k hlt]
   unfold SH.v at c1
   have hpre : (linesT (hs.take k)).length + 2 + (hs[k].2.line).length ≤ (linesT hs).length := by
    have := linesT_le hs (k + 1)
    rw [take_step hs k hlt, linesT_snoc] at this
    simp only [List.length_append, List.length_cons, List.length_nil] at this
    omega
   have hrep : hs[k].2.rep wo hs[k].1 := SH.rep_keep (H8.out _ (List.getElem_mem hlt)).1 HB0.out HKo.out
   have HRo := hid hrep
   have hstep : (linesT (hs.take (k + 1))).drop 2 = (if k = 0 then [] else (linesT (hs.take k)).drop 2 ++ [13, 10]) ++ hs[k].2.line := by
    rw [take_step hs k hlt, linesT_snoc]
    by_cases h0 : k = 0
    ·subst h0; simp [linesT]
    ·rw [if_neg h0, List.drop_append_of_le_length]
     ·simp
     ·cases hs with
      | nil => exact absurd rfl hne
      | cons a r =>
       cases k with
       | zero => exact absurd rfl h0
       | succ k => simp [linesT]
   have HST := hid hstep
   have HPRE := hid hpre
   clear hstep hpre hrep hbo' hne hbo hoc
   by_cases hk0 : k = 0
   ·have ht0 : (linesT (hs.take k)).drop 2 = [] := by subst hk0; rfl
    have HF : Hid (∀ W, BW n0 b (bs ++ hs[k].2.line) W → BW n0 b (bs ++ (linesT (hs.take (k + 1))).drop 2) W) := hid (fun W hW => by rw [HST.out, if_pos hk0]; simpa using hW)
    have HB1 : Hid (BW n0 b bs wo) := hid (by have := HBo.out; rw [ht0, List.append_nil] at this; exact this)
    have HK1 := hid (WK.refl n0 b wo)
    have HR1 := HRo
    have HL1 := hid (show bs.length + (hs[k].2.line).length ≤ 70368744177664 by have := HL.out; have := HPRE.out; omega)
    have hgt : ¬ (0 : Int) < k := by omega
    clear ht0 hk0
    obtain ⟨W1, hW1⟩ : ∃ W1, W1 = wo := ⟨_, rfl⟩
    subst hW1
    go_wp2_with fail
    obtain ⟨f1, r1, nm1, en1, na1, me1, hnm, hcall⟩ := disp_name hs[k].2 hs[k].1 W1.drew (SH.rep_below HR1.out (Below.refl _ W1).drew)
    have HC1 := hid hcall
    have HNM := hid (And.intro hnm (dl nm1))
    clear hcall hnm
    refine stail 6 (by kernel_rfl) (by kernel_rfl) ?_
    simp only [List.take_succ_cons, List.take_zero, List.drop_succ_cons, List.drop_zero]
    repeat still_step
    still_call HC1.out
    repeat still_step
    refine wpStill_nil ?_
    clear na1 me1 en1
    go_wp2_with fail
    refine (ws_any n0 b _ _ _ HB1.out.drew (by have := HL1.out; have := HNM.out; simp only [SH.line, List.length_append] at *; rw [HNM.out.2, HNM.out.1]; omega)).mono ?_
    rintro e w2 ⟨rfl, hB2, hk2⟩
    rw [HNM.out.1] at hB2
    have HB2 := hid hB2
    have HK2 := hid (HK1.out.drew.trans hk2)
    have HR2 := hid (SH.rep_keep (SH.rep_below HR1.out (Below.refl _ W1).drew) HB1.out.drew hk2)
    clear hB2 hk2
    go_wp2_with fail
    refine (ws_any n0 b _ _ _ HB2.out (by have := HL1.out; show _ + 2 ≤ _; simp only [SH.line, List.length_append, List.length_cons, List.length_nil] at *; omega)).mono ?_
    rintro e w3 ⟨rfl, hB3, hk3⟩
    have HB3 := hid hB3
    have HK3 := hid (HK2.out.trans hk3)
    have HR3 := hid (SH.rep_keep HR2.out HB2.out hk3)
    clear hB3 hk3
    obtain ⟨f2, r2, en2, na2, me2, hcall⟩ := disp_vsw N n0 b _ hs[k].2 hs[k].1 w3 (HG.out.below (HKo.out.trans HK3.out).1 hN) hN HB3.out HR3.out (H8.out _ (List.getElem_mem hlt)).2 (by have := HL1.out; simp only [SH.line, List.length_append, List.length_cons, List.length_nil] at *; omega)
    have HC2 := hid hcall
    clear hcall na2
    go_wp2_with fail
    refine HC2.out.mono ?_
    rintro e w4 ⟨rfl, hB4, hk4⟩
    have HB4 := hid hB4
    have HK4 := hid (HK3.out.trans hk4)
    clear hB4 hk4 me2 en2
    go_wp2_with fail
    go_roundw
    case rel => exact ⟨k + 1, by omega, by go_num, HF.out _ (by have := HB4.out; simpa [SH.line] using this), HKo.out.trans HK4.out⟩
    case measure => simp [intOf]; omega
   ·have hgt : (0 : Int) < k := by omega
    have HF : Hid (∀ W, BW n0 b (bs ++ (linesT (hs.take k)).drop 2 ++ [13, 10] ++ hs[k].2.line) W → BW n0 b (bs ++ (linesT (hs.take (k + 1))).drop 2) W) := hid (fun W hW => by rw [HST.out, if_neg hk0]; simpa using hW)
    clear hk0
    go_wp2_with fail
    refine (ws_any n0 b _ _ _ HBo.out (by have := HL.out; have := HPRE.out; show _ + 2 ≤ _; simp only [List.length_append, List.length_drop] at *; omega)).mono ?_
    rintro e W1 ⟨rfl, hB1, hk1⟩
    have HB1 := hid hB1
    have HK1 := hid hk1
    have HR1 := hid (SH.rep_keep HRo.out HBo.out hk1)
    have HL1 := hid (show (bs ++ (linesT (hs.take k)).drop 2 ++ [13, 10]).length + (hs[k].2.line).length ≤ 70368744177664 by have := HL.out; have := HPRE.out; simp only [List.length_append, List.length_drop, List.length_cons, List.length_nil]; omega)
    clear hB1 hk1
    go_wp2_with fail
    obtain ⟨f1, r1, nm1, en1, na1, me1, hnm, hcall⟩ := disp_name hs[k].2 hs[k].1 W1.drew (SH.rep_below HR1.out (Below.refl _ W1).drew)
    have HC1 := hid hcall
    have HNM := hid (And.intro hnm (dl nm1))
    clear hcall hnm
    refine stail 6 (by kernel_rfl) (by kernel_rfl) ?_
    simp only [List.take_succ_cons, List.take_zero, List.drop_succ_cons, List.drop_zero]
    repeat still_step
    still_call HC1.out
    repeat still_step
    refine wpStill_nil ?_
    clear na1 me1 en1
    go_wp2_with fail
    refine (ws_any n0 b _ _ _ HB1.out.drew (by have := HL1.out; have := HNM.out; simp only [SH.line, List.length_append] at *; rw [HNM.out.2, HNM.out.1]; omega)).mono ?_
    rintro e w2 ⟨rfl, hB2, hk2⟩
    rw [HNM.out.1] at hB2
    have HB2 := hid hB2
    have HK2 := hid (HK1.out.drew.trans hk2)
    have HR2 := hid (SH.rep_keep (SH.rep_below HR1.out (Below.refl _ W1).drew) HB1.out.drew hk2)
    clear hB2 hk2
    go_wp2_with fail
    refine (ws_any n0 b _ _ _ HB2.out (by have := HL1.out; show _ + 2 ≤ _; simp only [SH.line, List.length_append, List.length_cons, List.length_nil] at *; omega)).mono ?_
    rintro e w3 ⟨rfl, hB3, hk3⟩
    have HB3 := hid hB3
    have HK3 := hid (HK2.out.trans hk3)
    have HR3 := hid (SH.rep_keep HR2.out HB2.out hk3)
    clear hB3 hk3
    obtain ⟨f2, r2, en2, na2, me2, hcall⟩ := disp_vsw N n0 b _ hs[k].2 hs[k].1 w3 (HG.out.below (HKo.out.trans HK3.out).1 hN) hN HB3.out HR3.out (H8.out _ (List.getElem_mem hlt)).2 (by have := HL1.out; simp only [SH.line, List.length_append, List.length_cons, List.length_nil] at *; omega)
    have HC2 := hid hcall
    clear hcall na2
    go_wp2_with fail
    refine HC2.out.mono ?_
    rintro e w4 ⟨rfl, hB4, hk4⟩
    have HB4 := hid hB4
    have HK4 := hid (HK3.out.trans hk4)
    clear hB4 hk4 me2 en2
    go_wp2_with fail
    go_roundw
    case rel => exact ⟨k + 1, by omega, by go_num, HF.out _ (by have := HB4.out; simpa [SH.line] using this), HKo.out.trans HK4.out⟩
    case measure => simp [intOf]; omega
  ·have hke : k = hs.length := by omega
   have HKE := hid hke
   clear hke
   go_wp2_with fail
   refine (ws_any n0 b _ _ _ HBo.out (by have := HL.out; have := linesT_le hs k; show _ + 2 ≤ _; simp only [List.length_append, List.length_drop] at *; omega)).mono ?_
   rintro e w1 ⟨rfl, hB1, hk1⟩
   go_wp2_with fail
   go_end0
   refine ⟨rfl, ?_, HKo.out.trans hk1⟩
   unfold headsT
   rw [HKE.out, List.take_length] at hB1
   simpa using hB1
def BodyAt (n1 : Nat) (w : World) (v : Value) : Option Bytes → Prop
 | none => v = .slice none 0 0
 | some l => ∃ g c cs fz, v = .slice (some ⟨g, 0, none⟩) l.length c ∧ g < n1 ∧ l.length ≤ 9223372036854775807 ∧ w.heap[g]? = some (.cells cs 5 fz) ∧ ∀ i (h : i < l.length), cs[i]? = some (.int .u8 l[i].toNat)
theorem BodyAt.below {n1 : Nat} {w w' : World} {v : Value} {l : Option Bytes} (h : BodyAt n1 w v l) (hb : Below n1 w w') : BodyAt n1 w' v l := by
 cases l with
 | none => exact h
 | some l =>
  obtain ⟨g, c, cs, fz, h1, h2, h3, h4, h5⟩ := h
  exact ⟨g, c, cs, fz, h1, h2, h3, (hb.block g h2).trans h4, h5⟩
theorem BodyAt.more {n1 n2 : Nat} {w : World} {v : Value} {l : Option Bytes} (h : BodyAt n1 w v l) (hn : n1 ≤ n2) : BodyAt n2 w v l := by
 cases l with
 | none => exact h
 | some l =>
  obtain ⟨g, c, cs, fz, h1, h2, h3, h4, h5⟩ := h
  exact ⟨g, c, cs, fz, h1, by omega, h3, h4, h5⟩
structure SMsg where
 resp : Bool
 method : ByteArray
 uri : SUri
 code : Int
 reason : ByteArray
 version : ByteArray
 heads : List (Nat × SH)
 body : Option Bytes
def lineT (M : SMsg) : Bytes := if M.resp then M.version.data.toList ++ [32] ++ Lib.itoa M.code ++ [32] ++ M.reason.data.toList else M.method.data.toList ++ [32] ++ uriT M.uri ++ [32] ++ M.version.data.toList
def msgT (M : SMsg) : Bytes := lineT M ++ [13, 10] ++ headsT M.heads ++ [13, 10] ++ M.body.getD []
def MTy (M : SMsg) : TypeId := if M.resp then 101 else 106
def MCells (n1 : Nat) (w : World) (cs : Array Value) (M : SMsg) : Prop := cs[13]? = some (.string M.version) ∧ (∃ bv, cs[14]? = some bv ∧ BodyAt n1 w bv M.body) ∧
 (if M.resp then cs[18]? = some (.string M.reason) ∧ cs[19]? = some (.int .i64 M.code) else cs[18]? = some (.string M.method) ∧ UCells w (fun i => cs[19 + i]?) M.uri)
def MsgAt (n1 : Nat) (w : World) (m : Nat) (M : SMsg) : Prop := HList w m M.heads ∧ ∃ cs, w.heap[m]? = some (.cells cs (MTy M) (0, 0)) ∧ MCells n1 w cs M
structure MOk (M : SMsg) : Prop where
 uri : M.resp = false → UOk M.uri
 code : -9223372036854775808 ≤ M.code ∧ M.code ≤ 9223372036854775807
theorem mty (M : SMsg) : MTy M ≠ 5 ∧ MTy M ≠ 134 := by
 unfold MTy
 split <;> exact ⟨by decide, by decide⟩
theorem MsgAt.keep {n1 b : Nat} {bs : Bytes} {w w' : World} {m : Nat} {M : SMsg} (h : MsgAt n1 w m M) (hB : BW n1 b bs w) (hk : WK n1 b w w') : MsgAt n1 w' m M := by
 obtain ⟨h1, cs, h2, h3, ⟨bv, h4, h5⟩, h6⟩ := h
 refine ⟨h1.keep hB hk, cs, hk.blk h2 (hB.ne_blk h2 (mty M).2) (mty M).1, h3, ⟨bv, h4, h5.below hk.1⟩, ?_⟩
 revert h6
 split
 ·exact id
 ·exact fun h6 => ⟨h6.1, h6.2.keep hB hk⟩
theorem MsgAt.below {n1 : Nat} {w w' : World} {m : Nat} {M : SMsg} (h : MsgAt n1 w m M) (hn : n1 ≤ w.heap.size) (hb : Below w.heap.size w w') : MsgAt n1 w' m M := by
 obtain ⟨h1, cs, h2, h3, ⟨bv, h4, h5⟩, h6⟩ := h
 refine ⟨h1.below hb, cs, (hb.block _ (heap_lt h2)).trans h2, h3, ⟨bv, h4, h5.below (hb.mono hn)⟩, ?_⟩
 revert h6
 split
 ·exact id
 ·exact fun h6 => ⟨h6.1, h6.2.below hb⟩
theorem MsgAt.cells {n1 : Nat} {w : World} {m : Nat} {M : SMsg} (h : MsgAt n1 w m M) : w.cell? ⟨m, 13, none⟩ = some (.string M.version) ∧ ∃ bv, w.cell? ⟨m, 14, none⟩ = some bv ∧ BodyAt n1 w bv M.body := by
 obtain ⟨_, cs, h2, h3, ⟨bv, h4, h5⟩, _⟩ := h
 have hc : ∀ j, w.cell? ⟨m, j, none⟩ = cs[j]? := fun j => by simp [World.cell?, h2]
 exact ⟨(hc 13).trans h3, bv, (hc 14).trans h4, h5⟩
theorem MsgAt.req {n1 : Nat} {w : World} {m : Nat} {M : SMsg} (h : MsgAt n1 w m M) (hr : M.resp = false) : w.cell? ⟨m, 18, none⟩ = some (.string M.method) ∧ UriAt w m 19 M.uri := by
 obtain ⟨_, cs, h2, h3, _, h6⟩ := h
 rw [if_neg (by rw [hr]; simp)] at h6
 exact ⟨by simp [World.cell?, h2, h6.1], cs, _, _, h2, (mty M).1, (mty M).2, h6.2⟩
theorem MsgAt.res {n1 : Nat} {w : World} {m : Nat} {M : SMsg} (h : MsgAt n1 w m M) (hr : M.resp = true) : w.cell? ⟨m, 18, none⟩ = some (.string M.reason) ∧ w.cell? ⟨m, 19, none⟩ = some (.int .i64 M.code) := by
 obtain ⟨_, cs, h2, h3, _, h6⟩ := h
 rw [if_pos hr] at h6
 exact ⟨by simp [World.cell?, h2, h6.1], by simp [World.cell?, h2, h6.2]⟩
theorem reqline_any (N n0 b : Nat) (bs : Bytes) (m : Nat) (M : SMsg) (w : World) (hG : Gl N w) (hN : N ≤ n0) (hB : BW n0 b bs w) (hA : MsgAt n0 w m M) (hr : M.resp = false) (ho : MOk M) (hl : bs.length + (lineT M).length ≤ 70368744177664) :
  Calls Tryz.prog 80 #[.pointer (some ⟨m, 0, none⟩), bptr b] w (WrPost n0 b bs (lineT M) w) := by
 have hT : lineT M = M.method.data.toList ++ [32] ++ uriT M.uri ++ [32] ++ M.version.data.toList := by unfold lineT; rw [hr]; rfl
 rw [hT] at hl ⊢
 have HL := hid (And.intro hl (And.intro (dl M.method) (dl M.version)))
 obtain ⟨c18, _⟩ := hA.req hr
 have HO := hid (ho.uri hr)
 have HR := hid hr
 have HU0 := hid hA
 have HB0 := hid hB
 have HK0 := hid (WK.refl n0 b w)
 have HG := hid hG
 have hna := ws_nilAhead
 have hme := ws_method
 clear hl hT hA hB hG ho hr
 go_enter Tryz.func80, Tryz.ntmps80
 go_wp2_with fail
 refine stail 8 (by kernel_rfl) (by kernel_rfl) ?_
 simp only [List.take_succ_cons, List.take_zero, List.drop_succ_cons, List.drop_zero]
 repeat still_step
 refine wpStill_nil ?_
 go_wp2_with fail
 refine (ws_any n0 b _ _ _ HB0.out.drew (by have := HL.out; simp only [List.length_append, List.length_cons, List.length_nil] at *; omega)).mono ?_
 rintro e w1 ⟨rfl, hB1, hk1⟩
 have HB1 := hid hB1
 have HK1 := hid (HK0.out.drew.trans hk1)
 have HU1 := hid ((HU0.out.below (Nat.le_of_lt (Nat.lt_of_le_of_lt HB0.out.lt.1 HB0.out.lt.2)) (Below.refl _ w).drew).keep HB0.out.drew hk1)
 clear hB1 hk1 c18
 go_wp2_with fail
 refine (ws_any n0 b _ _ _ HB1.out (by have := HL.out; show _ + 1 ≤ _; simp only [List.length_append, List.length_cons, List.length_nil] at *; omega)).mono ?_
 rintro e w2 ⟨rfl, hB2, hk2⟩
 have HB2 := hid hB2
 have HK2 := hid (HK1.out.trans hk2)
 have HU2 := hid (HU1.out.keep HB1.out hk2)
 clear hB2 hk2
 have HGd := hid ((HG.out.below HK2.out.1 hN).below (Below.refl N w2).drew (Nat.le_refl _))
 have HUd := hid ((HU2.out.req HR.out).2.below (Below.refl _ w2).drew)
 have HX := hid (sz (uriT M.uri))
 go_upto_region 2 with fail
 go_cut [] (fun wx => BW n0 b (bs ++ M.method.data.toList ++ [32] ++ uriT M.uri) wx ∧ WK n0 b w wx ∧ MsgAt n0 wx m M)
 case first =>
  go_region_held3 (fun _ => True) (trivial)
   (first
    | (go_at_call 52; refine (uristr_any N m 19 M.uri _ HGd.out HUd.out HO.out ?_).mono ?_; (have := HL.out; simp only [List.length_append] at *; omega); rintro e w4 ⟨rfl, hb4⟩)
    | (go_at_call 90; refine (ws_any n0 b _ _ _ (HB2.out.drew.below hb4) ?_).mono ?_; (have := HL.out; have := HX.out; simp only [List.length_append, List.length_cons, List.length_nil] at *; omega); rintro e w5 ⟨rfl, hB5, hk5⟩))
  all_goals (go_wp2_with fail; go_meet; exact ⟨by simpa using hB5, HK2.out.drew.trans ((WK.of_below (w := w2.drew) hb4 (Nat.le_of_lt (Nat.lt_of_le_of_lt HB2.out.lt.1 HB2.out.lt.2))).trans hk5), ((HU2.out.below (Nat.le_of_lt (Nat.lt_of_le_of_lt HB2.out.lt.1 HB2.out.lt.2)) (Below.refl _ w2).drew).below (w := w2.drew) (Nat.le_of_lt (Nat.lt_of_le_of_lt HB2.out.lt.1 HB2.out.lt.2)) hb4).keep (HB2.out.drew.below hb4) hk5⟩)
 case rest =>
  obtain ⟨hB3, hK3, hU3⟩ := hcut
  obtain ⟨w3, rfl⟩ : ∃ w3 : World, w3 = wc := ⟨_, rfl⟩
  have HB3 := hid hB3
  have HK3 := hid hK3
  have HU3 := hid hU3
  clear hB3 hK3 hU3
  go_wp2_with fail
  refine (ws_any n0 b _ _ _ HB3.out (by have := HL.out; show _ + 1 ≤ _; simp only [List.length_append, List.length_cons, List.length_nil] at *; omega)).mono ?_
  rintro e w4 ⟨rfl, hB4, hk4⟩
  have HB4 := hid hB4
  have HK4 := hid (HK3.out.trans hk4)
  have HU4 := hid (HU3.out.keep HB3.out hk4)
  clear hB4 hk4
  obtain ⟨c13, _⟩ := HU4.out.cells
  go_wp2_with fail
  refine stail 9 (by kernel_rfl) (by kernel_rfl) ?_
  simp only [List.take_succ_cons, List.take_zero, List.drop_succ_cons, List.drop_zero]
  repeat still_step
  refine wpStill_nil ?_
  go_wp2_with fail
  refine (ws_any n0 b _ _ _ HB4.out.drew (by have := HL.out; simp only [List.length_append, List.length_cons, List.length_nil] at *; omega)).mono ?_
  rintro e w5 ⟨rfl, hB5, hk5⟩
  go_wp2_with fail
  go_end0
  exact ⟨rfl, by simpa using hB5, HK4.out.drew.trans hk5⟩
theorem BodyAt.conv {n1 : Nat} {w : World} {v : Value} {l : Bytes} (h : BodyAt n1 w v (some l)) : ∃ a c, v = .slice (some a) l.length c ∧ ∀ w' : World, Below n1 w w' → Sem.run Tryz.prog (convert 22 9 (.slice (some a) l.length c)) w' = .ok (.string ⟨l.toArray⟩) w' := by
 obtain ⟨g, c, cs, fz, h1, h2, h3, h4, h5⟩ := h
 refine ⟨⟨g, 0, none⟩, c, h1, fun w' hb => run_convert_bytes_back (P := Tryz.prog) w' 22 9 5 ⟨g, 0, none⟩ c l Tryz.underlying22 Tryz.underlying5 Tryz.underlying9 (fun j hj => ?_)⟩
 have hw := (hb.block g h2).trans h4
 rw [Addr.add_lit, Nat.zero_add]
 simp [World.cell?, hw, h5 j hj]
theorem resline_any (N n0 b : Nat) (bs : Bytes) (m : Nat) (M : SMsg) (w : World) (hG : Gl N w) (hN : N ≤ n0) (hB : BW n0 b bs w) (hA : MsgAt n0 w m M) (hr : M.resp = true) (ho : MOk M) (hl : bs.length + (lineT M).length ≤ 70368744177664) :
  Calls Tryz.prog 79 #[.pointer (some ⟨m, 0, none⟩), bptr b] w (WrPost n0 b bs (lineT M) w) := by
 have hT : lineT M = M.version.data.toList ++ [32] ++ Lib.itoa M.code ++ [32] ++ M.reason.data.toList := by unfold lineT; rw [hr]; rfl
 rw [hT] at hl ⊢
 have HL := hid (And.intro hl (And.intro (dl M.version) (And.intro (dl M.reason) (sz (Lib.itoa M.code)))))
 obtain ⟨c18, c19⟩ := hA.res hr
 have HR := hid hr
 have HIT := hid (itoa_any M.code ho.code.1 ho.code.2 w hG.get)
 have HB0 := hid hB
 have HU0 := hid hA
 have HLT := hid (Nat.le_of_lt (Nat.lt_of_le_of_lt hB.lt.1 hB.lt.2))
 clear hl hT hA hB hr ho hG
 have hna := ws_nilAhead
 have hme := ws_method
 go_enter Tryz.func79, Tryz.ntmps79
 go_wp2_with fail
 refine HIT.out.mono ?_
 rintro e w0 ⟨rfl, hb0⟩
 have HB1 := hid (HB0.out.below hb0)
 have HK1 := hid (WK.of_below (b := b) hb0 HLT.out)
 have HU1 := hid (HU0.out.below HLT.out hb0)
 clear hb0 c18 c19
 obtain ⟨c13, _⟩ := HU1.out.cells
 go_wp2_with fail
 refine stail 9 (by kernel_rfl) (by kernel_rfl) ?_
 simp only [List.take_succ_cons, List.take_zero, List.drop_succ_cons, List.drop_zero]
 repeat still_step
 refine wpStill_nil ?_
 go_wp2_with fail
 refine (ws_any n0 b _ _ _ HB1.out.drew (by have := HL.out; simp only [List.length_append, List.length_cons, List.length_nil] at *; omega)).mono ?_
 rintro e w2 ⟨rfl, hB2, hk2⟩
 have HB2 := hid hB2
 have HK2 := hid (HK1.out.drew.trans hk2)
 have HU2 := hid ((HU1.out.below (Nat.le_of_lt (Nat.lt_of_le_of_lt HB1.out.lt.1 HB1.out.lt.2)) (Below.refl _ _).drew).keep HB1.out.drew hk2)
 clear hB2 hk2
 clear c13
 go_wp2_with fail
 refine (ws_any n0 b _ _ _ HB2.out (by have := HL.out; show _ + 1 ≤ _; simp only [List.length_append, List.length_cons, List.length_nil] at *; omega)).mono ?_
 rintro e w3 ⟨rfl, hB3, hk3⟩
 have HB3 := hid hB3
 have HK3 := hid (HK2.out.trans hk3)
 have HU3 := hid ((HU2.out).keep HB2.out hk3)
 clear hB3 hk3
 go_wp2_with fail
 refine (ws_any n0 b _ _ _ HB3.out (by have := HL.out; simp only [List.length_append, List.length_cons, List.length_nil] at *; omega)).mono ?_
 rintro e w4 ⟨rfl, hB4, hk4⟩
 have HB4 := hid hB4
 have HK4 := hid (HK3.out.trans hk4)
 have HU4 := hid ((HU3.out).keep HB3.out hk4)
 clear hB4 hk4
 go_wp2_with fail
 refine (ws_any n0 b _ _ _ HB4.out (by have := HL.out; show _ + 1 ≤ _; simp only [List.length_append, List.length_cons, List.length_nil] at *; omega)).mono ?_
 rintro e w5 ⟨rfl, hB5, hk5⟩
 have HB5 := hid hB5
 have HK5 := hid (HK4.out.trans hk5)
 have HU5 := hid ((HU4.out).keep HB4.out hk5)
 clear hB5 hk5
 obtain ⟨c18, _⟩ := HU5.out.res HR.out
 go_wp2_with fail
 refine stail 8 (by kernel_rfl) (by kernel_rfl) ?_
 simp only [List.take_succ_cons, List.take_zero, List.drop_succ_cons, List.drop_zero]
 repeat still_step
 refine wpStill_nil ?_
 go_wp2_with fail
 refine (ws_any n0 b _ _ _ HB5.out.drew (by have := HL.out; simp only [List.length_append, List.length_cons, List.length_nil] at *; omega)).mono ?_
 rintro e w6 ⟨rfl, hB6, hk6⟩
 go_wp2_with fail
 go_end0
 exact ⟨rfl, by simpa using hB6, HK5.out.drew.trans hk6⟩
theorem msg_len (M : SMsg) (n : Nat) (h : n + (msgT M).length ≤ 70368744177664) : n + (lineT M).length + 2 + (headsT M.heads).length + 2 + (M.body.getD []).length ≤ 70368744177664 ∧ (linesT M.heads).length ≤ (headsT M.heads).length := by
 unfold msgT at h
 unfold headsT at *
 simp only [List.length_append, List.length_cons, List.length_nil, List.length_drop] at h ⊢
 omega
theorem reqsw_any (N n0 b : Nat) (bs : Bytes) (m : Nat) (M : SMsg) (w : World) (hG : Gl N w) (hN : N ≤ n0) (hB : BW n0 b bs w) (hA : MsgAt n0 w m M) (hr : M.resp = false) (ho : MOk M) (hl : bs.length + (msgT M).length ≤ 70368744177664) :
  Calls Tryz.prog 299 #[.pointer (some ⟨m, 0, none⟩), bptr b] w (WrPost n0 b bs (msgT M) w) := by
 have HL := hid (msg_len M bs.length hl)
 have HE := hid (reqline_any N n0 b bs m M w hG hN hB hA hr ho (by have := (msg_len M bs.length hl).1; omega))
 have HG := hid hG
 have HA := hid hA
 have HB0 := hid hB
 clear hG hB hA hr ho hl
 have hna := ws_nilAhead
 have hme := ws_method
 go_enter Tryz.func299, Tryz.ntmps299
 go_wp2_with fail
 refine HE.out.mono ?_
 rintro e w1 ⟨rfl, hB1, hk1⟩
 have HB1 := hid hB1
 have HK1 := hid hk1
 have HU1 := hid (HA.out.keep HB0.out hk1)
 clear hB1 hk1
 go_wp2_with fail
 refine (ws_any n0 b _ _ _ HB1.out (by have := HL.out; show _ + 2 ≤ _; simp only [List.length_append, List.length_cons, List.length_nil] at *; omega)).mono ?_
 rintro e w2 ⟨rfl, hB2, hk2⟩
 have HB2 := hid hB2
 have HK2 := hid (HK1.out.trans hk2)
 have HU2 := hid ((HU1.out).keep HB1.out hk2)
 clear hB2 hk2
 go_wp2_with fail
 refine (hsw_any N n0 b _ m M.heads _ (HG.out.below HK2.out.1 hN) hN HB2.out HU2.out.1 (by have := HL.out; simp only [List.length_append, List.length_cons, List.length_nil] at *; omega)).mono ?_
 rintro e w3 ⟨rfl, hB3, hk3⟩
 have HB3 := hid hB3
 have HK3 := hid (HK2.out.trans hk3)
 have HU3 := hid (HU2.out.keep HB2.out hk3)
 clear hB3 hk3
 go_wp2_with fail
 refine (ws_any n0 b _ _ _ HB3.out (by have := HL.out; show _ + 2 ≤ _; simp only [List.length_append, List.length_cons, List.length_nil] at *; omega)).mono ?_
 rintro e w4 ⟨rfl, hB4, hk4⟩
 have HB4 := hid hB4
 have HK4 := hid (HK3.out.trans hk4)
 have HU4 := hid ((HU3.out).keep HB3.out hk4)
 clear hB4 hk4
 obtain ⟨_, bv, c14, hbv⟩ := HU4.out.cells
 by_cases hb : M.body = none
 ·rw [hb] at hbv
  have hbv' : bv = .slice none 0 0 := hbv
  subst hbv'
  have HH := hid hb
  clear hbv hb
  go_wp2_with fail
  go_end0
  exact ⟨rfl, by have := HB4.out; unfold msgT; rw [HH.out]; simpa using this, HK4.out⟩
 ·obtain ⟨l, hb⟩ := Option.ne_none_iff_exists'.1 hb
  rw [hb] at hbv
  obtain ⟨a, c, rfl, hcv⟩ := hbv.conv
  have hcv := hcv w4.drew (Below.refl _ _).drew
  have HH := hid (And.intro hb (sz l))
  clear hbv hb
  go_wp2_with fail
  refine stail 10 (by kernel_rfl) (by kernel_rfl) ?_
  simp only [List.take_succ_cons, List.take_zero, List.drop_succ_cons, List.drop_zero]
  repeat still_step
  refine wpStill_nil ?_
  go_wp2_with fail
  refine (ws_any n0 b _ _ _ HB4.out.drew (by have := HL.out; rw [HH.out.1] at this; have := HH.out.2; simp only [Option.getD_some, List.length_append, List.length_cons, List.length_nil] at *; omega)).mono ?_
  rintro e w5 ⟨rfl, hB5, hk5⟩
  go_wp2_with fail
  go_end0
  exact ⟨rfl, by unfold msgT; rw [HH.out.1]; simpa using hB5, HK4.out.drew.trans hk5⟩
theorem ressw_any (N n0 b : Nat) (bs : Bytes) (m : Nat) (M : SMsg) (w : World) (hG : Gl N w) (hN : N ≤ n0) (hB : BW n0 b bs w) (hA : MsgAt n0 w m M) (hr : M.resp = true) (ho : MOk M) (hl : bs.length + (msgT M).length ≤ 70368744177664) :
  Calls Tryz.prog 208 #[.pointer (some ⟨m, 0, none⟩), bptr b] w (WrPost n0 b bs (msgT M) w) := by
 have HL := hid (msg_len M bs.length hl)
 have HE := hid (resline_any N n0 b bs m M w hG hN hB hA hr ho (by have := (msg_len M bs.length hl).1; omega))
 have HG := hid hG
 have HA := hid hA
 have HB0 := hid hB
 clear hG hB hA hr ho hl
 have hna := ws_nilAhead
 have hme := ws_method
 go_enter Tryz.func208, Tryz.ntmps208
 go_wp2_with fail
 refine HE.out.mono ?_
 rintro e w1 ⟨rfl, hB1, hk1⟩
 have HB1 := hid hB1
 have HK1 := hid hk1
 have HU1 := hid (HA.out.keep HB0.out hk1)
 clear hB1 hk1
 go_wp2_with fail
 refine (ws_any n0 b _ _ _ HB1.out (by have := HL.out; show _ + 2 ≤ _; simp only [List.length_append, List.length_cons, List.length_nil] at *; omega)).mono ?_
 rintro e w2 ⟨rfl, hB2, hk2⟩
 have HB2 := hid hB2
 have HK2 := hid (HK1.out.trans hk2)
 have HU2 := hid ((HU1.out).keep HB1.out hk2)
 clear hB2 hk2
 go_wp2_with fail
 refine (hsw_any N n0 b _ m M.heads _ (HG.out.below HK2.out.1 hN) hN HB2.out HU2.out.1 (by have := HL.out; simp only [List.length_append, List.length_cons, List.length_nil] at *; omega)).mono ?_
 rintro e w3 ⟨rfl, hB3, hk3⟩
 have HB3 := hid hB3
 have HK3 := hid (HK2.out.trans hk3)
 have HU3 := hid (HU2.out.keep HB2.out hk3)
 clear hB3 hk3
 go_wp2_with fail
 refine (ws_any n0 b _ _ _ HB3.out (by have := HL.out; show _ + 2 ≤ _; simp only [List.length_append, List.length_cons, List.length_nil] at *; omega)).mono ?_
 rintro e w4 ⟨rfl, hB4, hk4⟩
 have HB4 := hid hB4
 have HK4 := hid (HK3.out.trans hk4)
 have HU4 := hid ((HU3.out).keep HB3.out hk4)
 clear hB4 hk4
 obtain ⟨_, bv, c14, hbv⟩ := HU4.out.cells
 by_cases hb : M.body = none
 ·rw [hb] at hbv
  have hbv' : bv = .slice none 0 0 := hbv
  subst hbv'
  have HH := hid hb
  clear hbv hb
  go_wp2_with fail
  go_end0
  exact ⟨rfl, by have := HB4.out; unfold msgT; rw [HH.out]; simpa using this, HK4.out⟩
 ·obtain ⟨l, hb⟩ := Option.ne_none_iff_exists'.1 hb
  rw [hb] at hbv
  obtain ⟨a, c, rfl, hcv⟩ := hbv.conv
  have hcv := hcv w4.drew (Below.refl _ _).drew
  have HH := hid (And.intro hb (sz l))
  clear hbv hb
  go_wp2_with fail
  refine stail 10 (by kernel_rfl) (by kernel_rfl) ?_
  simp only [List.take_succ_cons, List.take_zero, List.drop_succ_cons, List.drop_zero]
  repeat still_step
  refine wpStill_nil ?_
  go_wp2_with fail
  refine (ws_any n0 b _ _ _ HB4.out.drew (by have := HL.out; rw [HH.out.1] at this; have := HH.out.2; simp only [Option.getD_some, List.length_append, List.length_cons, List.length_nil] at *; omega)).mono ?_
  rintro e w5 ⟨rfl, hB5, hk5⟩
  go_wp2_with fail
  go_end0
  exact ⟨rfl, by unfold msgT; rw [HH.out.1]; simpa using hB5, HK4.out.drew.trans hk5⟩
theorem reqstr_any (N m : Nat) (M : SMsg) (w : World) (hG : Gl N w) (hA : MsgAt w.heap.size w m M) (hr : M.resp = false) (ho : MOk M) (hl : (msgT M).length ≤ 70368744177664) :
  Calls Tryz.prog 298 #[.pointer (some ⟨m, 0, none⟩)] w (StrPost (msgT M) w) := by
 have hb0 : Below w.heap.size w (w.alloc (.cells #[.pointer none, .slice none 0 0] 134)) := (Below.refl _ _).alloc (Nat.le_refl _) _
 have HE := hid (reqsw_any N w.heap.size w.heap.size [] m M _ (hG.step hb0) hG.le (BW.fresh w) (hA.below (Nat.le_refl _) hb0) hr ho (by simpa using hl))
 have HB0 := hid hb0
 clear hb0 hG hA hl hr ho
 go_enter Tryz.func298, Tryz.ntmps298
 go_wp2_with fail
 refine HE.out.mono ?_
 rintro e w1 ⟨rfl, hB1, hk1⟩
 have HB1 := hid hB1
 have HK1 := hid hk1
 clear hB1 hk1
 go_wp2_with fail
 refine (bstr_any w.heap.size w.heap.size _ _ HB1.out).mono ?_
 rintro e w2 ⟨rfl, hB2, hk2⟩
 go_wp2_with fail
 go_ret
 exact ⟨rets (by simp), (HB0.out.trans HK1.out.1).trans hk2.1⟩
theorem reqfirst_any (N m : Nat) (M : SMsg) (w : World) (hG : Gl N w) (hA : MsgAt w.heap.size w m M) (hr : M.resp = false) (ho : MOk M) (hl : (lineT M).length ≤ 70368744177664) :
  Calls Tryz.prog 57 #[.pointer (some ⟨m, 0, none⟩)] w (StrPost (lineT M) w) := by
 have hb0 : Below w.heap.size w (w.alloc (.cells #[.pointer none, .slice none 0 0] 134)) := (Below.refl _ _).alloc (Nat.le_refl _) _
 have HE := hid (reqline_any N w.heap.size w.heap.size [] m M _ (hG.step hb0) hG.le (BW.fresh w) (hA.below (Nat.le_refl _) hb0) hr ho (by simpa using hl))
 have HB0 := hid hb0
 clear hb0 hG hA hl hr ho
 go_enter Tryz.func57, Tryz.ntmps57
 go_wp2_with fail
 refine HE.out.mono ?_
 rintro e w1 ⟨rfl, hB1, hk1⟩
 have HB1 := hid hB1
 have HK1 := hid hk1
 clear hB1 hk1
 go_wp2_with fail
 refine (bstr_any w.heap.size w.heap.size _ _ HB1.out).mono ?_
 rintro e w2 ⟨rfl, hB2, hk2⟩
 go_wp2_with fail
 go_ret
 exact ⟨rets (by simp), (HB0.out.trans HK1.out.1).trans hk2.1⟩
theorem resstr_any (N m : Nat) (M : SMsg) (w : World) (hG : Gl N w) (hA : MsgAt w.heap.size w m M) (hr : M.resp = true) (ho : MOk M) (hl : (msgT M).length ≤ 70368744177664) :
  Calls Tryz.prog 207 #[.pointer (some ⟨m, 0, none⟩)] w (StrPost (msgT M) w) := by
 have hb0 : Below w.heap.size w (w.alloc (.cells #[.pointer none, .slice none 0 0] 134)) := (Below.refl _ _).alloc (Nat.le_refl _) _
 have HE := hid (ressw_any N w.heap.size w.heap.size [] m M _ (hG.step hb0) hG.le (BW.fresh w) (hA.below (Nat.le_refl _) hb0) hr ho (by simpa using hl))
 have HB0 := hid hb0
 clear hb0 hG hA hl hr ho
 go_enter Tryz.func207, Tryz.ntmps207
 go_wp2_with fail
 refine HE.out.mono ?_
 rintro e w1 ⟨rfl, hB1, hk1⟩
 have HB1 := hid hB1
 have HK1 := hid hk1
 clear hB1 hk1
 go_wp2_with fail
 refine (bstr_any w.heap.size w.heap.size _ _ HB1.out).mono ?_
 rintro e w2 ⟨rfl, hB2, hk2⟩
 go_wp2_with fail
 go_ret
 exact ⟨rets (by simp), (HB0.out.trans HK1.out.1).trans hk2.1⟩
theorem resfirst_any (N m : Nat) (M : SMsg) (w : World) (hG : Gl N w) (hA : MsgAt w.heap.size w m M) (hr : M.resp = true) (ho : MOk M) (hl : (lineT M).length ≤ 70368744177664) :
  Calls Tryz.prog 56 #[.pointer (some ⟨m, 0, none⟩)] w (StrPost (lineT M) w) := by
 have hb0 : Below w.heap.size w (w.alloc (.cells #[.pointer none, .slice none 0 0] 134)) := (Below.refl _ _).alloc (Nat.le_refl _) _
 have HE := hid (resline_any N w.heap.size w.heap.size [] m M _ (hG.step hb0) hG.le (BW.fresh w) (hA.below (Nat.le_refl _) hb0) hr ho (by simpa using hl))
 have HB0 := hid hb0
 clear hb0 hG hA hl hr ho
 go_enter Tryz.func56, Tryz.ntmps56
 go_wp2_with fail
 refine HE.out.mono ?_
 rintro e w1 ⟨rfl, hB1, hk1⟩
 have HB1 := hid hB1
 have HK1 := hid hk1
 clear hB1 hk1
 go_wp2_with fail
 refine (bstr_any w.heap.size w.heap.size _ _ HB1.out).mono ?_
 rintro e w2 ⟨rfl, hB2, hk2⟩
 go_wp2_with fail
 go_ret
 exact ⟨rets (by simp), (HB0.out.trans HK1.out.1).trans hk2.1⟩
