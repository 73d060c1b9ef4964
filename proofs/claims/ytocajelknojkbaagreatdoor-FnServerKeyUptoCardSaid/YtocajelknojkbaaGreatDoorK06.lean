import Derived.Test.YtocajelknojkbaaGreatDoorK05
set_option maxRecDepth 100000
set_option maxHeartbeats 16000000
set_option linter.all false
namespace Go.Proofs.YtocajelknojkbaaGreatDoor
open Go.Lib (hid)
open Go.RowKit

theorem cseq_str (N : Nat) (g : Nat) (n : Int) (m : ByteArray) (w : World) (hG : Gl N w) (hA : HB w g 156 #[.int .u32 n, .string m]) (hn : 0 ≤ n ∧ n < 4294967296) (hl : (([67, 83, 101, 113] : Bytes) ++ [58, 32] ++ (Lib.itoa n ++ [32] ++ m.data.toList)).length ≤ 70368744177664) :
  Calls Tryz.prog 326 #[.pointer (some ⟨g, 0, none⟩)] w (StrPost (([67, 83, 101, 113] : Bytes) ++ [58, 32] ++ (Lib.itoa n ++ [32] ++ m.data.toList)) w) := by
 have HG := hid hG
 have HA := hid hA
 have hb0 : Below w.heap.size w (w.alloc (.cells #[.pointer none, .slice none 0 0] 166)) := (Below.refl _ _).alloc (Nat.le_refl _) _
 have HB0 := hid hb0
 have HL := hid hl
 have HE := hid (fun N n0 b bs g w h1 h2 h3 h4 h5 => cseq_sw N n0 b bs g n m w h1 h2 h3 h4 hn h5)
 clear hb0 hG hA hl
 go_enter Tryz.func326, Tryz.ntmps326
 go_wp2_with fail
 refine (HE.out N w.heap.size w.heap.size [] g _ (HG.out.step HB0.out) HG.out.le (BW.fresh w) (HA.out.below HB0.out) (by have := HL.out; simpa using this)).mono ?_
 rintro e w1 ⟨rfl, hB1, hk1⟩
 have HB1 := hid hB1
 have HK1 := hid hk1
 clear hB1 hk1
 go_wp2_with fail
 refine (bstr_any w.heap.size w.heap.size _ _ HB1.out).mono ?_
 rintro e w2 ⟨rfl, hB2, hk2⟩
 go_wp2_with fail
 go_ret
 exact ⟨rets (by simp), (HB0.out.trans HK1.out.1).trans hk2.1⟩
inductive SH where
 | to_ (d : ByteArray) (u : SUri) (p : KVs)
 | from_ (d : ByteArray) (u : SUri) (p : KVs)
 | refby (d : ByteArray) (u : SUri) (p : KVs)
 | contact (d : ByteArray) (u : SUri) (p : KVs)
 | via (v : SVia)
 | callid (s : ByteArray)
 | ctype (s : ByteArray)
 | maxf (n : Int)
 | expires (n : Int)
 | clen (n : Int)
 | cseq (n : Int) (m : ByteArray)
 | route (u : SUri)
 | rroute (u : SUri)
 | referto (u : SUri)
 | generic (n v : ByteArray)
def SH.ty : SH → TypeId
 | .to_ .. => 119
 | .from_ .. => 118
 | .refby .. => 196
 | .contact .. => 121
 | .via .. => 117
 | .callid .. => 120
 | .ctype .. => 124
 | .maxf .. => 127
 | .expires .. => 159
 | .clen .. => 123
 | .cseq .. => 122
 | .route .. => 125
 | .rroute .. => 126
 | .referto .. => 194
 | .generic .. => 208
def SH.v (h : SH) (g : Nat) : Value := .iface h.ty (.pointer (some ⟨g, 0, none⟩))
def SH.rep (w : World) (g : Nat) : SH → Prop
 | .to_ d u p => AddrAt 185 w g d u p
 | .from_ d u p => AddrAt 181 w g d u p
 | .refby d u p => AddrAt 197 w g d u p
 | .contact d u p => AddrAt 190 w g d u p
 | .via v => ViaAt w g v
 | .callid s => HB w g 154 #[.string s]
 | .ctype s => HB w g 161 #[.string s]
 | .maxf n => HB w g 157 #[.int .u32 n]
 | .expires n => HB w g 158 #[.int .u32 n]
 | .clen n => HB w g 160 #[.int .u32 n]
 | .cseq n m => HB w g 156 #[.int .u32 n, .string m]
 | .route u => BareAt 192 w g u
 | .rroute u => BareAt 193 w g u
 | .referto u => BareAt 195 w g u
 | .generic n v => HB w g 210 #[.string n, .string v]
def SH.ok : SH → Prop
 | .to_ d u p => UOk u ∧ KVok p
 | .from_ d u p => UOk u ∧ KVok p
 | .refby d u p => UOk u ∧ KVok p
 | .contact d u p => UOk u ∧ u.star = false ∧ KVok p
 | .via v => VOk v
 | .callid .. => True
 | .ctype .. => True
 | .maxf n => 0 ≤ n ∧ n < 4294967296
 | .expires n => 0 ≤ n ∧ n < 4294967296
 | .clen n => 0 ≤ n ∧ n < 4294967296
 | .cseq n _ => 0 ≤ n ∧ n < 4294967296
 | .route u => UOk u
 | .rroute u => UOk u
 | .referto u => UOk u
 | .generic .. => True
def SH.nm : SH → Bytes
 | .to_ .. => ([84, 111] : Bytes)
 | .from_ .. => ([70, 114, 111, 109] : Bytes)
 | .refby .. => ([82, 101, 102, 101, 114, 114, 101, 100, 45, 66, 121] : Bytes)
 | .contact .. => ([67, 111, 110, 116, 97, 99, 116] : Bytes)
 | .via .. => ([86, 105, 97] : Bytes)
 | .callid .. => ([67, 97, 108, 108, 45, 73, 68] : Bytes)
 | .ctype .. => ([67, 111, 110, 116, 101, 110, 116, 45, 84, 121, 112, 101] : Bytes)
 | .maxf .. => ([77, 97, 120, 45, 70, 111, 114, 119, 97, 114, 100, 115] : Bytes)
 | .expires .. => ([69, 120, 112, 105, 114, 101, 115] : Bytes)
 | .clen .. => ([67, 111, 110, 116, 101, 110, 116, 45, 76, 101, 110, 103, 116, 104] : Bytes)
 | .cseq .. => ([67, 83, 101, 113] : Bytes)
 | .route .. => ([82, 111, 117, 116, 101] : Bytes)
 | .rroute .. => ([82, 101, 99, 111, 114, 100, 45, 82, 111, 117, 116, 101] : Bytes)
 | .referto .. => ([82, 101, 102, 101, 114, 45, 84, 111] : Bytes)
 | .generic n _ => n.data.toList
def SH.val : SH → Bytes
 | .to_ d u p => addrT d u p
 | .from_ d u p => addrT d u p
 | .refby d u p => addrT d u p
 | .contact d u p => addrT d u p
 | .via v => viaT v
 | .callid s => s.data.toList
 | .ctype s => s.data.toList
 | .maxf n => Lib.itoa n
 | .expires n => Lib.itoa n
 | .clen n => Lib.itoa n
 | .cseq n m => Lib.itoa n ++ [32] ++ m.data.toList
 | .route u => [60] ++ uriT u ++ [62]
 | .rroute u => [60] ++ uriT u ++ [62]
 | .referto u => [60] ++ uriT u ++ [62]
 | .generic _ v => v.data.toList
def SH.line (h : SH) : Bytes := h.nm ++ [58, 32] ++ h.val
theorem to_na_Name : NA 119 "Name" := fun _ _ => by kernel_rfl
theorem to_me_Name : ME 119 "Name" 309 := fun _ _ => by kernel_rfl
theorem from_na_Name : NA 118 "Name" := fun _ _ => by kernel_rfl
theorem from_me_Name : ME 118 "Name" 301 := fun _ _ => by kernel_rfl
theorem refby_na_Name : NA 196 "Name" := fun _ _ => by kernel_rfl
theorem refby_me_Name : ME 196 "Name" 379 := fun _ _ => by kernel_rfl
theorem contact_na_Name : NA 121 "Name" := fun _ _ => by kernel_rfl
theorem contact_me_Name : ME 121 "Name" 318 := fun _ _ => by kernel_rfl
theorem via_na_Name : NA 117 "Name" := fun _ _ => by kernel_rfl
theorem via_me_Name : ME 117 "Name" 126 := fun _ _ => by kernel_rfl
theorem callid_na_Name : NA 120 "Name" := fun _ _ => by kernel_rfl
theorem callid_me_Name : ME 120 "Name" 124 := fun _ _ => by kernel_rfl
theorem ctype_na_Name : NA 124 "Name" := fun _ _ => by kernel_rfl
theorem ctype_me_Name : ME 124 "Name" 337 := fun _ _ => by kernel_rfl
theorem maxf_na_Name : NA 127 "Name" := fun _ _ => by kernel_rfl
theorem maxf_me_Name : ME 127 "Name" 358 := fun _ _ => by kernel_rfl
theorem expires_na_Name : NA 159 "Name" := fun _ _ => by kernel_rfl
theorem expires_me_Name : ME 159 "Name" 366 := fun _ _ => by kernel_rfl
theorem clen_na_Name : NA 123 "Name" := fun _ _ => by kernel_rfl
theorem clen_me_Name : ME 123 "Name" 331 := fun _ _ => by kernel_rfl
theorem cseq_na_Name : NA 122 "Name" := fun _ _ => by kernel_rfl
theorem cseq_me_Name : ME 122 "Name" 325 := fun _ _ => by kernel_rfl
theorem cseq_na_Value : NA 122 "Value" := fun _ _ => by kernel_rfl
theorem cseq_me_Value : ME 122 "Value" 328 := fun _ _ => by kernel_rfl
theorem cseq_na_String : NA 122 "String" := fun _ _ => by kernel_rfl
theorem cseq_me_String : ME 122 "String" 326 := fun _ _ => by kernel_rfl
theorem route_na_Name : NA 125 "Name" := fun _ _ => by kernel_rfl
theorem route_me_Name : ME 125 "Name" 343 := fun _ _ => by kernel_rfl
theorem rroute_na_Name : NA 126 "Name" := fun _ _ => by kernel_rfl
theorem rroute_me_Name : ME 126 "Name" 350 := fun _ _ => by kernel_rfl
theorem referto_na_Name : NA 194 "Name" := fun _ _ => by kernel_rfl
theorem referto_me_Name : ME 194 "Name" 372 := fun _ _ => by kernel_rfl
theorem generic_na_Name : NA 208 "Name" := fun _ _ => by kernel_rfl
theorem generic_me_Name : ME 208 "Name" 390 := fun _ _ => by kernel_rfl
theorem disp_name (h : SH) (g : Nat) (w : World) (hr : h.rep w g) : ∃ f r s, (∀ args w, (callFunc f args).run Tryz.prog w = .ok (.enter f args) w) ∧ (∀ w, (nilAhead 467 h.ty (.pointer (some ⟨g, 0, none⟩)) "Name").run Tryz.prog w = .ok (some false) w) ∧
  (method 467 h.ty (.pointer (some ⟨g, 0, none⟩)) "Name").run Tryz.prog w = .ok (f, r) w ∧ s.data.toList = h.nm ∧ Calls Tryz.prog f #[r] w fun e w' => e = .returned (.string s) ∧ w' = w := by
 cases h with
 | to_ d u p => exact ⟨_, _, ⟨#[84, 111]⟩, enters_of Tryz.func309 (by kernel_rfl) rfl, to_na_Name _, to_me_Name _ _, rfl, to_name _ _⟩
 | from_ d u p => exact ⟨_, _, ⟨#[70, 114, 111, 109]⟩, enters_of Tryz.func301 (by kernel_rfl) rfl, from_na_Name _, from_me_Name _ _, rfl, from_name _ _⟩
 | refby d u p => exact ⟨_, _, ⟨#[82, 101, 102, 101, 114, 114, 101, 100, 45, 66, 121]⟩, enters_of Tryz.func379 (by kernel_rfl) rfl, refby_na_Name _, refby_me_Name _ _, rfl, refby_name _ _⟩
 | contact d u p => exact ⟨_, _, ⟨#[67, 111, 110, 116, 97, 99, 116]⟩, enters_of Tryz.func318 (by kernel_rfl) rfl, contact_na_Name _, contact_me_Name _ _, rfl, contact_name _ _⟩
 | via v => exact ⟨_, _, ⟨#[86, 105, 97]⟩, enters_of Tryz.func126 (by kernel_rfl) rfl, via_na_Name _, via_me_Name _ _, rfl, via_name _ _⟩
 | callid s => exact ⟨_, _, ⟨#[67, 97, 108, 108, 45, 73, 68]⟩, enters_of Tryz.func124 (by kernel_rfl) rfl, callid_na_Name _, callid_me_Name _ _, rfl, callid_name _ _⟩
 | ctype s => exact ⟨_, _, ⟨#[67, 111, 110, 116, 101, 110, 116, 45, 84, 121, 112, 101]⟩, enters_of Tryz.func337 (by kernel_rfl) rfl, ctype_na_Name _, ctype_me_Name _ _, rfl, ctype_name _ _⟩
 | maxf n => exact ⟨_, _, ⟨#[77, 97, 120, 45, 70, 111, 114, 119, 97, 114, 100, 115]⟩, enters_of Tryz.func358 (by kernel_rfl) rfl, maxf_na_Name _, maxf_me_Name _ _, rfl, maxf_name _ _⟩
 | expires n => exact ⟨_, _, ⟨#[69, 120, 112, 105, 114, 101, 115]⟩, enters_of Tryz.func366 (by kernel_rfl) rfl, expires_na_Name _, expires_me_Name _ _, rfl, expires_name _ _⟩
 | clen n => exact ⟨_, _, ⟨#[67, 111, 110, 116, 101, 110, 116, 45, 76, 101, 110, 103, 116, 104]⟩, enters_of Tryz.func331 (by kernel_rfl) rfl, clen_na_Name _, clen_me_Name _ _, rfl, clen_name _ _⟩
 | cseq n m => exact ⟨_, _, ⟨#[67, 83, 101, 113]⟩, enters_of Tryz.func325 (by kernel_rfl) rfl, cseq_na_Name _, cseq_me_Name _ _, rfl, cseq_name _ _⟩
 | route u => exact ⟨_, _, ⟨#[82, 111, 117, 116, 101]⟩, enters_of Tryz.func343 (by kernel_rfl) rfl, route_na_Name _, route_me_Name _ _, rfl, route_name _ _⟩
 | rroute u => exact ⟨_, _, ⟨#[82, 101, 99, 111, 114, 100, 45, 82, 111, 117, 116, 101]⟩, enters_of Tryz.func350 (by kernel_rfl) rfl, rroute_na_Name _, rroute_me_Name _ _, rfl, rroute_name _ _⟩
 | referto u => exact ⟨_, _, ⟨#[82, 101, 102, 101, 114, 45, 84, 111]⟩, enters_of Tryz.func372 (by kernel_rfl) rfl, referto_na_Name _, referto_me_Name _ _, rfl, referto_name _ _⟩
 | generic n v => exact ⟨_, _, n, enters_of Tryz.func390 (by kernel_rfl) rfl, generic_na_Name _, generic_me_Name _ _, rfl, generic_name g n v w hr⟩
