import Derived.Test.YtocajelknojkbaaGreatDoorK08
import Derived.Test.YtocajelknojkbaaGreatDoorK09
set_option maxRecDepth 100000
set_option maxHeartbeats 16000000
set_option linter.all false
namespace Go.Proofs.YtocajelknojkbaaGreatDoor
open Go.Lib (hid)
open Go.RowKit
def AHPost (n0 m : Nat) (T : TypeId) (hs : List (Nat × SH)) (R : Nat → Option Nat) (X : List Value) (g : Nat) (h : SH) (w : World) (e : Ending) (w' : World) : Prop :=
 e = .returned (.tuple #[]) ∧ MRep n0 w' m T (hs ++ [(g, h)]) (addRef R h g) X ∧ MK n0 m w w'
theorem ah_to_ (n0 m g : Nat) (T : TypeId) (hs : List (Nat × SH)) (R : Nat → Option Nat) (X : List Value) (h : SH) (d : ByteArray) (u : SUri) (p : KVs) (hh : h = .to_ d u p) (w : World) (hn : n0 ≤ w.heap.size) (hM : MRep n0 w m T hs R X) (hr : h.rep w g) (hg : n0 ≤ g ∧ g < w.heap.size) (hl : hs.length < 4294967296) :
  Calls Tryz.prog 218 #[.pointer (some ⟨m, 0, none⟩), .iface 119 (.pointer (some ⟨g, 0, none⟩))] w (AHPost n0 m T hs R X g h w) := by
 have hv : h.v g = .iface 119 (.pointer (some ⟨g, 0, none⟩)) := by rw [hh]; rfl
 have hsl : h.slot = 3 := by rw [hh]; rfl
 have hfi : h.first = false := by rw [hh]; rfl
 obtain ⟨v, hm, hb, ho, hT⟩ := hM.at_
 have hne : 91 ≠ T := by rcases hT with rfl | rfl <;> decide
 have c0 : w.cell? ⟨m, 0, none⟩ = some v := blk_cell hb 0
 have HM := hid (And.intro hM hT)
 have HB := hid (And.intro hb hne)
 have HO := hid ho
 have HR := hid hr
 have HG := hid hg
 have HN := hid hn
 have HL := hid hl
 have HV := hid (And.intro hv (And.intro hsl hfi))
 clear hM hT hb hne ho hr hg hn hl hv hsl hfi hh hm
 have a0 := fun v w => ta_no (T := 119) (U := 117) (by decide) (by decide) v 91 w
 have a1 := fun v w => ta_no (T := 119) (U := 125) (by decide) (by decide) v 91 w
 have a2 := fun v w => ta_no (T := 119) (U := 126) (by decide) (by decide) v 91 w
 go_enter Tryz.func218, Tryz.ntmps218
 go_wp2_with (at_builtin; refine app_one n0 rfl _ _ 94 91 .nilIface 1 16 rfl Tryz.underlying94 hdr_info rfl (by decide) (by decide) v hs.length _ [.iface 119 (.pointer (some ⟨g, 0, none⟩))] (0, 0) rfl rfl rfl (by simp [Value.oneCell']) HO.out HN.out (by have := HL.out; omega) ?_)
 intro v1 w2 ho1 hgr
 obtain ⟨A1, k1, rfl⟩ := own_slice ho1
 have hb2 := (hgr.block m (heap_lt HB.out.1) (own_ne_block HO.out HB.out.1 HB.out.2)).trans HB.out.1
 rw [← HV.out.1] at ho1
 obtain ⟨hb3, hM3, hK3⟩ := HM.out.1.put g h HR.out HG.out HN.out HB.out.1 HO.out ho1 hgr
 have d0 : w2.cell? ⟨m, 0, none⟩ = some v := blk_cell hb2 0
 have f0 : w2.frozen? ⟨m, 0, none⟩ = false := blk_frozen hb2 0
 have hse := sethref_any m g h _ T _ hb3 (by simp [mcells])
 rw [HV.out.1] at hse
 simp only [HV.out.2.1, show ¬ ((3 : Nat) = 0) from by decide, if_false] at hse
 have HS := hid hse
 have HM3 := hid (And.intro hM3 hK3)
 clear hb3 hM3 hK3 hgr ho1 hb2 hse
 go_wp2_with (go_at_call 247; refine HS.out.mono ?_; rintro e w4 ⟨rfl, rfl⟩)
 go_end0
 obtain ⟨r1, r2⟩ := HM3.out.1.ref g h
 rw [HV.out.2.1, if_neg (by decide)] at r1 r2
 refine ⟨rfl, ?_, HM3.out.2.trans r2⟩
 unfold addRef
 rw [if_neg (by rw [HV.out.2.2]; simp)]
 exact r1
theorem ah_from_ (n0 m g : Nat) (T : TypeId) (hs : List (Nat × SH)) (R : Nat → Option Nat) (X : List Value) (h : SH) (d : ByteArray) (u : SUri) (p : KVs) (hh : h = .from_ d u p) (w : World) (hn : n0 ≤ w.heap.size) (hM : MRep n0 w m T hs R X) (hr : h.rep w g) (hg : n0 ≤ g ∧ g < w.heap.size) (hl : hs.length < 4294967296) :
  Calls Tryz.prog 218 #[.pointer (some ⟨m, 0, none⟩), .iface 118 (.pointer (some ⟨g, 0, none⟩))] w (AHPost n0 m T hs R X g h w) := by
 have hv : h.v g = .iface 118 (.pointer (some ⟨g, 0, none⟩)) := by rw [hh]; rfl
 have hsl : h.slot = 2 := by rw [hh]; rfl
 have hfi : h.first = false := by rw [hh]; rfl
 obtain ⟨v, hm, hb, ho, hT⟩ := hM.at_
 have hne : 91 ≠ T := by rcases hT with rfl | rfl <;> decide
 have c0 : w.cell? ⟨m, 0, none⟩ = some v := blk_cell hb 0
 have HM := hid (And.intro hM hT)
 have HB := hid (And.intro hb hne)
 have HO := hid ho
 have HR := hid hr
 have HG := hid hg
 have HN := hid hn
 have HL := hid hl
 have HV := hid (And.intro hv (And.intro hsl hfi))
 clear hM hT hb hne ho hr hg hn hl hv hsl hfi hh hm
 have a0 := fun v w => ta_no (T := 118) (U := 117) (by decide) (by decide) v 91 w
 have a1 := fun v w => ta_no (T := 118) (U := 125) (by decide) (by decide) v 91 w
 have a2 := fun v w => ta_no (T := 118) (U := 126) (by decide) (by decide) v 91 w
 go_enter Tryz.func218, Tryz.ntmps218
 go_wp2_with (at_builtin; refine app_one n0 rfl _ _ 94 91 .nilIface 1 16 rfl Tryz.underlying94 hdr_info rfl (by decide) (by decide) v hs.length _ [.iface 118 (.pointer (some ⟨g, 0, none⟩))] (0, 0) rfl rfl rfl (by simp [Value.oneCell']) HO.out HN.out (by have := HL.out; omega) ?_)
 intro v1 w2 ho1 hgr
 obtain ⟨A1, k1, rfl⟩ := own_slice ho1
 have hb2 := (hgr.block m (heap_lt HB.out.1) (own_ne_block HO.out HB.out.1 HB.out.2)).trans HB.out.1
 rw [← HV.out.1] at ho1
 obtain ⟨hb3, hM3, hK3⟩ := HM.out.1.put g h HR.out HG.out HN.out HB.out.1 HO.out ho1 hgr
 have d0 : w2.cell? ⟨m, 0, none⟩ = some v := blk_cell hb2 0
 have f0 : w2.frozen? ⟨m, 0, none⟩ = false := blk_frozen hb2 0
 have hse := sethref_any m g h _ T _ hb3 (by simp [mcells])
 rw [HV.out.1] at hse
 simp only [HV.out.2.1, show ¬ ((2 : Nat) = 0) from by decide, if_false] at hse
 have HS := hid hse
 have HM3 := hid (And.intro hM3 hK3)
 clear hb3 hM3 hK3 hgr ho1 hb2 hse
 go_wp2_with (go_at_call 247; refine HS.out.mono ?_; rintro e w4 ⟨rfl, rfl⟩)
 go_end0
 obtain ⟨r1, r2⟩ := HM3.out.1.ref g h
 rw [HV.out.2.1, if_neg (by decide)] at r1 r2
 refine ⟨rfl, ?_, HM3.out.2.trans r2⟩
 unfold addRef
 rw [if_neg (by rw [HV.out.2.2]; simp)]
 exact r1
theorem ah_refby (n0 m g : Nat) (T : TypeId) (hs : List (Nat × SH)) (R : Nat → Option Nat) (X : List Value) (h : SH) (d : ByteArray) (u : SUri) (p : KVs) (hh : h = .refby d u p) (w : World) (hn : n0 ≤ w.heap.size) (hM : MRep n0 w m T hs R X) (hr : h.rep w g) (hg : n0 ≤ g ∧ g < w.heap.size) (hl : hs.length < 4294967296) :
  Calls Tryz.prog 218 #[.pointer (some ⟨m, 0, none⟩), .iface 196 (.pointer (some ⟨g, 0, none⟩))] w (AHPost n0 m T hs R X g h w) := by
 have hv : h.v g = .iface 196 (.pointer (some ⟨g, 0, none⟩)) := by rw [hh]; rfl
 have hsl : h.slot = 0 := by rw [hh]; rfl
 have hfi : h.first = false := by rw [hh]; rfl
 obtain ⟨v, hm, hb, ho, hT⟩ := hM.at_
 have hne : 91 ≠ T := by rcases hT with rfl | rfl <;> decide
 have c0 : w.cell? ⟨m, 0, none⟩ = some v := blk_cell hb 0
 have HM := hid (And.intro hM hT)
 have HB := hid (And.intro hb hne)
 have HO := hid ho
 have HR := hid hr
 have HG := hid hg
 have HN := hid hn
 have HL := hid hl
 have HV := hid (And.intro hv (And.intro hsl hfi))
 clear hM hT hb hne ho hr hg hn hl hv hsl hfi hh hm
 have a0 := fun v w => ta_no (T := 196) (U := 117) (by decide) (by decide) v 91 w
 have a1 := fun v w => ta_no (T := 196) (U := 125) (by decide) (by decide) v 91 w
 have a2 := fun v w => ta_no (T := 196) (U := 126) (by decide) (by decide) v 91 w
 go_enter Tryz.func218, Tryz.ntmps218
 go_wp2_with (at_builtin; refine app_one n0 rfl _ _ 94 91 .nilIface 1 16 rfl Tryz.underlying94 hdr_info rfl (by decide) (by decide) v hs.length _ [.iface 196 (.pointer (some ⟨g, 0, none⟩))] (0, 0) rfl rfl rfl (by simp [Value.oneCell']) HO.out HN.out (by have := HL.out; omega) ?_)
 intro v1 w2 ho1 hgr
 obtain ⟨A1, k1, rfl⟩ := own_slice ho1
 have hb2 := (hgr.block m (heap_lt HB.out.1) (own_ne_block HO.out HB.out.1 HB.out.2)).trans HB.out.1
 rw [← HV.out.1] at ho1
 obtain ⟨hb3, hM3, hK3⟩ := HM.out.1.put g h HR.out HG.out HN.out HB.out.1 HO.out ho1 hgr
 have d0 : w2.cell? ⟨m, 0, none⟩ = some v := blk_cell hb2 0
 have f0 : w2.frozen? ⟨m, 0, none⟩ = false := blk_frozen hb2 0
 have hse := sethref_any m g h _ T _ hb3 (by simp [mcells])
 rw [HV.out.1] at hse
 simp only [HV.out.2.1, if_true] at hse
 have HS := hid hse
 have HM3 := hid (And.intro hM3 hK3)
 clear hb3 hM3 hK3 hgr ho1 hb2 hse
 go_wp2_with (go_at_call 247; refine HS.out.mono ?_; rintro e w4 ⟨rfl, rfl⟩)
 go_end0
 obtain ⟨r1, r2⟩ := HM3.out.1.ref g h
 rw [HV.out.2.1, if_pos rfl] at r1 r2
 refine ⟨rfl, ?_, HM3.out.2.trans r2⟩
 unfold addRef
 rw [if_neg (by rw [HV.out.2.2]; simp)]
 exact r1
theorem ah_contact (n0 m g : Nat) (T : TypeId) (hs : List (Nat × SH)) (R : Nat → Option Nat) (X : List Value) (h : SH) (d : ByteArray) (u : SUri) (p : KVs) (hh : h = .contact d u p) (w : World) (hn : n0 ≤ w.heap.size) (hM : MRep n0 w m T hs R X) (hr : h.rep w g) (hg : n0 ≤ g ∧ g < w.heap.size) (hl : hs.length < 4294967296) :
  Calls Tryz.prog 218 #[.pointer (some ⟨m, 0, none⟩), .iface 121 (.pointer (some ⟨g, 0, none⟩))] w (AHPost n0 m T hs R X g h w) := by
 have hv : h.v g = .iface 121 (.pointer (some ⟨g, 0, none⟩)) := by rw [hh]; rfl
 have hsl : h.slot = 5 := by rw [hh]; rfl
 have hfi : h.first = false := by rw [hh]; rfl
 obtain ⟨v, hm, hb, ho, hT⟩ := hM.at_
 have hne : 91 ≠ T := by rcases hT with rfl | rfl <;> decide
 have c0 : w.cell? ⟨m, 0, none⟩ = some v := blk_cell hb 0
 have HM := hid (And.intro hM hT)
 have HB := hid (And.intro hb hne)
 have HO := hid ho
 have HR := hid hr
 have HG := hid hg
 have HN := hid hn
 have HL := hid hl
 have HV := hid (And.intro hv (And.intro hsl hfi))
 clear hM hT hb hne ho hr hg hn hl hv hsl hfi hh hm
 have a0 := fun v w => ta_no (T := 121) (U := 117) (by decide) (by decide) v 91 w
 have a1 := fun v w => ta_no (T := 121) (U := 125) (by decide) (by decide) v 91 w
 have a2 := fun v w => ta_no (T := 121) (U := 126) (by decide) (by decide) v 91 w
 go_enter Tryz.func218, Tryz.ntmps218
 go_wp2_with (at_builtin; refine app_one n0 rfl _ _ 94 91 .nilIface 1 16 rfl Tryz.underlying94 hdr_info rfl (by decide) (by decide) v hs.length _ [.iface 121 (.pointer (some ⟨g, 0, none⟩))] (0, 0) rfl rfl rfl (by simp [Value.oneCell']) HO.out HN.out (by have := HL.out; omega) ?_)
 intro v1 w2 ho1 hgr
 obtain ⟨A1, k1, rfl⟩ := own_slice ho1
 have hb2 := (hgr.block m (heap_lt HB.out.1) (own_ne_block HO.out HB.out.1 HB.out.2)).trans HB.out.1
 rw [← HV.out.1] at ho1
 obtain ⟨hb3, hM3, hK3⟩ := HM.out.1.put g h HR.out HG.out HN.out HB.out.1 HO.out ho1 hgr
 have d0 : w2.cell? ⟨m, 0, none⟩ = some v := blk_cell hb2 0
 have f0 : w2.frozen? ⟨m, 0, none⟩ = false := blk_frozen hb2 0
 have hse := sethref_any m g h _ T _ hb3 (by simp [mcells])
 rw [HV.out.1] at hse
 simp only [HV.out.2.1, show ¬ ((5 : Nat) = 0) from by decide, if_false] at hse
 have HS := hid hse
 have HM3 := hid (And.intro hM3 hK3)
 clear hb3 hM3 hK3 hgr ho1 hb2 hse
 go_wp2_with (go_at_call 247; refine HS.out.mono ?_; rintro e w4 ⟨rfl, rfl⟩)
 go_end0
 obtain ⟨r1, r2⟩ := HM3.out.1.ref g h
 rw [HV.out.2.1, if_neg (by decide)] at r1 r2
 refine ⟨rfl, ?_, HM3.out.2.trans r2⟩
 unfold addRef
 rw [if_neg (by rw [HV.out.2.2]; simp)]
 exact r1
theorem ah_via (n0 m g : Nat) (T : TypeId) (hs : List (Nat × SH)) (R : Nat → Option Nat) (X : List Value) (h : SH) (x : SVia) (hh : h = .via x) (w : World) (hn : n0 ≤ w.heap.size) (hM : MRep n0 w m T hs R X) (hr : h.rep w g) (hg : n0 ≤ g ∧ g < w.heap.size) (hl : hs.length < 4294967296) :
  Calls Tryz.prog 218 #[.pointer (some ⟨m, 0, none⟩), .iface 117 (.pointer (some ⟨g, 0, none⟩))] w (AHPost n0 m T hs R X g h w) := by
 have hv : h.v g = .iface 117 (.pointer (some ⟨g, 0, none⟩)) := by rw [hh]; rfl
 have hsl : h.slot = 1 := by rw [hh]; rfl
 have hfi : h.first = true := by rw [hh]; rfl
 obtain ⟨v, hm, hb, ho, hT⟩ := hM.at_
 have hne : 91 ≠ T := by rcases hT with rfl | rfl <;> decide
 have c0 : w.cell? ⟨m, 0, none⟩ = some v := blk_cell hb 0
 have HM := hid (And.intro hM hT)
 have HB := hid (And.intro hb hne)
 have HO := hid ho
 have HR := hid hr
 have HG := hid hg
 have HN := hid hn
 have HL := hid hl
 have HV := hid (And.intro hv (And.intro hsl hfi))
 clear hM hT hb hne ho hr hg hn hl hv hsl hfi hh hm
 have a0 := fun v w => ta_yes (U := 117) (by decide) v 91 w
 have a1 := fun v w => ta_no (T := 117) (U := 125) (by decide) (by decide) v 91 w
 have a2 := fun v w => ta_no (T := 117) (U := 126) (by decide) (by decide) v 91 w
 go_enter Tryz.func218, Tryz.ntmps218
 go_wp2_with (at_builtin; refine app_one n0 rfl _ _ 94 91 .nilIface 1 16 rfl Tryz.underlying94 hdr_info rfl (by decide) (by decide) v hs.length _ [.iface 117 (.pointer (some ⟨g, 0, none⟩))] (0, 0) rfl rfl rfl (by simp [Value.oneCell']) HO.out HN.out (by have := HL.out; omega) ?_)
 intro v1 w2 ho1 hgr
 obtain ⟨A1, k1, rfl⟩ := own_slice ho1
 have hb2 := (hgr.block m (heap_lt HB.out.1) (own_ne_block HO.out HB.out.1 HB.out.2)).trans HB.out.1
 rw [← HV.out.1] at ho1
 obtain ⟨hb3, hM3, hK3⟩ := HM.out.1.put g h HR.out HG.out HN.out HB.out.1 HO.out ho1 hgr
 have d0 : w2.cell? ⟨m, 0, none⟩ = some v := blk_cell hb2 0
 have f0 : w2.frozen? ⟨m, 0, none⟩ = false := blk_frozen hb2 0
 have d1 : w2.cell? ⟨m, 1, none⟩ = some (refV (R 1)) := blk_cell hb2 1
 have f1 : w2.frozen? ⟨m, 1, none⟩ = false := blk_frozen hb2 1
 have HB3 := hid hb3
 have HM3 := hid (And.intro hM3 hK3)
 clear hb3 hM3 hK3 hgr ho1 hb2
 obtain ⟨r, hr⟩ : ∃ r, r = R 1 := ⟨_, rfl⟩
 rw [← hr] at d1
 have HRJ := hid hr
 clear hr
 cases r with
 | none =>
  simp only [refV, Option.map_none] at d1
  go_wp2
  go_end0
  obtain ⟨r1, r2⟩ := HM3.out.1.ref g h
  rw [HV.out.2.1, if_neg (by decide)] at r1 r2
  refine ⟨rfl, ?_, HM3.out.2.trans r2⟩
  unfold addRef
  rw [if_neg (by rw [HV.out.2.1, ← HRJ.out]; simp)]
  exact r1
 | some q =>
  simp only [refV, Option.map_some] at d1
  go_wp2
  go_end0
  refine ⟨rfl, ?_, HM3.out.2⟩
  unfold addRef
  rw [if_pos ⟨HV.out.2.2, by rw [HV.out.2.1, ← HRJ.out]; simp⟩]
  exact HM3.out.1
theorem ah_callid (n0 m g : Nat) (T : TypeId) (hs : List (Nat × SH)) (R : Nat → Option Nat) (X : List Value) (h : SH) (s : ByteArray) (hh : h = .callid s) (w : World) (hn : n0 ≤ w.heap.size) (hM : MRep n0 w m T hs R X) (hr : h.rep w g) (hg : n0 ≤ g ∧ g < w.heap.size) (hl : hs.length < 4294967296) :
  Calls Tryz.prog 218 #[.pointer (some ⟨m, 0, none⟩), .iface 120 (.pointer (some ⟨g, 0, none⟩))] w (AHPost n0 m T hs R X g h w) := by
 have hv : h.v g = .iface 120 (.pointer (some ⟨g, 0, none⟩)) := by rw [hh]; rfl
 have hsl : h.slot = 4 := by rw [hh]; rfl
 have hfi : h.first = false := by rw [hh]; rfl
 obtain ⟨v, hm, hb, ho, hT⟩ := hM.at_
 have hne : 91 ≠ T := by rcases hT with rfl | rfl <;> decide
 have c0 : w.cell? ⟨m, 0, none⟩ = some v := blk_cell hb 0
 have HM := hid (And.intro hM hT)
 have HB := hid (And.intro hb hne)
 have HO := hid ho
 have HR := hid hr
 have HG := hid hg
 have HN := hid hn
 have HL := hid hl
 have HV := hid (And.intro hv (And.intro hsl hfi))
 clear hM hT hb hne ho hr hg hn hl hv hsl hfi hh hm
 have a0 := fun v w => ta_no (T := 120) (U := 117) (by decide) (by decide) v 91 w
 have a1 := fun v w => ta_no (T := 120) (U := 125) (by decide) (by decide) v 91 w
 have a2 := fun v w => ta_no (T := 120) (U := 126) (by decide) (by decide) v 91 w
 go_enter Tryz.func218, Tryz.ntmps218
 go_wp2_with (at_builtin; refine app_one n0 rfl _ _ 94 91 .nilIface 1 16 rfl Tryz.underlying94 hdr_info rfl (by decide) (by decide) v hs.length _ [.iface 120 (.pointer (some ⟨g, 0, none⟩))] (0, 0) rfl rfl rfl (by simp [Value.oneCell']) HO.out HN.out (by have := HL.out; omega) ?_)
 intro v1 w2 ho1 hgr
 obtain ⟨A1, k1, rfl⟩ := own_slice ho1
 have hb2 := (hgr.block m (heap_lt HB.out.1) (own_ne_block HO.out HB.out.1 HB.out.2)).trans HB.out.1
 rw [← HV.out.1] at ho1
 obtain ⟨hb3, hM3, hK3⟩ := HM.out.1.put g h HR.out HG.out HN.out HB.out.1 HO.out ho1 hgr
 have d0 : w2.cell? ⟨m, 0, none⟩ = some v := blk_cell hb2 0
 have f0 : w2.frozen? ⟨m, 0, none⟩ = false := blk_frozen hb2 0
 have hse := sethref_any m g h _ T _ hb3 (by simp [mcells])
 rw [HV.out.1] at hse
 simp only [HV.out.2.1, show ¬ ((4 : Nat) = 0) from by decide, if_false] at hse
 have HS := hid hse
 have HM3 := hid (And.intro hM3 hK3)
 clear hb3 hM3 hK3 hgr ho1 hb2 hse
 go_wp2_with (go_at_call 247; refine HS.out.mono ?_; rintro e w4 ⟨rfl, rfl⟩)
 go_end0
 obtain ⟨r1, r2⟩ := HM3.out.1.ref g h
 rw [HV.out.2.1, if_neg (by decide)] at r1 r2
 refine ⟨rfl, ?_, HM3.out.2.trans r2⟩
 unfold addRef
 rw [if_neg (by rw [HV.out.2.2]; simp)]
 exact r1
theorem ah_ctype (n0 m g : Nat) (T : TypeId) (hs : List (Nat × SH)) (R : Nat → Option Nat) (X : List Value) (h : SH) (s : ByteArray) (hh : h = .ctype s) (w : World) (hn : n0 ≤ w.heap.size) (hM : MRep n0 w m T hs R X) (hr : h.rep w g) (hg : n0 ≤ g ∧ g < w.heap.size) (hl : hs.length < 4294967296) :
  Calls Tryz.prog 218 #[.pointer (some ⟨m, 0, none⟩), .iface 124 (.pointer (some ⟨g, 0, none⟩))] w (AHPost n0 m T hs R X g h w) := by
 have hv : h.v g = .iface 124 (.pointer (some ⟨g, 0, none⟩)) := by rw [hh]; rfl
 have hsl : h.slot = 8 := by rw [hh]; rfl
 have hfi : h.first = false := by rw [hh]; rfl
 obtain ⟨v, hm, hb, ho, hT⟩ := hM.at_
 have hne : 91 ≠ T := by rcases hT with rfl | rfl <;> decide
 have c0 : w.cell? ⟨m, 0, none⟩ = some v := blk_cell hb 0
 have HM := hid (And.intro hM hT)
 have HB := hid (And.intro hb hne)
 have HO := hid ho
 have HR := hid hr
 have HG := hid hg
 have HN := hid hn
 have HL := hid hl
 have HV := hid (And.intro hv (And.intro hsl hfi))
 clear hM hT hb hne ho hr hg hn hl hv hsl hfi hh hm
 have a0 := fun v w => ta_no (T := 124) (U := 117) (by decide) (by decide) v 91 w
 have a1 := fun v w => ta_no (T := 124) (U := 125) (by decide) (by decide) v 91 w
 have a2 := fun v w => ta_no (T := 124) (U := 126) (by decide) (by decide) v 91 w
 go_enter Tryz.func218, Tryz.ntmps218
 go_wp2_with (at_builtin; refine app_one n0 rfl _ _ 94 91 .nilIface 1 16 rfl Tryz.underlying94 hdr_info rfl (by decide) (by decide) v hs.length _ [.iface 124 (.pointer (some ⟨g, 0, none⟩))] (0, 0) rfl rfl rfl (by simp [Value.oneCell']) HO.out HN.out (by have := HL.out; omega) ?_)
 intro v1 w2 ho1 hgr
 obtain ⟨A1, k1, rfl⟩ := own_slice ho1
 have hb2 := (hgr.block m (heap_lt HB.out.1) (own_ne_block HO.out HB.out.1 HB.out.2)).trans HB.out.1
 rw [← HV.out.1] at ho1
 obtain ⟨hb3, hM3, hK3⟩ := HM.out.1.put g h HR.out HG.out HN.out HB.out.1 HO.out ho1 hgr
 have d0 : w2.cell? ⟨m, 0, none⟩ = some v := blk_cell hb2 0
 have f0 : w2.frozen? ⟨m, 0, none⟩ = false := blk_frozen hb2 0
 have hse := sethref_any m g h _ T _ hb3 (by simp [mcells])
 rw [HV.out.1] at hse
 simp only [HV.out.2.1, show ¬ ((8 : Nat) = 0) from by decide, if_false] at hse
 have HS := hid hse
 have HM3 := hid (And.intro hM3 hK3)
 clear hb3 hM3 hK3 hgr ho1 hb2 hse
 go_wp2_with (go_at_call 247; refine HS.out.mono ?_; rintro e w4 ⟨rfl, rfl⟩)
 go_end0
 obtain ⟨r1, r2⟩ := HM3.out.1.ref g h
 rw [HV.out.2.1, if_neg (by decide)] at r1 r2
 refine ⟨rfl, ?_, HM3.out.2.trans r2⟩
 unfold addRef
 rw [if_neg (by rw [HV.out.2.2]; simp)]
 exact r1
theorem ah_maxf (n0 m g : Nat) (T : TypeId) (hs : List (Nat × SH)) (R : Nat → Option Nat) (X : List Value) (h : SH) (n : Int) (hh : h = .maxf n) (w : World) (hn : n0 ≤ w.heap.size) (hM : MRep n0 w m T hs R X) (hr : h.rep w g) (hg : n0 ≤ g ∧ g < w.heap.size) (hl : hs.length < 4294967296) :
  Calls Tryz.prog 218 #[.pointer (some ⟨m, 0, none⟩), .iface 127 (.pointer (some ⟨g, 0, none⟩))] w (AHPost n0 m T hs R X g h w) := by
 have hv : h.v g = .iface 127 (.pointer (some ⟨g, 0, none⟩)) := by rw [hh]; rfl
 have hsl : h.slot = 11 := by rw [hh]; rfl
 have hfi : h.first = false := by rw [hh]; rfl
 obtain ⟨v, hm, hb, ho, hT⟩ := hM.at_
 have hne : 91 ≠ T := by rcases hT with rfl | rfl <;> decide
 have c0 : w.cell? ⟨m, 0, none⟩ = some v := blk_cell hb 0
 have HM := hid (And.intro hM hT)
 have HB := hid (And.intro hb hne)
 have HO := hid ho
 have HR := hid hr
 have HG := hid hg
 have HN := hid hn
 have HL := hid hl
 have HV := hid (And.intro hv (And.intro hsl hfi))
 clear hM hT hb hne ho hr hg hn hl hv hsl hfi hh hm
 have a0 := fun v w => ta_no (T := 127) (U := 117) (by decide) (by decide) v 91 w
 have a1 := fun v w => ta_no (T := 127) (U := 125) (by decide) (by decide) v 91 w
 have a2 := fun v w => ta_no (T := 127) (U := 126) (by decide) (by decide) v 91 w
 go_enter Tryz.func218, Tryz.ntmps218
 go_wp2_with (at_builtin; refine app_one n0 rfl _ _ 94 91 .nilIface 1 16 rfl Tryz.underlying94 hdr_info rfl (by decide) (by decide) v hs.length _ [.iface 127 (.pointer (some ⟨g, 0, none⟩))] (0, 0) rfl rfl rfl (by simp [Value.oneCell']) HO.out HN.out (by have := HL.out; omega) ?_)
 intro v1 w2 ho1 hgr
 obtain ⟨A1, k1, rfl⟩ := own_slice ho1
 have hb2 := (hgr.block m (heap_lt HB.out.1) (own_ne_block HO.out HB.out.1 HB.out.2)).trans HB.out.1
 rw [← HV.out.1] at ho1
 obtain ⟨hb3, hM3, hK3⟩ := HM.out.1.put g h HR.out HG.out HN.out HB.out.1 HO.out ho1 hgr
 have d0 : w2.cell? ⟨m, 0, none⟩ = some v := blk_cell hb2 0
 have f0 : w2.frozen? ⟨m, 0, none⟩ = false := blk_frozen hb2 0
 have hse := sethref_any m g h _ T _ hb3 (by simp [mcells])
 rw [HV.out.1] at hse
 simp only [HV.out.2.1, show ¬ ((11 : Nat) = 0) from by decide, if_false] at hse
 have HS := hid hse
 have HM3 := hid (And.intro hM3 hK3)
 clear hb3 hM3 hK3 hgr ho1 hb2 hse
 go_wp2_with (go_at_call 247; refine HS.out.mono ?_; rintro e w4 ⟨rfl, rfl⟩)
 go_end0
 obtain ⟨r1, r2⟩ := HM3.out.1.ref g h
 rw [HV.out.2.1, if_neg (by decide)] at r1 r2
 refine ⟨rfl, ?_, HM3.out.2.trans r2⟩
 unfold addRef
 rw [if_neg (by rw [HV.out.2.2]; simp)]
 exact r1
theorem ah_expires (n0 m g : Nat) (T : TypeId) (hs : List (Nat × SH)) (R : Nat → Option Nat) (X : List Value) (h : SH) (n : Int) (hh : h = .expires n) (w : World) (hn : n0 ≤ w.heap.size) (hM : MRep n0 w m T hs R X) (hr : h.rep w g) (hg : n0 ≤ g ∧ g < w.heap.size) (hl : hs.length < 4294967296) :
  Calls Tryz.prog 218 #[.pointer (some ⟨m, 0, none⟩), .iface 159 (.pointer (some ⟨g, 0, none⟩))] w (AHPost n0 m T hs R X g h w) := by
 have hv : h.v g = .iface 159 (.pointer (some ⟨g, 0, none⟩)) := by rw [hh]; rfl
 have hsl : h.slot = 0 := by rw [hh]; rfl
 have hfi : h.first = false := by rw [hh]; rfl
 obtain ⟨v, hm, hb, ho, hT⟩ := hM.at_
 have hne : 91 ≠ T := by rcases hT with rfl | rfl <;> decide
 have c0 : w.cell? ⟨m, 0, none⟩ = some v := blk_cell hb 0
 have HM := hid (And.intro hM hT)
 have HB := hid (And.intro hb hne)
 have HO := hid ho
 have HR := hid hr
 have HG := hid hg
 have HN := hid hn
 have HL := hid hl
 have HV := hid (And.intro hv (And.intro hsl hfi))
 clear hM hT hb hne ho hr hg hn hl hv hsl hfi hh hm
 have a0 := fun v w => ta_no (T := 159) (U := 117) (by decide) (by decide) v 91 w
 have a1 := fun v w => ta_no (T := 159) (U := 125) (by decide) (by decide) v 91 w
 have a2 := fun v w => ta_no (T := 159) (U := 126) (by decide) (by decide) v 91 w
 go_enter Tryz.func218, Tryz.ntmps218
 go_wp2_with (at_builtin; refine app_one n0 rfl _ _ 94 91 .nilIface 1 16 rfl Tryz.underlying94 hdr_info rfl (by decide) (by decide) v hs.length _ [.iface 159 (.pointer (some ⟨g, 0, none⟩))] (0, 0) rfl rfl rfl (by simp [Value.oneCell']) HO.out HN.out (by have := HL.out; omega) ?_)
 intro v1 w2 ho1 hgr
 obtain ⟨A1, k1, rfl⟩ := own_slice ho1
 have hb2 := (hgr.block m (heap_lt HB.out.1) (own_ne_block HO.out HB.out.1 HB.out.2)).trans HB.out.1
 rw [← HV.out.1] at ho1
 obtain ⟨hb3, hM3, hK3⟩ := HM.out.1.put g h HR.out HG.out HN.out HB.out.1 HO.out ho1 hgr
 have d0 : w2.cell? ⟨m, 0, none⟩ = some v := blk_cell hb2 0
 have f0 : w2.frozen? ⟨m, 0, none⟩ = false := blk_frozen hb2 0
 have hse := sethref_any m g h _ T _ hb3 (by simp [mcells])
 rw [HV.out.1] at hse
 simp only [HV.out.2.1, if_true] at hse
 have HS := hid hse
 have HM3 := hid (And.intro hM3 hK3)
 clear hb3 hM3 hK3 hgr ho1 hb2 hse
 go_wp2_with (go_at_call 247; refine HS.out.mono ?_; rintro e w4 ⟨rfl, rfl⟩)
 go_end0
 obtain ⟨r1, r2⟩ := HM3.out.1.ref g h
 rw [HV.out.2.1, if_pos rfl] at r1 r2
 refine ⟨rfl, ?_, HM3.out.2.trans r2⟩
 unfold addRef
 rw [if_neg (by rw [HV.out.2.2]; simp)]
 exact r1
theorem ah_clen (n0 m g : Nat) (T : TypeId) (hs : List (Nat × SH)) (R : Nat → Option Nat) (X : List Value) (h : SH) (n : Int) (hh : h = .clen n) (w : World) (hn : n0 ≤ w.heap.size) (hM : MRep n0 w m T hs R X) (hr : h.rep w g) (hg : n0 ≤ g ∧ g < w.heap.size) (hl : hs.length < 4294967296) :
  Calls Tryz.prog 218 #[.pointer (some ⟨m, 0, none⟩), .iface 123 (.pointer (some ⟨g, 0, none⟩))] w (AHPost n0 m T hs R X g h w) := by
 have hv : h.v g = .iface 123 (.pointer (some ⟨g, 0, none⟩)) := by rw [hh]; rfl
 have hsl : h.slot = 7 := by rw [hh]; rfl
 have hfi : h.first = false := by rw [hh]; rfl
 obtain ⟨v, hm, hb, ho, hT⟩ := hM.at_
 have hne : 91 ≠ T := by rcases hT with rfl | rfl <;> decide
 have c0 : w.cell? ⟨m, 0, none⟩ = some v := blk_cell hb 0
 have HM := hid (And.intro hM hT)
 have HB := hid (And.intro hb hne)
 have HO := hid ho
 have HR := hid hr
 have HG := hid hg
 have HN := hid hn
 have HL := hid hl
 have HV := hid (And.intro hv (And.intro hsl hfi))
 clear hM hT hb hne ho hr hg hn hl hv hsl hfi hh hm
 have a0 := fun v w => ta_no (T := 123) (U := 117) (by decide) (by decide) v 91 w
 have a1 := fun v w => ta_no (T := 123) (U := 125) (by decide) (by decide) v 91 w
 have a2 := fun v w => ta_no (T := 123) (U := 126) (by decide) (by decide) v 91 w
 go_enter Tryz.func218, Tryz.ntmps218
 go_wp2_with (at_builtin; refine app_one n0 rfl _ _ 94 91 .nilIface 1 16 rfl Tryz.underlying94 hdr_info rfl (by decide) (by decide) v hs.length _ [.iface 123 (.pointer (some ⟨g, 0, none⟩))] (0, 0) rfl rfl rfl (by simp [Value.oneCell']) HO.out HN.out (by have := HL.out; omega) ?_)
 intro v1 w2 ho1 hgr
 obtain ⟨A1, k1, rfl⟩ := own_slice ho1
 have hb2 := (hgr.block m (heap_lt HB.out.1) (own_ne_block HO.out HB.out.1 HB.out.2)).trans HB.out.1
 rw [← HV.out.1] at ho1
 obtain ⟨hb3, hM3, hK3⟩ := HM.out.1.put g h HR.out HG.out HN.out HB.out.1 HO.out ho1 hgr
 have d0 : w2.cell? ⟨m, 0, none⟩ = some v := blk_cell hb2 0
 have f0 : w2.frozen? ⟨m, 0, none⟩ = false := blk_frozen hb2 0
 have hse := sethref_any m g h _ T _ hb3 (by simp [mcells])
 rw [HV.out.1] at hse
 simp only [HV.out.2.1, show ¬ ((7 : Nat) = 0) from by decide, if_false] at hse
 have HS := hid hse
 have HM3 := hid (And.intro hM3 hK3)
 clear hb3 hM3 hK3 hgr ho1 hb2 hse
 go_wp2_with (go_at_call 247; refine HS.out.mono ?_; rintro e w4 ⟨rfl, rfl⟩)
 go_end0
 obtain ⟨r1, r2⟩ := HM3.out.1.ref g h
 rw [HV.out.2.1, if_neg (by decide)] at r1 r2
 refine ⟨rfl, ?_, HM3.out.2.trans r2⟩
 unfold addRef
 rw [if_neg (by rw [HV.out.2.2]; simp)]
 exact r1
theorem ah_cseq (n0 m g : Nat) (T : TypeId) (hs : List (Nat × SH)) (R : Nat → Option Nat) (X : List Value) (h : SH) (n : Int) (s : ByteArray) (hh : h = .cseq n s) (w : World) (hn : n0 ≤ w.heap.size) (hM : MRep n0 w m T hs R X) (hr : h.rep w g) (hg : n0 ≤ g ∧ g < w.heap.size) (hl : hs.length < 4294967296) :
  Calls Tryz.prog 218 #[.pointer (some ⟨m, 0, none⟩), .iface 122 (.pointer (some ⟨g, 0, none⟩))] w (AHPost n0 m T hs R X g h w) := by
 have hv : h.v g = .iface 122 (.pointer (some ⟨g, 0, none⟩)) := by rw [hh]; rfl
 have hsl : h.slot = 6 := by rw [hh]; rfl
 have hfi : h.first = false := by rw [hh]; rfl
 obtain ⟨v, hm, hb, ho, hT⟩ := hM.at_
 have hne : 91 ≠ T := by rcases hT with rfl | rfl <;> decide
 have c0 : w.cell? ⟨m, 0, none⟩ = some v := blk_cell hb 0
 have HM := hid (And.intro hM hT)
 have HB := hid (And.intro hb hne)
 have HO := hid ho
 have HR := hid hr
 have HG := hid hg
 have HN := hid hn
 have HL := hid hl
 have HV := hid (And.intro hv (And.intro hsl hfi))
 clear hM hT hb hne ho hr hg hn hl hv hsl hfi hh hm
 have a0 := fun v w => ta_no (T := 122) (U := 117) (by decide) (by decide) v 91 w
 have a1 := fun v w => ta_no (T := 122) (U := 125) (by decide) (by decide) v 91 w
 have a2 := fun v w => ta_no (T := 122) (U := 126) (by decide) (by decide) v 91 w
 go_enter Tryz.func218, Tryz.ntmps218
 go_wp2_with (at_builtin; refine app_one n0 rfl _ _ 94 91 .nilIface 1 16 rfl Tryz.underlying94 hdr_info rfl (by decide) (by decide) v hs.length _ [.iface 122 (.pointer (some ⟨g, 0, none⟩))] (0, 0) rfl rfl rfl (by simp [Value.oneCell']) HO.out HN.out (by have := HL.out; omega) ?_)
 intro v1 w2 ho1 hgr
 obtain ⟨A1, k1, rfl⟩ := own_slice ho1
 have hb2 := (hgr.block m (heap_lt HB.out.1) (own_ne_block HO.out HB.out.1 HB.out.2)).trans HB.out.1
 rw [← HV.out.1] at ho1
 obtain ⟨hb3, hM3, hK3⟩ := HM.out.1.put g h HR.out HG.out HN.out HB.out.1 HO.out ho1 hgr
 have d0 : w2.cell? ⟨m, 0, none⟩ = some v := blk_cell hb2 0
 have f0 : w2.frozen? ⟨m, 0, none⟩ = false := blk_frozen hb2 0
 have hse := sethref_any m g h _ T _ hb3 (by simp [mcells])
 rw [HV.out.1] at hse
 simp only [HV.out.2.1, show ¬ ((6 : Nat) = 0) from by decide, if_false] at hse
 have HS := hid hse
 have HM3 := hid (And.intro hM3 hK3)
 clear hb3 hM3 hK3 hgr ho1 hb2 hse
 go_wp2_with (go_at_call 247; refine HS.out.mono ?_; rintro e w4 ⟨rfl, rfl⟩)
 go_end0
 obtain ⟨r1, r2⟩ := HM3.out.1.ref g h
 rw [HV.out.2.1, if_neg (by decide)] at r1 r2
 refine ⟨rfl, ?_, HM3.out.2.trans r2⟩
 unfold addRef
 rw [if_neg (by rw [HV.out.2.2]; simp)]
 exact r1
theorem ah_route (n0 m g : Nat) (T : TypeId) (hs : List (Nat × SH)) (R : Nat → Option Nat) (X : List Value) (h : SH) (u : SUri) (hh : h = .route u) (w : World) (hn : n0 ≤ w.heap.size) (hM : MRep n0 w m T hs R X) (hr : h.rep w g) (hg : n0 ≤ g ∧ g < w.heap.size) (hl : hs.length < 4294967296) :
  Calls Tryz.prog 218 #[.pointer (some ⟨m, 0, none⟩), .iface 125 (.pointer (some ⟨g, 0, none⟩))] w (AHPost n0 m T hs R X g h w) := by
 have hv : h.v g = .iface 125 (.pointer (some ⟨g, 0, none⟩)) := by rw [hh]; rfl
 have hsl : h.slot = 9 := by rw [hh]; rfl
 have hfi : h.first = true := by rw [hh]; rfl
 obtain ⟨v, hm, hb, ho, hT⟩ := hM.at_
 have hne : 91 ≠ T := by rcases hT with rfl | rfl <;> decide
 have c0 : w.cell? ⟨m, 0, none⟩ = some v := blk_cell hb 0
 have HM := hid (And.intro hM hT)
 have HB := hid (And.intro hb hne)
 have HO := hid ho
 have HR := hid hr
 have HG := hid hg
 have HN := hid hn
 have HL := hid hl
 have HV := hid (And.intro hv (And.intro hsl hfi))
 clear hM hT hb hne ho hr hg hn hl hv hsl hfi hh hm
 have a0 := fun v w => ta_no (T := 125) (U := 117) (by decide) (by decide) v 91 w
 have a1 := fun v w => ta_yes (U := 125) (by decide) v 91 w
 have a2 := fun v w => ta_no (T := 125) (U := 126) (by decide) (by decide) v 91 w
 go_enter Tryz.func218, Tryz.ntmps218
 go_wp2_with (at_builtin; refine app_one n0 rfl _ _ 94 91 .nilIface 1 16 rfl Tryz.underlying94 hdr_info rfl (by decide) (by decide) v hs.length _ [.iface 125 (.pointer (some ⟨g, 0, none⟩))] (0, 0) rfl rfl rfl (by simp [Value.oneCell']) HO.out HN.out (by have := HL.out; omega) ?_)
 intro v1 w2 ho1 hgr
 obtain ⟨A1, k1, rfl⟩ := own_slice ho1
 have hb2 := (hgr.block m (heap_lt HB.out.1) (own_ne_block HO.out HB.out.1 HB.out.2)).trans HB.out.1
 rw [← HV.out.1] at ho1
 obtain ⟨hb3, hM3, hK3⟩ := HM.out.1.put g h HR.out HG.out HN.out HB.out.1 HO.out ho1 hgr
 have d0 : w2.cell? ⟨m, 0, none⟩ = some v := blk_cell hb2 0
 have f0 : w2.frozen? ⟨m, 0, none⟩ = false := blk_frozen hb2 0
 have d9 : w2.cell? ⟨m, 9, none⟩ = some (refV (R 9)) := blk_cell hb2 9
 have f9 : w2.frozen? ⟨m, 9, none⟩ = false := blk_frozen hb2 9
 have HB3 := hid hb3
 have HM3 := hid (And.intro hM3 hK3)
 clear hb3 hM3 hK3 hgr ho1 hb2
 obtain ⟨r, hr⟩ : ∃ r, r = R 9 := ⟨_, rfl⟩
 rw [← hr] at d9
 have HRJ := hid hr
 clear hr
 cases r with
 | none =>
  simp only [refV, Option.map_none] at d9
  go_wp2
  go_end0
  obtain ⟨r1, r2⟩ := HM3.out.1.ref g h
  rw [HV.out.2.1, if_neg (by decide)] at r1 r2
  refine ⟨rfl, ?_, HM3.out.2.trans r2⟩
  unfold addRef
  rw [if_neg (by rw [HV.out.2.1, ← HRJ.out]; simp)]
  exact r1
 | some q =>
  simp only [refV, Option.map_some] at d9
  go_wp2
  go_end0
  refine ⟨rfl, ?_, HM3.out.2⟩
  unfold addRef
  rw [if_pos ⟨HV.out.2.2, by rw [HV.out.2.1, ← HRJ.out]; simp⟩]
  exact HM3.out.1
theorem ah_rroute (n0 m g : Nat) (T : TypeId) (hs : List (Nat × SH)) (R : Nat → Option Nat) (X : List Value) (h : SH) (u : SUri) (hh : h = .rroute u) (w : World) (hn : n0 ≤ w.heap.size) (hM : MRep n0 w m T hs R X) (hr : h.rep w g) (hg : n0 ≤ g ∧ g < w.heap.size) (hl : hs.length < 4294967296) :
  Calls Tryz.prog 218 #[.pointer (some ⟨m, 0, none⟩), .iface 126 (.pointer (some ⟨g, 0, none⟩))] w (AHPost n0 m T hs R X g h w) := by
 have hv : h.v g = .iface 126 (.pointer (some ⟨g, 0, none⟩)) := by rw [hh]; rfl
 have hsl : h.slot = 10 := by rw [hh]; rfl
 have hfi : h.first = true := by rw [hh]; rfl
 obtain ⟨v, hm, hb, ho, hT⟩ := hM.at_
 have hne : 91 ≠ T := by rcases hT with rfl | rfl <;> decide
 have c0 : w.cell? ⟨m, 0, none⟩ = some v := blk_cell hb 0
 have HM := hid (And.intro hM hT)
 have HB := hid (And.intro hb hne)
 have HO := hid ho
 have HR := hid hr
 have HG := hid hg
 have HN := hid hn
 have HL := hid hl
 have HV := hid (And.intro hv (And.intro hsl hfi))
 clear hM hT hb hne ho hr hg hn hl hv hsl hfi hh hm
 have a0 := fun v w => ta_no (T := 126) (U := 117) (by decide) (by decide) v 91 w
 have a1 := fun v w => ta_no (T := 126) (U := 125) (by decide) (by decide) v 91 w
 have a2 := fun v w => ta_yes (U := 126) (by decide) v 91 w
 go_enter Tryz.func218, Tryz.ntmps218
 go_wp2_with (at_builtin; refine app_one n0 rfl _ _ 94 91 .nilIface 1 16 rfl Tryz.underlying94 hdr_info rfl (by decide) (by decide) v hs.length _ [.iface 126 (.pointer (some ⟨g, 0, none⟩))] (0, 0) rfl rfl rfl (by simp [Value.oneCell']) HO.out HN.out (by have := HL.out; omega) ?_)
 intro v1 w2 ho1 hgr
 obtain ⟨A1, k1, rfl⟩ := own_slice ho1
 have hb2 := (hgr.block m (heap_lt HB.out.1) (own_ne_block HO.out HB.out.1 HB.out.2)).trans HB.out.1
 rw [← HV.out.1] at ho1
 obtain ⟨hb3, hM3, hK3⟩ := HM.out.1.put g h HR.out HG.out HN.out HB.out.1 HO.out ho1 hgr
 have d0 : w2.cell? ⟨m, 0, none⟩ = some v := blk_cell hb2 0
 have f0 : w2.frozen? ⟨m, 0, none⟩ = false := blk_frozen hb2 0
 have d10 : w2.cell? ⟨m, 10, none⟩ = some (refV (R 10)) := blk_cell hb2 10
 have f10 : w2.frozen? ⟨m, 10, none⟩ = false := blk_frozen hb2 10
 have HB3 := hid hb3
 have HM3 := hid (And.intro hM3 hK3)
 clear hb3 hM3 hK3 hgr ho1 hb2
 obtain ⟨r, hr⟩ : ∃ r, r = R 10 := ⟨_, rfl⟩
 rw [← hr] at d10
 have HRJ := hid hr
 clear hr
 cases r with
 | none =>
  simp only [refV, Option.map_none] at d10
  go_wp2
  go_end0
  obtain ⟨r1, r2⟩ := HM3.out.1.ref g h
  rw [HV.out.2.1, if_neg (by decide)] at r1 r2
  refine ⟨rfl, ?_, HM3.out.2.trans r2⟩
  unfold addRef
  rw [if_neg (by rw [HV.out.2.1, ← HRJ.out]; simp)]
  exact r1
 | some q =>
  simp only [refV, Option.map_some] at d10
  go_wp2
  go_end0
  refine ⟨rfl, ?_, HM3.out.2⟩
  unfold addRef
  rw [if_pos ⟨HV.out.2.2, by rw [HV.out.2.1, ← HRJ.out]; simp⟩]
  exact HM3.out.1
theorem ah_referto (n0 m g : Nat) (T : TypeId) (hs : List (Nat × SH)) (R : Nat → Option Nat) (X : List Value) (h : SH) (u : SUri) (hh : h = .referto u) (w : World) (hn : n0 ≤ w.heap.size) (hM : MRep n0 w m T hs R X) (hr : h.rep w g) (hg : n0 ≤ g ∧ g < w.heap.size) (hl : hs.length < 4294967296) :
  Calls Tryz.prog 218 #[.pointer (some ⟨m, 0, none⟩), .iface 194 (.pointer (some ⟨g, 0, none⟩))] w (AHPost n0 m T hs R X g h w) := by
 have hv : h.v g = .iface 194 (.pointer (some ⟨g, 0, none⟩)) := by rw [hh]; rfl
 have hsl : h.slot = 0 := by rw [hh]; rfl
 have hfi : h.first = false := by rw [hh]; rfl
 obtain ⟨v, hm, hb, ho, hT⟩ := hM.at_
 have hne : 91 ≠ T := by rcases hT with rfl | rfl <;> decide
 have c0 : w.cell? ⟨m, 0, none⟩ = some v := blk_cell hb 0
 have HM := hid (And.intro hM hT)
 have HB := hid (And.intro hb hne)
 have HO := hid ho
 have HR := hid hr
 have HG := hid hg
 have HN := hid hn
 have HL := hid hl
 have HV := hid (And.intro hv (And.intro hsl hfi))
 clear hM hT hb hne ho hr hg hn hl hv hsl hfi hh hm
 have a0 := fun v w => ta_no (T := 194) (U := 117) (by decide) (by decide) v 91 w
 have a1 := fun v w => ta_no (T := 194) (U := 125) (by decide) (by decide) v 91 w
 have a2 := fun v w => ta_no (T := 194) (U := 126) (by decide) (by decide) v 91 w
 go_enter Tryz.func218, Tryz.ntmps218
 go_wp2_with (at_builtin; refine app_one n0 rfl _ _ 94 91 .nilIface 1 16 rfl Tryz.underlying94 hdr_info rfl (by decide) (by decide) v hs.length _ [.iface 194 (.pointer (some ⟨g, 0, none⟩))] (0, 0) rfl rfl rfl (by simp [Value.oneCell']) HO.out HN.out (by have := HL.out; omega) ?_)
 intro v1 w2 ho1 hgr
 obtain ⟨A1, k1, rfl⟩ := own_slice ho1
 have hb2 := (hgr.block m (heap_lt HB.out.1) (own_ne_block HO.out HB.out.1 HB.out.2)).trans HB.out.1
 rw [← HV.out.1] at ho1
 obtain ⟨hb3, hM3, hK3⟩ := HM.out.1.put g h HR.out HG.out HN.out HB.out.1 HO.out ho1 hgr
 have d0 : w2.cell? ⟨m, 0, none⟩ = some v := blk_cell hb2 0
 have f0 : w2.frozen? ⟨m, 0, none⟩ = false := blk_frozen hb2 0
 have hse := sethref_any m g h _ T _ hb3 (by simp [mcells])
 rw [HV.out.1] at hse
 simp only [HV.out.2.1, if_true] at hse
 have HS := hid hse
 have HM3 := hid (And.intro hM3 hK3)
 clear hb3 hM3 hK3 hgr ho1 hb2 hse
 go_wp2_with (go_at_call 247; refine HS.out.mono ?_; rintro e w4 ⟨rfl, rfl⟩)
 go_end0
 obtain ⟨r1, r2⟩ := HM3.out.1.ref g h
 rw [HV.out.2.1, if_pos rfl] at r1 r2
 refine ⟨rfl, ?_, HM3.out.2.trans r2⟩
 unfold addRef
 rw [if_neg (by rw [HV.out.2.2]; simp)]
 exact r1
theorem ah_generic (n0 m g : Nat) (T : TypeId) (hs : List (Nat × SH)) (R : Nat → Option Nat) (X : List Value) (h : SH) (n s : ByteArray) (hh : h = .generic n s) (w : World) (hn : n0 ≤ w.heap.size) (hM : MRep n0 w m T hs R X) (hr : h.rep w g) (hg : n0 ≤ g ∧ g < w.heap.size) (hl : hs.length < 4294967296) :
  Calls Tryz.prog 218 #[.pointer (some ⟨m, 0, none⟩), .iface 208 (.pointer (some ⟨g, 0, none⟩))] w (AHPost n0 m T hs R X g h w) := by
 have hv : h.v g = .iface 208 (.pointer (some ⟨g, 0, none⟩)) := by rw [hh]; rfl
 have hsl : h.slot = 0 := by rw [hh]; rfl
 have hfi : h.first = false := by rw [hh]; rfl
 obtain ⟨v, hm, hb, ho, hT⟩ := hM.at_
 have hne : 91 ≠ T := by rcases hT with rfl | rfl <;> decide
 have c0 : w.cell? ⟨m, 0, none⟩ = some v := blk_cell hb 0
 have HM := hid (And.intro hM hT)
 have HB := hid (And.intro hb hne)
 have HO := hid ho
 have HR := hid hr
 have HG := hid hg
 have HN := hid hn
 have HL := hid hl
 have HV := hid (And.intro hv (And.intro hsl hfi))
 clear hM hT hb hne ho hr hg hn hl hv hsl hfi hh hm
 have a0 := fun v w => ta_no (T := 208) (U := 117) (by decide) (by decide) v 91 w
 have a1 := fun v w => ta_no (T := 208) (U := 125) (by decide) (by decide) v 91 w
 have a2 := fun v w => ta_no (T := 208) (U := 126) (by decide) (by decide) v 91 w
 go_enter Tryz.func218, Tryz.ntmps218
 go_wp2_with (at_builtin; refine app_one n0 rfl _ _ 94 91 .nilIface 1 16 rfl Tryz.underlying94 hdr_info rfl (by decide) (by decide) v hs.length _ [.iface 208 (.pointer (some ⟨g, 0, none⟩))] (0, 0) rfl rfl rfl (by simp [Value.oneCell']) HO.out HN.out (by have := HL.out; omega) ?_)
 intro v1 w2 ho1 hgr
 obtain ⟨A1, k1, rfl⟩ := own_slice ho1
 have hb2 := (hgr.block m (heap_lt HB.out.1) (own_ne_block HO.out HB.out.1 HB.out.2)).trans HB.out.1
 rw [← HV.out.1] at ho1
 obtain ⟨hb3, hM3, hK3⟩ := HM.out.1.put g h HR.out HG.out HN.out HB.out.1 HO.out ho1 hgr
 have d0 : w2.cell? ⟨m, 0, none⟩ = some v := blk_cell hb2 0
 have f0 : w2.frozen? ⟨m, 0, none⟩ = false := blk_frozen hb2 0
 have hse := sethref_any m g h _ T _ hb3 (by simp [mcells])
 rw [HV.out.1] at hse
 simp only [HV.out.2.1, if_true] at hse
 have HS := hid hse
 have HM3 := hid (And.intro hM3 hK3)
 clear hb3 hM3 hK3 hgr ho1 hb2 hse
 go_wp2_with (go_at_call 247; refine HS.out.mono ?_; rintro e w4 ⟨rfl, rfl⟩)
 go_end0
 obtain ⟨r1, r2⟩ := HM3.out.1.ref g h
 rw [HV.out.2.1, if_pos rfl] at r1 r2
 refine ⟨rfl, ?_, HM3.out.2.trans r2⟩
 unfold addRef
 rw [if_neg (by rw [HV.out.2.2]; simp)]
 exact r1
theorem ah_any (n0 m g : Nat) (T : TypeId) (hs : List (Nat × SH)) (R : Nat → Option Nat) (X : List Value) (h : SH) (w : World) (hn : n0 ≤ w.heap.size) (hM : MRep n0 w m T hs R X) (hr : h.rep w g) (hg : n0 ≤ g ∧ g < w.heap.size) (hl : hs.length < 4294967296) :
  Calls Tryz.prog 218 #[.pointer (some ⟨m, 0, none⟩), h.v g] w (AHPost n0 m T hs R X g h w) := by
 cases h with
 | to_ x y z => exact ah_to_ n0 m g T hs R X _ x y z rfl w hn hM hr hg hl
 | from_ x y z => exact ah_from_ n0 m g T hs R X _ x y z rfl w hn hM hr hg hl
 | refby x y z => exact ah_refby n0 m g T hs R X _ x y z rfl w hn hM hr hg hl
 | contact x y z => exact ah_contact n0 m g T hs R X _ x y z rfl w hn hM hr hg hl
 | via x => exact ah_via n0 m g T hs R X _ x rfl w hn hM hr hg hl
 | callid x => exact ah_callid n0 m g T hs R X _ x rfl w hn hM hr hg hl
 | ctype x => exact ah_ctype n0 m g T hs R X _ x rfl w hn hM hr hg hl
 | maxf x => exact ah_maxf n0 m g T hs R X _ x rfl w hn hM hr hg hl
 | expires x => exact ah_expires n0 m g T hs R X _ x rfl w hn hM hr hg hl
 | clen x => exact ah_clen n0 m g T hs R X _ x rfl w hn hM hr hg hl
 | cseq x y => exact ah_cseq n0 m g T hs R X _ x y rfl w hn hM hr hg hl
 | route x => exact ah_route n0 m g T hs R X _ x rfl w hn hM hr hg hl
 | rroute x => exact ah_rroute n0 m g T hs R X _ x rfl w hn hM hr hg hl
 | referto x => exact ah_referto n0 m g T hs R X _ x rfl w hn hM hr hg hl
 | generic x y => exact ah_generic n0 m g T hs R X _ x y rfl w hn hM hr hg hl
def ten0 : Array Value := #[.nilIface, .nilIface, .nilIface, .nilIface, .nilIface, .nilIface, .nilIface, .nilIface, .nilIface, .nilIface]
theorem made_ten : madeCells Value.nilIface.cells (Int.toNat 10 * 1) = ten0 := by kernel_rfl
theorem make_order (w : World) : Sem.run Tryz.prog (Instr.makeSlice 94 (.int .i64 0) (.int .i64 10)) w = .ok (.slice (some ⟨w.heap.size, 0, none⟩) 0 10) (w.alloc (.cells ten0 91)) := by
 obtain ⟨i, hi, hzz⟩ := Option.map_eq_some_iff.1 hdr_info
 simp only [Prod.mk.injEq] at hzz
 obtain ⟨hz, hs, hb⟩ := hzz
 have hr := run_make (P := Tryz.prog) w 94 91 i .nilIface Tryz.underlying94 hi hz .i64 .i64 0 10 (by omega) (by omega) (by rw [hb]; decide) (by decide)
 rw [hs, made_ten] at hr
 exact hr
def sip2 : ByteArray := ⟨#[83, 73, 80, 47, 50, 46, 48]⟩
def msgX (body : Value) : List Value := [.bool false, .string sip2, body, .string ⟨#[]⟩, .string ⟨#[]⟩, .string ⟨#[]⟩]
def uriV (u : SUri) (vp vh : Value) : List Value := [.string u.scheme, .string u.raw, .bool u.star, .bool u.slashes, .string u.user, .string u.pass, .string u.host, .int .i64 u.port, vp, vh]
def UVal (w : World) (v : Value) (u : SUri) : Prop := ∃ vp vh, v = .agg (uriV u vp vh).toArray ∧ PRep w vp u.params ∧ PRep w vh u.hdrs
theorem UVal.below {w w' : World} {v : Value} {u : SUri} (h : UVal w v u) (hb : Below w.heap.size w w') : UVal w' v u := by
 obtain ⟨vp, vh, h1, h2, h3⟩ := h
 exact ⟨vp, vh, h1, h2.below hb, h3.below hb⟩
theorem PRep.put {w : World} {v : Value} {l : KVs} (h : PRep w v l) {B : Nat} {cs : Array Value} {t : TypeId} {fz : Nat × Nat} (hB : w.heap[B]? = some (.cells cs t fz)) (ht : t ≠ 207) (i : Nat) (x : Value) : PRep (w.setCell ⟨B, i, none⟩ x) v l := by
 rcases h with h | ⟨g, cap, cs', h1, h2, h2', h3, h4⟩
 ·exact .inl h
 ·refine .inr ⟨g, cap, cs', h1, h2, h2', ?_, h4⟩
  rw [Below.heap_setCell]
  ·exact h3
  ·rintro rfl
   rw [h3] at hB
   injection hB with hB
   injection hB with _ hB _
   exact ht hB.symm
theorem mrep_new (w : World) (n0 m : Nat) (hm : m = w.heap.size) (hn : n0 ≤ w.heap.size) (T : TypeId) (hT : T = 136 ∨ T = 133) (X : List Value) (cs : Array Value) (hcs : cs = mcells (.slice (some ⟨m + 1, 0, none⟩) 0 10) (fun _ => none) X) :
  MRep n0 ((w.alloc (.cells cs T)).alloc (.cells ten0 91)) m T [] (fun _ => none) X := by
 subst hcs
 subst hm
 refine ⟨⟨.slice (some ⟨w.heap.size + 1, 0, none⟩) 0 10, hn, ?_, ?_, hT⟩, fun p hp => absurd hp (by simp), fun p hp => absurd hp (by simp)⟩
 ·rw [Below.heap_alloc _ _ _ (by simp)]
  exact heap_alloc_new w _
 ·have := World.ownsRow_made (w.alloc (.cells (mcells (.slice (some ⟨w.heap.size + 1, 0, none⟩) 0 10) (fun _ => none) X) T)) (base := n0) (e := 91) (size := 1) ten0 10 (by simp; omega) (by decide) (by decide)
  simpa using this
theorem newres_any (code : Int) (reason : ByteArray) (w : World) :
  Calls Tryz.prog 78 #[.int .i64 code, .string reason] w fun e w' => e = .returned (.pointer (some ⟨w.heap.size, 0, none⟩)) ∧
   MRep w.heap.size w' w.heap.size 133 [] (fun _ => none) (msgX (.slice none 0 0) ++ [.string reason, .int .i64 code]) ∧ Below w.heap.size w w' := by
 have q2 := make_order
 go_enter Tryz.func78, Tryz.ntmps78
 go_wp2
 go_ret
 exact ⟨rfl, mrep_new w w.heap.size w.heap.size rfl (Nat.le_refl _) _ (.inr rfl) _ _ rfl, ((Below.refl _ w).alloc (Nat.le_refl _) _).alloc (by simp) _⟩
theorem PRep.cases2 {w : World} {v : Value} {l : KVs} (h : PRep w v l) : (v = .slice none 0 0 ∧ l = []) ∨ ∃ g c, v = .slice (some ⟨g, 0, none⟩) l.length c := by
 rcases h with h | ⟨g, cap, cs, h1, _⟩
 ·exact .inl h
 ·exact .inr ⟨g, cap, h1⟩
theorem box_cells {w w1 : World} {u : SUri} {vp vh : Value} (hb : w1.heap[w.heap.size]? = some (.cells (uriV u vp vh).toArray 107 (0, 0))) :
  w1.cell? ⟨w.heap.size, 0, none⟩ = some (.string u.scheme) ∧ w1.cell? ⟨w.heap.size, 1, none⟩ = some (.string u.raw) ∧ w1.cell? ⟨w.heap.size, 2, none⟩ = some (.bool u.star) ∧ w1.cell? ⟨w.heap.size, 3, none⟩ = some (.bool u.slashes) ∧ w1.cell? ⟨w.heap.size, 4, none⟩ = some (.string u.user) ∧
  w1.cell? ⟨w.heap.size, 5, none⟩ = some (.string u.pass) ∧ w1.cell? ⟨w.heap.size, 6, none⟩ = some (.string u.host) ∧ w1.cell? ⟨w.heap.size, 7, none⟩ = some (.int .i64 u.port) ∧ w1.cell? ⟨w.heap.size, 8, none⟩ = some vp ∧ w1.cell? ⟨w.heap.size, 9, none⟩ = some vh := by
 refine ⟨?_, ?_, ?_, ?_, ?_, ?_, ?_, ?_, ?_, ?_⟩ <;> rw [blk_cell hb] <;> rfl
def NRPost (method : ByteArray) (u : SUri) (w : World) (e : Ending) (w' : World) : Prop := ∃ m vp vh, e = .returned (.pointer (some ⟨m, 0, none⟩)) ∧
 MRep w.heap.size w' m 136 [] (fun _ => none) (msgX (.slice none 0 0) ++ .string method :: uriV u vp vh) ∧ PRep w' vp u.params ∧ PRep w' vh u.hdrs ∧ Below w.heap.size w w'
theorem newreq_any (method : ByteArray) (u : SUri) (v : Value) (w : World) (hv : UVal w v u) (hp : u.params.length ≤ 1073741824) (hh : u.hdrs.length ≤ 1073741824) :
  Calls Tryz.prog 79 #[.string method, v] w (NRPost method u w) := by
 obtain ⟨vp, vh, rfl, h1, h2⟩ := hv
 have q2 := make_order
 have q1 := fun (w : World) (a : Option Addr) (n c : Nat) => run_neq_slice_nil_any (P := Tryz.prog) w 105 207 a n c 0 0 Tryz.underlying105
 have HB0 := hid (((Below.refl w.heap.size w).alloc (Nat.le_refl _) (.cells (uriV u vp vh).toArray 107)))
 have H1 := hid (h1.below HB0.out)
 have H2 := hid (h2.below HB0.out)
 have HP := hid (And.intro hp hh)
 have HX := hid (And.intro h1.cases2 h2.cases2)
 clear h1 h2 hp hh
 simp only [uriV] at *
 rcases HX.out.1 with ⟨rfl, hpe⟩ | ⟨g1, c1, rfl⟩
 ·rcases HX.out.2 with ⟨rfl, hhe⟩ | ⟨g2, c2, rfl⟩
  ·have HE := hid (And.intro hpe hhe)
   clear hpe hhe
   go_enter Tryz.func79, Tryz.ntmps79
   go_wp2
   go_ret
   refine ⟨_, .slice none 0 0, .slice none 0 0, rfl, mrep_new _ w.heap.size _ ?_ ?_ _ (.inl rfl) _ _ ?_, .inl ⟨rfl, HE.out.1⟩, .inl ⟨rfl, HE.out.2⟩, ?_⟩
   ·simp
   ·simp
   ·rfl
   ·exact (HB0.out.alloc (by simp) _).alloc (by simp; omega) _
  ·have HE := hid hpe
   clear hpe
   go_enter Tryz.func79, Tryz.ntmps79
   go_wp2_with fail
   refine (hclone_any _ u.hdrs _ H2.out HP.out.2).mono ?_
   rintro e w1 ⟨v2, rfl, hr2, hb2⟩
   have hbx := (hb2.block w.heap.size (by simp)).trans (heap_alloc_new w _)
   obtain ⟨d0, d1, d2, d3, d4, d5, d6, d7, d8, d9⟩ := box_cells (u := u) hbx
   have f9 : w1.frozen? ⟨w.heap.size, 9, none⟩ = false := blk_frozen hbx 9
   have HR2 := hid (hr2.put (i := 9) (x := v2) hbx (by decide))
   have HS := hid (show w.heap.size ≤ w1.heap.size from Nat.le_trans (by simp) hb2.size)
   have HB2 := hid (HB0.out.trans (hb2.mono (by simp)))
   have hlt1 : w.heap.size < w1.heap.size := Nat.lt_of_lt_of_le (by simp) hb2.size
   have hlt2 : w.heap.size < w1.heap.size + 1 := Nat.lt_succ_of_lt hlt1
   clear hr2 hbx hb2
   rcases HR2.out.cases2 with ⟨rfl, hv2⟩ | ⟨g3, c3, rfl⟩
   all_goals
    (go_wp2
     go_ret
     refine ⟨_, .slice none 0 0, _, rfl, mrep_new _ w.heap.size _ ?_ ?_ _ (.inl rfl) _ _ ?_, .inl ⟨rfl, HE.out⟩, (HR2.out.below (((Below.refl _ _).alloc (Nat.le_refl _) _).alloc (by simp) _)), ?_⟩
     ·simp [World.setCell]
     ·simpa [World.setCell] using HS.out
     ·rfl
     ·exact ((HB2.out.setCell (p := ⟨w.heap.size, 9, none⟩) (Nat.le_refl _) _).alloc (by simpa [World.setCell] using HS.out) _).alloc (by simp [World.setCell]; have := HS.out; omega) _)
 ·go_enter Tryz.func79, Tryz.ntmps79
  go_wp2_with fail
  refine (hclone_any _ u.params _ H1.out HP.out.1).mono ?_
  rintro e w1 ⟨v2, rfl, hr2, hb2⟩
  have hbx := (hb2.block w.heap.size (by simp)).trans (heap_alloc_new w _)
  obtain ⟨d0, d1, d2, d3, d4, d5, d6, d7, d8, d9⟩ := box_cells (u := u) hbx
  have f8 : w1.frozen? ⟨w.heap.size, 8, none⟩ = false := blk_frozen hbx 8
  have hr4 := (H2.out.below hb2).put (i := 8) (x := v2) hbx (by decide)
  have hbx2 := blk_set hbx 8 v2
  have HR2 := hid (And.intro (hr2.put (i := 8) (x := v2) hbx (by decide)) (And.intro hr4 hbx2))
  have hlt1 : w.heap.size < w1.heap.size := Nat.lt_of_lt_of_le (by simp) hb2.size
  have hlt2 : w.heap.size < w1.heap.size + 1 := Nat.lt_succ_of_lt hlt1
  have HS := hid (Nat.le_of_lt hlt1)
  have HB2 := hid ((HB0.out.trans (hb2.mono (by simp))).setCell (p := ⟨w.heap.size, 8, none⟩) (Nat.le_refl _) v2)
  clear hr2 hbx hb2 hr4 hbx2
  rcases HX.out.2 with ⟨rfl, hhe⟩ | ⟨g2, c2, rfl⟩
  ·have HE := hid hhe
   clear hhe
   rcases HR2.out.1.cases2 with ⟨rfl, hv2⟩ | ⟨g3, c3, rfl⟩
   all_goals
    (go_wp2
     go_ret
     refine ⟨_, _, .slice none 0 0, rfl, mrep_new _ w.heap.size _ ?_ ?_ _ (.inl rfl) _ _ ?_, (HR2.out.1.below (((Below.refl _ _).alloc (Nat.le_refl _) _).alloc (by simp) _)), .inl ⟨rfl, HE.out⟩, ?_⟩
     ·simp [World.setCell]
     ·simpa [World.setCell] using HS.out
     ·rfl
     ·exact (HB2.out.alloc (by simpa [World.setCell] using HS.out) _).alloc (by simp [World.setCell]; have := HS.out; omega) _)
  ·have HS2 := hid (show w.heap.size ≤ (w1.setCell ⟨w.heap.size, 8, none⟩ v2).heap.size by simpa [World.setCell] using HS.out)
   obtain ⟨v3, hv3⟩ : ∃ v3, v3 = v2 := ⟨_, rfl⟩
   rcases HR2.out.1.cases2 with ⟨rfl, hv2⟩ | ⟨g3, c3, rfl⟩
   all_goals
    (subst hv3
     go_wp2_with fail
     refine (hclone_any _ u.hdrs _ HR2.out.2.1 HP.out.2).mono ?_
     rintro e w3 ⟨v4, rfl, hr3, hb3⟩
     have hbx := (hb3.block w.heap.size (by simpa [World.setCell] using hlt1)).trans HR2.out.2.2
     obtain ⟨d0, d1, d2, d3, d4, d5, d6, d7, d8, d9⟩ := box_cells (u := u) hbx
     have f9 : w3.frozen? ⟨w.heap.size, 9, none⟩ = false := blk_frozen hbx 9
     have HR5 := hid (hr3.put (i := 9) (x := v4) hbx (by decide))
     have HR6 := hid ((HR2.out.1.below hb3).put (i := 9) (x := v4) hbx (by decide))
     have hlt3 : w.heap.size < w3.heap.size := Nat.lt_of_lt_of_le (by simpa [World.setCell] using hlt1) hb3.size
     have hlt4 : w.heap.size < w3.heap.size + 1 := Nat.lt_succ_of_lt hlt3
     have HS3 := hid (Nat.le_of_lt hlt3)
     have HB3 := hid ((HB2.out.trans (hb3.mono HS2.out)).setCell (p := ⟨w.heap.size, 9, none⟩) (Nat.le_refl _) v4)
     clear hr3 hbx hb3 hlt1 hlt2
     obtain ⟨v5, hv5⟩ : ∃ v5, v5 = v4 := ⟨_, rfl⟩
     rcases HR5.out.cases2 with ⟨rfl, hv6⟩ | ⟨g5, c5, rfl⟩
     all_goals
      (subst hv5
       go_wp2
       go_ret
       refine ⟨_, _, _, rfl, mrep_new _ w.heap.size _ ?_ ?_ _ (.inl rfl) _ _ ?_, (HR6.out.below (((Below.refl _ _).alloc (Nat.le_refl _) _).alloc (by simp) _)), (HR5.out.below (((Below.refl _ _).alloc (Nat.le_refl _) _).alloc (by simp) _)), ?_⟩
       ·simp [World.setCell]
       ·simpa [World.setCell] using HS3.out
       ·rfl
       ·exact (HB3.out.alloc (by simpa [World.setCell] using HS3.out) _).alloc (by simp [World.setCell]; have := HS3.out; omega) _))
def HSeq (w : World) (m : Nat) (hs : List (Nat × SH)) : Prop := ∃ A cap, w.cell? ⟨m, 0, none⟩ = some (.slice A hs.length cap) ∧ (∀ i (h : i < hs.length), ∃ bo, A = some ⟨bo, 0, none⟩ ∧ w.cell? ⟨bo, i, none⟩ = some (hs[i].2.v hs[i].1)) ∧
 (∀ p ∈ hs, p.2.rep w p.1 ∧ p.2.nm.length ≤ 70368744177664) ∧ hs.length ≤ 4294967296
def isNm (nm : Bytes) (p : Nat × SH) : Bool := lowT p.2.nm == nm
def hfind (hs : List (Nat × SH)) (nm : Bytes) : Value := ((hs.find? (isNm nm)).map fun p => p.2.v p.1).getD .nilIface
theorem find_drop {hs : List (Nat × SH)} {nm : Bytes} {k : Nat} (h : ∀ i (hi : i < hs.length), i < k → isNm nm hs[i] = false) : hs.find? (isNm nm) = (hs.drop k).find? (isNm nm) := by
 induction k generalizing hs with
 | zero => simp
 | succ k ih =>
  cases hs with
  | nil => simp
  | cons a r =>
   have h0 := h 0 (by simp) (by omega)
   simp only [List.getElem_cons_zero] at h0
   rw [List.find?_cons_of_neg (by simp [h0]), List.drop_succ_cons]
   exact ih (fun i hi hk => h (i + 1) (by simpa using hi) (by omega))
theorem HSeq.below {w w' : World} {m : Nat} {hs : List (Nat × SH)} (h : HSeq w m hs) (hb : Below w.heap.size w w') : HSeq w' m hs := by
 obtain ⟨A, cap, h1, h2, h3, h4⟩ := h
 refine ⟨A, cap, cell_below hb h1, fun i hi => ?_, fun p hp => ⟨SH.rep_below (h3 p hp).1 hb, (h3 p hp).2⟩, h4⟩
 obtain ⟨bo, e, hc⟩ := h2 i hi
 exact ⟨bo, e, cell_below hb hc⟩
theorem geth_any (m : Nat) (hs : List (Nat × SH)) (nm : ByteArray) (w : World) (hA : HSeq w m hs) :
  Calls Tryz.prog 255 #[.pointer (some ⟨m, 0, none⟩), .string nm] w fun e w' => e = .returned (hfind hs nm.data.toList) ∧ Below w.heap.size w w' := by
 have HA := hid hA
 obtain ⟨A, cap, c0, hel, hrep, hlen⟩ := hA
 have HE := hid hel
 have HR := hid hrep
 have HLN := hid hlen
 have hlen2 : hs.length ≤ 9223372036854775807 := by omega
 clear hel hrep hlen
 go_enter Tryz.func255, Tryz.ntmps255
 go_wp2_with fail
 go_loopw [6, 12] (fun _ i wr => ∃ k : Nat, k ≤ hs.length ∧ i = .int .i64 k ∧ (∀ j (hj : j < hs.length), j < k → isNm nm.data.toList hs[j] = false) ∧ Below w.heap.size w wr) (fun _ i _ => hs.length - (intOf i).toNat)
 case atStart => exact ⟨0, Nat.zero_le _, rfl, fun j _ h => absurd h (by omega), Below.refl _ _⟩
 case round =>
  obtain ⟨k, hk, rfl, hno, hb⟩ := hrel
  obtain ⟨wo, rfl⟩ : ∃ wo : World, wo = wr := ⟨_, rfl⟩
  have HNO := hid hno
  have HB := hid hb
  have HK := hid hk
  clear hno hb hk c0
  by_cases hlt : k < hs.length
  ·obtain ⟨bo, rfl, hc⟩ := HE.out k hlt
   have hc1 := cell_below HB.out hc
   unfold SH.v at hc1
   have hr := SH.rep_below (HR.out _ (List.getElem_mem hlt)).1 HB.out
   obtain ⟨f1, r1, nm1, en1, na1, me1, hnm, hcall⟩ := disp_name hs[k].2 hs[k].1 wo hr
   have HC1 := hid hcall
   have hlow := hlow_any nm1 wo (by rw [dl nm1, hnm]; exact (HR.out _ (List.getElem_mem hlt)).2)
   have HLOW := hid hlow
   have HNM := hid hnm
   have HLT := hid (Nat.succ_le_of_lt hlt)
   clear hc hr hcall hlow hnm
   go_wp2_with fail
   refine HC1.out.mono ?_
   rintro e w1 ⟨rfl, rfl⟩
   go_wp2_with fail
   refine HLOW.out.mono ?_
   rintro e w2 ⟨rfl, hb2⟩
   have HB2 := hid (HB.out.trans (hb2.mono HB.out.size))
   clear hb2
   by_cases hm : lowT nm1.data.toList = nm.data.toList
   ·have hte : (lowT nm1.data.toList == nm.toList) = true := by rw [ba_list]; simp [hm]
    have HM := hid hm
    clear hm
    go_wp2
    go_ret
    refine ⟨?_, HB2.out⟩
    have hfi : hs.find? (isNm nm.data.toList) = some hs[k] := by
     rw [find_drop HNO.out, List.drop_eq_getElem_cons hlt]
     exact List.find?_cons_of_pos (by simp [isNm, ← HNM.out, HM.out])
    rw [hfind, hfi]
    rfl
   ·have hte : (lowT nm1.data.toList == nm.toList) = false := by rw [ba_list]; simp [hm]
    have HM := hid hm
    clear hm
    go_wp2
    go_roundw
    case rel =>
     refine ⟨k + 1, HLT.out, by simp, fun j hj hjk => ?_, HB2.out⟩
     by_cases hjl : j < k
     ·exact HNO.out j hj hjl
     ·obtain rfl : j = k := by omega
      simp [isNm, ← HNM.out, HM.out]
    case measure => exact meas_step HLT.out (by simp)
  ·have HNL := hid hlt
   go_wp2
   go_ret
   refine ⟨?_, HB.out⟩
   have hfi : hs.find? (isNm nm.data.toList) = none := by
    rw [find_drop HNO.out, List.drop_eq_nil_of_le (by have := HNL.out; omega)]
    rfl
   rw [hfind, hfi]
   rfl
def nmCL : Bytes := [99, 111, 110, 116, 101, 110, 116, 45, 108, 101, 110, 103, 116, 104]
def noCL (hs : List (Nat × SH)) : Prop := ∀ p ∈ hs, lowT p.2.nm ≠ nmCL ∧ lowT p.2.nm ≠ [108]
theorem hfind_none {hs : List (Nat × SH)} {nm : Bytes} (h : ∀ p ∈ hs, lowT p.2.nm ≠ nm) : hfind hs nm = .nilIface := by
 unfold hfind
 rw [List.find?_eq_none.2 (fun p hp => by simpa [isNm] using h p hp)]
 rfl
theorem lazy_none (m bo : Nat) (x y : Value) (hs : List (Nat × SH)) (w : World) (hA : HSeq w m hs) (hno : noCL hs) (h0 : w.cell? ⟨bo, 0, none⟩ = some (.string ⟨nmCL.toArray⟩)) (h1 : w.cell? ⟨bo, 1, none⟩ = some (.string ⟨#[108]⟩)) :
  Calls Tryz.prog 256 #[.pointer (some ⟨m, 0, none⟩), x, .slice (some ⟨bo, 0, none⟩) 2 2, y] w fun e w' => e = .returned (.bool false) ∧ Below w.heap.size w w' := by
 have HA := hid hA
 have HNO := hid hno
 have HC := hid (And.intro h0 h1)
 clear hA hno h0 h1
 go_enter Tryz.func256, Tryz.ntmps256
 go_wp2_with fail
 go_loopw [10, 11, 15] (fun _ _ i wr => ∃ k : Nat, k ≤ 2 ∧ i = .int .i64 k ∧ Below w.heap.size w wr) (fun _ _ i _ => 2 - (intOf i).toNat)
 case atStart => exact ⟨0, Nat.zero_le _, rfl, Below.refl _ _⟩
 case round =>
  obtain ⟨k, hk, rfl, hb⟩ := hrel
  have HB := hid hb
  obtain ⟨wo, rfl⟩ : ∃ wo : World, wo = wr := ⟨_, rfl⟩
  clear hb
  rcases (show k = 0 ∨ k = 1 ∨ k = 2 by omega) with rfl | rfl | rfl
  ·have c0 := cell_below HB.out HC.out.1
   have hg := geth_any m hs ⟨nmCL.toArray⟩ wo (HA.out.below HB.out)
   rw [hfind_none (fun p hp => (HNO.out p hp).1)] at hg
   have HG := hid hg
   clear hg
   go_wp2_with fail
   refine HG.out.mono ?_
   rintro e w1 ⟨rfl, hb1⟩
   have HB1 := hid (HB.out.trans (hb1.mono HB.out.size))
   clear hb1
   go_wp2
   go_roundw
   case rel => exact ⟨1, by omega, rfl, HB1.out⟩
   case measure => simp [intOf]
  ·have c1 := cell_below HB.out HC.out.2
   have hg := geth_any m hs ⟨#[108]⟩ wo (HA.out.below HB.out)
   rw [hfind_none (fun p hp => (HNO.out p hp).2)] at hg
   have HG := hid hg
   clear hg
   go_wp2_with fail
   refine HG.out.mono ?_
   rintro e w1 ⟨rfl, hb1⟩
   have HB1 := hid (HB.out.trans (hb1.mono HB.out.size))
   clear hb1
   go_wp2
   go_roundw
   case rel => exact ⟨2, by omega, rfl, HB1.out⟩
   case measure => simp [intOf]
  ·go_wp2
   go_ret
   exact ⟨rfl, HB.out⟩
theorem clget_none (m : Nat) (hs : List (Nat × SH)) (w : World) (hA : HSeq w m hs) (hno : noCL hs) (h7 : w.cell? ⟨m, 7, none⟩ = some (.pointer none)) :
  Calls Tryz.prog 223 #[.pointer (some ⟨m, 0, none⟩)] w fun e w' => e = .returned (.pointer none) ∧ Below w.heap.size w w' := by
 have HA := hid hA
 have HNO := hid hno
 have H7 := hid h7
 clear hA hno
 go_enter Tryz.func223, Tryz.ntmps223
 go_wp2_with fail
 have hb2 : Below w.heap.size w ((w.alloc (.cells #[.int .u32 0] 160)).alloc (.cells #[.string ⟨nmCL.toArray⟩, .string ⟨#[108]⟩] 9)) := ((Below.refl _ w).alloc (Nat.le_refl _) _).alloc (by simp) _
 refine (lazy_none m (w.heap.size + 1) _ _ hs _ (HA.out.below hb2) HNO.out ?_ ?_).mono ?_
 ·have := Lib.cell_of_heap (heap_alloc_new (w.alloc (.cells #[.int .u32 0] 160)) (.cells #[.string ⟨nmCL.toArray⟩, .string ⟨#[108]⟩] 9)) (j := 0)
  first | exact this | simp
 ·have := Lib.cell_of_heap (heap_alloc_new (w.alloc (.cells #[.int .u32 0] 160)) (.cells #[.string ⟨nmCL.toArray⟩, .string ⟨#[108]⟩] 9)) (j := 1)
  first | exact this | simp
 ·rintro e w1 ⟨rfl, hb⟩
  have HB := hid (hb2.trans (hb.mono hb2.size))
  have c7 := cell_below HB.out H7.out
  clear hb hb2 h7
  go_wp2
  go_ret
  exact ⟨rfl, HB.out⟩
theorem MRep.hseq {n0 m : Nat} {T : TypeId} {hs : List (Nat × SH)} {R : Nat → Option Nat} {X : List Value} {w : World} (hM : MRep n0 w m T hs R X) (hnm : ∀ p ∈ hs, p.2.nm.length ≤ 70368744177664) (hl : hs.length ≤ 4294967296) : HSeq w m hs := by
 obtain ⟨v, hm, hb, ho, hT⟩ := hM.at_
 rcases ho.2 with ⟨rfl, h0⟩ | ⟨g, cap, cur, rfl, _, hg, _, _, _, ht⟩
 ·obtain rfl := List.length_eq_zero_iff.1 h0
  exact ⟨none, 0, blk_cell hb 0, fun i hi => absurd hi (by simp), fun p hp => absurd hp (by simp), by simp⟩
 ·refine ⟨some ⟨g, 0, none⟩, cap, blk_cell hb 0, fun i hi => ⟨g, rfl, ?_⟩, fun p hp => ⟨hM.reps p hp, hnm p hp⟩, hl⟩
  rw [blk_cell hg]
  have h1 : (hs.map fun p => p.2.v p.1)[i]? = some (hs[i].2.v hs[i].1) := by simp [hi]
  rw [← ht, List.getElem?_take_of_lt (by omega)] at h1
  simpa using h1
theorem MRep.setBody {n0 m : Nat} {T : TypeId} {hs : List (Nat × SH)} {R : Nat → Option Nat} {X : List Value} {w : World} (hM : MRep n0 w m T hs R X) (u : Value) : MRep n0 (w.setCell ⟨m, 14, none⟩ u) m T hs R (X.set 2 u) ∧ MK n0 m w (w.setCell ⟨m, 14, none⟩ u) := by
 obtain ⟨v, hm, hb, ho, hT⟩ := hM.at_
 have hne : 91 ≠ T := by rcases hT with rfl | rfl <;> decide
 have hMK : MK n0 m w (w.setCell ⟨m, 14, none⟩ u) := ⟨(Below.refl _ _).setCell (p := ⟨m, 14, none⟩) hm _, (Lib.OthersKept.refl _ _ w).setCell ⟨m, 14, none⟩ rfl _⟩
 have hkt := hMK.kt hb hT
 refine ⟨⟨⟨v, hm, ?_, ?_, hT⟩, fun p hp => SH.rep_kt (hM.reps p hp) hkt, fun p hp => ⟨(hM.lt p hp).1, Nat.lt_of_lt_of_le (hM.lt p hp).2 hMK.1.size⟩⟩, hMK⟩
 ·have := blk_set hb 14 u
  rw [this]
  rfl
 ·have := own_ne_block ho hb hne
  exact ho.kept (w' := w.setCell ⟨m, 14, none⟩ u) (row := some m) ⟨rfl, rfl, rfl, by simp [World.setCell], fun k hk hkm => Below.heap_setCell _ _ _ _ (fun e => hkm (by rw [e]))⟩ (.inr (Ne.symm this))
theorem setbody_any (n0 m : Nat) (T : TypeId) (hs : List (Nat × SH)) (R : Nat → Option Nat) (X : List Value) (a : Addr) (n c : Nat) (w : World) (hn : n0 ≤ w.heap.size) (hM : MRep n0 w m T hs R X) (hnm : ∀ p ∈ hs, p.2.nm.length ≤ 70368744177664) (hsl : hs.length < 4294967296) (hno : noCL hs) (h7 : R 7 = none) (hX : 2 < X.length) (hl : n < 4294967296) :
  Calls Tryz.prog 237 #[.pointer (some ⟨m, 0, none⟩), .slice (some a) n c] w fun e w' => e = .returned (.tuple #[]) ∧ MRep n0 w' m T (hs ++ [(w.heap.size, .clen n)]) (addRef R (.clen n) w.heap.size) (X.set 2 (.slice (some a) n c)) ∧ MK n0 m w w' := by
 obtain ⟨v, hm, hb, ho, hT⟩ := hM.at_
 have q1 := fun (w : World) (a : Option Addr) (n c : Nat) => Lib.run_eql_slice_nil (P := Tryz.prog) w 22 5 a n c 0 0 Tryz.underlying22
 have hlt := heap_lt hb
 have c14 : ∃ u, w.cell? ⟨m, 14, none⟩ = some u := ⟨X[2], by rw [blk_cell hb]; simp [mcells, hX]⟩
 obtain ⟨u14, c14⟩ := c14
 have f14 := blk_frozen hb 14
 obtain ⟨hM2, hK2⟩ := hM.setBody (.slice (some a) n c)
 have hsz : (w.setCell ⟨m, 14, none⟩ (.slice (some a) n c)).heap.size = w.heap.size := by simp [World.setCell]
 have hbl : Below (w.setCell ⟨m, 14, none⟩ (.slice (some a) n c)).heap.size (w.setCell ⟨m, 14, none⟩ (.slice (some a) n c)) ((w.setCell ⟨m, 14, none⟩ (.slice (some a) n c)).alloc (.cells #[.int .u32 n] 160)) := (Below.refl _ _).alloc (Nat.le_refl _) _
 have hM3 := hM2.below hbl
 have hK3 : MK n0 m w _ := hK2.trans (MK.of_below hbl (by rw [hsz]; exact hn))
 have HM := hid (And.intro hM3 hK3)
 have HQ := hid (hM3.hseq hnm (Nat.le_of_lt hsl))
 have HN := hid (And.intro hno (And.intro h7 (And.intro hsl hn)))
 have HG := hid (show HB ((w.setCell ⟨m, 14, none⟩ (.slice (some a) n c)).alloc (.cells #[.int .u32 n] 160)) w.heap.size 160 #[.int .u32 n] from ⟨by rw [← hsz]; exact heap_alloc_new _ _, by decide, by decide⟩)
 have HS := hid (show w.heap.size < ((w.setCell ⟨m, 14, none⟩ (.slice (some a) n c)).alloc (.cells #[.int .u32 n] 160)).heap.size by simp [World.setCell])
 have hlen : n ≤ 9223372036854775807 := by omega
 have hwr : IntKind.u32.wrap (n : Int) = n := by rw [IntKind.wrap_u32]; omega
 clear hM ho hT hb hl hM2 hK2 hM3 hK3 hbl hsz hno h7 hsl hn hnm
 go_enter Tryz.func237, Tryz.ntmps237
 go_wp2_with fail
 obtain ⟨v3, hm3, hb3, _⟩ := HM.out.1.at_
 have c7 := blk_cell hb3 7
 have hc7 : (mcells v3 R (X.set 2 (.slice (some a) n c)))[7]? = some (.pointer none) := by
  show some (refV (R 7)) = _
  rw [HN.out.2.1]
  rfl
 rw [hc7] at c7
 refine (clget_none m hs _ HQ.out HN.out.1 c7).mono ?_
 rintro e w4 ⟨rfl, hb4⟩
 have HM4 := hid (And.intro (HM.out.1.below hb4) (HM.out.2.trans (MK.of_below hb4 (Nat.le_trans HN.out.2.2.2 (Nat.le_of_lt HS.out)))))
 have HG4 := hid (HG.out.below hb4)
 have HS4 := hid (Nat.lt_of_lt_of_le HS.out hb4.size)
 clear hb4 hc7 c7 hb3 c14 f14
 go_wp2_with fail
 refine (ah_any n0 m w.heap.size T hs R (X.set 2 (.slice (some a) n c)) (.clen n) w4 (Nat.le_trans HN.out.2.2.2 (Nat.le_of_lt HS4.out)) HM4.out.1 HG4.out ⟨HN.out.2.2.2, HS4.out⟩ HN.out.2.2.1).mono ?_
 rintro e w5 ⟨rfl, hM5, hK5⟩
 have HF := hid (And.intro hM5 (HM4.out.2.trans hK5))
 clear hM5 hK5
 go_wp2
 go_end0
 exact ⟨rfl, HF.out.1, HF.out.2⟩
