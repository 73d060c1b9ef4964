import Derived.Test.YtocajelknojkbaaGreatDoorK01
import Derived.Test.YtocajelknojkbaaGreatDoorRows
import Derived.Lib.LaidU8
set_option maxRecDepth 100000
set_option maxHeartbeats 16000000
set_option linter.all false
namespace Go.Proofs.YtocajelknojkbaaGreatDoor
open Go.Lib (hid)
open Go.ChangeShapes Go.WideShapes Go.RowKit Go.Shelf
theorem own : ownKnob Tryz.prog.godebug = none := by kernel_rfl
theorem laidOut : laidOutB Tryz.prog = true := by kernel_rfl
theorem laid_flat : (Rows.fnServerKeyUptoRow.laid.filter fun x => x.2.handleName?.isSome) = [] := by kernel_rfl
theorem laid_of {W : World} (h : laidMetH Tryz.prog Rows.fnServerKeyUptoRow.laid W) : laidMet Tryz.prog Rows.fnServerKeyUptoRow.laid W := by
 unfold laidMetH at h
 rw [laid_flat] at h
 exact h
theorem iface_of_reads {P : Program} {w : World} {n nm : String} {d : DataW Unit} {g : Nat} {t : TypeId} {ms : Array (String × TypeId)} (hg : P.globalNamed n = some g) (hty : (P.globals[g]?).map (·.type) = some t) (ht : P.underlying t = some (.interface ms)) (h : Lib.VarReads P w n (.iface nm d)) :
  ∃ u v, w.cell? ⟨g, 0, none⟩ = some (.iface u v) := by
 obtain ⟨g', t', cs, fuel, p, hg', hty', hvar, hd⟩ := h
 obtain rfl := Option.some.inj (hg.symm.trans hg')
 obtain rfl := Option.some.inj (hty.symm.trans hty')
 have key : ∃ u v, cs.toList = [.iface u v] := by
  cases fuel with
  | zero => simp [DataW.trod] at hd
  | succ fuel =>
   unfold DataW.trod at hd
   rw [ht] at hd
   split at hd <;> simp_all
 obtain ⟨u, v, e⟩ := key
 refine ⟨u, v, ?_⟩
 rw [World.var?_cell hg hvar 0, ← Array.getElem?_toList, e]
 rfl
theorem cell_none {w : World} {b o : Nat} {sp : Option Nat} {v : Value} (h : w.cell? ⟨b, o, sp⟩ = some v) : sp = none := by
 cases sp with
 | none => rfl
 | some x =>
  unfold World.cell? at h
  split at h <;> simp at h
theorem zz_z0n : Tryz.prog.globalNamed "net/netip.z0" = some 2 := by kernel_rfl
theorem zz_z0t : (Tryz.prog.globals[2]?).map (·.type) = some 250 := by kernel_rfl
theorem zz_z4n : Tryz.prog.globalNamed "net/netip.z4" = some 8 := by kernel_rfl
theorem zz_z4t : (Tryz.prog.globals[8]?).map (·.type) = some 250 := by kernel_rfl
theorem zz_hc : Tryz.prog.cellsOf 250 = 1 := by kernel_rfl
theorem zz_pc : Tryz.prog.cellsOf 248 = 1 := by kernel_rfl
theorem zz_dc : Tryz.prog.cellsOf 263 = 2 := by kernel_rfl
theorem zz_bc : Tryz.prog.cellsOf 4 = 1 := by kernel_rfl
theorem zz_sc : Tryz.prog.cellsOf 9 = 1 := by kernel_rfl
theorem handle_field {w : World} {g fuel : Nat} {n : String} {cs : Array Value} {d : DataW Unit} {p : List MemPlace} (hg : Tryz.prog.globalNamed n = some g) (hvar : w.var? Tryz.prog n = some cs)
  (hd : DataW.trod (fun _ => ()) Tryz.prog w 0 (fun _ => true) false fuel 250 cs.toList = some (.agg [d], p)) : ∃ v fuel' q, w.cell? ⟨g, 0, none⟩ = some v ∧ DataW.trod (fun _ => ()) Tryz.prog w 0 (fun _ => true) false fuel' 248 [v] = some (d, q) := by
 obtain ⟨xs, n', rfl, hx, hlen, hxl, hf⟩ := DataW.trod_struct Tryz.underlying250 hd
 rw [zz_hc] at hlen
 obtain ⟨x, hx1⟩ : ∃ x, xs = [x] := by
  match xs, (show xs.length = 1 from hxl) with
  | [x], _ => exact ⟨x, rfl⟩
 subst hx1
 simp only [List.map_cons, List.map_nil, Prod.mk.injEq, DataW.agg.injEq, List.cons.injEq, and_true] at hx
 have h0 := hf 0 _ rfl
 change DataW.trod _ _ _ _ _ _ _ 248 ((cs.toList.drop 0).take (Tryz.prog.cellsOf 248)) = some x at h0
 rw [zz_pc] at h0
 obtain ⟨v, hv⟩ : ∃ v, cs.toList = [v] := by
  match hcl : cs.toList, hlen with
  | [v], _ => exact ⟨v, rfl⟩
 rw [hv] at h0
 refine ⟨v, n', x.2, ?_, ?_⟩
 ·rw [World.var?_cell hg hvar 0, ← Array.getElem?_toList, hv]
  rfl
 ·rw [hx.1]
  exact h0
theorem g0_of {W : World} (h : laidMetH Tryz.prog Rows.fnServerKeyUptoRow.laid W) : G0 W := by
 have hL := laid_of h
 refine ⟨?_, ?_, ?_, ?_, ?_, ?_⟩
 ·obtain ⟨g, t, cs, fuel, p, hg, hty, hvar, hd⟩ := Lib.laidMet.reads hL (n := "net/netip.z0") (d := Rows.laid_net_netip_z0) (.tail _ (.tail _ (.tail _ (.tail _ (.tail _ (.tail _ (.tail _ (.tail _ (.head _)))))))))
  obtain rfl := Option.some.inj (zz_z0n.symm.trans hg)
  obtain rfl := Option.some.inj (zz_z0t.symm.trans hty)
  obtain ⟨v, f', q, h1, h2⟩ := handle_field zz_z0n hvar hd
  rcases DataW.trod_pointer Tryz.underlying248 h2 with ⟨h3, _⟩ | ⟨a, cs', y, n, _, _, hx, _⟩
  ·obtain rfl : v = .pointer none := by simpa using h3
   exact h1
  ·cases hx
 ·obtain ⟨g, t, cs, fuel, p, hg, hty, hvar, hd⟩ := Lib.laidMet.reads hL (n := "net/netip.z4") (d := Rows.laid_net_netip_z4) (.tail _ (.tail _ (.tail _ (.tail _ (.tail _ (.tail _ (.head _)))))))
  obtain rfl := Option.some.inj (zz_z4n.symm.trans hg)
  obtain rfl := Option.some.inj (zz_z4t.symm.trans hty)
  obtain ⟨v, f', q, h1, h2⟩ := handle_field zz_z4n hvar hd
  rcases DataW.trod_pointer Tryz.underlying248 h2 with ⟨_, hx⟩ | ⟨a, cs', y, n, _, h3, hx, hcells, hy⟩
  ·cases hx
  ·obtain rfl : v = .pointer (some a) := by simpa using h3
   rw [zz_dc] at hcells
   obtain ⟨-, hcl, hcc⟩ := World.cells?_some hcells
   obtain ⟨y1, y2⟩ := y
   simp only [Prod.mk.injEq, DataW.ptr.injEq] at hx
   obtain ⟨rfl, -⟩ := hx
   obtain ⟨xs, n', rfl, hx, hlen, hxl, hf⟩ := DataW.trod_struct Tryz.underlying263 hy
   obtain ⟨u0, u1, hu⟩ : ∃ u0 u1, xs = [u0, u1] := by
    match xs, (show xs.length = 2 from hxl) with
    | [u0, u1], _ => exact ⟨u0, u1, rfl⟩
   subst hu
   obtain ⟨k0, k1, hk⟩ : ∃ k0 k1, cs' = [k0, k1] := by
    match cs', hcl with
    | [k0, k1], _ => exact ⟨k0, k1, rfl⟩
   subst hk
   simp only [List.map_cons, List.map_nil, Prod.mk.injEq, DataW.agg.injEq, List.cons.injEq, and_true] at hx
   have f0 := hf 0 _ rfl
   have f1 := hf 1 _ rfl
   change DataW.trod _ _ _ _ _ _ _ 4 (([k0, k1].drop 0).take (Tryz.prog.cellsOf 4)) = some u0 at f0
   change DataW.trod _ _ _ _ _ _ _ 9 (([k0, k1].drop 1).take (Tryz.prog.cellsOf 9)) = some u1 at f1
   rw [zz_bc] at f0
   rw [zz_sc] at f1
   obtain ⟨b, e0, rfl⟩ := DataW.trod_bool Tryz.underlying4 f0
   obtain ⟨s, e1, rfl, _⟩ := DataW.trod_string Tryz.underlying9 f1
   obtain rfl : k0 = .bool b := by simpa using e0
   obtain rfl : k1 = .string s := by simpa using e1
   obtain ⟨hb, hs⟩ := hx.1
   obtain rfl : b = false := by injection hb with hb; injection hb with hb; exact hb.symm
   have hse : s.data.toList = [] := by injection hs with hs; injection hs with hs; exact hs.symm
   obtain rfl : s = ⟨#[]⟩ := by
    obtain ⟨sd⟩ := s
    congr 1
    exact Array.toList_inj.1 (by simpa using hse)
   obtain ⟨d, o, sp⟩ := a
   have q0 := hcc 0 (by decide)
   have q1 := hcc 1 (by decide)
   rw [show (⟨d, o, sp⟩ : Addr).add 0 = ⟨d, o, sp⟩ by simp [Addr.add]] at q0
   obtain rfl : sp = none := cell_none q0
   rw [Addr.add_lit] at q1
   exact ⟨d, o, h1, q0, q1⟩
 ·obtain ⟨g, t, cs, fuel, p, hg, hty, hvar, hd⟩ := Lib.laidMet.reads hL (n := "internal/strconv.uint64pow10") (d := Rows.laid_internal_strconv_uint64pow10) (.tail _ (.tail _ (.head _)))
  obtain rfl := Option.some.inj (gPow.symm.trans hg)
  obtain rfl := Option.some.inj ((show (Tryz.prog.globals[1]?).map (·.type) = some 241 by kernel_rfl).symm.trans hty)
  unfold Lib.TabIs
  rw [hvar, ← Lib.cells_of_tab (zs := Lib.pow10Tab) Tryz.underlying241 Tryz.underlying229 (by kernel_rfl) (by kernel_rfl) hd]
 ·exact whiteTab_of_reads Tryz.lays199 ⟨by kernel_rfl, by kernel_rfl, by kernel_rfl, by kernel_rfl, by kernel_rfl, by kernel_rfl, by kernel_rfl, by kernel_rfl⟩ (Lib.laidMet.reads hL (.tail _ (.tail _ (.tail _ (.tail _ (.tail _ (.head _)))))))
 ·exact iface_of_reads (t := 76) (by kernel_rfl) (by kernel_rfl) Tryz.underlying76 (Lib.laidMet.reads hL (n := "strconv.ErrSyntax") (.tail _ (.tail _ (.tail _ (.tail _ (.head _))))))
 ·exact iface_of_reads (t := 76) (by kernel_rfl) (by kernel_rfl) Tryz.underlying76 (Lib.laidMet.reads hL (n := "strconv.ErrRange") (.tail _ (.tail _ (.tail _ (.head _)))))
def litsOf (k : IntKind) (l : List Int) : Array Value := (l.map fun z => Value.int k z).toArray
def bruijn32 : List Int := [0, 1, 28, 2, 29, 14, 24, 3, 30, 22, 20, 15, 25, 17, 4, 8, 31, 27, 13, 23, 21, 19, 16, 7, 26, 12, 18, 6, 11, 5, 10, 9]
def bruijn64 : List Int := [0, 1, 56, 2, 57, 49, 28, 3, 61, 58, 42, 50, 38, 29, 17, 4, 62, 47, 59, 36, 45, 43, 51, 22, 53, 39, 33, 30, 24, 18, 12, 5, 63, 55, 48, 27, 60, 41, 37, 16, 46, 35, 44, 21, 52, 32, 23, 11, 54, 26, 40, 15, 34, 20, 31, 10, 25, 14, 19, 9, 13, 8, 7, 6]
noncomputable def laidWorld (os : Os) : World :=
 let N := (World.settled Tryz.prog os).heap.size
 let w0 := World.holding Tryz.prog os ⟨#[.cells (Lib.whiteT.map fun (z : Nat) => Value.int .u16 (z : Int)).toArray (Tryz.lays199_ren.t 198), .cells #[.slice (some ⟨N, 0, none⟩) 7 7, .slice none 0 0, .int .i64 2] (Tryz.lays199_ren.t 196),
  .cells #[.bool false, .string ⟨#[]⟩] 263, .cells #[.bool true, .string ⟨#[]⟩] 263,
  .cells #[.string ⟨#[118, 97, 108, 117, 101, 32, 111, 117, 116, 32, 111, 102, 32, 114, 97, 110, 103, 101]⟩] 203, .cells #[.string ⟨#[105, 110, 118, 97, 108, 105, 100, 32, 115, 121, 110, 116, 97, 120]⟩] 203], #[], []⟩
 let put (h : Array Obj) (g : Nat) (cs : Array Value) : Array Obj := h.modify g fun
  | .cells _ t frozen => .cells cs t frozen
  | o => o
 let h1 := put w0.heap 3 (litsOf .u8 bruijn32)
 let h2 := put h1 4 (litsOf .u8 bruijn64)
 let h3 := put h2 1 (litsOf .u64 Lib.pow10Tab)
 let h4 := put h3 7 #[.iface 201 (.pointer (some ⟨N + 4, 0, none⟩))]
 let h5 := put h4 6 #[.iface 201 (.pointer (some ⟨N + 5, 0, none⟩))]
 let h6 := put h5 5 #[.pointer (some ⟨N + 1, 0, none⟩)]
 let h7 := put h6 8 #[.pointer (some ⟨N + 2, 0, none⟩)]
 let h8 := put h7 9 #[.pointer (some ⟨N + 3, 0, none⟩)]
 { w0 with heap := h8 }
theorem laid_met (os : Os) (args : Array Value) : laidMet Tryz.prog Rows.fnServerKeyUptoRow.laid ((laidWorld os).forCall (fun _ _ => 0) ⟨#[], args, []⟩).memory :=
 laidMet_of_run' 8 (by kernel_rfl) (by kernel_rfl)
