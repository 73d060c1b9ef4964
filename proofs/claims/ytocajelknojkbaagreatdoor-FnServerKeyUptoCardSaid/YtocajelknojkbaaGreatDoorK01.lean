import Derived.Shelf.Small.Strs
import Derived.Shelf.Small.Wraps
import Derived.Shelf.Strings.BuilderK
import Derived.Shelf.Strings.Builder2Cap
import Derived.Shelf.Strconv.Itoa3
import Derived.Shelf.Strconv.ErrVarAll
import Derived.Shelf.Pu.ParseUintPublic10
import Derived.Shelf.GgClosure.StringsRunes
import Derived.Shelf.Strings.TrimSpaceAny
import Derived.Shelf.Unicode.IsSpaceAnyD
import Derived.Shelf.Unicode.ExclAny
import Derived.Shelf.Strings.FuncGrows
import Derived.Test.YtocajelknojkbaaGreatDoorProg
import Derived.WalkSpells
import Derived.WalkLawsBesides
import Derived.Deep.RegionHeld3
import Derived.StillTailTactics
set_option maxRecDepth 100000
set_option maxHeartbeats 16000000
set_option linter.all false
namespace Go.Proofs
open Go.Shelf
def Tryz.lays169_ren : Go.Shelf.Ren := ⟨fun | 169 => 100 | n => n, fun | 70 => 164 | 9 => 9 | 0 => 0 | 72 => 166 | 37 => 22 | 127 => 215 | 3 => 3 | 5 => 5 | n => n, fun | n => n⟩
theorem Tryz.lays169 : Go.Proofs.Lays.n169 Tryz.prog Tryz.lays169_ren := {
 mixed := by kernel_rfl
 f169 := Tryz.func100.trans (congrArg some (by kernel_rfl))
 t0 := Tryz.underlying0
 a0 := Tryz.isAgg0
 z0 := Tryz.sizeOf0
 v0 := Tryz.zeroValue0
 t3 := Tryz.underlying3
 a3 := Tryz.isAgg3
 z3 := Tryz.sizeOf3
 v3 := Tryz.zeroValue3
 t9 := Tryz.underlying9
 a9 := Tryz.isAgg9
 z9 := Tryz.sizeOf9
 v9 := Tryz.zeroValue9
 t37 := Tryz.underlying22
 a37 := Tryz.isAgg22
 z37 := Tryz.sizeOf22
 v37 := Tryz.zeroValue22
 t70 := Tryz.underlying164
 a70 := Tryz.isAgg164
 z70 := Tryz.sizeOf164
 v70 := Tryz.zeroValue164
 t72 := Tryz.underlying166
 a72 := Tryz.isAgg166
 z72 := Tryz.sizeOf166
 v72 := Tryz.zeroValue166
 t127 := Tryz.underlying215
 a127 := Tryz.isAgg215
 z127 := Tryz.sizeOf215
 v127 := Tryz.zeroValue215 }
theorem Tryz.Builder_Extra_169 : Builder.Extra Tryz.prog Tryz.lays169_ren := {
 sizeBuilder := by kernel_rfl
 liesBuilder := by kernel_rfl
 t5 := Tryz.underlying5
 a5 := Tryz.isAgg5
 z5 := Tryz.sizeOf5
 v5 := Tryz.zeroValue5
 infoByte := by kernel_rfl
 cellsByte := by kernel_rfl
 sizeByte := by kernel_rfl
 neB5 := by decide }
def Tryz.lays165_ren : Go.Shelf.Ren := ⟨fun | 165 => 111 | 240 => 122 | 241 => 129 | 276 => 136 | 277 => 139 | n => n, fun | 70 => 164 | 3 => 3 | 0 => 0 | 4 => 4 | 9 => 9 | 20 => 20 | 72 => 166 | 37 => 22 | 164 => 221 | 5 => 5 | n => n, fun | n => n⟩
theorem Tryz.lays165 : Go.Proofs.Lays.n165 Tryz.prog Tryz.lays165_ren := {
 mixed := by kernel_rfl
 f165 := Tryz.func111.trans (congrArg some (by kernel_rfl))
 f240 := Tryz.func122.trans (congrArg some (by kernel_rfl))
 f241 := Tryz.func129.trans (congrArg some (by kernel_rfl))
 f276 := Tryz.func136.trans (congrArg some (by kernel_rfl))
 f277 := Tryz.func139.trans (congrArg some (by kernel_rfl))
 t0 := Tryz.underlying0
 a0 := Tryz.isAgg0
 z0 := Tryz.sizeOf0
 v0 := Tryz.zeroValue0
 t3 := Tryz.underlying3
 a3 := Tryz.isAgg3
 z3 := Tryz.sizeOf3
 v3 := Tryz.zeroValue3
 t4 := Tryz.underlying4
 a4 := Tryz.isAgg4
 z4 := Tryz.sizeOf4
 v4 := Tryz.zeroValue4
 t9 := Tryz.underlying9
 a9 := Tryz.isAgg9
 z9 := Tryz.sizeOf9
 v9 := Tryz.zeroValue9
 t20 := Tryz.underlying20
 a20 := Tryz.isAgg20
 z20 := Tryz.sizeOf20
 v20 := Tryz.zeroValue20
 t37 := Tryz.underlying22
 a37 := Tryz.isAgg22
 z37 := Tryz.sizeOf22
 v37 := Tryz.zeroValue22
 t70 := Tryz.underlying164
 a70 := Tryz.isAgg164
 z70 := Tryz.sizeOf164
 v70 := Tryz.zeroValue164
 t72 := Tryz.underlying166
 a72 := Tryz.isAgg166
 z72 := Tryz.sizeOf166
 v72 := Tryz.zeroValue166
 t164 := Tryz.underlying221
 a164 := Tryz.isAgg221
 z164 := Tryz.sizeOf221
 v164 := Tryz.zeroValue221 }
theorem Tryz.Builder_Extra_165 : Builder.Extra Tryz.prog Tryz.lays165_ren := {
 sizeBuilder := by kernel_rfl
 liesBuilder := by kernel_rfl
 t5 := Tryz.underlying5
 a5 := Tryz.isAgg5
 z5 := Tryz.sizeOf5
 v5 := Tryz.zeroValue5
 infoByte := by kernel_rfl
 cellsByte := by kernel_rfl
 sizeByte := by kernel_rfl
 neB5 := by decide }
open Go.RowKit in
theorem Tryz.Builder_Grow_fresh (B b n : Nat) (w : World) (hB : B ≤ b) (hbk : w.heap[b]? = some (.cells #[.pointer none, .slice none 0 0] 166 (0, 0))) (hBw : B ≤ w.heap.size) (hn : n ≤ 281474976710656) :
  Calls Tryz.prog 111 #[.pointer (some ⟨b, 0, none⟩), .int .i64 n] w fun e w' => e = .returned (.tuple #[]) ∧ (Lib.BuilderAt 166 5 B b (.pointer (some ⟨b, 0, none⟩)) [] w' ∧ Below B w w') := Any.Builder_Grow_fresh Tryz.lays165 Tryz.Builder_Extra_165 B b n w hB hbk hBw hn
def Tryz.lays103_ren : Go.Shelf.Ren := ⟨fun | 103 => 132 | 210 => 140 | 206 => 120 | n => n, fun | 9 => 9 | 4 => 4 | 24 => 170 | 3 => 3 | n => n, fun | n => n⟩
theorem Tryz.lays103 : Go.Proofs.Lays.n103 Tryz.prog Tryz.lays103_ren := {
 mixed := by kernel_rfl
 f103 := Tryz.func132.trans (congrArg some (by kernel_rfl))
 f206 := Tryz.func120.trans (congrArg some (by kernel_rfl))
 f210 := Tryz.func140.trans (congrArg some (by kernel_rfl))
 t3 := Tryz.underlying3
 a3 := Tryz.isAgg3
 z3 := Tryz.sizeOf3
 v3 := Tryz.zeroValue3
 t4 := Tryz.underlying4
 a4 := Tryz.isAgg4
 z4 := Tryz.sizeOf4
 v4 := Tryz.zeroValue4
 t9 := Tryz.underlying9
 a9 := Tryz.isAgg9
 z9 := Tryz.sizeOf9
 v9 := Tryz.zeroValue9
 t24 := Tryz.underlying170
 a24 := Tryz.isAgg170
 z24 := Tryz.sizeOf170
 v24 := Tryz.zeroValue170 }
open Go.RowKit in
theorem Tryz.strings_CutPrefix (s p : ByteArray) (w : World) :
  Calls Tryz.prog 132 #[.string s, .string p] w fun e w' => e = .returned (.tuple #[.string ⟨(Lib.trimPrefix s.data.toList p.data.toList).toArray⟩, .bool (Lib.hasPrefix s.data.toList p.data.toList)]) ∧ w' = w := Any.strings_CutPrefix Tryz.lays103 s p w
open Go.RowKit in
theorem Tryz.Builder_String_any_k (B b : Nat) (l : List UInt8) (w : World) (h : Lib.IsBuilderF 166 5 B b (Lib.byteCells l) w) (hBw : B ≤ w.heap.size) :
  Calls Tryz.prog 100 #[.pointer (some ⟨b, 0, none⟩)] w fun e w' => e = .returned (.string ⟨l.toArray⟩) ∧ (Lib.IsBuilderF 166 5 B b (Lib.byteCells l) w' ∧ Below B w w' ∧ Lib.OthersKept 5 (some b) w w') := Any.Builder_String_any_k Tryz.lays169 Tryz.Builder_Extra_169 B b l w h hBw
def Tryz.laysM171_ren : Go.Shelf.Ren := ⟨fun | 171 => 106 | 243 => 123 | 246 => 137 | 283 => 145 | 284 => 146 | 285 => 147 | 286 => 148 | 129 => 157 | 317 => 156 | 318 => 158 | 319 => 159 | 320 => 160 | 337 => 168 | 338 => 169 | n => n, fun | 3 => 3 | 9 => 9 | 2 => 2 | 4 => 4 | 171 => 228 | 0 => 0 | 53 => 229 | 37 => 22 | 5 => 5 | 173 => 232 | 212 => 241 | 51 => 33 | 20 => 20 | 213 => 242 | 46 => 48 | 232 => 265 | 233 => 266 | n => n, fun | 17 => 1 | 18 => 3 | 19 => 4 | n => n⟩
theorem Tryz.laysM171 : Go.Proofs.LaysM.n171 Tryz.prog Tryz.laysM171_ren := {
 mixed := by kernel_rfl
 f129 := Tryz.func157.trans (congrArg some (by kernel_rfl))
 f171 := Tryz.func106.trans (congrArg some (by kernel_rfl))
 f243 := Tryz.func123.trans (congrArg some (by kernel_rfl))
 f246 := Tryz.func137.trans (congrArg some (by kernel_rfl))
 f283 := Tryz.func145.trans (congrArg some (by kernel_rfl))
 f284 := Tryz.func146.trans (congrArg some (by kernel_rfl))
 f285 := Tryz.func147.trans (congrArg some (by kernel_rfl))
 f286 := Tryz.func148.trans (congrArg some (by kernel_rfl))
 f317 := Tryz.func156.trans (congrArg some (by kernel_rfl))
 f318 := Tryz.func158.trans (congrArg some (by kernel_rfl))
 f319 := Tryz.func159.trans (congrArg some (by kernel_rfl))
 f320 := Tryz.func160.trans (congrArg some (by kernel_rfl))
 f337 := Tryz.func168.trans (congrArg some (by kernel_rfl))
 f338 := Tryz.func169.trans (congrArg some (by kernel_rfl))
 t0 := Tryz.underlying0
 a0 := Tryz.isAgg0
 z0 := Tryz.sizeOf0
 v0 := Tryz.zeroValue0
 t2 := Tryz.underlying2
 a2 := Tryz.isAgg2
 z2 := Tryz.sizeOf2
 v2 := Tryz.zeroValue2
 t3 := Tryz.underlying3
 a3 := Tryz.isAgg3
 z3 := Tryz.sizeOf3
 v3 := Tryz.zeroValue3
 t4 := Tryz.underlying4
 a4 := Tryz.isAgg4
 z4 := Tryz.sizeOf4
 v4 := Tryz.zeroValue4
 t5 := Tryz.underlying5
 a5 := Tryz.isAgg5
 z5 := Tryz.sizeOf5
 v5 := Tryz.zeroValue5
 t9 := Tryz.underlying9
 a9 := Tryz.isAgg9
 z9 := Tryz.sizeOf9
 v9 := Tryz.zeroValue9
 t20 := Tryz.underlying20
 a20 := Tryz.isAgg20
 z20 := Tryz.sizeOf20
 v20 := Tryz.zeroValue20
 t37 := Tryz.underlying22
 a37 := Tryz.isAgg22
 z37 := Tryz.sizeOf22
 v37 := Tryz.zeroValue22
 t46 := Tryz.underlying48
 a46 := Tryz.isAgg48
 z46 := Tryz.sizeOf48
 v46 := Tryz.zeroValue48
 t51 := Tryz.underlying33
 a51 := Tryz.isAgg33
 z51 := Tryz.sizeOf33
 v51 := Tryz.zeroValue33
 t53 := Tryz.underlying229
 a53 := Tryz.isAgg229
 z53 := Tryz.sizeOf229
 v53 := Tryz.zeroValue229
 t171 := Tryz.underlying228
 a171 := Tryz.isAgg228
 z171 := Tryz.sizeOf228
 v171 := Tryz.zeroValue228
 t173 := Tryz.underlying232
 a173 := Tryz.isAgg232
 z173 := Tryz.sizeOf232
 v173 := Tryz.zeroValue232
 t212 := Tryz.underlying241
 a212 := Tryz.isAgg241
 z212 := Tryz.sizeOf241
 v212 := Tryz.zeroValue241
 t213 := Tryz.underlying242
 a213 := Tryz.isAgg242
 z213 := Tryz.sizeOf242
 t232 := Tryz.underlying265
 a232 := Tryz.isAgg265
 z232 := Tryz.sizeOf265
 v232 := Tryz.zeroValue265
 t233 := Tryz.underlying266
 a233 := Tryz.isAgg266
 z233 := Tryz.sizeOf266
 v233 := Tryz.zeroValue266
 g17 := by kernel_rfl
 g18 := by kernel_rfl
 g19 := by kernel_rfl
 i0 := by kernel_rfl
 i2 := by kernel_rfl
 i3 := by kernel_rfl
 i4 := by kernel_rfl
 i5 := by kernel_rfl
 i9 := by kernel_rfl
 i20 := by kernel_rfl
 i37 := by kernel_rfl
 i46 := by kernel_rfl
 i51 := by kernel_rfl
 i53 := by kernel_rfl
 i171 := by kernel_rfl
 i173 := by kernel_rfl
 i212 := by kernel_rfl
 i232 := by kernel_rfl
 i233 := by kernel_rfl
 m17 := by kernel_rfl
 m18 := by kernel_rfl
 m19 := by kernel_rfl }
open Go.RowKit Go.Sort Go.Lib in
theorem Tryz.strconv_Itoa (n : Int) (h0 : -9223372036854775808 ≤ n) (h1 : n ≤ 9223372036854775807) (w : World) (htab : Lib.TabIs Tryz.prog w "internal/strconv.uint64pow10" .u64 Lib.pow10Tab) :
  Calls Tryz.prog 106 #[.int .i64 n] w fun e w' => e = .returned (.string ⟨(Lib.itoa n).toArray⟩) ∧ ∃ k os, w' = grow (w.drewN k) os := Any.strconv_Itoa Tryz.laysM171 n h0 h1 w htab
def Tryz.laysC172_ren : Go.Shelf.Ren := ⟨fun | 172 => 162 | 244 => 170 | 245 => 171 | 247 => 179 | 279 => 180 | 280 => 181 | 281 => 182 | 282 => 183 | 287 => 193 | 316 => 194 | 171 => 106 | 205 => 92 | 321 => 200 | 322 => 201 | 243 => 123 | 246 => 137 | 283 => 145 | 284 => 146 | 285 => 147 | 286 => 148 | 129 => 157 | 317 => 156 | 318 => 158 | 319 => 159 | 320 => 160 | 337 => 168 | 338 => 169 | n => n, fun | 9 => 9 | 3 => 3 | 75 => 76 | 76 => 177 | 4 => 4 | 5 => 5 | 167 => 267 | 37 => 22 | 0 => 0 | 85 => 268 | 2 => 2 | 168 => 270 | 53 => 229 | 175 => 283 | 46 => 48 | 210 => 286 | 127 => 215 | 145 => 203 | 143 => 201 | 21 => 21 | 171 => 228 | 173 => 232 | 212 => 241 | 51 => 33 | 20 => 20 | 213 => 242 | 232 => 265 | 233 => 266 | 80 => 112 | n => n, fun | 15 => 6 | 16 => 7 | 17 => 1 | 18 => 3 | 19 => 4 | n => n⟩
theorem Tryz.laysC172 : Go.Proofs.LaysC.n172 Tryz.prog Tryz.laysC172_ren := {
 mixed := by kernel_rfl
 f129 := Tryz.func157.trans (congrArg some (by kernel_rfl))
 f171 := Tryz.func106.trans (congrArg some (by kernel_rfl))
 f172 := Tryz.func162.trans (congrArg some (by kernel_rfl))
 f205 := Tryz.func92.trans (congrArg some (by kernel_rfl))
 f243 := Tryz.func123.trans (congrArg some (by kernel_rfl))
 f244 := Tryz.func170.trans (congrArg some (by kernel_rfl))
 f245 := Tryz.func171.trans (congrArg some (by kernel_rfl))
 f246 := Tryz.func137.trans (congrArg some (by kernel_rfl))
 f247 := Tryz.func179.trans (congrArg some (by kernel_rfl))
 f279 := Tryz.func180.trans (congrArg some (by kernel_rfl))
 f280 := Tryz.func181.trans (congrArg some (by kernel_rfl))
 f281 := Tryz.func182.trans (congrArg some (by kernel_rfl))
 f282 := Tryz.func183.trans (congrArg some (by kernel_rfl))
 f283 := Tryz.func145.trans (congrArg some (by kernel_rfl))
 f284 := Tryz.func146.trans (congrArg some (by kernel_rfl))
 f285 := Tryz.func147.trans (congrArg some (by kernel_rfl))
 f286 := Tryz.func148.trans (congrArg some (by kernel_rfl))
 f287 := Tryz.func193.trans (congrArg some (by kernel_rfl))
 f316 := Tryz.func194.trans (congrArg some (by kernel_rfl))
 f317 := Tryz.func156.trans (congrArg some (by kernel_rfl))
 f318 := Tryz.func158.trans (congrArg some (by kernel_rfl))
 f319 := Tryz.func159.trans (congrArg some (by kernel_rfl))
 f320 := Tryz.func160.trans (congrArg some (by kernel_rfl))
 f321 := Tryz.func200.trans (congrArg some (by kernel_rfl))
 f322 := Tryz.func201.trans (congrArg some (by kernel_rfl))
 f337 := Tryz.func168.trans (congrArg some (by kernel_rfl))
 f338 := Tryz.func169.trans (congrArg some (by kernel_rfl))
 t0 := Tryz.underlying0
 a0 := Tryz.isAgg0
 z0 := Tryz.sizeOf0
 v0 := Tryz.zeroValue0
 t2 := Tryz.underlying2
 a2 := Tryz.isAgg2
 z2 := Tryz.sizeOf2
 v2 := Tryz.zeroValue2
 t3 := Tryz.underlying3
 a3 := Tryz.isAgg3
 z3 := Tryz.sizeOf3
 v3 := Tryz.zeroValue3
 t4 := Tryz.underlying4
 a4 := Tryz.isAgg4
 z4 := Tryz.sizeOf4
 v4 := Tryz.zeroValue4
 t5 := Tryz.underlying5
 a5 := Tryz.isAgg5
 z5 := Tryz.sizeOf5
 v5 := Tryz.zeroValue5
 t9 := Tryz.underlying9
 a9 := Tryz.isAgg9
 z9 := Tryz.sizeOf9
 v9 := Tryz.zeroValue9
 t20 := Tryz.underlying20
 a20 := Tryz.isAgg20
 z20 := Tryz.sizeOf20
 v20 := Tryz.zeroValue20
 t21 := Tryz.underlying21
 a21 := Tryz.isAgg21
 z21 := Tryz.sizeOf21
 v21 := Tryz.zeroValue21
 t37 := Tryz.underlying22
 a37 := Tryz.isAgg22
 z37 := Tryz.sizeOf22
 v37 := Tryz.zeroValue22
 t46 := Tryz.underlying48
 a46 := Tryz.isAgg48
 z46 := Tryz.sizeOf48
 v46 := Tryz.zeroValue48
 t51 := Tryz.underlying33
 a51 := Tryz.isAgg33
 z51 := Tryz.sizeOf33
 v51 := Tryz.zeroValue33
 t53 := Tryz.underlying229
 a53 := Tryz.isAgg229
 z53 := Tryz.sizeOf229
 v53 := Tryz.zeroValue229
 t75 := Tryz.underlying76
 a75 := Tryz.isAgg76
 z75 := Tryz.sizeOf76
 v75 := Tryz.zeroValue76
 t76 := Tryz.underlying177
 a76 := Tryz.isAgg177
 z76 := Tryz.sizeOf177
 v76 := Tryz.zeroValue177
 t85 := Tryz.underlying268
 a85 := Tryz.isAgg268
 z85 := Tryz.sizeOf268
 v85 := Tryz.zeroValue268
 t127 := Tryz.underlying215
 a127 := Tryz.isAgg215
 z127 := Tryz.sizeOf215
 v127 := Tryz.zeroValue215
 t143 := Tryz.underlying201
 a143 := Tryz.isAgg201
 z143 := Tryz.sizeOf201
 v143 := Tryz.zeroValue201
 t145 := Tryz.underlying203
 a145 := Tryz.isAgg203
 z145 := Tryz.sizeOf203
 v145 := Tryz.zeroValue203
 t167 := Tryz.underlying267
 a167 := Tryz.isAgg267
 z167 := Tryz.sizeOf267
 v167 := Tryz.zeroValue267
 t168 := Tryz.underlying270
 a168 := Tryz.isAgg270
 z168 := Tryz.sizeOf270
 v168 := Tryz.zeroValue270
 t171 := Tryz.underlying228
 a171 := Tryz.isAgg228
 z171 := Tryz.sizeOf228
 v171 := Tryz.zeroValue228
 t173 := Tryz.underlying232
 a173 := Tryz.isAgg232
 z173 := Tryz.sizeOf232
 v173 := Tryz.zeroValue232
 t175 := Tryz.underlying283
 a175 := Tryz.isAgg283
 z175 := Tryz.sizeOf283
 v175 := Tryz.zeroValue283
 t210 := Tryz.underlying286
 a210 := Tryz.isAgg286
 z210 := Tryz.sizeOf286
 v210 := Tryz.zeroValue286
 t212 := Tryz.underlying241
 a212 := Tryz.isAgg241
 z212 := Tryz.sizeOf241
 v212 := Tryz.zeroValue241
 t213 := Tryz.underlying242
 a213 := Tryz.isAgg242
 z213 := Tryz.sizeOf242
 t232 := Tryz.underlying265
 a232 := Tryz.isAgg265
 z232 := Tryz.sizeOf265
 v232 := Tryz.zeroValue265
 t233 := Tryz.underlying266
 a233 := Tryz.isAgg266
 z233 := Tryz.sizeOf266
 v233 := Tryz.zeroValue266
 g15 := by kernel_rfl
 g16 := by kernel_rfl
 g17 := by kernel_rfl
 g18 := by kernel_rfl
 g19 := by kernel_rfl
 t80 := Tryz.underlying112
 a80 := Tryz.isAgg112
 z80 := Tryz.sizeOf112
 v80 := Tryz.zeroValue112
 i0 := by kernel_rfl
 i2 := by kernel_rfl
 i3 := by kernel_rfl
 i4 := by kernel_rfl
 i5 := by kernel_rfl
 i9 := by kernel_rfl
 i20 := by kernel_rfl
 i21 := by kernel_rfl
 i37 := by kernel_rfl
 i46 := by kernel_rfl
 i51 := by kernel_rfl
 i53 := by kernel_rfl
 i75 := by kernel_rfl
 i76 := by kernel_rfl
 i80 := by kernel_rfl
 i85 := by kernel_rfl
 i127 := by kernel_rfl
 i143 := by kernel_rfl
 i145 := by kernel_rfl
 i167 := by kernel_rfl
 i168 := by kernel_rfl
 i171 := by kernel_rfl
 i173 := by kernel_rfl
 i175 := by kernel_rfl
 i210 := by kernel_rfl
 i212 := by kernel_rfl
 i232 := by kernel_rfl
 i233 := by kernel_rfl
 m15 := by kernel_rfl
 m16 := by kernel_rfl
 m17 := by kernel_rfl
 m18 := by kernel_rfl
 m19 := by kernel_rfl
 c0 := by kernel_rfl
 c2 := by kernel_rfl
 c3 := by kernel_rfl
 c4 := by kernel_rfl
 c5 := by kernel_rfl
 c9 := by kernel_rfl
 c20 := by kernel_rfl
 c21 := by kernel_rfl
 c37 := by kernel_rfl
 c46 := by kernel_rfl
 c51 := by kernel_rfl
 c53 := by kernel_rfl
 c75 := by kernel_rfl
 c76 := by kernel_rfl
 c80 := by kernel_rfl
 c85 := by kernel_rfl
 c127 := by kernel_rfl
 c143 := by kernel_rfl
 c145 := by kernel_rfl
 c167 := by kernel_rfl
 c168 := by kernel_rfl
 c171 := by kernel_rfl
 c173 := by kernel_rfl
 c175 := by kernel_rfl
 c210 := by kernel_rfl
 c212 := by kernel_rfl
 c213 := by kernel_rfl
 c232 := by kernel_rfl
 c233 := by kernel_rfl }
open Go.RowKit in
theorem Tryz.strconv_Atoi_ok (s : ByteArray) (hmax : s.size ≤ 9223372036854775806) (v : Int) (h : Lib.atoiAll s.data.toList = .ok v) (w : World) :
  Calls Tryz.prog 162 #[.string s] w fun e w' => e = .returned (.tuple #[.int .i64 v, .nilIface]) ∧ (w' = w ∨ ∃ t, w' = Lib.bytesWorld w 5 t) := Any.strconv_Atoi_ok Tryz.laysC172 s hmax v h w
open Go.RowKit in
theorem Tryz.strconv_Atoi_syntax (s : ByteArray) (hlim : s.size ≤ 281474976710656) (h1 : ∀ v, Lib.atoiAll s.data.toList ≠ .ok v) (h2 : Lib.atoiAll s.data.toList ≠ .range) (ev : Value) (w : World) (hv : w.cell? ⟨6, 0, none⟩ = some ev) (hev : ev = .nilIface ∨ ∃ te pe, ev = .iface te pe) :
  Calls Tryz.prog 162 #[.string s] w fun e w' => ∃ N, e = .returned (.tuple #[.int .i64 (0), .iface 270 (.pointer (some ⟨N, 0, none⟩))]) ∧ w.heap.size ≤ N ∧ w'.heap[N]? = some (.cells #[.string ⟨#[65, 116, 111, 105]⟩, .string s, ev] 286 (0, 0)) ∧ Below w.heap.size w w' := Any.strconv_Atoi_syntax Tryz.laysC172 s hlim (by cases e : Lib.atoiAll s.data.toList with | ok v => exact absurd e (h1 v) | range => exact absurd e h2 | _ => rfl) ev w hv hev
open Go.RowKit in
theorem Tryz.strconv_Atoi_range (s : ByteArray) (hlim : s.size ≤ 281474976710656) (h : Lib.atoiAll s.data.toList = .range) (ev : Value) (w : World) (hv : w.cell? ⟨7, 0, none⟩ = some ev) (hev : ev = .nilIface ∨ ∃ te pe, ev = .iface te pe) :
  Calls Tryz.prog 162 #[.string s] w fun e w' => ∃ N, e = .returned (.tuple #[.int .i64 (Lib.atoiSat s.data.toList), .iface 270 (.pointer (some ⟨N, 0, none⟩))]) ∧ w.heap.size ≤ N ∧ w'.heap[N]? = some (.cells #[.string ⟨#[65, 116, 111, 105]⟩, .string s, ev] 286 (0, 0)) ∧ Below w.heap.size w w' := Any.strconv_Atoi_range Tryz.laysC172 s hlim h ev w hv hev
def Tryz.lays272_ren : Go.Shelf.Ren := ⟨fun | 272 => 172 | 315 => 184 | n => n, fun | 9 => 9 | 40 => 205 | 4 => 4 | 3 => 3 | 0 => 0 | 21 => 21 | n => n, fun | n => n⟩
theorem Tryz.lays272 : Go.Proofs.Lays.n272 Tryz.prog Tryz.lays272_ren := {
 mixed := by kernel_rfl
 f272 := Tryz.func172.trans (congrArg some (by kernel_rfl))
 f315 := Tryz.func184.trans (congrArg some (by kernel_rfl))
 t0 := Tryz.underlying0
 a0 := Tryz.isAgg0
 z0 := Tryz.sizeOf0
 v0 := Tryz.zeroValue0
 t3 := Tryz.underlying3
 a3 := Tryz.isAgg3
 z3 := Tryz.sizeOf3
 v3 := Tryz.zeroValue3
 t4 := Tryz.underlying4
 a4 := Tryz.isAgg4
 z4 := Tryz.sizeOf4
 v4 := Tryz.zeroValue4
 t9 := Tryz.underlying9
 a9 := Tryz.isAgg9
 z9 := Tryz.sizeOf9
 v9 := Tryz.zeroValue9
 t21 := Tryz.underlying21
 a21 := Tryz.isAgg21
 z21 := Tryz.sizeOf21
 v21 := Tryz.zeroValue21
 t40 := Tryz.underlying205
 a40 := Tryz.isAgg205
 z40 := Tryz.sizeOf205
 v40 := Tryz.zeroValue205 }
def Tryz.lays99_ren : Go.Shelf.Ren := ⟨fun | 99 => 102 | 206 => 120 | n => n, fun | 9 => 9 | 4 => 4 | 3 => 3 | n => n, fun | n => n⟩
theorem Tryz.lays99 : Go.Proofs.Lays.n99 Tryz.prog Tryz.lays99_ren := {
 mixed := by kernel_rfl
 f99 := Tryz.func102.trans (congrArg some (by kernel_rfl))
 f206 := Tryz.func120.trans (congrArg some (by kernel_rfl))
 t3 := Tryz.underlying3
 a3 := Tryz.isAgg3
 z3 := Tryz.sizeOf3
 v3 := Tryz.zeroValue3
 t4 := Tryz.underlying4
 a4 := Tryz.isAgg4
 z4 := Tryz.sizeOf4
 v4 := Tryz.zeroValue4
 t9 := Tryz.underlying9
 a9 := Tryz.isAgg9
 z9 := Tryz.sizeOf9
 v9 := Tryz.zeroValue9 }
open Go.RowKit Go.Lib in
theorem Tryz.strings_HasPrefix (s p : ByteArray) (w : World) :
  Calls Tryz.prog 102 #[.string s, .string p] w fun e w' => e = .returned (.bool (Lib.hasPrefix s.data.toList p.data.toList)) ∧ w' = w := Any.strings_HasPrefix Tryz.lays99 s p w
def Tryz.lays101_ren : Go.Shelf.Ren := ⟨fun | 101 => 103 | 208 => 121 | 206 => 120 | n => n, fun | 9 => 9 | 4 => 4 | 3 => 3 | n => n, fun | n => n⟩
theorem Tryz.lays101 : Go.Proofs.Lays.n101 Tryz.prog Tryz.lays101_ren := {
 mixed := by kernel_rfl
 f101 := Tryz.func103.trans (congrArg some (by kernel_rfl))
 f206 := Tryz.func120.trans (congrArg some (by kernel_rfl))
 f208 := Tryz.func121.trans (congrArg some (by kernel_rfl))
 t3 := Tryz.underlying3
 a3 := Tryz.isAgg3
 z3 := Tryz.sizeOf3
 v3 := Tryz.zeroValue3
 t4 := Tryz.underlying4
 a4 := Tryz.isAgg4
 z4 := Tryz.sizeOf4
 v4 := Tryz.zeroValue4
 t9 := Tryz.underlying9
 a9 := Tryz.isAgg9
 z9 := Tryz.sizeOf9
 v9 := Tryz.zeroValue9 }
open Go.RowKit Go.Lib in
theorem Tryz.strings_TrimPrefix (s p : ByteArray) (w : World) :
  Calls Tryz.prog 103 #[.string s, .string p] w fun e w' => e = .returned (.string ⟨(Lib.trimPrefix s.data.toList p.data.toList).toArray⟩) ∧ w' = w := Any.strings_TrimPrefix Tryz.lays101 s p w
def Tryz.lays199_ren : Go.Shelf.Ren := ⟨fun | 199 => 173 | 261 => 185 | 311 => 195 | 312 => 196 | n => n, fun | 21 => 21 | 4 => 4 | 51 => 33 | 141 => 275 | 0 => 0 | 196 => 290 | 193 => 287 | 3 => 3 | 198 => 293 | 49 => 291 | 194 => 288 | 201 => 296 | 226 => 300 | 46 => 48 | 227 => 301 | n => n, fun | 6 => 5 | n => n⟩
theorem Tryz.lays199 : Go.Proofs.Lays.n199 Tryz.prog Tryz.lays199_ren := {
 mixed := by kernel_rfl
 f199 := Tryz.func173.trans (congrArg some (by kernel_rfl))
 f261 := Tryz.func185.trans (congrArg some (by kernel_rfl))
 f311 := Tryz.func195.trans (congrArg some (by kernel_rfl))
 f312 := Tryz.func196.trans (congrArg some (by kernel_rfl))
 t0 := Tryz.underlying0
 a0 := Tryz.isAgg0
 z0 := Tryz.sizeOf0
 v0 := Tryz.zeroValue0
 t3 := Tryz.underlying3
 a3 := Tryz.isAgg3
 z3 := Tryz.sizeOf3
 v3 := Tryz.zeroValue3
 t4 := Tryz.underlying4
 a4 := Tryz.isAgg4
 z4 := Tryz.sizeOf4
 v4 := Tryz.zeroValue4
 t21 := Tryz.underlying21
 a21 := Tryz.isAgg21
 z21 := Tryz.sizeOf21
 v21 := Tryz.zeroValue21
 t46 := Tryz.underlying48
 a46 := Tryz.isAgg48
 z46 := Tryz.sizeOf48
 v46 := Tryz.zeroValue48
 t49 := Tryz.underlying291
 a49 := Tryz.isAgg291
 z49 := Tryz.sizeOf291
 v49 := Tryz.zeroValue291
 t51 := Tryz.underlying33
 a51 := Tryz.isAgg33
 z51 := Tryz.sizeOf33
 v51 := Tryz.zeroValue33
 t141 := Tryz.underlying275
 a141 := Tryz.isAgg275
 z141 := Tryz.sizeOf275
 v141 := Tryz.zeroValue275
 t193 := Tryz.underlying287
 a193 := Tryz.isAgg287
 z193 := Tryz.sizeOf287
 v193 := Tryz.zeroValue287
 t194 := Tryz.underlying288
 a194 := Tryz.isAgg288
 z194 := Tryz.sizeOf288
 v194 := Tryz.zeroValue288
 t196 := Tryz.underlying290
 a196 := Tryz.isAgg290
 z196 := Tryz.sizeOf290
 v196 := Tryz.zeroValue290
 t198 := Tryz.underlying293
 a198 := Tryz.isAgg293
 z198 := Tryz.sizeOf293
 v198 := Tryz.zeroValue293
 t201 := Tryz.underlying296
 a201 := Tryz.isAgg296
 z201 := Tryz.sizeOf296
 v201 := Tryz.zeroValue296
 t226 := Tryz.underlying300
 a226 := Tryz.isAgg300
 z226 := Tryz.sizeOf300
 v226 := Tryz.zeroValue300
 t227 := Tryz.underlying301
 a227 := Tryz.isAgg301
 z227 := Tryz.sizeOf301
 v227 := Tryz.zeroValue301
 g6 := by kernel_rfl }
open Go.RowKit Go.Lib in
theorem Tryz.unicode_IsSpace_any (r : Int) (w : World) (hlo : -2147483648 ≤ r) (hhi : r ≤ 2147483647) (hW : Lib.WhiteTab 5 w) :
  Calls Tryz.prog 173 #[.int .i32 r] w fun e w' => e = .returned (.bool (Lib.isSpaceZ r)) ∧ Below w.heap.size w w' := Any.unicode_IsSpace_any Tryz.lays199 r w hlo hhi hW
open Go.RowKit Go.Lib in
theorem Tryz.strings_TrimLeftFunc_grows (g : Nat) (lb : Array Value) (eg : ∀ args w, (callFunc g args).run Tryz.prog w = .ok (.enter g args) w) (p : Nat → Bool) (s : ByteArray) (w : World) (hp : PredGrows Tryz.prog g lb p w) :
  Calls Tryz.prog 172 #[.string s, .func (.func g) #[] lb] w fun e w' => e = .returned (.string (Lib.trimLeftF p s)) ∧ Below w.heap.size w w' := Any.strings_TrimLeftFunc_grows Tryz.lays272 g lb eg p s w hp
end Go.Proofs
namespace Go.Proofs.YtocajelknojkbaaGreatDoor
open Go.Lib (hid)
open Go.RowKit
abbrev Bytes := List UInt8
theorem heap_lt {w : World} {g : Nat} {o : Obj} (h : w.heap[g]? = some o) : g < w.heap.size := (Array.getElem?_eq_some_iff.1 h).1
theorem cell_at_below {w w' : World} {a : Addr} {v : Value} (hc : w.cell? a = some v) (hb : Below w.heap.size w w') : w'.cell? a = some v := (hb.cell (World.block_lt_of_cell? w a hc)).trans hc
theorem wrap64_add {j : Nat} (h : j < 9223372036854775807) : wrap64 ((j : Int) + 1) = (j + 1 : Nat) := by
 unfold wrap64
 omega
theorem meas_step {n j : Nat} {v : Int} (h : j + 1 ≤ n) (hv : v = ((j + 1 : Nat) : Int)) : n - (intOf (.int .i64 v)).toNat < n - (intOf (.int .i64 j)).toNat := by
 subst hv
 simp only [intOf]
 omega
theorem ba_list (s : ByteArray) : s.toList = s.data.toList := Lib.toList_data s
theorem ne_lit {s : ByteArray} {l : Bytes} (h : s ≠ ⟨l.toArray⟩) : (s.toList == l) = false := by
 rw [Bool.eq_false_iff]
 intro e
 have e1 : s.toList = l := by simpa using e
 exact h (Go.WideShapes.bytes_inj (by rw [← ba_list, e1]))
theorem take_step {α : Type} (l : List α) (k : Nat) (h : k < l.length) : l.take (k + 1) = l.take k ++ [l[k]] := List.take_succ_eq_append_getElem h
theorem sz (l : Bytes) : (⟨l.toArray⟩ : ByteArray).size = l.length := by show l.toArray.size = _; simp
theorem dl (s : ByteArray) : s.size = s.data.toList.length := (Array.length_toList).symm
theorem ret_bool {x y : Bool} (h : x = y) : Ending.returned (.bool x) = .returned (.bool y) := by rw [h]
abbrev NA (T : TypeId) (s : String) : Prop := ∀ (a : Addr) (w : World), (nilAhead 467 T (.pointer (some a)) s).run Tryz.prog w = .ok (some false) w
abbrev ME (T : TypeId) (s : String) (f : Nat) : Prop := ∀ (a : Addr) (w : World), (method 467 T (.pointer (some a)) s).run Tryz.prog w = .ok (f, .pointer (some a)) w
instance : Coe Unit Value := ⟨fun _ => .slice none 0 0⟩
instance : Coe Bool Value := ⟨.bool⟩
def BW (n0 b : Nat) (bs : Bytes) (w : World) : Prop := Lib.IsBuilderF 166 5 n0 b (Lib.byteCells bs) w
def WK (n0 b : Nat) (w w' : World) : Prop := Below n0 w w' ∧ Lib.OthersKept 5 (some b) w w'
theorem WK.refl (n0 b : Nat) (w : World) : WK n0 b w w := ⟨Below.refl _ _, Lib.OthersKept.refl _ _ _⟩
theorem WK.trans {n0 b : Nat} {w w1 w2 : World} (h : WK n0 b w w1) (k : WK n0 b w1 w2) : WK n0 b w w2 := ⟨h.1.trans k.1, h.2.trans k.2⟩
theorem WK.drew {n0 b : Nat} {w w1 : World} (h : WK n0 b w w1) : WK n0 b w w1.drew := ⟨h.1.drew, h.2.drew⟩
theorem WK.mono {n0 n1 b : Nat} {w w1 : World} (h : WK n0 b w w1) (hn : n1 ≤ n0) : WK n1 b w w1 := ⟨h.1.mono hn, h.2⟩
theorem WK.of_below {n0 b : Nat} {w w1 : World} (h : Below w.heap.size w w1) (hn : n0 ≤ w.heap.size) : WK n0 b w w1 :=
 ⟨h.mono hn, fun k _ hk _ _ => (h.block k (heap_lt hk)).trans hk⟩
theorem BW.lt {n0 b : Nat} {bs : Bytes} {w : World} (h : BW n0 b bs w) : n0 ≤ b ∧ b < w.heap.size := by
 rcases h with ⟨h1, v, h2, _⟩ | ⟨h1, v, h2, _⟩ <;> exact ⟨h1, heap_lt h2⟩
theorem BW.drew {n0 b : Nat} {bs : Bytes} {w : World} (h : BW n0 b bs w) : BW n0 b bs w.drew := h
theorem BW.below {n0 b : Nat} {bs : Bytes} {w w1 : World} (h : BW n0 b bs w) (hb : Below w.heap.size w w1) : BW n0 b bs w1 := by
 have key : ∀ p, Lib.BuilderAtF 166 5 n0 b p (Lib.byteCells bs) w → Lib.BuilderAtF 166 5 n0 b p (Lib.byteCells bs) w1 := by
  rintro p ⟨h1, v, h2, h3, h4⟩
  refine ⟨h1, v, (hb.block b (heap_lt h2)).trans h2, ?_, h4⟩
  obtain ⟨hl, h5⟩ := h3
  refine ⟨hl, ?_⟩
  rcases h5 with h5 | ⟨g, cap, cur, fz, e, hg, hh, r⟩
  ·exact .inl h5
  ·exact .inr ⟨g, cap, cur, fz, e, hg, (hb.block g (heap_lt hh)).trans hh, r⟩
 rcases h with h | h
 ·exact .inl (key _ h)
 ·exact .inr (key _ h)
theorem BW.fresh (w : World) : BW w.heap.size w.heap.size [] (w.alloc (.cells #[.pointer none, .slice none 0 0] 166)) := by
 have := Lib.fresh_isBuilder 166 5 w
 rcases this with h | h
 ·exact .inl (Lib.BuilderAtF.of h)
 ·exact .inr (Lib.BuilderAtF.of h)
theorem WK.blk {n0 b g : Nat} {w w1 : World} {cs : Array Value} {t : TypeId} {fz : Nat × Nat} (h : WK n0 b w w1) (hg : w.heap[g]? = some (.cells cs t fz)) (hb : g ≠ b) (ht : t ≠ 5) : w1.heap[g]? = some (.cells cs t fz) :=
 h.2 g _ hg (by simpa using hb) (fun c f e => by injection e with _ e _; exact ht e)
theorem BW.ne_blk {n0 b g : Nat} {bs : Bytes} {w : World} {cs : Array Value} {t : TypeId} {fz : Nat × Nat} (h : BW n0 b bs w) (hg : w.heap[g]? = some (.cells cs t fz)) (ht : t ≠ 166) : g ≠ b := by
 rintro rfl
 rcases h with ⟨h1, v, h2, _⟩ | ⟨h1, v, h2, _⟩ <;> (rw [h2] at hg; injection hg with hg; injection hg with _ hg _; exact ht hg.symm)
theorem builder_size : (Tryz.prog.info? 166).map (·.size) = some 2 := by kernel_rfl
theorem byte_info : (Tryz.prog.info? 5).map (fun i => (i.zero, i.size, i.bytes)) = some (some (.int .u8 0), 1, 1) := by kernel_rfl
theorem copyCheck_fresh (b : Nat) (w : World) (h0 : w.cell? ⟨b, 0, none⟩ = some (.pointer none)) (hsh : w.shape? b = some (166, 2)) (hfz : w.frozen? ⟨b, 0, none⟩ = false) :
  Calls Tryz.prog 122 #[.pointer (some ⟨b, 0, none⟩)] w fun e w' => e = .returned (.tuple #[]) ∧ w' = w.setCell ⟨b, 0, none⟩ (.pointer (some ⟨b, 0, none⟩)) := by
 obtain ⟨j, hj, hjs⟩ := Option.map_eq_some_iff.1 builder_size
 go_enter Tryz.func122, Tryz.ntmps122
 go_wp2
 rw [Lib.run_to_unsafe w ⟨b, 0, none⟩ Tryz.underlying164 Tryz.underlying221 hj (by rw [hjs]; decide) hsh (Nat.zero_lt_succ 1)]
 simp only [Result.andThen]
 rw [Oper.upon_value]
 go_wp2
 rw [run_callFunc_extern Tryz.func136 (by kernel_rfl) (by kernel_rfl) (by kernel_rfl) (e := Extern.AbiNoEscape.same) (by kernel_rfl)]
 rw [Lib.run_noEscape]
 simp only [Result.andThen]
 rw [Oper.upon_value]
 go_wp2
 rw [Lib.run_from_unsafe w ⟨b, 0, none⟩ Tryz.underlying221 Tryz.underlying164 hj hsh (by kernel_rfl)]
 simp only [Result.andThen]
 rw [Oper.upon_value]
 go_wp2
 go_end0
 exact ⟨rfl, rfl⟩
theorem copyCheck_used (b : Nat) (w : World) (h0 : w.cell? ⟨b, 0, none⟩ = some (.pointer (some ⟨b, 0, none⟩))) :
  Calls Tryz.prog 122 #[.pointer (some ⟨b, 0, none⟩)] w fun e w' => e = .returned (.tuple #[]) ∧ w' = w := by
 obtain ⟨j, hj, _⟩ := Option.map_eq_some_iff.1 builder_size
 go_enter Tryz.func122, Tryz.ntmps122
 go_wp2
 rw [Lib.run_neq_ptr_same w _ Tryz.underlying164 hj]
 go_wp2
 go_end0
 exact ⟨rfl, rfl⟩
theorem copyCheck_any (n0 b : Nat) (bs : Bytes) (w : World) (h : BW n0 b bs w) :
  Calls Tryz.prog 122 #[.pointer (some ⟨b, 0, none⟩)] w fun e w' => e = .returned (.tuple #[]) ∧
   Lib.BuilderAtF 166 5 n0 b (.pointer (some ⟨b, 0, none⟩)) (Lib.byteCells bs) w' ∧ WK n0 b w w' := by
 rcases h with h | h
 ·refine (copyCheck_fresh b w h.cell0 h.shape h.frozen0).mono ?_
  rintro e w' ⟨rfl, rfl⟩
  exact ⟨rfl, h.used _, (Below.refl n0 w).setCell (p := ⟨b, 0, none⟩) h.1 _, (Lib.OthersKept.refl _ _ w).setCell ⟨b, 0, none⟩ rfl _⟩
 ·refine (copyCheck_used b w h.cell0).mono ?_
  rintro e w' ⟨rfl, rfl⟩
  exact ⟨rfl, h, WK.refl _ _ _⟩
theorem ws_any (n0 b : Nat) (bs : Bytes) (s : ByteArray) (w : World) (h : BW n0 b bs w) (hl : bs.length + s.size ≤ 140737488355328) :
  Calls Tryz.prog 105 #[.pointer (some ⟨b, 0, none⟩), .string s] w fun e w' => e = .returned (.tuple #[.int .i64 s.size, .nilIface]) ∧ BW n0 b (bs ++ s.data.toList) w' ∧ WK n0 b w w' := by
 have hlt := h.lt
 obtain ⟨i0, hi, hz0, hz1, hz2⟩ := info_parts byte_info
 go_enter Tryz.func105, Tryz.ntmps105
 go_wp2_with (go_at_call 122; refine (copyCheck_any n0 b bs _ h).mono ?_)
 rintro e w1 ⟨rfl, h1, hk1⟩
 have hb1 := hk1.1
 obtain ⟨hB, v, hbk, hown, hne⟩ := h1
 have c0 : w1.cell? ⟨b, 0, none⟩ = some (.pointer (some ⟨b, 0, none⟩)) := by rw [Lib.cell_of_heap hbk]; rfl
 have c1 : w1.cell? ⟨b, 1, none⟩ = some v := by rw [Lib.cell_of_heap hbk]; rfl
 go_wp2_with (at_builtin; refine Lib.wpList_append_own_stringF _ rfl _ _ 22 9 rfl n0 5 i0 Tryz.underlying22 Tryz.underlying9 hi hz0 hz1 hz2 _ _ _ rfl hown s rfl ?c3 ?c4 ?c5 ?_)
 case c3 => rw [Lib.byteCells_length]; unfold maxLen; omega
 case c4 => rw [Lib.byteCells_length]; omega
 case c5 => have := hb1.size; omega
 intro v' w2 hown' hgrow _
 have hlt1 : b < w1.heap.size := heap_lt hbk
 have hb2 : w2.heap[b]? = some (.cells #[.pointer (some ⟨b, 0, none⟩), v] 166 (0, 0)) := by
  rw [hgrow.block b hlt1 (fun e => hne e.symm)]
  exact hbk
 have d0 : w2.cell? ⟨b, 0, none⟩ = some (.pointer (some ⟨b, 0, none⟩)) := by rw [Lib.cell_of_heap hb2]; rfl
 have d1 : w2.cell? ⟨b, 1, none⟩ = some v := by rw [Lib.cell_of_heap hb2]; rfl
 have f1 : w2.frozen? ⟨b, 1, none⟩ = false := Lib.frozen_of_heap hb2 1
 obtain ⟨ao, n', cap, rfl⟩ : ∃ ao n' cap, v' = .slice ao n' cap := by
  rcases hown'.2 with ⟨hv, _⟩ | ⟨g, cap, cur, fz, hv, _⟩
  ·exact ⟨_, _, _, hv⟩
  ·exact ⟨_, _, _, hv⟩
 go_wp2
 go_ret2
 refine ⟨rfl, .inr ?_, ?_, (hk1.2.grown hgrow (Lib.ownsRowF_kind hown)).setCell ⟨b, 1, none⟩ rfl _⟩
 ·rw [Lib.byteCells_append]
  exact Lib.BuilderAtF.put (T := 166) (e := 5) hB hb2 (bs' := Lib.byteCells bs ++ Lib.byteCells s.data.toList) (by simpa [Lib.strCells_length, Lib.strCells_eq, Lib.byteCells_length] using hown') (by decide)
 ·exact (hb1.grown hgrow (by have := hb1.size; omega) (fun k hk => (hown.lt k hk).1)).setCell (p := ⟨b, 1, none⟩) hB _
theorem wb_any (n0 b : Nat) (bs : Bytes) (c : UInt8) (w : World) (h : BW n0 b bs w) (hl : bs.length + 1 ≤ 140737488355328) :
  Calls Tryz.prog 131 #[.pointer (some ⟨b, 0, none⟩), .int .u8 c.toNat] w fun e w' => e = .returned .nilIface ∧ BW n0 b (bs ++ [c]) w' ∧ WK n0 b w w' := by
 have hlt := h.lt
 obtain ⟨i0, hi, hz0, hz1, hz2⟩ := info_parts byte_info
 go_enter Tryz.func131, Tryz.ntmps131
 go_wp2_with (go_at_call 122; refine (copyCheck_any n0 b bs _ h).mono ?_)
 rintro e w1 ⟨rfl, h1, hk1⟩
 have hb1 := hk1.1
 obtain ⟨hB, v, hbk, hown, hne⟩ := h1
 have c0 : w1.cell? ⟨b, 0, none⟩ = some (.pointer (some ⟨b, 0, none⟩)) := by rw [Lib.cell_of_heap hbk]; rfl
 have c1 : w1.cell? ⟨b, 1, none⟩ = some v := by rw [Lib.cell_of_heap hbk]; rfl
 go_wp2_with (at_builtin; refine wpList_append_ownF _ rfl _ _ 22 rfl n0 5 i0 (.int .u8 0) 1 1 Tryz.underlying22 hi hz0 hz1 hz2 rfl (by decide) _ _ _ rfl (hown.alloc _) ⟨w1.heap.size, 0, none⟩ 1 1 [.int .u8 c.toNat] rfl rfl ?c1 ?c2 ?c3 ?c4 ?c5 ?_)
 case c1 =>
  intro j u hj
  match j, hj with
  | 0, hj => simp at hj; subst hj; simp [Addr.add]
 case c2 => intro u hu; simp at hu; subst hu; rfl
 case c3 => rw [Lib.byteCells_length]; unfold maxLen; omega
 case c4 => rw [Lib.byteCells_length]; omega
 case c5 => have := hb1.size; simp; omega
 intro v' w2 hown' hgrow _
 have hlt1 : b < w1.heap.size := heap_lt hbk
 have hb2 : w2.heap[b]? = some (.cells #[.pointer (some ⟨b, 0, none⟩), v] 166 (0, 0)) := by
  rw [hgrow.block b (by simp; omega) (fun e => hne e.symm), Lib.alloc_old w1 _ b hlt1]
  exact hbk
 have d0 : w2.cell? ⟨b, 0, none⟩ = some (.pointer (some ⟨b, 0, none⟩)) := by rw [Lib.cell_of_heap hb2]; rfl
 have d1 : w2.cell? ⟨b, 1, none⟩ = some v := by rw [Lib.cell_of_heap hb2]; rfl
 have f1 : w2.frozen? ⟨b, 1, none⟩ = false := Lib.frozen_of_heap hb2 1
 obtain ⟨ao, n', cap, rfl⟩ : ∃ ao n' cap, v' = .slice ao n' cap := by
  rcases hown'.2 with ⟨hv, _⟩ | ⟨g, cap, cur, fz, hv, _⟩
  ·exact ⟨_, _, _, hv⟩
  ·exact ⟨_, _, _, hv⟩
 go_wp2
 go_ret
 refine ⟨rfl, .inr ?_, ?_, ((hk1.2.alloc _).grown hgrow (Lib.ownsRowF_kind (hown.alloc _))).setCell ⟨b, 1, none⟩ rfl _⟩
 ·have e : Lib.byteCells (bs ++ [c]) = Lib.byteCells bs ++ [.int .u8 c.toNat] := by rw [Lib.byteCells_append]; rfl
  rw [e]
  exact Lib.BuilderAtF.put (T := 166) (e := 5) hB hb2 (bs' := Lib.byteCells bs ++ [.int .u8 c.toNat]) (by simpa [Lib.byteCells_length] using hown') (by decide)
 ·exact ((hb1.alloc (by have := hb1.size; omega) _).grown hgrow (by have := hb1.size; simp; omega) (fun k hk => (hown.lt k hk).1)).setCell (p := ⟨b, 1, none⟩) hB _
theorem bstr_any (n0 b : Nat) (bs : Bytes) (w : World) (h : BW n0 b bs w) :
  Calls Tryz.prog 100 #[.pointer (some ⟨b, 0, none⟩)] w fun e w' => e = .returned (.string ⟨bs.toArray⟩) ∧ BW n0 b bs w' ∧ WK n0 b w w' := by
 have hlt := h.lt
 refine (Tryz.Builder_String_any_k n0 b bs w h (by omega)).mono ?_
 rintro e w' ⟨rfl, h1, h2, h3⟩
 exact ⟨rfl, h1, h2, h3⟩
theorem stail {P : Program} {id : Nat} {Q : Exit → Act → World → Prop} {a : Act} {w : World} {l : List Oper} (n : Nat) (hm : P.follows .mixedOrders = true) (hB : Region.lexTailB .any l.toArray n = true)
  (h : wpStill P l.toArray w.drew (fun a' => wpList P l.toArray Q (l.drop n) a' w.drew) (l.take n) a) : (Code.region id l.toArray true).wp P Q a w :=
 wp_region_still_tail n hm hB h
theorem below_set0 {B : Nat} {w w1 : World} (h : Below B w w1) (i : Nat) (v : Value) : Below B w (w1.setCell ⟨B, i, none⟩ v) := h.setCell (Nat.le_refl _) v
theorem ws_nilAhead : NA 164 "WriteString" := fun _ _ => by kernel_rfl
theorem ws_method : ME 164 "WriteString" 105 := fun _ _ => by kernel_rfl
structure G0 (w : World) : Prop where
 z0 : w.cell? ⟨2, 0, none⟩ = some (.pointer none)
 z4 : ∃ d o, w.cell? ⟨8, 0, none⟩ = some (.pointer (some ⟨d, o, none⟩)) ∧ w.cell? ⟨d, o, none⟩ = some (.bool false) ∧ w.cell? ⟨d, o + 1, none⟩ = some (.string ⟨#[]⟩)
 pow10 : Lib.TabIs Tryz.prog w "internal/strconv.uint64pow10" .u64 Lib.pow10Tab
 white : Lib.WhiteTab 5 w
 esyn : ∃ t p, w.cell? ⟨6, 0, none⟩ = some (.iface t p)
 eran : ∃ t p, w.cell? ⟨7, 0, none⟩ = some (.iface t p)
theorem cell_below {w w' : World} (hb : Below w.heap.size w w') {a : Addr} {v : Value} (hc : w.cell? a = some v) : w'.cell? a = some v := (hb.cell (World.block_lt_of_cell? w a hc)).trans hc
theorem tab_below {n : String} {g : Nat} {k : IntKind} {zs : List Int} {w w' : World} (hg : Tryz.prog.globalNamed n = some g) (h : Lib.TabIs Tryz.prog w n k zs) (hb : Below w.heap.size w w') : Lib.TabIs Tryz.prog w' n k zs := by
 unfold Lib.TabIs World.var? at h ⊢
 rw [hg] at h ⊢
 simp only [Option.bind_some] at h ⊢
 have hlt : g < w.heap.size := by
  rcases Nat.lt_or_ge g w.heap.size with h' | h'
  ·exact h'
  ·rw [Array.getElem?_eq_none h'] at h; cases h
 rw [hb.block g hlt]
 exact h
theorem gPow : Tryz.prog.globalNamed "internal/strconv.uint64pow10" = some 1 := by kernel_rfl
theorem G0.below {w w' : World} (h : G0 w) (hb : Below w.heap.size w w') : G0 w' := by
 obtain ⟨h1, ⟨d, o, h2, h3, h4⟩, h5, h6, ⟨t, p, h7⟩, ⟨t', p', h8⟩⟩ := h
 exact ⟨cell_below hb h1, ⟨d, o, cell_below hb h2, cell_below hb h3, cell_below hb h4⟩, tab_below gPow h5 hb, WhiteTab_below h6 hb, ⟨t, p, cell_below hb h7⟩, ⟨t', p', cell_below hb h8⟩⟩
def Gl (N : Nat) (w : World) : Prop := ∃ w0, w0.heap.size = N ∧ G0 w0 ∧ Below N w0 w
theorem Gl.get {N : Nat} {w : World} (h : Gl N w) : G0 w := by
 obtain ⟨w0, rfl, h1, h2⟩ := h
 exact h1.below h2
theorem Gl.le {N : Nat} {w : World} (h : Gl N w) : N ≤ w.heap.size := by
 obtain ⟨w0, rfl, h1, h2⟩ := h
 exact h2.size
theorem Gl.below {N n0 : Nat} {w w' : World} (h : Gl N w) (hb : Below n0 w w') (hn : N ≤ n0) : Gl N w' := by
 obtain ⟨w0, h0, h1, h2⟩ := h
 exact ⟨w0, h0, h1, h2.trans (hb.mono hn)⟩
theorem Gl.step {N : Nat} {w w' : World} (h : Gl N w) (hb : Below w.heap.size w w') : Gl N w' := h.below hb h.le
theorem as16_any (lo : Int) (z : Value) (w : World) (h0 : 281470681743360 ≤ lo) (hn : lo < 281474976710656) :
  Calls Tryz.prog 167 #[.agg #[.int .u64 0, .int .u64 lo, z]] w fun e w' => ∃ a b c d : Int,
   e = .returned (.agg #[.int .u8 0, .int .u8 0, .int .u8 0, .int .u8 0, .int .u8 0, .int .u8 0, .int .u8 0, .int .u8 0, .int .u8 0, .int .u8 0, .int .u8 255, .int .u8 255, .int .u8 a, .int .u8 b, .int .u8 c, .int .u8 d]) ∧ Below w.heap.size w w' := by
 have e0 : lo / 72057594037927936 = 0 := by omega
 have e1 : lo / 281474976710656 = 0 := by omega
 have e2 : lo / 1099511627776 = 255 := by omega
 have e3 : lo / 4294967296 % 256 = 255 := by omega
 have HE := hid (And.intro e0 (And.intro e1 (And.intro e2 e3)))
 clear e0 e1 e2 e3
 go_enter Tryz.func167, Tryz.ntmps167
 go_wp2_with fail
 refine stail 4 (by kernel_rfl) (by kernel_rfl) ?_
 simp only [List.take_succ_cons, List.take_zero, List.drop_succ_cons, List.drop_zero]
 repeat still_step
 refine wpStill_nil ?_
 go_wp2
 go_end0
 go_wp2_with fail
 refine stail 4 (by kernel_rfl) (by kernel_rfl) ?_
 simp only [List.take_succ_cons, List.take_zero, List.drop_succ_cons, List.drop_zero]
 repeat still_step
 refine wpStill_nil ?_
 go_wp2
 go_end0
 go_wp2
 obtain ⟨e0, e1, e2, e3⟩ := HE.out
 rw [e0, e1, e2, e3]
 refine bodyPost_ret (v := ?_) (by simp [results, Tryz.results167, go_sem]; rfl) rfl ⟨_, _, _, _, rfl, ?_⟩
 exact ((((Below.refl _ _).alloc (Nat.le_refl _) _).alloc (by simp) _).drew).drew
theorem or4 (a b c d : Int) (ha : 0 ≤ a ∧ a ≤ 255) (hb : 0 ≤ b ∧ b ≤ 255) (hc : 0 ≤ c ∧ c ≤ 255) (hd : 0 ≤ d ∧ d ≤ 255) :
  bits BinOp.or IntKind.u64 (bits BinOp.or IntKind.u64 (bits BinOp.or IntKind.u64 (bits BinOp.or IntKind.u64 281470681743360 (a * 16777216)) (b * 65536)) (c * 256)) d = 281470681743360 + a * 16777216 + b * 65536 + c * 256 + d := by
 have hk : ∀ n : Int, 0 ≤ n → n < 2 ^ 63 → IntKind.u64.wrap n = n := fun n h0 h1 => by rw [IntKind.wrap_u64]; omega
 rw [bits_join .u64 63 (by decide) hk 32 281470681743360 (a * 16777216) (by omega) (by omega) (by omega) (by omega) (by omega) (by omega)]
 rw [bits_join .u64 63 (by decide) hk 24 (281470681743360 + a * 16777216) (b * 65536) (by omega) (by omega) (by omega) (by omega) (by omega) (by omega)]
 rw [bits_join .u64 63 (by decide) hk 16 (281470681743360 + a * 16777216 + b * 65536) (c * 256) (by omega) (by omega) (by omega) (by omega) (by omega) (by omega)]
 rw [bits_join .u64 63 (by decide) hk 8 (281470681743360 + a * 16777216 + b * 65536 + c * 256) d (by omega) (by omega) (by omega) (by omega) (by omega) (by omega)]
theorem from4_any (a b c d : Int) (z : Option Addr) (w : World) (hz : w.cell? ⟨8, 0, none⟩ = some (.pointer z)) (ha : 0 ≤ a ∧ a ≤ 255) (hb : 0 ≤ b ∧ b ≤ 255) (hc : 0 ≤ c ∧ c ≤ 255) (hd : 0 ≤ d ∧ d ≤ 255) :
  Calls Tryz.prog 188 #[.agg #[.int .u8 a, .int .u8 b, .int .u8 c, .int .u8 d]] w fun e w' => ∃ lo : Int,
   e = .returned (.agg #[.int .u64 0, .int .u64 lo, .pointer z]) ∧ 281470681743360 ≤ lo ∧ lo < 281474976710656 ∧ Below w.heap.size w w' := by
 have l0 : 8 < w.heap.size := World.block_lt_of_cell? w _ hz
 have HE := hid (or4 a b c d ha hb hc hd)
 go_enter Tryz.func188, Tryz.ntmps188
 go_wp2
 rw [HE.out]
 refine bodyPost_ret (v := ?_) (by simp [results, Tryz.results188, go_sem]; rfl) rfl ⟨_, rfl, by omega, by omega, ?_⟩
 exact ((Below.refl _ _).alloc (Nat.le_refl _) _).alloc (by simp) _
theorem zoneField (a : Value) (w : World) : (Instr.field 263 (.agg #[a, .string ⟨#[]⟩]) 1).run Tryz.prog w = .ok (.string ⟨#[]⟩) w := by kernel_rfl
theorem eqHandle (a : Addr) (w : World) : (binOp .eql 250 (.agg #[.pointer (some a)]) (.agg #[.pointer none])).run Tryz.prog w = .ok (.bool false) w := by kernel_rfl
theorem hval_any (d o : Nat) (w : World) (h1 : w.cell? ⟨d, o, none⟩ = some (.bool false)) (h2 : w.cell? ⟨d, o + 1, none⟩ = some (.string ⟨#[]⟩)) :
  Calls Tryz.prog 177 #[.agg #[.pointer (some ⟨d, o, none⟩)]] w fun e w' =>
   e = .returned (.agg #[.bool false, .string ⟨#[]⟩]) ∧ Below w.heap.size w w' := by
 have l1 : d < w.heap.size := World.block_lt_of_cell? w _ h1
 have l2 : d < w.heap.size + 1 := by omega
 go_enter Tryz.func177, Tryz.ntmps177
 go_wp2
 refine bodyPost_ret (v := ?_) (by simp [results, Tryz.results177, go_sem]; rfl) rfl ⟨rfl, ?_⟩
 exact ((Below.refl _ _).alloc (Nat.le_refl _) _).alloc (by simp) _
theorem zone_any (hi lo : Int) (d o : Nat) (w : World) (h0 : w.cell? ⟨2, 0, none⟩ = some (.pointer none)) (h1 : w.cell? ⟨d, o, none⟩ = some (.bool false)) (h2 : w.cell? ⟨d, o + 1, none⟩ = some (.string ⟨#[]⟩)) :
  Calls Tryz.prog 166 #[.agg #[.int .u64 hi, .int .u64 lo, .pointer (some ⟨d, o, none⟩)]] w fun e w' =>
   e = .returned (.string ⟨#[]⟩) ∧ Below w.heap.size w w' := by
 have l0 : 2 < w.heap.size := World.block_lt_of_cell? w _ h0
 have l1 : d < w.heap.size := World.block_lt_of_cell? w _ h1
 have hq := eqHandle ⟨d, o, none⟩
 have hf := zoneField (.bool false)
 go_enter Tryz.func166, Tryz.ntmps166
 go_wp2_with (go_at_call 177; refine (hval_any d o _ ?_ ?_).mono ?_)
 ·rw [World.cell?_alloc_lt _ _ _ l1]; exact h1
 ·rw [World.cell?_alloc_lt _ _ _ l1]; exact h2
 rintro e w1 ⟨rfl, hb⟩
 go_wp2
 go_ret
 exact ⟨rfl, ((Below.refl _ _).alloc (Nat.le_refl _) _).trans (hb.mono (by simp))⟩
def Four (g : Nat) (w : World) : Prop := ∃ a b c d : Int, (0 ≤ a ∧ a ≤ 255) ∧ (0 ≤ b ∧ b ≤ 255) ∧ (0 ≤ c ∧ c ≤ 255) ∧ (0 ≤ d ∧ d ≤ 255) ∧ w.heap[g]? = some (.cells #[.int .u8 a, .int .u8 b, .int .u8 c, .int .u8 d] 276 (0, 0))
theorem Four.cell {g : Nat} {w : World} (h : Four g w) (i : Nat) (hi : i < 4) : ∃ x, w.cell? ⟨g, i, none⟩ = some (.int .u8 x) := by
 obtain ⟨a, b, c, d, _, _, _, _, h⟩ := h
 match i, hi with
 | 0, _ => exact ⟨a, by simp [World.cell?, h]⟩
 | 1, _ => exact ⟨b, by simp [World.cell?, h]⟩
 | 2, _ => exact ⟨c, by simp [World.cell?, h]⟩
 | 3, _ => exact ⟨d, by simp [World.cell?, h]⟩
theorem Four.frozen {g : Nat} {w : World} (h : Four g w) (i : Nat) : w.frozen? ⟨g, i, none⟩ = false := by
 obtain ⟨a, b, c, d, _, _, _, _, h⟩ := h
 simp [World.frozen?, h]
theorem Four.put {g : Nat} {w : World} (h : Four g w) (i : Nat) (hi : i < 4) (x : Int) (hx : 0 ≤ x ∧ x ≤ 255) : Four g (w.setCell ⟨g, i, none⟩ (.int .u8 x)) := by
 obtain ⟨a, b, c, d, h1, h2, h3, h4, h⟩ := h
 match i, hi with
 | 0, _ => exact ⟨x, b, c, d, hx, h2, h3, h4, by simp [World.setCell, Array.getElem?_modify, h]⟩
 | 1, _ => exact ⟨a, x, c, d, h1, hx, h3, h4, by simp [World.setCell, Array.getElem?_modify, h]⟩
 | 2, _ => exact ⟨a, b, x, d, h1, h2, hx, h4, by simp [World.setCell, Array.getElem?_modify, h]⟩
 | 3, _ => exact ⟨a, b, c, x, h1, h2, h3, hx, by simp [World.setCell, Array.getElem?_modify, h]⟩
def FieldsPost (g : Nat) (w : World) (e : Ending) (w' : World) : Prop := ∃ ev, e = .returned ev ∧ (ev = .nilIface ∨ ∃ v, ev = .iface 261 v) ∧ Four g w' ∧ Below g w w'
theorem fields_any (g : Nat) (s : ByteArray) (w : World) (hf : Four g w) (hs : s.size ≤ 9223372036854775807) :
  Calls Tryz.prog 187 #[.string s, .int .i64 0, .int .i64 s.size, .slice (some ⟨g, 0, none⟩) 4 4] w (FieldsPost g w) := by
 go_enter Tryz.func187, Tryz.ntmps187
 go_wp2_with fail
 go_loopw [9, 10, 11, 13] (fun v p d i wr => ∃ kv kp kd ki : Nat, v = .int .i64 kv ∧ p = .int .i64 kp ∧ d = .int .i64 kd ∧ i = .int .i64 ki ∧ kv ≤ 255 ∧ kp ≤ 3 ∧ kd ≤ ki ∧ ki ≤ s.size ∧ Four g wr ∧ Below g w wr) (fun _ _ _ i _ => s.size - (intOf i).toNat)
 case atStart => exact ⟨0, 0, 0, 0, rfl, rfl, rfl, rfl, by omega, by omega, by omega, by omega, hf, Below.refl _ _⟩
 case round =>
  obtain ⟨kv, kp, kd, ki, rfl, rfl, rfl, rfl, h1, h2, h3, h4, hF, hB⟩ := hrel
  have HF := hid hF
  have HB := hid hB
  by_cases hlt : ki < s.size
  ·by_cases hp3 : kp = 3
   ·subst hp3
    clear hF hB
    go_wp2
    all_goals first
     | (go_ret; exact ⟨_, rfl, .inr ⟨_, rfl⟩, HF.out, HB.out⟩)
     | exact ⟨⟨kv * 10 + s[ki].toNat - 48, 3, kd + 1, ki + 1, by congr 1; omega, rfl, by (congr 1; try omega), by (congr 1; try omega), by omega, by omega, by omega, by omega, HF.out, HB.out⟩, by simp [intOf]; omega⟩
   ·obtain ⟨x, hx⟩ := hF.cell kp (by omega)
    have hz := hF.frozen kp
    clear hF hB
    have hp3' : kp < 3 := by omega
    have HP := hid hp3
    clear hp3
    have hq : ¬ (kp : Int) = 3 := by omega
    go_wp2
    all_goals first
     | (go_ret; exact ⟨_, rfl, .inr ⟨_, rfl⟩, HF.out, HB.out⟩)
     | exact ⟨⟨kv * 10 + s[ki].toNat - 48, kp, kd + 1, ki + 1, by congr 1; omega, rfl, by (congr 1; try omega), by (congr 1; try omega), by omega, by omega, by omega, by omega, HF.out, HB.out⟩, by simp [intOf]; omega⟩
     | exact ⟨⟨0, kp + 1, 0, ki + 1, rfl, by congr 1, rfl, by congr 1, by omega, by omega, by omega, by omega, HF.out.put kp (by omega) _ (by omega), HB.out.setCell (p := ⟨g, kp, none⟩) (Nat.le_refl _) _⟩, by simp [intOf]; omega⟩
  ·obtain ⟨x, hx⟩ := hF.cell 3 (by omega)
   have hz := hF.frozen 3
   clear hF hB
   go_wp2
   all_goals first
    | (go_ret; exact ⟨_, rfl, .inr ⟨_, rfl⟩, HF.out, HB.out⟩)
    | (go_ret; exact ⟨_, rfl, .inl rfl, HF.out.put 3 (by omega) _ (by omega), HB.out.setCell (p := ⟨g, 3, none⟩) (Nat.le_refl _) _⟩)
def AddrPost (z : Option Addr) (w : World) (e : Ending) (w' : World) : Prop := ∃ lo z' ev, e = .returned (.tuple #[.agg #[.int .u64 0, .int .u64 lo, .pointer z'], ev]) ∧ Below w.heap.size w w' ∧
 ((∃ T v, ev = .iface T v ∧ lo = 0 ∧ z' = none) ∨ (ev = .nilIface ∧ z' = z ∧ 281470681743360 ≤ lo ∧ lo < 281474976710656))
theorem ipv4_any (z : Option Addr) (s : ByteArray) (w : World) (hz : w.cell? ⟨8, 0, none⟩ = some (.pointer z)) (hs : s.size ≤ 9223372036854775807) :
  Calls Tryz.prog 175 #[.string s] w (AddrPost z w) := by
 have l0 : 8 < w.heap.size := World.block_lt_of_cell? w _ hz
 go_enter Tryz.func175, Tryz.ntmps175
 go_wp2_with (go_at_call 187; refine (fields_any (w.heap.size + 1) s _ ?_ hs).mono ?_)
 ·exact ⟨0, 0, 0, 0, by omega, by omega, by omega, by omega, by rw [show w.heap.size + 1 = (w.alloc (.cells #[.int .u64 0, .int .u64 0, .pointer none] 252)).heap.size from by simp]; exact heap_alloc_new _ _⟩
 rintro e w1 ⟨ev, rfl, hev, ⟨a, b, c, d, h1, h2, h3, h4, h⟩, hb⟩
 have c0 : w1.cell? ⟨w.heap.size + 1, 0, none⟩ = some (.int .u8 a) := by simp [World.cell?, h]
 have c1 : w1.cell? ⟨w.heap.size + 1, 1, none⟩ = some (.int .u8 b) := by simp [World.cell?, h]
 have c2 : w1.cell? ⟨w.heap.size + 1, 2, none⟩ = some (.int .u8 c) := by simp [World.cell?, h]
 have c3 : w1.cell? ⟨w.heap.size + 1, 3, none⟩ = some (.int .u8 d) := by simp [World.cell?, h]
 have hbw : Below w.heap.size w w1 := (((Below.refl _ _).alloc (Nat.le_refl _) _).alloc (by simp) _).trans (hb.mono (by omega))
 have hblk : w1.heap[w.heap.size]? = some (.cells #[.int .u64 0, .int .u64 0, .pointer none] 252 (0, 0)) := by
  rw [hb.block _ (by omega), Below.heap_alloc _ _ _ (by simp)]; exact heap_alloc_new _ _
 have k0 : w1.cell? ⟨w.heap.size, 0, none⟩ = some (.int .u64 0) := by simp [World.cell?, hblk]
 have k1 : w1.cell? ⟨w.heap.size, 1, none⟩ = some (.int .u64 0) := by simp [World.cell?, hblk]
 have k2 : w1.cell? ⟨w.heap.size, 2, none⟩ = some (.pointer none) := by simp [World.cell?, hblk]
 have z0 : w1.frozen? ⟨w.heap.size, 0, none⟩ = false := by simp [World.frozen?, hblk]
 have z1 : w1.frozen? ⟨w.heap.size, 1, none⟩ = false := by simp [World.frozen?, hblk]
 have z2 : w1.frozen? ⟨w.heap.size, 2, none⟩ = false := by simp [World.frozen?, hblk]
 clear h hb
 rcases hev with rfl | ⟨v, rfl⟩
 ·have hz1 := (hbw.cell (p := ⟨8, 0, none⟩) l0).trans hz
  go_wp2_with (go_at_call 188; refine (from4_any a b c d z _ hz1 h1 h2 h3 h4).mono ?_)
  rintro e w2 ⟨lo, rfl, g1, g2, hb2⟩
  have hb2' : Below w.heap.size w1 w2 := hb2.mono hbw.size
  have hlt : w.heap.size < w1.heap.size := heap_lt hblk
  have y : ∀ j, w2.cell? ⟨w.heap.size, j, none⟩ = w1.cell? ⟨w.heap.size, j, none⟩ := fun j => hb2.cell (p := ⟨w.heap.size, j, none⟩) hlt
  have y' : ∀ j, w2.frozen? ⟨w.heap.size, j, none⟩ = w1.frozen? ⟨w.heap.size, j, none⟩ := fun j => hb2.frozen (p := ⟨w.heap.size, j, none⟩) hlt
  rw [← y] at k0 k1 k2
  rw [← y'] at z0 z1 z2
  clear y y'
  go_wp2
  refine bodyPost_ret (v := ?_) (by simp [results, Tryz.results175, go_sem, k0, k1, k2]; rfl) rfl ⟨lo, z, .nilIface, rfl, ?_, .inr ⟨rfl, rfl, g1, g2⟩⟩
  exact (((hbw.trans hb2').setCell (Nat.le_refl _) _).setCell (p := ⟨w.heap.size, 1, none⟩) (Nat.le_refl _) _).setCell (p := ⟨w.heap.size, 2, none⟩) (Nat.le_refl _) _
 ·go_wp2
  refine bodyPost_ret (v := ?_) (by simp [results, Tryz.results175, go_sem, k0, k1, k2]; rfl) rfl ⟨0, none, _, rfl, ?_, .inl ⟨_, _, rfl, rfl, rfl⟩⟩
  exact ((hbw.setCell (Nat.le_refl _) _).setCell (p := ⟨w.heap.size, 1, none⟩) (Nat.le_refl _) _).setCell (p := ⟨w.heap.size, 2, none⟩) (Nat.le_refl _) _
theorem below_new {w : World} (o : Obj) {w1 : World} (hb : Below (w.alloc o).heap.size (w.alloc o) w1) : w1.heap[w.heap.size]? = some o := by
 rw [hb.block _ (by simp)]; exact heap_alloc_new _ _
def NoColon (s : ByteArray) : Prop := ∀ i (h : i < s.size), s[i].toNat ≠ 58 ∧ s[i].toNat ≠ 37
theorem paddr_any (z : Option Addr) (s : ByteArray) (w : World) (hz : w.cell? ⟨8, 0, none⟩ = some (.pointer z)) (hs : s.size ≤ 9223372036854775807) (hn : NoColon s) :
  Calls Tryz.prog 165 #[.string s] w (AddrPost z w) := by
 have l0 : 8 < w.heap.size := World.block_lt_of_cell? w _ hz
 go_enter Tryz.func165, Tryz.ntmps165
 go_wp2_with fail
 go_loop [4] (fun i => ∃ k : Nat, k ≤ s.size ∧ i = .int .i64 k) (fun i => s.size - (intOf i).toNat)
 case atStart => exact ⟨0, Nat.zero_le _, rfl⟩
 case round =>
  obtain ⟨k, hk, rfl⟩ := hrel
  by_cases hlt : k < s.size
  ·have hza : ∀ o, (w.alloc o).cell? ⟨8, 0, none⟩ = some (.pointer z) := fun o => by rw [World.cell?_alloc_lt _ _ _ l0]; exact hz
   have hc58 : ((s[k].toNat : Int) == 58) = false := by have := (hn k hlt).1; simp; omega
   have hc37 : ((s[k].toNat : Int) == 37) = false := by have := (hn k hlt).2; simp; omega
   have HN := hid hn
   clear hn
   by_cases hdot : s[k].toNat = 46
   ·have hc46 : ((s[k].toNat : Int) == 46) = true := by simp; omega
    clear hdot
    go_wp2_with (go_at_call 175; refine (ipv4_any z s _ (hza _) hs).mono ?_)
    rintro e w1 ⟨lo, z', ev, rfl, hb, hev⟩
    have hblk := below_new _ hb
    have k0 : w1.cell? ⟨w.heap.size, 0, none⟩ = some (.int .u64 0) := by simp [World.cell?, hblk]
    have k1 : w1.cell? ⟨w.heap.size, 1, none⟩ = some (.int .u64 0) := by simp [World.cell?, hblk]
    have k2 : w1.cell? ⟨w.heap.size, 2, none⟩ = some (.pointer none) := by simp [World.cell?, hblk]
    have z0 : w1.frozen? ⟨w.heap.size, 0, none⟩ = false := by simp [World.frozen?, hblk]
    have z1 : w1.frozen? ⟨w.heap.size, 1, none⟩ = false := by simp [World.frozen?, hblk]
    have z2 : w1.frozen? ⟨w.heap.size, 2, none⟩ = false := by simp [World.frozen?, hblk]
    have hbw : Below w.heap.size w w1 := ((Below.refl _ _).alloc (Nat.le_refl _) _).trans (hb.mono (by simp))
    have HB := hid hb
    have HE := hid hev
    clear hb hblk hev
    go_wp2
    refine bodyPost_ret (v := ?_) (by simp [results, Tryz.results165, go_sem, k0, k1, k2]; rfl) rfl ⟨lo, z', ev, rfl, ?_, HE.out⟩
    exact ((hbw.setCell (Nat.le_refl _) _).setCell (p := ⟨w.heap.size, 1, none⟩) (Nat.le_refl _) _).setCell (p := ⟨w.heap.size, 2, none⟩) (Nat.le_refl _) _
   ·have hc46 : ((s[k].toNat : Int) == 46) = false := by simp; omega
    clear hdot
    go_wp2
    go_round
    case rel => exact ⟨k + 1, by omega, by go_num⟩
    case measure => simp [intOf]; omega
  ·have HN := hid hn
   clear hn
   go_wp2
   refine bodyPost_ret (v := ?_) (by simp [results, Tryz.results165, go_sem]; rfl) rfl ⟨0, none, _, rfl, ?_, .inl ⟨_, _, rfl, rfl, rfl⟩⟩
   first
    | exact (Below.refl _ _).alloc (Nat.le_refl _) _
    | exact ((((Below.refl _ _).alloc (Nat.le_refl _) _).setCell (p := ⟨w.heap.size, 0, none⟩) (Nat.le_refl _) _).setCell (p := ⟨w.heap.size, 1, none⟩) (Nat.le_refl _) _).setCell (p := ⟨w.heap.size, 2, none⟩) (Nat.le_refl _) _
