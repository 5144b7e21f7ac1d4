/-
  THE SHELF's CONTRACTS of strconv.Itoa and strconv.Atoi at this dump, in plain words (the layings by lay-shelf.mjs and lay-plain.mjs; two kept). The three ends of Atoi as this seat's walks meet them: 'of what was there nothing has turned'.
-/
import Derived.Shelf.LaysM
import Derived.Shelf.LaysC
import Derived.Shelf.Strconv.Itoa3
import Derived.Shelf.Strconv.AtoiAll
import Derived.Shelf.Strconv.ErrVarAll
import Derived.Lib.AppendIntMem
import Derived.Lib.AtoiErrMem
import Derived.Test.Qxb6614734aDoorRows
namespace Go.Proofs
open Go.Shelf
def Tryd.laysM171_ren : Go.Shelf.Ren := ⟨fun | 171 => 12 | 243 => 14 | 246 => 17 | 283 => 23 | 284 => 24 | 285 => 25 | 286 => 26 | 129 => 31 | 317 => 30 | 318 => 32 | 319 => 33 | 320 => 34 | 337 => 37 | 338 => 38 | n => n, fun | 3 => 3 | 9 => 9 | 2 => 2 | 4 => 4 | 171 => 33 | 0 => 0 | 53 => 48 | 37 => 34 | 5 => 5 | 173 => 51 | 212 => 61 | 51 => 62 | 20 => 20 | 213 => 63 | 46 => 32 | 232 => 71 | 233 => 72 | n => n, fun | 17 => 2 | 18 => 3 | 19 => 4 | n => n⟩
theorem Tryd.laysM171 : Go.Proofs.LaysM.n171 Tryd.prog Tryd.laysM171_ren := {
  mixed := by kernel_rfl
  f129 := Tryd.func31.trans (congrArg some (by kernel_rfl))
  f171 := Tryd.func12.trans (congrArg some (by kernel_rfl))
  f243 := Tryd.func14.trans (congrArg some (by kernel_rfl))
  f246 := Tryd.func17.trans (congrArg some (by kernel_rfl))
  f283 := Tryd.func23.trans (congrArg some (by kernel_rfl))
  f284 := Tryd.func24.trans (congrArg some (by kernel_rfl))
  f285 := Tryd.func25.trans (congrArg some (by kernel_rfl))
  f286 := Tryd.func26.trans (congrArg some (by kernel_rfl))
  f317 := Tryd.func30.trans (congrArg some (by kernel_rfl))
  f318 := Tryd.func32.trans (congrArg some (by kernel_rfl))
  f319 := Tryd.func33.trans (congrArg some (by kernel_rfl))
  f320 := Tryd.func34.trans (congrArg some (by kernel_rfl))
  f337 := Tryd.func37.trans (congrArg some (by kernel_rfl))
  f338 := Tryd.func38.trans (congrArg some (by kernel_rfl))
  t0 := Tryd.underlying0
  a0 := Tryd.isAgg0
  z0 := Tryd.sizeOf0
  v0 := Tryd.zeroValue0
  t2 := Tryd.underlying2
  a2 := Tryd.isAgg2
  z2 := Tryd.sizeOf2
  v2 := Tryd.zeroValue2
  t3 := Tryd.underlying3
  a3 := Tryd.isAgg3
  z3 := Tryd.sizeOf3
  v3 := Tryd.zeroValue3
  t4 := Tryd.underlying4
  a4 := Tryd.isAgg4
  z4 := Tryd.sizeOf4
  v4 := Tryd.zeroValue4
  t5 := Tryd.underlying5
  a5 := Tryd.isAgg5
  z5 := Tryd.sizeOf5
  v5 := Tryd.zeroValue5
  t9 := Tryd.underlying9
  a9 := Tryd.isAgg9
  z9 := Tryd.sizeOf9
  v9 := Tryd.zeroValue9
  t20 := Tryd.underlying20
  a20 := Tryd.isAgg20
  z20 := Tryd.sizeOf20
  v20 := Tryd.zeroValue20
  t37 := Tryd.underlying34
  a37 := Tryd.isAgg34
  z37 := Tryd.sizeOf34
  v37 := Tryd.zeroValue34
  t46 := Tryd.underlying32
  a46 := Tryd.isAgg32
  z46 := Tryd.sizeOf32
  v46 := Tryd.zeroValue32
  t51 := Tryd.underlying62
  a51 := Tryd.isAgg62
  z51 := Tryd.sizeOf62
  v51 := Tryd.zeroValue62
  t53 := Tryd.underlying48
  a53 := Tryd.isAgg48
  z53 := Tryd.sizeOf48
  v53 := Tryd.zeroValue48
  t171 := Tryd.underlying33
  a171 := Tryd.isAgg33
  z171 := Tryd.sizeOf33
  v171 := Tryd.zeroValue33
  t173 := Tryd.underlying51
  a173 := Tryd.isAgg51
  z173 := Tryd.sizeOf51
  v173 := Tryd.zeroValue51
  t212 := Tryd.underlying61
  a212 := Tryd.isAgg61
  z212 := Tryd.sizeOf61
  v212 := Tryd.zeroValue61
  t213 := Tryd.underlying63
  a213 := Tryd.isAgg63
  z213 := Tryd.sizeOf63
  t232 := Tryd.underlying71
  a232 := Tryd.isAgg71
  z232 := Tryd.sizeOf71
  v232 := Tryd.zeroValue71
  t233 := Tryd.underlying72
  a233 := Tryd.isAgg72
  z233 := Tryd.sizeOf72
  v233 := Tryd.zeroValue72
  g17 := by kernel_rfl
  g18 := by kernel_rfl
  g19 := by kernel_rfl
  i0 := by kernel_rfl
  i2 := by kernel_rfl
  i3 := by kernel_rfl
  i4 := by kernel_rfl
  i5 := by kernel_rfl
  i9 := by kernel_rfl
  i20 := by kernel_rfl
  i37 := by kernel_rfl
  i46 := by kernel_rfl
  i51 := by kernel_rfl
  i53 := by kernel_rfl
  i171 := by kernel_rfl
  i173 := by kernel_rfl
  i212 := by kernel_rfl
  i232 := by kernel_rfl
  i233 := by kernel_rfl
  m17 := by kernel_rfl
  m18 := by kernel_rfl
  m19 := by kernel_rfl }
def Tryd.laysC172_ren : Go.Shelf.Ren := ⟨fun | 172 => 13 | 244 => 15 | 245 => 16 | 247 => 18 | 279 => 19 | 280 => 20 | 281 => 21 | 282 => 22 | 287 => 27 | 316 => 28 | 171 => 12 | 205 => 29 | 321 => 35 | 322 => 36 | 243 => 14 | 246 => 17 | 283 => 23 | 284 => 24 | 285 => 25 | 286 => 26 | 129 => 31 | 317 => 30 | 318 => 32 | 319 => 33 | 320 => 34 | 337 => 37 | 338 => 38 | n => n, fun | 9 => 9 | 3 => 3 | 75 => 37 | 76 => 38 | 4 => 4 | 5 => 5 | 167 => 42 | 37 => 34 | 0 => 0 | 85 => 43 | 2 => 2 | 168 => 45 | 53 => 48 | 175 => 53 | 46 => 32 | 210 => 57 | 127 => 66 | 145 => 69 | 143 => 67 | 21 => 21 | 171 => 33 | 173 => 51 | 212 => 61 | 51 => 62 | 20 => 20 | 213 => 63 | 232 => 71 | 233 => 72 | 80 => 75 | n => n, fun | 15 => 0 | 16 => 1 | 17 => 2 | 18 => 3 | 19 => 4 | n => n⟩
theorem Tryd.laysC172 : Go.Proofs.LaysC.n172 Tryd.prog Tryd.laysC172_ren := {
  mixed := by kernel_rfl
  f129 := Tryd.func31.trans (congrArg some (by kernel_rfl))
  f171 := Tryd.func12.trans (congrArg some (by kernel_rfl))
  f172 := Tryd.func13.trans (congrArg some (by kernel_rfl))
  f205 := Tryd.func29.trans (congrArg some (by kernel_rfl))
  f243 := Tryd.func14.trans (congrArg some (by kernel_rfl))
  f244 := Tryd.func15.trans (congrArg some (by kernel_rfl))
  f245 := Tryd.func16.trans (congrArg some (by kernel_rfl))
  f246 := Tryd.func17.trans (congrArg some (by kernel_rfl))
  f247 := Tryd.func18.trans (congrArg some (by kernel_rfl))
  f279 := Tryd.func19.trans (congrArg some (by kernel_rfl))
  f280 := Tryd.func20.trans (congrArg some (by kernel_rfl))
  f281 := Tryd.func21.trans (congrArg some (by kernel_rfl))
  f282 := Tryd.func22.trans (congrArg some (by kernel_rfl))
  f283 := Tryd.func23.trans (congrArg some (by kernel_rfl))
  f284 := Tryd.func24.trans (congrArg some (by kernel_rfl))
  f285 := Tryd.func25.trans (congrArg some (by kernel_rfl))
  f286 := Tryd.func26.trans (congrArg some (by kernel_rfl))
  f287 := Tryd.func27.trans (congrArg some (by kernel_rfl))
  f316 := Tryd.func28.trans (congrArg some (by kernel_rfl))
  f317 := Tryd.func30.trans (congrArg some (by kernel_rfl))
  f318 := Tryd.func32.trans (congrArg some (by kernel_rfl))
  f319 := Tryd.func33.trans (congrArg some (by kernel_rfl))
  f320 := Tryd.func34.trans (congrArg some (by kernel_rfl))
  f321 := Tryd.func35.trans (congrArg some (by kernel_rfl))
  f322 := Tryd.func36.trans (congrArg some (by kernel_rfl))
  f337 := Tryd.func37.trans (congrArg some (by kernel_rfl))
  f338 := Tryd.func38.trans (congrArg some (by kernel_rfl))
  t0 := Tryd.underlying0
  a0 := Tryd.isAgg0
  z0 := Tryd.sizeOf0
  v0 := Tryd.zeroValue0
  t2 := Tryd.underlying2
  a2 := Tryd.isAgg2
  z2 := Tryd.sizeOf2
  v2 := Tryd.zeroValue2
  t3 := Tryd.underlying3
  a3 := Tryd.isAgg3
  z3 := Tryd.sizeOf3
  v3 := Tryd.zeroValue3
  t4 := Tryd.underlying4
  a4 := Tryd.isAgg4
  z4 := Tryd.sizeOf4
  v4 := Tryd.zeroValue4
  t5 := Tryd.underlying5
  a5 := Tryd.isAgg5
  z5 := Tryd.sizeOf5
  v5 := Tryd.zeroValue5
  t9 := Tryd.underlying9
  a9 := Tryd.isAgg9
  z9 := Tryd.sizeOf9
  v9 := Tryd.zeroValue9
  t20 := Tryd.underlying20
  a20 := Tryd.isAgg20
  z20 := Tryd.sizeOf20
  v20 := Tryd.zeroValue20
  t21 := Tryd.underlying21
  a21 := Tryd.isAgg21
  z21 := Tryd.sizeOf21
  v21 := Tryd.zeroValue21
  t37 := Tryd.underlying34
  a37 := Tryd.isAgg34
  z37 := Tryd.sizeOf34
  v37 := Tryd.zeroValue34
  t46 := Tryd.underlying32
  a46 := Tryd.isAgg32
  z46 := Tryd.sizeOf32
  v46 := Tryd.zeroValue32
  t51 := Tryd.underlying62
  a51 := Tryd.isAgg62
  z51 := Tryd.sizeOf62
  v51 := Tryd.zeroValue62
  t53 := Tryd.underlying48
  a53 := Tryd.isAgg48
  z53 := Tryd.sizeOf48
  v53 := Tryd.zeroValue48
  t75 := Tryd.underlying37
  a75 := Tryd.isAgg37
  z75 := Tryd.sizeOf37
  v75 := Tryd.zeroValue37
  t76 := Tryd.underlying38
  a76 := Tryd.isAgg38
  z76 := Tryd.sizeOf38
  v76 := Tryd.zeroValue38
  t85 := Tryd.underlying43
  a85 := Tryd.isAgg43
  z85 := Tryd.sizeOf43
  v85 := Tryd.zeroValue43
  t127 := Tryd.underlying66
  a127 := Tryd.isAgg66
  z127 := Tryd.sizeOf66
  v127 := Tryd.zeroValue66
  t143 := Tryd.underlying67
  a143 := Tryd.isAgg67
  z143 := Tryd.sizeOf67
  v143 := Tryd.zeroValue67
  t145 := Tryd.underlying69
  a145 := Tryd.isAgg69
  z145 := Tryd.sizeOf69
  v145 := Tryd.zeroValue69
  t167 := Tryd.underlying42
  a167 := Tryd.isAgg42
  z167 := Tryd.sizeOf42
  v167 := Tryd.zeroValue42
  t168 := Tryd.underlying45
  a168 := Tryd.isAgg45
  z168 := Tryd.sizeOf45
  v168 := Tryd.zeroValue45
  t171 := Tryd.underlying33
  a171 := Tryd.isAgg33
  z171 := Tryd.sizeOf33
  v171 := Tryd.zeroValue33
  t173 := Tryd.underlying51
  a173 := Tryd.isAgg51
  z173 := Tryd.sizeOf51
  v173 := Tryd.zeroValue51
  t175 := Tryd.underlying53
  a175 := Tryd.isAgg53
  z175 := Tryd.sizeOf53
  v175 := Tryd.zeroValue53
  t210 := Tryd.underlying57
  a210 := Tryd.isAgg57
  z210 := Tryd.sizeOf57
  v210 := Tryd.zeroValue57
  t212 := Tryd.underlying61
  a212 := Tryd.isAgg61
  z212 := Tryd.sizeOf61
  v212 := Tryd.zeroValue61
  t213 := Tryd.underlying63
  a213 := Tryd.isAgg63
  z213 := Tryd.sizeOf63
  t232 := Tryd.underlying71
  a232 := Tryd.isAgg71
  z232 := Tryd.sizeOf71
  v232 := Tryd.zeroValue71
  t233 := Tryd.underlying72
  a233 := Tryd.isAgg72
  z233 := Tryd.sizeOf72
  v233 := Tryd.zeroValue72
  g15 := by kernel_rfl
  g16 := by kernel_rfl
  g17 := by kernel_rfl
  g18 := by kernel_rfl
  g19 := by kernel_rfl
  t80 := Tryd.underlying75
  a80 := Tryd.isAgg75
  z80 := Tryd.sizeOf75
  v80 := Tryd.zeroValue75
  i0 := by kernel_rfl
  i2 := by kernel_rfl
  i3 := by kernel_rfl
  i4 := by kernel_rfl
  i5 := by kernel_rfl
  i9 := by kernel_rfl
  i20 := by kernel_rfl
  i21 := by kernel_rfl
  i37 := by kernel_rfl
  i46 := by kernel_rfl
  i51 := by kernel_rfl
  i53 := by kernel_rfl
  i75 := by kernel_rfl
  i76 := by kernel_rfl
  i80 := by kernel_rfl
  i85 := by kernel_rfl
  i127 := by kernel_rfl
  i143 := by kernel_rfl
  i145 := by kernel_rfl
  i167 := by kernel_rfl
  i168 := by kernel_rfl
  i171 := by kernel_rfl
  i173 := by kernel_rfl
  i175 := by kernel_rfl
  i210 := by kernel_rfl
  i212 := by kernel_rfl
  i232 := by kernel_rfl
  i233 := by kernel_rfl
  m15 := by kernel_rfl
  m16 := by kernel_rfl
  m17 := by kernel_rfl
  m18 := by kernel_rfl
  m19 := by kernel_rfl
  c0 := by kernel_rfl
  c2 := by kernel_rfl
  c3 := by kernel_rfl
  c4 := by kernel_rfl
  c5 := by kernel_rfl
  c9 := by kernel_rfl
  c20 := by kernel_rfl
  c21 := by kernel_rfl
  c37 := by kernel_rfl
  c46 := by kernel_rfl
  c51 := by kernel_rfl
  c53 := by kernel_rfl
  c75 := by kernel_rfl
  c76 := by kernel_rfl
  c80 := by kernel_rfl
  c85 := by kernel_rfl
  c127 := by kernel_rfl
  c143 := by kernel_rfl
  c145 := by kernel_rfl
  c167 := by kernel_rfl
  c168 := by kernel_rfl
  c171 := by kernel_rfl
  c173 := by kernel_rfl
  c175 := by kernel_rfl
  c210 := by kernel_rfl
  c212 := by kernel_rfl
  c213 := by kernel_rfl
  c232 := by kernel_rfl
  c233 := by kernel_rfl }

namespace Qxb6614734aDoor
open Go.RowKit

/-- The names of the listed variables, as the row has them: math/bits' two tables, the powers of ten, ErrRange, ErrSyntax. -/
def laidName (i : Nat) : String := (Rows.fnParseIDReadsBackDecimalNamesRow.laid.map (·.1)).getD i ""

theorem itoa_call (n : Int) (h0 : -9223372036854775808 ≤ n) (h1 : n ≤ 9223372036854775807) (w : World) (htab : Lib.TabIs Tryd.prog w (laidName 2) .u64 Lib.pow10Tab) :
    Calls Tryd.prog 12 #[.int .i64 n] w fun e w' => e = .returned (.string ⟨(Lib.itoa n).toArray⟩) ∧ Below w.heap.size w w' := by
  refine (Any.strconv_Itoa Tryd.laysM171 n h0 h1 w htab).mono ?_
  rintro e w' ⟨rfl, k, os, rfl⟩
  exact ⟨rfl, Lib.below_grow _ w (Nat.le_refl _) k os⟩

theorem atoi_ok (s : ByteArray) (hlim : s.size ≤ 281474976710656) (v : Int) (h : Lib.atoiAll s.data.toList = .ok v) (w : World) :
    Calls Tryd.prog 13 #[.string s] w fun e w' => e = .returned (.tuple #[.int .i64 v, .nilIface]) ∧ Below w.heap.size w w' := by
  refine (Any.strconv_Atoi_ok Tryd.laysC172 s (by omega) v h w).mono ?_
  rintro e w' ⟨rfl, rfl | ⟨t, rfl⟩⟩
  · exact ⟨rfl, Below.refl _ _⟩
  · exact ⟨rfl, Lib.bytesWorld_below _ _ _⟩

theorem atoi_range (s : ByteArray) (hlim : s.size ≤ 281474976710656) (h : Lib.atoiAll s.data.toList = .range) (tp : TypeId) (p : Value) (w : World) (hvar : w.var? Tryd.prog (laidName 3) = some #[.iface tp p]) :
    Calls Tryd.prog 13 #[.string s] w fun e w' => (∃ x, e = .returned (.tuple #[.int .i64 (Lib.atoiSat s.data.toList), .iface 45 x])) ∧ Below w.heap.size w w' := by
  refine (Any.strconv_Atoi_range_var Tryd.laysC172 s hlim h tp p w hvar).mono ?_
  rintro e w' ⟨N, rfl, _, _, hb⟩
  exact ⟨⟨_, rfl⟩, hb⟩

/-- no numeral: 'Lib.atoiAll []' is the end of the empty text -/
theorem atoi_bad (s : ByteArray) (hlim : s.size ≤ 281474976710656) (h : Lib.atoiAll s.data.toList = Lib.atoiAll []) (tp : TypeId) (p : Value) (w : World) (hvar : w.var? Tryd.prog (laidName 4) = some #[.iface tp p]) :
    Calls Tryd.prog 13 #[.string s] w fun e w' => (∃ x, e = .returned (.tuple #[.int .i64 0, .iface 45 x])) ∧ Below w.heap.size w w' := by
  refine (Any.strconv_Atoi_syntax_var Tryd.laysC172 s hlim h tp p w hvar).mono ?_
  rintro e w' ⟨N, rfl, _, _, hb⟩
  exact ⟨⟨_, rfl⟩, hb⟩
end Qxb6614734aDoor
end Go.Proofs
