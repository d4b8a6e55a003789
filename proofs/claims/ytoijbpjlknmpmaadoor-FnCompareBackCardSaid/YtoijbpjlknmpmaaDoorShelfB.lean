/-
  DERIVED: THE SHELF's CONTRACTS AT THIS DUMP, IN PLAIN WORDS (tools/lay-plain.mjs out of 'TrydShelf.lean', which tools/lay-shelf.mjs wrote): THE SAME DECLARATIONS UNDER THE SAME NAMES: 'import', 'namespace', 'open', 'def', 'theorem' AND NOTHING ELSE: no command of the shelf's: FOR A HAND-IN. Each laying: the table of numbers ('.._ren') and one theorem, a field a fact of the dump's own or the kernel's comparison; each contract: ONE APPLICATION.
-/
import Derived.Shelf.Small.Strs
import Derived.Shelf.Strconv.Atoi
import Derived.Shelf.Strconv.AtoiErrFast
import Derived.Shelf.Strconv.ParseIntEmpty
import Derived.Shelf.Strconv.AtoiFail
import Derived.Shelf.LaysM
import Derived.Shelf.Strconv.Clone
import Derived.Shelf.Strconv.SyntaxError
import Derived.Shelf.LaysC
import Derived.Shelf.Strconv.ToError
import Derived.Shelf.Strconv.Lower
import Derived.Shelf.Strconv.ParseUint10
import Derived.Shelf.Strconv.ParseUint10Empty
import Derived.Shelf.Strconv.ParseUint10Any
import Derived.Shelf.Strconv.ParseInt10
import Derived.Shelf.Strconv.AtoiLong
import Derived.Shelf.Strconv.AtoiInnerAll
import Derived.Shelf.Strconv.RangeError
import Derived.Shelf.Strconv.ToErrorRange
import Derived.Shelf.Strconv.AtoiAll
import Derived.Shelf.Strconv.ErrVarAll
import Derived.Shelf.Strings.Search1
import Derived.Shelf.Strings.Prefix
import Derived.Test.YtoijbpjlknmpmaaDoorProg
namespace Go.Proofs
open Go.Shelf
def Tryd.lays137_ren : Go.Shelf.Ren := ⟨fun | 137 => 33 | 217 => 39 | 266 => 46 | n => n, fun | 9 => 9 | 5 => 5 | 3 => 3 | n => n, fun | n => n⟩
theorem Tryd.lays137 : Go.Proofs.Lays.n137 Tryd.prog Tryd.lays137_ren := {
  mixed := by kernel_rfl
  f137 := Tryd.func33.trans (congrArg some (by kernel_rfl))
  f217 := Tryd.func39.trans (congrArg some (by kernel_rfl))
  f266 := Tryd.func46.trans (congrArg some (by kernel_rfl))
  t3 := Tryd.underlying3
  a3 := Tryd.isAgg3
  z3 := Tryd.sizeOf3
  v3 := Tryd.zeroValue3
  t5 := Tryd.underlying5
  a5 := Tryd.isAgg5
  z5 := Tryd.sizeOf5
  v5 := Tryd.zeroValue5
  t9 := Tryd.underlying9
  a9 := Tryd.isAgg9
  z9 := Tryd.sizeOf9
  v9 := Tryd.zeroValue9 }
open Go.RowKit in
/-- strings.IndexByte: "IndexByte returns the index of the first instance of c in s, or -1 if c is not present in s.": IT RETURNS 'Lib.indexByte s c'; the world is as it was. (LAID: no walk: one application.) -/
theorem Tryd.strings_IndexByte (s : ByteArray) (c : Int) (w : World) :
    Calls Tryd.prog 33 #[.string s, .int .u8 c] w fun e w' => e = .returned (.int .i64 (Lib.indexByte s.data.toList c.toNat.toUInt8)) ∧ w' = w := Any.strings_IndexByte Tryd.lays137 s c w
def Tryd.laysC172_ren : Go.Shelf.Ren := ⟨fun | 172 => 34 | 244 => 40 | 245 => 41 | 247 => 47 | 279 => 48 | 280 => 49 | 281 => 50 | 282 => 51 | 287 => 57 | 316 => 58 | 171 => 24 | 205 => 59 | 321 => 62 | 322 => 63 | 243 => 31 | 246 => 37 | 283 => 42 | 284 => 43 | 285 => 44 | 286 => 45 | 129 => 53 | 317 => 52 | 318 => 54 | 319 => 55 | 320 => 56 | 337 => 60 | 338 => 61 | n => n, fun | 9 => 9 | 3 => 3 | 75 => 52 | 76 => 53 | 4 => 4 | 5 => 5 | 167 => 76 | 37 => 39 | 0 => 0 | 85 => 77 | 2 => 2 | 168 => 79 | 53 => 71 | 175 => 87 | 46 => 69 | 210 => 91 | 127 => 62 | 145 => 98 | 143 => 96 | 21 => 21 | 171 => 70 | 173 => 74 | 212 => 83 | 51 => 66 | 20 => 20 | 213 => 84 | 232 => 99 | 233 => 100 | 80 => 45 | n => n, fun | 15 => 2 | 16 => 3 | 17 => 0 | 18 => 4 | 19 => 5 | n => n⟩
theorem Tryd.laysC172 : Go.Proofs.LaysC.n172 Tryd.prog Tryd.laysC172_ren := {
  mixed := by kernel_rfl
  f129 := Tryd.func53.trans (congrArg some (by kernel_rfl))
  f171 := Tryd.func24.trans (congrArg some (by kernel_rfl))
  f172 := Tryd.func34.trans (congrArg some (by kernel_rfl))
  f205 := Tryd.func59.trans (congrArg some (by kernel_rfl))
  f243 := Tryd.func31.trans (congrArg some (by kernel_rfl))
  f244 := Tryd.func40.trans (congrArg some (by kernel_rfl))
  f245 := Tryd.func41.trans (congrArg some (by kernel_rfl))
  f246 := Tryd.func37.trans (congrArg some (by kernel_rfl))
  f247 := Tryd.func47.trans (congrArg some (by kernel_rfl))
  f279 := Tryd.func48.trans (congrArg some (by kernel_rfl))
  f280 := Tryd.func49.trans (congrArg some (by kernel_rfl))
  f281 := Tryd.func50.trans (congrArg some (by kernel_rfl))
  f282 := Tryd.func51.trans (congrArg some (by kernel_rfl))
  f283 := Tryd.func42.trans (congrArg some (by kernel_rfl))
  f284 := Tryd.func43.trans (congrArg some (by kernel_rfl))
  f285 := Tryd.func44.trans (congrArg some (by kernel_rfl))
  f286 := Tryd.func45.trans (congrArg some (by kernel_rfl))
  f287 := Tryd.func57.trans (congrArg some (by kernel_rfl))
  f316 := Tryd.func58.trans (congrArg some (by kernel_rfl))
  f317 := Tryd.func52.trans (congrArg some (by kernel_rfl))
  f318 := Tryd.func54.trans (congrArg some (by kernel_rfl))
  f319 := Tryd.func55.trans (congrArg some (by kernel_rfl))
  f320 := Tryd.func56.trans (congrArg some (by kernel_rfl))
  f321 := Tryd.func62.trans (congrArg some (by kernel_rfl))
  f322 := Tryd.func63.trans (congrArg some (by kernel_rfl))
  f337 := Tryd.func60.trans (congrArg some (by kernel_rfl))
  f338 := Tryd.func61.trans (congrArg some (by kernel_rfl))
  t0 := Tryd.underlying0
  a0 := Tryd.isAgg0
  z0 := Tryd.sizeOf0
  v0 := Tryd.zeroValue0
  t2 := Tryd.underlying2
  a2 := Tryd.isAgg2
  z2 := Tryd.sizeOf2
  v2 := Tryd.zeroValue2
  t3 := Tryd.underlying3
  a3 := Tryd.isAgg3
  z3 := Tryd.sizeOf3
  v3 := Tryd.zeroValue3
  t4 := Tryd.underlying4
  a4 := Tryd.isAgg4
  z4 := Tryd.sizeOf4
  v4 := Tryd.zeroValue4
  t5 := Tryd.underlying5
  a5 := Tryd.isAgg5
  z5 := Tryd.sizeOf5
  v5 := Tryd.zeroValue5
  t9 := Tryd.underlying9
  a9 := Tryd.isAgg9
  z9 := Tryd.sizeOf9
  v9 := Tryd.zeroValue9
  t20 := Tryd.underlying20
  a20 := Tryd.isAgg20
  z20 := Tryd.sizeOf20
  v20 := Tryd.zeroValue20
  t21 := Tryd.underlying21
  a21 := Tryd.isAgg21
  z21 := Tryd.sizeOf21
  v21 := Tryd.zeroValue21
  t37 := Tryd.underlying39
  a37 := Tryd.isAgg39
  z37 := Tryd.sizeOf39
  v37 := Tryd.zeroValue39
  t46 := Tryd.underlying69
  a46 := Tryd.isAgg69
  z46 := Tryd.sizeOf69
  v46 := Tryd.zeroValue69
  t51 := Tryd.underlying66
  a51 := Tryd.isAgg66
  z51 := Tryd.sizeOf66
  v51 := Tryd.zeroValue66
  t53 := Tryd.underlying71
  a53 := Tryd.isAgg71
  z53 := Tryd.sizeOf71
  v53 := Tryd.zeroValue71
  t75 := Tryd.underlying52
  a75 := Tryd.isAgg52
  z75 := Tryd.sizeOf52
  v75 := Tryd.zeroValue52
  t76 := Tryd.underlying53
  a76 := Tryd.isAgg53
  z76 := Tryd.sizeOf53
  v76 := Tryd.zeroValue53
  t85 := Tryd.underlying77
  a85 := Tryd.isAgg77
  z85 := Tryd.sizeOf77
  v85 := Tryd.zeroValue77
  t127 := Tryd.underlying62
  a127 := Tryd.isAgg62
  z127 := Tryd.sizeOf62
  v127 := Tryd.zeroValue62
  t143 := Tryd.underlying96
  a143 := Tryd.isAgg96
  z143 := Tryd.sizeOf96
  v143 := Tryd.zeroValue96
  t145 := Tryd.underlying98
  a145 := Tryd.isAgg98
  z145 := Tryd.sizeOf98
  v145 := Tryd.zeroValue98
  t167 := Tryd.underlying76
  a167 := Tryd.isAgg76
  z167 := Tryd.sizeOf76
  v167 := Tryd.zeroValue76
  t168 := Tryd.underlying79
  a168 := Tryd.isAgg79
  z168 := Tryd.sizeOf79
  v168 := Tryd.zeroValue79
  t171 := Tryd.underlying70
  a171 := Tryd.isAgg70
  z171 := Tryd.sizeOf70
  v171 := Tryd.zeroValue70
  t173 := Tryd.underlying74
  a173 := Tryd.isAgg74
  z173 := Tryd.sizeOf74
  v173 := Tryd.zeroValue74
  t175 := Tryd.underlying87
  a175 := Tryd.isAgg87
  z175 := Tryd.sizeOf87
  v175 := Tryd.zeroValue87
  t210 := Tryd.underlying91
  a210 := Tryd.isAgg91
  z210 := Tryd.sizeOf91
  v210 := Tryd.zeroValue91
  t212 := Tryd.underlying83
  a212 := Tryd.isAgg83
  z212 := Tryd.sizeOf83
  v212 := Tryd.zeroValue83
  t213 := Tryd.underlying84
  a213 := Tryd.isAgg84
  z213 := Tryd.sizeOf84
  t232 := Tryd.underlying99
  a232 := Tryd.isAgg99
  z232 := Tryd.sizeOf99
  v232 := Tryd.zeroValue99
  t233 := Tryd.underlying100
  a233 := Tryd.isAgg100
  z233 := Tryd.sizeOf100
  v233 := Tryd.zeroValue100
  g15 := by kernel_rfl
  g16 := by kernel_rfl
  g17 := by kernel_rfl
  g18 := by kernel_rfl
  g19 := by kernel_rfl
  t80 := Tryd.underlying45
  a80 := Tryd.isAgg45
  z80 := Tryd.sizeOf45
  v80 := Tryd.zeroValue45
  i0 := by kernel_rfl
  i2 := by kernel_rfl
  i3 := by kernel_rfl
  i4 := by kernel_rfl
  i5 := by kernel_rfl
  i9 := by kernel_rfl
  i20 := by kernel_rfl
  i21 := by kernel_rfl
  i37 := by kernel_rfl
  i46 := by kernel_rfl
  i51 := by kernel_rfl
  i53 := by kernel_rfl
  i75 := by kernel_rfl
  i76 := by kernel_rfl
  i80 := by kernel_rfl
  i85 := by kernel_rfl
  i127 := by kernel_rfl
  i143 := by kernel_rfl
  i145 := by kernel_rfl
  i167 := by kernel_rfl
  i168 := by kernel_rfl
  i171 := by kernel_rfl
  i173 := by kernel_rfl
  i175 := by kernel_rfl
  i210 := by kernel_rfl
  i212 := by kernel_rfl
  i232 := by kernel_rfl
  i233 := by kernel_rfl
  m15 := by kernel_rfl
  m16 := by kernel_rfl
  m17 := by kernel_rfl
  m18 := by kernel_rfl
  m19 := by kernel_rfl
  c0 := by kernel_rfl
  c2 := by kernel_rfl
  c3 := by kernel_rfl
  c4 := by kernel_rfl
  c5 := by kernel_rfl
  c9 := by kernel_rfl
  c20 := by kernel_rfl
  c21 := by kernel_rfl
  c37 := by kernel_rfl
  c46 := by kernel_rfl
  c51 := by kernel_rfl
  c53 := by kernel_rfl
  c75 := by kernel_rfl
  c76 := by kernel_rfl
  c80 := by kernel_rfl
  c85 := by kernel_rfl
  c127 := by kernel_rfl
  c143 := by kernel_rfl
  c145 := by kernel_rfl
  c167 := by kernel_rfl
  c168 := by kernel_rfl
  c171 := by kernel_rfl
  c173 := by kernel_rfl
  c175 := by kernel_rfl
  c210 := by kernel_rfl
  c212 := by kernel_rfl
  c213 := by kernel_rfl
  c232 := by kernel_rfl
  c233 := by kernel_rfl }
open Go.RowKit in
/-- strconv.Atoi, AT EVERY STRING THAT SPELLS AN int ('Lib.atoiAll .. = .ok v'; of whatever length: leading zeros count): v, AND NO ERROR. The world: as it was, or with the one new row that '[]byte(..)' lays. (LAID: no walk: one application.) -/
theorem Tryd.strconv_Atoi_ok (s : ByteArray) (hmax : s.size ≤ 9223372036854775806) (v : Int) (h : Lib.atoiAll s.data.toList = .ok v) (w : World) :
    Calls Tryd.prog 34 #[.string s] w fun e w' => e = .returned (.tuple #[.int .i64 v, .nilIface]) ∧ (w' = w ∨ ∃ t, w' = Lib.bytesWorld w 5 t) := Any.strconv_Atoi_ok Tryd.laysC172 s hmax v h w
open Go.RowKit in
/-- strconv.Atoi, AT EVERY STRING THAT IS NO DECIMAL NUMERAL ('.syntax'): 0, AND AN ERROR THAT IS NOT nil: a *NumError in a new block N: {Func: "Atoi", Num: s's bytes, Err: what the variable ErrSyntax holds}. Of what was there nothing has turned. (LAID: no walk: one application.) -/
theorem Tryd.strconv_Atoi_syntax (s : ByteArray) (hlim : s.size ≤ 281474976710656) (h : Lib.atoiAll s.data.toList = Lib.NumEnd.syntax) (ev : Value) (w : World) (hv : w.cell? ⟨2, 0, none⟩ = some ev) (hev : ev = .nilIface ∨ ∃ te pe, ev = .iface te pe) :
    Calls Tryd.prog 34 #[.string s] w fun e w' => ∃ N, e = .returned (.tuple #[.int .i64 (0), .iface 79 (.pointer (some ⟨N, 0, none⟩))]) ∧ w.heap.size ≤ N ∧ w'.heap[N]? = some (.cells #[.string ⟨#[65, 116, 111, 105]⟩, .string s, ev] 91 (0, 0)) ∧ Below w.heap.size w w' := Any.strconv_Atoi_syntax Tryd.laysC172 s hlim h ev w hv hev
open Go.RowKit in
/-- strconv.Atoi, AT EVERY NUMERAL THAT NO int HOLDS ('.range'): THE GREATEST OR THE LEAST int, BY THE SIGN ('Lib.atoiSat'), AND AN ERROR THAT IS NOT nil: a *NumError in a new block N: {Func: "Atoi", Num: s's bytes, Err: what the variable ErrRange holds}. Of what was there nothing has turned. (LAID: no walk: one application.) -/
theorem Tryd.strconv_Atoi_range (s : ByteArray) (hlim : s.size ≤ 281474976710656) (h : Lib.atoiAll s.data.toList = .range) (ev : Value) (w : World) (hv : w.cell? ⟨3, 0, none⟩ = some ev) (hev : ev = .nilIface ∨ ∃ te pe, ev = .iface te pe) :
    Calls Tryd.prog 34 #[.string s] w fun e w' => ∃ N, e = .returned (.tuple #[.int .i64 (Lib.atoiSat s.data.toList), .iface 79 (.pointer (some ⟨N, 0, none⟩))]) ∧ w.heap.size ≤ N ∧ w'.heap[N]? = some (.cells #[.string ⟨#[65, 116, 111, 105]⟩, .string s, ev] 91 (0, 0)) ∧ Below w.heap.size w w' := Any.strconv_Atoi_range Tryd.laysC172 s hlim h ev w hv hev
def Tryd.lays101_ren : Go.Shelf.Ren := ⟨fun | 101 => 26 | 208 => 32 | 206 => 38 | n => n, fun | 9 => 9 | 4 => 4 | 3 => 3 | n => n, fun | n => n⟩
theorem Tryd.lays101 : Go.Proofs.Lays.n101 Tryd.prog Tryd.lays101_ren := {
  mixed := by kernel_rfl
  f101 := Tryd.func26.trans (congrArg some (by kernel_rfl))
  f206 := Tryd.func38.trans (congrArg some (by kernel_rfl))
  f208 := Tryd.func32.trans (congrArg some (by kernel_rfl))
  t3 := Tryd.underlying3
  a3 := Tryd.isAgg3
  z3 := Tryd.sizeOf3
  v3 := Tryd.zeroValue3
  t4 := Tryd.underlying4
  a4 := Tryd.isAgg4
  z4 := Tryd.sizeOf4
  v4 := Tryd.zeroValue4
  t9 := Tryd.underlying9
  a9 := Tryd.isAgg9
  z9 := Tryd.sizeOf9
  v9 := Tryd.zeroValue9 }
open Go.RowKit Go.Lib in
/-- strings.TrimPrefix: "TrimPrefix returns s without the provided leading prefix string. If s doesn't start with prefix, s is returned unchanged.": IT RETURNS 'Lib.trimPrefix s prefix'; the world is as it was. (LAID: no walk: one application.) -/
theorem Tryd.strings_TrimPrefix (s p : ByteArray) (w : World) :
    Calls Tryd.prog 26 #[.string s, .string p] w fun e w' => e = .returned (.string ⟨(Lib.trimPrefix s.data.toList p.data.toList).toArray⟩) ∧ w' = w := Any.strings_TrimPrefix Tryd.lays101 s p w
end Go.Proofs
