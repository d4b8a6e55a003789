/-
  DERIVED: THE SHELF's CONTRACTS AT THIS DUMP, IN PLAIN WORDS (tools/lay-plain.mjs out of 'TryShelf.lean', which tools/lay-shelf.mjs wrote): THE SAME DECLARATIONS UNDER THE SAME NAMES: 'import', 'namespace', 'open', 'def', 'theorem' AND NOTHING ELSE: no command of the shelf's: FOR A HAND-IN. Each laying: the table of numbers ('.._ren') and one theorem, a field a fact of the dump's own or the kernel's comparison; each contract: ONE APPLICATION.
-/
import Derived.Shelf.Strings.Builder1
import Derived.Ground.MnProg
import Derived.Shelf.Bin.LEUint32
import Derived.Shelf.Bin.LEPutUint32
import Derived.Shelf.Sort.Plain
import Derived.Shelf.Slices.In.SortNone
import Derived.Shelf.Slices.In.SortNone2
import Derived.Test.YtokafofckjookaaProg
namespace Go.Proofs
open Go.Shelf
def Try.lays169_ren : Go.Shelf.Ren := ⟨fun | 169 => 19 | n => n, fun | 70 => 47 | 9 => 9 | 0 => 0 | 72 => 49 | 37 => 40 | 127 => 59 | 3 => 3 | 5 => 5 | n => n, fun | n => n⟩
theorem Try.lays169 : Go.Proofs.Lays.n169 Try.prog Try.lays169_ren := {
  mixed := by kernel_rfl
  f169 := Try.func19.trans (congrArg some (by kernel_rfl))
  t0 := Try.underlying0
  a0 := Try.isAgg0
  z0 := Try.sizeOf0
  v0 := Try.zeroValue0
  t3 := Try.underlying3
  a3 := Try.isAgg3
  z3 := Try.sizeOf3
  v3 := Try.zeroValue3
  t9 := Try.underlying9
  a9 := Try.isAgg9
  z9 := Try.sizeOf9
  v9 := Try.zeroValue9
  t37 := Try.underlying40
  a37 := Try.isAgg40
  z37 := Try.sizeOf40
  v37 := Try.zeroValue40
  t70 := Try.underlying47
  a70 := Try.isAgg47
  z70 := Try.sizeOf47
  v70 := Try.zeroValue47
  t72 := Try.underlying49
  a72 := Try.isAgg49
  z72 := Try.sizeOf49
  v72 := Try.zeroValue49
  t127 := Try.underlying59
  a127 := Try.isAgg59
  z127 := Try.sizeOf59
  v127 := Try.zeroValue59 }
theorem Try.Builder_Extra_169 : Builder.Extra Try.prog Try.lays169_ren := {
  sizeBuilder := by kernel_rfl
  liesBuilder := by kernel_rfl
  t5 := Try.underlying5
  a5 := Try.isAgg5
  z5 := Try.sizeOf5
  v5 := Try.zeroValue5
  infoByte := by kernel_rfl
  cellsByte := by kernel_rfl
  sizeByte := by kernel_rfl
  neB5 := by decide }
open Go.RowKit in
/-- (*strings.Builder).String: "String returns the accumulated string.": OF A BUILDER THAT HOLDS AT LEAST ONE BYTE. ✋ THE MODEL FREEZES THOSE BYTES IN THE BUFFER (unsafe.String): a later write INTO them ends the model's run without an answer; a later append BEHIND them goes on. The statement's order of evaluation is drawn: one draw. (LAID: no walk: one application.) -/
theorem Try.Builder_String (B b : Nat) (l : List UInt8) (w : World) (h : Lib.IsBuilder 49 5 B b (Lib.byteCells l) w) (h0 : l ≠ []) :
    Calls Try.prog 19 #[.pointer (some ⟨b, 0, none⟩)] w fun e w' => e = .returned (.string ⟨l.toArray⟩) ∧ Below B w w' := Any.Builder_String Try.lays169 Try.Builder_Extra_169 B b l w h h0
open Go.RowKit in
/-- (*strings.Builder).String OF A BUILDER THAT HOLDS NO BYTE: the empty string. (Its buffer is nil, or a row of which it has taken nothing yet; where that row has NO capacity the model lays one new block for unsafe.SliceData's 'some address'.) One draw. (LAID: no walk: one application.) -/
theorem Try.Builder_String_empty (B b : Nat) (w : World) (h : Lib.IsBuilder 49 5 B b [] w) (hBw : B ≤ w.heap.size) :
    Calls Try.prog 19 #[.pointer (some ⟨b, 0, none⟩)] w fun e w' => e = .returned (.string ⟨#[]⟩) ∧ Below B w w' := Any.Builder_String_empty Try.lays169 Try.Builder_Extra_169 B b w h hBw
open Go.RowKit in
/-- (*strings.Builder).String: "String returns the accumulated string.": WHATEVER THE BUILDER HOLDS. (LAID: no walk: one application.) -/
theorem Try.Builder_String_any (B b : Nat) (l : List UInt8) (w : World) (h : Lib.IsBuilder 49 5 B b (Lib.byteCells l) w) (hBw : B ≤ w.heap.size) :
    Calls Try.prog 19 #[.pointer (some ⟨b, 0, none⟩)] w fun e w' => e = .returned (.string ⟨l.toArray⟩) ∧ Below B w w' := Any.Builder_String_any Try.lays169 Try.Builder_Extra_169 B b l w h hBw
def Try.laysBin30_ren : Go.Shelf.Ren := ⟨fun | 30 => 14 | n => n, fun | 25 => 43 | 22 => 40 | 29 => 41 | 0 => 0 | 5 => 5 | 45 => 58 | n => n, fun | n => n⟩
theorem Try.laysBin30 : Go.Proofs.LaysBin.n30 Try.prog Try.laysBin30_ren := {
  mixed := by kernel_rfl
  f30 := Try.func14.trans (congrArg some (by kernel_rfl))
  t0 := Try.underlying0
  a0 := Try.isAgg0
  z0 := Try.sizeOf0
  v0 := Try.zeroValue0
  i0 := by kernel_rfl
  t5 := Try.underlying5
  a5 := Try.isAgg5
  z5 := Try.sizeOf5
  v5 := Try.zeroValue5
  i5 := by kernel_rfl
  t22 := Try.underlying40
  a22 := Try.isAgg40
  z22 := Try.sizeOf40
  v22 := Try.zeroValue40
  i22 := by kernel_rfl
  t25 := Try.underlying43
  a25 := Try.isAgg43
  z25 := Try.sizeOf43
  v25 := Try.zeroValue43
  i25 := by kernel_rfl
  t29 := Try.underlying41
  a29 := Try.isAgg41
  z29 := Try.sizeOf41
  v29 := Try.zeroValue41
  i29 := by kernel_rfl
  t45 := Try.underlying58
  a45 := Try.isAgg58
  z45 := Try.sizeOf58
  v45 := Try.zeroValue58
  i45 := by kernel_rfl }
open Go.RowKit in
/-- binary.LittleEndian.Uint32: "Uint32 returns the uint32 representation of b[0:4].": THE NUMBER THAT THE FIRST 4 BYTES SPELL, the least byte first ('Lib.leNat'). Of what was there nothing has turned (the receiver, an empty struct, is laid in a new block without cells; the statement's order is drawn). (LAID: no walk: one application.) -/
theorem Try.binary_LE_Uint32 (g o n c : Nat) (b0 b1 b2 b3 : UInt8) (w : World) (hn : 4 ≤ n) (c0 : w.cell? ⟨g, o, none⟩ = some (.int .u8 b0.toNat)) (c1 : w.cell? ⟨g, o + 1, none⟩ = some (.int .u8 b1.toNat)) (c2 : w.cell? ⟨g, o + 2, none⟩ = some (.int .u8 b2.toNat)) (c3 : w.cell? ⟨g, o + 3, none⟩ = some (.int .u8 b3.toNat)) :
    Calls Try.prog 14 #[.agg #[], .slice (some ⟨g, o, none⟩) n c] w fun e w' => e = .returned (.int .u32 (Lib.leNat [b0, b1, b2, b3])) ∧ Below w.heap.size w w' := Any.binary_LE_Uint32 Try.laysBin30 g o n c b0 b1 b2 b3 w hn c0 c1 c2 c3
def Try.laysBin31_ren : Go.Shelf.Ren := ⟨fun | 31 => 16 | n => n, fun | 25 => 43 | 22 => 40 | 29 => 41 | 0 => 0 | 5 => 5 | 45 => 58 | n => n, fun | n => n⟩
theorem Try.laysBin31 : Go.Proofs.LaysBin.n31 Try.prog Try.laysBin31_ren := {
  mixed := by kernel_rfl
  f31 := Try.func16.trans (congrArg some (by kernel_rfl))
  t0 := Try.underlying0
  a0 := Try.isAgg0
  z0 := Try.sizeOf0
  v0 := Try.zeroValue0
  i0 := by kernel_rfl
  t5 := Try.underlying5
  a5 := Try.isAgg5
  z5 := Try.sizeOf5
  v5 := Try.zeroValue5
  i5 := by kernel_rfl
  t22 := Try.underlying40
  a22 := Try.isAgg40
  z22 := Try.sizeOf40
  v22 := Try.zeroValue40
  i22 := by kernel_rfl
  t25 := Try.underlying43
  a25 := Try.isAgg43
  z25 := Try.sizeOf43
  v25 := Try.zeroValue43
  i25 := by kernel_rfl
  t29 := Try.underlying41
  a29 := Try.isAgg41
  z29 := Try.sizeOf41
  v29 := Try.zeroValue41
  i29 := by kernel_rfl
  t45 := Try.underlying58
  a45 := Try.isAgg58
  z45 := Try.sizeOf58
  v45 := Try.zeroValue58
  i45 := by kernel_rfl }
open Go.RowKit in
/-- binary.LittleEndian.PutUint32: "PutUint32 stores v into b[0:4].": v's 4 BYTES, the least first ('Lib.leBytes 4 v'), ARE LAID IN THE SLICE's FIRST 4 CELLS ('World.setCells'); nothing else turns (the receiver, an empty struct, is laid in a new block without cells). (LAID: no walk: one application.) -/
theorem Try.binary_LE_PutUint32 (g o n c v : Nat) (hv : v < 4294967296) (x0 x1 x2 x3 : Value) (w : World) (hn : 4 ≤ n) (c0 : w.cell? ⟨g, o, none⟩ = some x0) (c1 : w.cell? ⟨g, o + 1, none⟩ = some x1) (c2 : w.cell? ⟨g, o + 2, none⟩ = some x2) (c3 : w.cell? ⟨g, o + 3, none⟩ = some x3) (f0 : w.frozen? ⟨g, o, none⟩ = false) (f1 : w.frozen? ⟨g, o + 1, none⟩ = false) (f2 : w.frozen? ⟨g, o + 2, none⟩ = false) (f3 : w.frozen? ⟨g, o + 3, none⟩ = false) :
    Calls Try.prog 16 #[.agg #[], .slice (some ⟨g, o, none⟩) n c, .int .u32 v] w fun e w' => e = .returned (.tuple #[]) ∧ w' = (w.alloc (.cells #[] 43)).setCells g o (Lib.byteCells (Lib.leBytes 4 v)) := Any.binary_LE_PutUint32 Try.laysBin31 g o n c v hv x0 x1 x2 x3 w hn c0 c1 c2 c3 f0 f1 f2 f3
def Try.lays190_ren : Go.Shelf.Ren := ⟨fun | 190 => 20 | 125 => 23 | 258 => 22 | 128 => 34 | 129 => 35 | 302 => 25 | 303 => 26 | 304 => 27 | 305 => 28 | 306 => 29 | 307 => 30 | 308 => 31 | 309 => 32 | 310 => 33 | 333 => 36 | 329 => 37 | 330 => 38 | 334 => 39 | 335 => 40 | 336 => 41 | 344 => 42 | n => n, fun | 31 => 45 | 9 => 9 | 3 => 3 | 46 => 58 | 0 => 0 | 51 => 41 | 53 => 75 | 4 => 4 | 183 => 66 | 182 => 65 | 131 => 71 | 5 => 5 | 218 => 76 | 222 => 80 | 228 => 83 | 229 => 84 | n => n, fun | n => n⟩
theorem Try.lays190 : Go.Proofs.Lays.n190 Try.prog Try.lays190_ren := {
  mixed := by kernel_rfl
  f125 := Try.func23.trans (congrArg some (by kernel_rfl))
  f128 := Try.func34.trans (congrArg some (by kernel_rfl))
  f129 := Try.func35.trans (congrArg some (by kernel_rfl))
  f190 := Try.func20.trans (congrArg some (by kernel_rfl))
  f258 := Try.func22.trans (congrArg some (by kernel_rfl))
  f302 := Try.func25.trans (congrArg some (by kernel_rfl))
  f303 := Try.func26.trans (congrArg some (by kernel_rfl))
  f304 := Try.func27.trans (congrArg some (by kernel_rfl))
  f305 := Try.func28.trans (congrArg some (by kernel_rfl))
  f306 := Try.func29.trans (congrArg some (by kernel_rfl))
  f307 := Try.func30.trans (congrArg some (by kernel_rfl))
  f308 := Try.func31.trans (congrArg some (by kernel_rfl))
  f309 := Try.func32.trans (congrArg some (by kernel_rfl))
  f310 := Try.func33.trans (congrArg some (by kernel_rfl))
  f329 := Try.func37.trans (congrArg some (by kernel_rfl))
  f330 := Try.func38.trans (congrArg some (by kernel_rfl))
  f333 := Try.func36.trans (congrArg some (by kernel_rfl))
  f334 := Try.func39.trans (congrArg some (by kernel_rfl))
  f335 := Try.func40.trans (congrArg some (by kernel_rfl))
  f336 := Try.func41.trans (congrArg some (by kernel_rfl))
  f344 := Try.func42.trans (congrArg some (by kernel_rfl))
  t0 := Try.underlying0
  a0 := Try.isAgg0
  z0 := Try.sizeOf0
  v0 := Try.zeroValue0
  t3 := Try.underlying3
  a3 := Try.isAgg3
  z3 := Try.sizeOf3
  v3 := Try.zeroValue3
  t4 := Try.underlying4
  a4 := Try.isAgg4
  z4 := Try.sizeOf4
  v4 := Try.zeroValue4
  t5 := Try.underlying5
  a5 := Try.isAgg5
  z5 := Try.sizeOf5
  v5 := Try.zeroValue5
  t9 := Try.underlying9
  a9 := Try.isAgg9
  z9 := Try.sizeOf9
  v9 := Try.zeroValue9
  t31 := Try.underlying45
  a31 := Try.isAgg45
  z31 := Try.sizeOf45
  v31 := Try.zeroValue45
  t46 := Try.underlying58
  a46 := Try.isAgg58
  z46 := Try.sizeOf58
  v46 := Try.zeroValue58
  t51 := Try.underlying41
  a51 := Try.isAgg41
  z51 := Try.sizeOf41
  v51 := Try.zeroValue41
  t53 := Try.underlying75
  a53 := Try.isAgg75
  z53 := Try.sizeOf75
  v53 := Try.zeroValue75
  t131 := Try.underlying71
  a131 := Try.isAgg71
  z131 := Try.sizeOf71
  v131 := Try.zeroValue71
  t182 := Try.underlying65
  a182 := Try.isAgg65
  z182 := Try.sizeOf65
  v182 := Try.zeroValue65
  t183 := Try.underlying66
  a183 := Try.isAgg66
  z183 := Try.sizeOf66
  v183 := Try.zeroValue66
  t218 := Try.underlying76
  a218 := Try.isAgg76
  z218 := Try.sizeOf76
  v218 := Try.zeroValue76
  t222 := Try.underlying80
  a222 := Try.isAgg80
  z222 := Try.sizeOf80
  v222 := Try.zeroValue80
  t228 := Try.underlying83
  a228 := Try.isAgg83
  z228 := Try.sizeOf83
  v228 := Try.zeroValue83
  t229 := Try.underlying84
  a229 := Try.isAgg84
  z229 := Try.sizeOf84
  v229 := Try.zeroValue84 }
open Go.Sort Go.RowKit in
theorem Try.slices_Sort_string (blk off cap : Nat) (ss : List (List UInt8)) (w : World) (hH : Holds encStr w blk off ss.toArray) (hblk : blk < w.heap.size) (hsz : ss.length < 4611686018427387904) :
    Calls Try.prog 20 #[.slice (some ⟨blk, off, none⟩) ss.length cap] w fun e w' =>
      e = .returned (.tuple #[]) ∧ ∃ n os, w' = grow (putRow encStr (Sort.ahead w n) blk off (ss.mergeSort fun x y => decide (x ≤ y)).toArray) os := Any.slices_Sort_string Try.lays190 blk off cap ss w hH hblk hsz
def Try.lays192_ren : Go.Shelf.Ren := ⟨fun | 192 => 15 | 190 => 20 | 125 => 23 | 258 => 22 | 128 => 34 | 129 => 35 | 302 => 25 | 303 => 26 | 304 => 27 | 305 => 28 | 306 => 29 | 307 => 30 | 308 => 31 | 309 => 32 | 310 => 33 | 333 => 36 | 329 => 37 | 330 => 38 | 334 => 39 | 335 => 40 | 336 => 41 | 344 => 42 | n => n, fun | 31 => 45 | 0 => 0 | 9 => 9 | 3 => 3 | 46 => 58 | 51 => 41 | 53 => 75 | 4 => 4 | 183 => 66 | 182 => 65 | 131 => 71 | 5 => 5 | 218 => 76 | 222 => 80 | 228 => 83 | 229 => 84 | n => n, fun | n => n⟩
theorem Try.lays192 : Go.Proofs.Lays.n192 Try.prog Try.lays192_ren := {
  mixed := by kernel_rfl
  f125 := Try.func23.trans (congrArg some (by kernel_rfl))
  f128 := Try.func34.trans (congrArg some (by kernel_rfl))
  f129 := Try.func35.trans (congrArg some (by kernel_rfl))
  f190 := Try.func20.trans (congrArg some (by kernel_rfl))
  f192 := Try.func15.trans (congrArg some (by kernel_rfl))
  f258 := Try.func22.trans (congrArg some (by kernel_rfl))
  f302 := Try.func25.trans (congrArg some (by kernel_rfl))
  f303 := Try.func26.trans (congrArg some (by kernel_rfl))
  f304 := Try.func27.trans (congrArg some (by kernel_rfl))
  f305 := Try.func28.trans (congrArg some (by kernel_rfl))
  f306 := Try.func29.trans (congrArg some (by kernel_rfl))
  f307 := Try.func30.trans (congrArg some (by kernel_rfl))
  f308 := Try.func31.trans (congrArg some (by kernel_rfl))
  f309 := Try.func32.trans (congrArg some (by kernel_rfl))
  f310 := Try.func33.trans (congrArg some (by kernel_rfl))
  f329 := Try.func37.trans (congrArg some (by kernel_rfl))
  f330 := Try.func38.trans (congrArg some (by kernel_rfl))
  f333 := Try.func36.trans (congrArg some (by kernel_rfl))
  f334 := Try.func39.trans (congrArg some (by kernel_rfl))
  f335 := Try.func40.trans (congrArg some (by kernel_rfl))
  f336 := Try.func41.trans (congrArg some (by kernel_rfl))
  f344 := Try.func42.trans (congrArg some (by kernel_rfl))
  t0 := Try.underlying0
  a0 := Try.isAgg0
  z0 := Try.sizeOf0
  v0 := Try.zeroValue0
  t3 := Try.underlying3
  a3 := Try.isAgg3
  z3 := Try.sizeOf3
  v3 := Try.zeroValue3
  t4 := Try.underlying4
  a4 := Try.isAgg4
  z4 := Try.sizeOf4
  v4 := Try.zeroValue4
  t5 := Try.underlying5
  a5 := Try.isAgg5
  z5 := Try.sizeOf5
  v5 := Try.zeroValue5
  t9 := Try.underlying9
  a9 := Try.isAgg9
  z9 := Try.sizeOf9
  v9 := Try.zeroValue9
  t31 := Try.underlying45
  a31 := Try.isAgg45
  z31 := Try.sizeOf45
  v31 := Try.zeroValue45
  t46 := Try.underlying58
  a46 := Try.isAgg58
  z46 := Try.sizeOf58
  v46 := Try.zeroValue58
  t51 := Try.underlying41
  a51 := Try.isAgg41
  z51 := Try.sizeOf41
  v51 := Try.zeroValue41
  t53 := Try.underlying75
  a53 := Try.isAgg75
  z53 := Try.sizeOf75
  v53 := Try.zeroValue75
  t131 := Try.underlying71
  a131 := Try.isAgg71
  z131 := Try.sizeOf71
  v131 := Try.zeroValue71
  t182 := Try.underlying65
  a182 := Try.isAgg65
  z182 := Try.sizeOf65
  v182 := Try.zeroValue65
  t183 := Try.underlying66
  a183 := Try.isAgg66
  z183 := Try.sizeOf66
  v183 := Try.zeroValue66
  t218 := Try.underlying76
  a218 := Try.isAgg76
  z218 := Try.sizeOf76
  v218 := Try.zeroValue76
  t222 := Try.underlying80
  a222 := Try.isAgg80
  z222 := Try.sizeOf80
  v222 := Try.zeroValue80
  t228 := Try.underlying83
  a228 := Try.isAgg83
  z228 := Try.sizeOf83
  v228 := Try.zeroValue83
  t229 := Try.underlying84
  a229 := Try.isAgg84
  z229 := Try.sizeOf84
  v229 := Try.zeroValue84 }
open Go.Sort Go.RowKit in
theorem Try.sort_Strings (blk off cap : Nat) (ss : List (List UInt8)) (w : World) (hH : Holds encStr w blk off ss.toArray) (hblk : blk < w.heap.size) (hsz : ss.length < 4611686018427387904) :
    Calls Try.prog 15 #[.slice (some ⟨blk, off, none⟩) ss.length cap] w fun e w' =>
      e = .returned (.tuple #[]) ∧ ∃ n os, w' = grow (putRow encStr (Sort.ahead w n) blk off (ss.mergeSort fun x y => decide (x ≤ y)).toArray) os := Any.sort_Strings Try.lays192 blk off cap ss w hH hblk hsz
open Go.RowKit Go.Sort in
/-- .. and plain. (LAID: no walk: one application.) -/
theorem Try.slices_Sort_string_none (p : Option Addr) (cap : Nat) (w : World) :
    Calls Try.prog 20 #[.slice p 0 cap] w fun e w' => e = .returned (.tuple #[]) ∧ w' = w := Any.slices_Sort_string_none Try.lays190 p cap w
open Go.RowKit Go.Sort in
/-- .. and plain. (LAID: no walk: one application.) -/
theorem Try.sort_Strings_none (p : Option Addr) (cap : Nat) (w : World) :
    Calls Try.prog 15 #[.slice p 0 cap] w fun e w' => e = .returned (.tuple #[]) ∧ w' = w := Any.sort_Strings_none Try.lays192 p cap w
end Go.Proofs
