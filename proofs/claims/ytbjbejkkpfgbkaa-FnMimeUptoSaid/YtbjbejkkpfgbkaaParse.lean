/- The walks of ParseDataURL and DecodeMIMEType. -/
import Derived.Test.YtbjbejkkpfgbkaaRows
import Derived.Test.YtbjbejkkpfgbkaaKit
import Derived.Test.YtbjbejkkpfgbkaaShelf
import Derived.WalkKit
import Derived.ProofKit
import Derived.IntWalk
import Derived.WalkSpells
import Derived.Outline
namespace Go.Proofs.Ytbjbejkkpfgbkaa.parse
open Go.RowKit
open kit

/-- the contract where all three library answers are given -/
theorem parse_ok (u m d : ByteArray) (k : Nat) (w : World) (hp : Lib.hasPrefix u.data.toList [100, 97, 116, 97, 58] = true) (hk : Lib.indexByte u.data.toList 44 = (k : Int)) (h5 : 5 ≤ k) (hku : k < u.size) (hu : u.size ≤ 4194304)
    (hm : u.extract 5 k = m) (hd : u.extract (k + 1) u.size = d) (hs : Lib.hasSuffix m.data.toList [59, 98, 97, 115, 101, 54, 52] = false) :
    Calls Try.prog 6 #[.string u] w fun e w' => e = .returned (.tuple #[.agg #[.string m, .string d, .bool false], .bool true]) ∧ Below w.heap.size w w' := by
  have XP := Lib.hid (fun W : World => Try.strings_HasPrefix u ⟨#[100, 97, 116, 97, 58]⟩ W)
  have XI := Lib.hid (fun W : World => Try.strings_IndexByte u 44 W)
  have XS := Lib.hid (fun W : World => Try.strings_HasSuffix m ⟨#[59, 98, 97, 115, 101, 54, 52]⟩ W (by rw [← hm, ByteArray.size_extract]; omega))
  rw [hp] at XP
  rw [show ((44 : Int).toNat.toUInt8) = 44 from rfl, hk] at XI
  rw [hs] at XS
  clear hp hk hs
  have hk1 : ((k : Int) != -1) = true := by simp
  have HM := Lib.hid hm
  have HD := Lib.hid hd
  clear hm hd
  go_enter Try.func6, Try.ntmps6
  go_wp2_with fail
  refine (XP.out _).mono ?_
  rintro e w' ⟨rfl, rfl⟩
  go_wp2_with fail
  refine (XI.out _).mono ?_
  rintro e w' ⟨rfl, rfl⟩
  go_wp2_with fail
  rw [HM.out, HD.out]
  refine (XS.out _).mono ?_
  rintro e w' ⟨rfl, rfl⟩
  go_wp2_with fail
  refine bodyPost_ret (v := .tuple #[.agg #[.string m, .string d, .bool false], .bool true]) ?_ rfl ⟨rfl, ?_⟩
  · simp [results, Try.results6, go_sem]
  · exact (Below.refl _ _).alloc (Nat.le_refl _) _

/-- the four types -/
def kind (m : ByteArray) : Int := if (m.toList == [116, 101, 120, 116, 47, 99, 115, 115]) = true then 1 else if (m.toList == [116, 101, 120, 116, 47, 106, 97, 118, 97, 115, 99, 114, 105, 112, 116]) = true then 2 else if (m.toList == [97, 112, 112, 108, 105, 99, 97, 116, 105, 111, 110, 47, 106, 115, 111, 110]) = true then 3 else 0
theorem decode_any (m d : ByteArray) (b : Bool) (w : World) (hs : Lib.indexByte m.data.toList 59 = -1) :
    Calls Try.prog 7 #[.agg #[.string m, .string d, .bool b]] w fun e w' => e = .returned (.int .u8 (kind m)) ∧ Below w.heap.size w w' := by
  have XI := Lib.hid (fun W : World => Try.strings_IndexByte m 59 W)
  rw [show ((59 : Int).toNat.toUInt8) = 59 from rfl, hs] at XI
  clear hs
  go_enter Try.func7, Try.ntmps7
  go_wp2_with fail
  refine (XI.out _).mono ?_
  rintro e w' ⟨rfl, rfl⟩
  go_wp2_with fail
  all_goals
    go_ret
    refine ⟨?_, (Below.refl _ _).alloc (Nat.le_refl _) _⟩
    unfold kind
    simp only [*]
    rfl
end Go.Proofs.Ytbjbejkkpfgbkaa.parse
