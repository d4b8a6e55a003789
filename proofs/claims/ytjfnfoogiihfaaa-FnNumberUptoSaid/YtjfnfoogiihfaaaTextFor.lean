/- For every three texts of bulk at most 1048576 in all: FnTextFor returns true, and its arguments read as before. -/
import Derived.Test.YtjfnfoogiihfaaaRows
import Derived.WalkKit
import Derived.ProofKit
import Derived.OpenShut
import Derived.JoinedCond
import Derived.ChangeOld
import Derived.Below
import Derived.IntWalk
import Derived.WalkSmall
import Derived.Deep.QuietTactic
import Derived.BigQuiet
namespace Go.Proofs.Ytjfnfoogiihfaaa.fnTextFor
open Go.ChangeShapes Go.WideShapes Go.ChangeAt Go.RowKit
open Go.ChangeMaps (open_string shut_string)

theorem rangeOf_any (a b : Int) (w : World) (ha : 0 ≤ a ∧ a ≤ 2147483647) (hb : 0 ≤ b ∧ b ≤ 2147483647) :
    Calls Try.prog 14 #[.agg #[.int .i64 a, .int .i64 b]] w fun e w' => e = .returned (.agg #[.int .i32 a, .int .i32 b]) ∧ ((w.alloc (Obj.cells #[Value.int IntKind.i64 a, Value.int IntKind.i64 b] 24)).alloc
      (Obj.cells #[Value.int IntKind.i32 a, Value.int IntKind.i32 b] 49)) = w' := by
  go_enter Try.func14, Try.ntmps14
  go_wp2
  exact bodyPost_ret (v := .agg #[.int .i32 a, .int .i32 b]) (by simp [results, Try.results14, go_sem]) rfl ⟨rfl, rfl⟩

theorem textFor_any (s : ByteArray) (a b : Nat) (B o : Nat) (w : World) (h : a + b ≤ s.size) (hs : s.size ≤ 2000000000) (hB : B < w.heap.size) (hc : w.cell? ⟨B, o + 3, none⟩ = some (.string s)) :
    Calls Try.prog 13 #[.pointer (some ⟨B, o, none⟩), .agg #[.int .i32 a, .int .i32 b]] w fun e w' => e = .returned (.string (s.extract a (a + b))) ∧ Below w.heap.size w w' := by
  obtain ⟨c, hcd⟩ : ∃ c, c = a + b := ⟨_, rfl⟩
  rw [← hcd] at h ⊢
  have hw : IntKind.i32.wrap ((a : Int) + (b : Int)) = (c : Int) := by
    rw [IntWalk.i32_in _ (by omega)]; omega
  have g1 : a ≤ c := by omega
  clear hcd
  go_enter Try.func13, Try.ntmps13
  go_wp2
  go_quiet (fail)
  go_wp2
  go_ret
  exact ⟨rfl, below_drewN ((Below.refl _ _).alloc (Nat.le_refl _) _) _⟩

theorem plain (a b c : ByteArray) : (a ++ b ++ ⟨#[97]⟩ ++ c).extract a.size (a.size + (b.size + 1)) = b ++ ⟨#[97]⟩ := by
  apply ByteArray.ext
  apply Array.toList_inj.1
  simp [ByteArray.data_extract, ByteArray.data_append]
  exact List.take_of_length_le (by simp)

theorem impl_any (s : ByteArray) (x y : Int) (w : World) (hx : 0 ≤ x) (hy : 0 ≤ y) (h : x + y ≤ s.size) (hs : s.size ≤ 2000000000) :
    Calls Try.prog 7 #[.string s, .agg #[.int .i64 x, .int .i64 y]] w fun e w' => e = .returned (.string (s.extract x.toNat (x.toNat + y.toNat))) ∧ Below w.heap.size w w' := by
  obtain ⟨a, rfl⟩ := Int.eq_ofNat_of_zero_le hx
  obtain ⟨b, rfl⟩ := Int.eq_ofNat_of_zero_le hy
  simp only [Int.toNat_natCast]
  go_enter Try.func7, Try.ntmps7
  go_wp2_with (first | (go_at_call 14; refine (rangeOf_any _ _ _ (by omega) (by omega)).mono ?_; rintro e w' ⟨rfl, rfl⟩))
  refine (textFor_any s a b _ _ _ (by omega) hs (by simp) (by go_simp)).mono ?_
  rintro e w' ⟨rfl, hb⟩
  go_wp2
  go_ret
  refine ⟨rfl, Below.trans ?_ (hb.mono (by simp; omega))⟩
  exact ((((Below.refl _ _).alloc (Nat.le_refl _) _).alloc (by simp) _).alloc (by simp; omega) _).alloc (by simp; omega) _

set_option maxHeartbeats 400000 in
theorem walk (a0 a1 a2 : ByteArray) (_ : a0.size ≤ maxLen) (_ : a1.size ≤ maxLen) (_ : a2.size ≤ maxLen) (h : a0.size + a1.size + a2.size ≤ 1048576) (w : World) :
    Calls Try.prog 3 #[.string a0, .string a1, .string a2] w fun e w' => e = .returned (.bool true) ∧ Below w.heap.size w w' := by
  have e1 : (a0 ++ a1 ++ ⟨#[97]⟩ ++ a2).size = a0.size + a1.size + 1 + a2.size := by simp; rfl
  go_enter Try.func3, Try.ntmps3
  go_wp2_with fail
  refine (impl_any _ _ _ _ (by omega) (by omega) (by rw [e1]; omega) (by rw [e1]; omega)).mono ?_
  rintro e w' ⟨rfl, hb⟩
  rw [show ((a0.size : Int).toNat + ((a1.size : Int) + 1).toNat) = a0.size + (a1.size + 1) from by omega, Int.toNat_natCast, plain]
  go_wp2
  go_ret
  exact ⟨rfl, hb⟩

end Go.Proofs.Ytjfnfoogiihfaaa.fnTextFor
