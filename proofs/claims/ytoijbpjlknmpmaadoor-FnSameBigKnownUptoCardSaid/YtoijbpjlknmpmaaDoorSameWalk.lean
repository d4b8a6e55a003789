/- Walks of CheckEqualityBigInt and SameBig. -/
import Derived.Test.YtoijbpjlknmpmaaDoorBigWalk
namespace Go.Proofs.YtoijbpjlknmpmaaDoor.big
open Go.RowKit
open kit

def Plain (a : ByteArray) : Prop := a.size < 2 ∨ (lets a).getD 0 0 ≠ 48
def sameE (a b : ByteArray) : Bool := decide (a = b)
open Classical in
noncomputable def sameK (a b : ByteArray) : Bool := decide (a = b ∨ (Plain a ∧ Plain b))

theorem form (a : ByteArray) : (a.size < 2 ∧ Plain a) ∨ (∃ h : 0 < a.size, 2 ≤ a.size ∧ a[0].toNat ≠ 48 ∧ Plain a) ∨ (∃ h : 0 < a.size, 2 ≤ a.size ∧ a[0].toNat = 48 ∧ ¬ Plain a) := by
  rcases Nat.lt_or_ge a.size 2 with h | h
  · exact .inl ⟨h, .inl h⟩
  · have h0 : 0 < a.size := by omega
    have e := lets_get a 0 h0
    by_cases h48 : a[0].toNat = 48
    · refine .inr (.inr ⟨h0, h, h48, ?_⟩)
      rintro (h1 | h1)
      · omega
      · exact h1 (e.trans h48)
    · exact .inr (.inl ⟨h0, h, h48, .inr (by rw [e]; exact h48)⟩)
theorem ne_of (a b : ByteArray) (h : a ≠ b) : (a.toList == b.toList) = false := by
  rw [beq_eq_false_iff_ne, ByteArray.toList_eq, ByteArray.toList_eq]
  exact fun e => h (WideShapes.bytes_inj e)

theorem check_any (a b : ByteArray) (w : World) (ha : a.size ≤ 1048576) (hb : b.size ≤ 1048576) :
    Calls Tryd.prog 18 #[.string a, .string b] w fun e w' => e = .returned (.tuple #[.bool (sameE a b), .bool (sameK a b)]) ∧ w = w' := by
  by_cases hab : a = b
  · subst hab
    have e1 : sameE a a = true := by simp [sameE]
    have e2 : sameK a a = true := by simp [sameK]
    have E1 := Lib.hid e1
    have E2 := Lib.hid e2
    clear e1 e2
    rw [E1.out, E2.out]
    go_enter Tryd.func18, Tryd.ntmps18
    go_wp2
    go_ret2
    exact ⟨rfl, rfl⟩
  · have e1 : sameE a b = false := by simp [sameE, hab]
    have E1 := Lib.hid e1
    clear e1
    rw [E1.out]
    have hne := ne_of a b hab
    have HAB := Lib.hid hab
    clear hab
    rcases form a with ⟨h, pa⟩ | ⟨h0, h, hc, pa⟩ | ⟨h0, h, hc, pa⟩ <;> rcases form b with ⟨g, pb⟩ | ⟨g0, g, gc, pb⟩ | ⟨g0, g, gc, pb⟩
    all_goals
      have hab := HAB.out
      first
        | have e2 : sameK a b = true := by simp [sameK, hab, pa, pb]; done
        | have e2 : sameK a b = false := by simp [sameK, hab, pa, pb]; done
      clear hab
      have E2 := Lib.hid e2
      clear e2 pa pb
      rw [E2.out]
      try have n1 : ((a[0].toNat : Int) != 48) = true := by rw [bne_iff_ne]; omega
      try have n2 : ((a[0].toNat : Int) == 48) = false := by rw [beq_eq_false_iff_ne]; omega
      try have n3 : ((b[0].toNat : Int) != 48) = true := by rw [bne_iff_ne]; omega
      try have n4 : ((b[0].toNat : Int) == 48) = false := by rw [beq_eq_false_iff_ne]; omega
      try have m1 : decide ((a.size : Int) < 2) = false := by simp; omega
      try have m2 : decide ((b.size : Int) < 2) = false := by simp; omega
      go_enter Tryd.func18, Tryd.ntmps18
      go_wp2
      go_ret2
      exact ⟨rfl, rfl⟩

theorem same_any (a b : ByteArray) (w : World) (ha : a.size ≤ 1048576) (hb : b.size ≤ 1048576) :
    Calls Tryd.prog 9 #[.string a, .string b] w fun e w' => e = .returned (.tuple #[.bool (sameE a b), .bool (sameK a b)]) ∧ w = w' := by
  go_enter Tryd.func9, Tryd.ntmps9
  go_wp2_with (first | (go_at_call 18; refine (check_any _ _ _ ha hb).mono ?_; rintro e w' ⟨rfl, rfl⟩))
  go_ret2
  exact ⟨rfl, rfl⟩
end Go.Proofs.YtoijbpjlknmpmaaDoor.big
