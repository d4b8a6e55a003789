/- The walk of FnSameBigKnown. -/
import Derived.Test.YtoijbpjlknmpmaaDoorSameWalk
import Derived.Test.YtoijbpjlknmpmaaDoorVer
namespace Go.Proofs.YtoijbpjlknmpmaaDoor.fnSameBigKnown
open Go.RowKit
open kit big ver

theorem one_any (B c : Nat) (w : World) (ht : Tab w) (hB : B < w.heap.size) (hc : w.cell? ⟨B, 0, none⟩ = some (.int .i64 1)) :
    Calls Tryd.prog 10 #[.agg #[.slice (some ⟨B, 0, none⟩) 1 c, .string ⟨#[]⟩]] w fun e w' => e = .returned (.string ⟨#[49]⟩) ∧ Below w.heap.size w w' := by
  have k := versionText_any (some ⟨B, 0, none⟩) c [1] ⟨#[]⟩ w
    ⟨rfl, fun _ => ⟨B, 0, rfl, hB, fun j u hu => by match j, hu with | 0, hu => simp [cmp.ints] at hu; subst hu; exact hc⟩⟩ (by simp) (by decide) (by intro n hn; simp at hn; subst hn; unfold Fit; omega) ht
  have e : jn [1] ++ (⟨#[]⟩ : ByteArray).data.toList = [49] := by
    show jn [1] ++ [] = [49]
    simp [jn, Lib.itoa]
    rw [Lib.decDigits_one (by omega)]
    rfl
  rw [e] at k
  exact k

theorem sameE_eq (a b : ByteArray) : sameE a b = (a.toList == b.toList) := by
  by_cases h : a = b
  · subst h; simp [sameE]
  · rw [ne_of a b h]; simp [sameE, h]

set_option maxHeartbeats 3200000 in
theorem walk (a0 a1 : ByteArray) (w : World) (_ : a0.size ≤ maxLen) (_ : a1.size ≤ maxLen) (h : a0.size + a1.size ≤ 1048576) (ht : Tab w) :
    Calls Tryd.prog 3 #[.string a0, .string a1] w fun e w' => e = .returned (.bool true) ∧ Below w.heap.size w w' := by
  have hg0 := tab_lt ht
  have HT := Lib.hid ht
  have S0 := Lib.hid (fun W : World => same_any a0 a0 W (by omega) (by omega))
  have e1 : sameE a0 a0 = true := by simp [sameE]
  have e2 : sameK a0 a0 = true := by simp [sameK]
  rw [e1, e2] at S0
  clear e1 e2 ht
  go_enter Tryd.func3, Tryd.ntmps3
  go_wp2_with fail
  refine (big_any a0 _ (by omega)).mono ?_
  rintro e w1 ⟨rfl, hb1⟩
  go_wp2_with fail
  refine (big_any a1 _ (by omega)).mono ?_
  rintro e w2 ⟨rfl, hb2⟩
  go_wp2_with fail
  refine (same_any a0 a1 _ (by omega) (by omega)).mono ?_
  rintro e w3 ⟨rfl, rfl⟩
  go_wp2_with fail
  refine (S0.out _).mono ?_
  rintro e w3 ⟨rfl, rfl⟩
  have hW : Below w.heap.size w w2 := hb1.trans (hb2.mono hb1.size)
  have hs := hW.size
  clear hb1 hb2 S0
  have XV := Lib.hid (one_any w2.heap.size 1 (w2.alloc (.cells #[.int .i64 1] 3)) (HT.out.below (hW.alloc hs _) hg0) (by simp) (by simp))
  have fin : ∀ w3, Below (w2.alloc (.cells #[.int .i64 1] 3)).heap.size (w2.alloc (.cells #[.int .i64 1] 3)) w3 → Below w.heap.size w w3 := fun w3 h3 => (hW.alloc hs _).trans (h3.mono (by simp; omega))
  have FIN := Lib.hid fin
  clear fin
  rw [sameE_eq a0 a1]
  have hK : Plain a0 → Plain a1 → sameK a0 a1 = true := fun p q => by simp [sameK, p, q]
  generalize (big (lets a0)).2 = X1 at *
  generalize (big (lets a1)).2 = X2 at *
  cases X1
  · clear hK
    generalize sameK a0 a1 = K
    go_wp2_with (first | (go_at_call 10; refine XV.out.mono ?_; rintro e w3 ⟨rfl, hb3⟩))
    go_ret
    exact ⟨rfl, FIN.out _ hb3⟩
  · cases X2
    · clear hK
      generalize sameK a0 a1 = K
      go_wp2_with (first | (go_at_call 10; refine XV.out.mono ?_; rintro e w3 ⟨rfl, hb3⟩))
      go_ret
      exact ⟨rfl, FIN.out _ hb3⟩
    · rcases form a0 with ⟨h, pa⟩ | ⟨h0, h, hc, pa⟩ | ⟨h0, h, hc, pa⟩ <;> rcases form a1 with ⟨g, pb⟩ | ⟨g0, g, gc, pb⟩ | ⟨g0, g, gc, pb⟩
      all_goals
        first
          | rw [hK pa pb]
          | generalize sameK a0 a1 = K
        clear hK pa pb
        try have n1 : ((a0[0].toNat : Int) != 48) = true := by rw [bne_iff_ne]; omega
        try have n2 : ((a0[0].toNat : Int) == 48) = false := by rw [beq_eq_false_iff_ne]; omega
        try have n3 : ((a1[0].toNat : Int) != 48) = true := by rw [bne_iff_ne]; omega
        try have n4 : ((a1[0].toNat : Int) == 48) = false := by rw [beq_eq_false_iff_ne]; omega
        try have m1 : decide ((a0.size : Int) < 2) = false := by simp; omega
        try have m2 : decide ((a1.size : Int) < 2) = false := by simp; omega
        try have m3 : decide ((a0.size : Int) < 2) = true := by simp; omega
        try have m4 : decide ((a1.size : Int) < 2) = true := by simp; omega
        go_wp2_with (first | (go_at_call 10; refine XV.out.mono ?_; rintro e w3 ⟨rfl, hb3⟩))
        go_ret
        exact ⟨rfl, FIN.out _ hb3⟩
end Go.Proofs.YtoijbpjlknmpmaaDoor.fnSameBigKnown
