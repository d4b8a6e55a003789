/- Plain mathematics of comparing lists of numbers. -/
import Derived.Below
namespace Go.Proofs.YtoijbpjlknmpmaaDoor.cmp

def sm (n : Int) : Int := (n.tmod 1000000 + 1000000) % 1000000
theorem sm_bd (n : Int) : 0 ≤ sm n ∧ sm n ≤ 999999 := by unfold sm; omega

def sgn (n : Int) : Int := if 0 < n then 1 else if n < 0 then -1 else 0
theorem sgn_neg (n : Int) : sgn (-n) = - sgn n := by unfold sgn; repeat' split
                                                     all_goals omega

/-- the difference at the first place where two lists differ, those that are missing as 0; 0: nowhere -/
def dif : List Int → List Int → Int
  | [], [] => 0
  | x :: xs, [] => if x ≠ 0 then x else dif xs []
  | [], y :: ys => if y ≠ 0 then -y else dif [] ys
  | x :: xs, y :: ys => if x ≠ y then x - y else dif xs ys
theorem dif_drop (xs ys : List Int) (k : Nat) (h : k < max xs.length ys.length) :
    dif (xs.drop k) (ys.drop k) = if xs.getD k 0 ≠ ys.getD k 0 then xs.getD k 0 - ys.getD k 0 else dif (xs.drop (k + 1)) (ys.drop (k + 1)) := by
  rcases Nat.lt_or_ge k xs.length with hx | hx <;> rcases Nat.lt_or_ge k ys.length with hy | hy
  · rw [show xs.getD k 0 = xs[k] from by simp [hx], show ys.getD k 0 = ys[k] from by simp [hy], List.drop_eq_getElem_cons hx, List.drop_eq_getElem_cons hy, dif]
  · rw [show xs.getD k 0 = xs[k] from by simp [hx], show ys.getD k 0 = 0 from by simp [hy], List.drop_eq_getElem_cons hx, List.drop_of_length_le hy, List.drop_of_length_le (show ys.length ≤ k + 1 by omega), dif]
    simp
  · rw [show xs.getD k 0 = 0 from by simp [hx], show ys.getD k 0 = ys[k] from by simp [hy], List.drop_eq_getElem_cons hy, List.drop_of_length_le hx, List.drop_of_length_le (show xs.length ≤ k + 1 by omega), dif]
    by_cases h0 : ys[k] = 0
    · simp [h0]
    · rw [if_pos h0, if_pos (fun e => h0 e.symm)]; omega
  · omega
theorem dif_nil : dif [] [] = 0 := by rw [dif]
theorem dif_end (xs ys : List Int) (k : Nat) (h : max xs.length ys.length ≤ k) : dif (xs.drop k) (ys.drop k) = 0 := by
  rw [List.drop_of_length_le (by omega), List.drop_of_length_le (by omega)]; exact dif_nil
theorem dif_self (xs : List Int) : dif xs xs = 0 := by
  induction xs with
  | nil => exact dif_nil
  | cons x xs ih => simp [dif, ih]
theorem dif_anti (xs ys : List Int) : dif ys xs = - dif xs ys := by
  induction xs generalizing ys with
  | nil =>
    induction ys with
    | nil => rw [dif_nil]; rfl
    | cons y ys ih => simp only [dif]; split <;> simp_all
  | cons x xs ih =>
    cases ys with
    | nil => simp only [dif]; split <;> simp_all
    | cons y ys =>
      simp only [dif]
      by_cases h : x = y
      · simp [h, ih ys]
      · rw [if_pos (fun e => h e.symm), if_pos h]; omega
end Go.Proofs.YtoijbpjlknmpmaaDoor.cmp
