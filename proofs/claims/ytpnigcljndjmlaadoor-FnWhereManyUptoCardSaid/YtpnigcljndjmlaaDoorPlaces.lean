/- What Where leaves, read off. -/
import Derived.Test.YtpnigcljndjmlaaDoorLineAt
import Derived.Test.YtpnigcljndjmlaaDoorWhere0
namespace Go.Proofs.YtpnigcljndjmlaaDoor.line
open Go.RowKit
open kit pt

theorem told_one {s : ByteArray} {r : Nat × Nat} {cs : List (List Value)} (h : ToldAll s [r] cs) : ∃ c, cs = [c] ∧ Told s r c := by
  generalize hl : [r] = l at h
  cases h with
  | nil => cases hl
  | @snoc rs cs' r' c h hr =>
    have h1 : rs = [] := by
      have := congrArg List.length hl
      simp at this
      exact this
    subst h1
    have h2 : cs' = [] := List.eq_nil_of_length_eq_zero (by have := h.len; simpa using this)
    subst h2
    simp at hl
    subst hl
    exact ⟨c, rfl, hr⟩
theorem told_at {s : ByteArray} {rs : List (Nat × Nat)} {cs : List (List Value)} (h : ToldAll s rs cs) : ∀ (i : Nat) (r : Nat × Nat), rs[i]? = some r → ∃ c, cs[i]? = some c ∧ Told s r c := by
  induction h with
  | nil => intro i r q; simp at q
  | @snoc rs cs r' c h hr ih =>
    intro i r q
    by_cases hi : i < rs.length
    · rw [List.getElem?_append_left hi] at q
      obtain ⟨c', h1, h2⟩ := ih i r q
      exact ⟨c', by rw [List.getElem?_append_left (by rw [h.len]; exact hi)]; exact h1, h2⟩
    · rw [List.getElem?_append_right (by omega)] at q
      have hi0 : i - rs.length = 0 := by
        have := (List.getElem?_eq_some_iff.1 q).1
        simp at this; omega
      rw [hi0] at q
      simp at q
      subst q
      refine ⟨c, ?_, hr⟩
      rw [List.getElem?_append_right (by rw [h.len]; omega), h.len, hi0]; rfl
theorem own_cell {w : World} {base : Nat} {e : TypeId} {size n g cap : Nat} {xs : List Value} (h : w.ownsRow base e size (.slice (some ⟨g, 0, none⟩) n cap) n xs) (j : Nat) (u : Value) (hu : xs[j]? = some u) : w.cell? ⟨g, j, none⟩ = some u := by
  have := h.cells (g := g) rfl j u hu
  unfold Addr.add at this
  by_cases hj : j = 0
  · subst hj; simpa using this
  · simpa [hj] using this
/-- one place -/
theorem places_one {s : ByteArray} {r : Nat × Nat} {w : World} {e : Ending} {w' : World} (h : Places s [r] w e w') :
    ∃ g cap j c f z, e = .returned (.slice (some ⟨g, 0, none⟩) 1 cap) ∧ w.heap.size ≤ g ∧ g < w'.heap.size ∧ At s.data.toList j r.1 c f ∧ Fin s.data.toList r.1 z ∧
      w'.cell? ⟨g, 0, none⟩ = some (.int .i64 ((c : Int) + 1)) ∧ w'.cell? ⟨g, 1, none⟩ = some (.int .i64 ((r.1 : Int) - f)) ∧ w'.cell? ⟨g, 2, none⟩ = some (.int .i64 r.2) ∧ w'.cell? ⟨g, 3, none⟩ = some (.string (s.extract f z)) ∧ Below w.heap.size w w' := by
  obtain ⟨v, cs, rfl, hown, hall, hb⟩ := h
  obtain ⟨c, rfl, hT⟩ := told_one hall
  obtain ⟨j, ct, f, z, h1, h2, rfl⟩ := hT
  rcases hown.2 with ⟨_, q⟩ | ⟨g, cap, cur, rfl, hg, _⟩
  · cases q
  · exact ⟨g, cap, j, ct, f, z, rfl, hg, (hown.lt g rfl).2, h1, h2, own_cell hown 0 _ rfl, own_cell hown 1 _ rfl, own_cell hown 2 _ rfl, own_cell hown 3 _ rfl, hb⟩
end Go.Proofs.YtpnigcljndjmlaaDoor.line
