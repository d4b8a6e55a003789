/- Pairs held against each other. -/
import Derived.Test.YtokafofckjookaaPacked
import Derived.WalkSpells
import Derived.WalkLawsBesides
namespace Go.Proofs.Ytokafofckjookaa.pk
open Go.RowKit
open kit bld

theorem ne_data {a c : List UInt8} (h : ¬ a = c) : ¬ (⟨a.toArray⟩ : ByteArray) = ⟨c.toArray⟩ := fun e => h (by simpa using congrArg (fun x => x.data.toList) e)
theorem eql_pair (a b c d : List UInt8) (W : World) : (binOp .eql 25 (.agg #[.string ⟨a.toArray⟩, .string ⟨b.toArray⟩]) (.agg #[.string ⟨c.toArray⟩, .string ⟨d.toArray⟩])).run Try.prog W = .ok (.bool (decide (a = c) && decide (b = d))) W := by
  by_cases h1 : a = c
  · subst h1
    by_cases h2 : b = d
    · subst h2
      simp [go_sem]
    · simp [go_sem, h2]
  · simp [go_sem, h1]
theorem eqin_pair (a b c d : List UInt8) (W : World) : (Op.equalIn 10000 25 (.agg #[.string ⟨a.toArray⟩, .string ⟨b.toArray⟩]) (.agg #[.string ⟨c.toArray⟩, .string ⟨d.toArray⟩])).run Try.prog W = .ok (decide (a = c) && decide (b = d)) W := by
  by_cases h1 : a = c
  · subst h1
    by_cases h2 : b = d
    · subst h2
      simp [go_sem]
    · simp [go_sem, h2]
  · simp [go_sem, h1]
theorem eq_pair (a b c d : List UInt8) : ∃ cm : Bool, (∀ W : World, (Op.equalIn 10000 25 (.agg #[.string ⟨a.toArray⟩, .string ⟨b.toArray⟩]) (.agg #[.string ⟨c.toArray⟩, .string ⟨d.toArray⟩])).run Try.prog W = .ok cm W) ∧
    (∀ W : World, (binOp .eql 25 (.agg #[.string ⟨a.toArray⟩, .string ⟨b.toArray⟩]) (.agg #[.string ⟨c.toArray⟩, .string ⟨d.toArray⟩])).run Try.prog W = .ok (.bool cm) W) ∧
    (∀ W : World, (binOp .neq 25 (.agg #[.string ⟨a.toArray⟩, .string ⟨b.toArray⟩]) (.agg #[.string ⟨c.toArray⟩, .string ⟨d.toArray⟩])).run Try.prog W = .ok (.bool (!cm)) W) ∧ (cm = true ↔ (a, b) = (c, d)) := by
  refine ⟨_, eqin_pair a b c d, eql_pair a b c d, fun W => ?_, by simp⟩
  rw [run_neq_struct, eqin_pair]
  rfl
end Go.Proofs.Ytokafofckjookaa.pk
