/- The tables of unicode/utf8, off the rows' lists. -/
import Derived.Test.YtpnigcljndjmlaaDoorRows
import Derived.Test.YtpnigcljndjmlaaDoorTrack
import Derived.Lib.LaidU8
import Derived.WalkKit
namespace Go.Proofs.YtpnigcljndjmlaaDoor.laidw
open Go.RowKit Go.Lib
open line

theorem n3 : Tryd.prog.globalNamed "unicode/utf8.first" = some 0 := by kernel_rfl
theorem n4 : Tryd.prog.globalNamed "unicode/utf8.acceptRanges" = some 1 := by kernel_rfl
theorem y3 : (Tryd.prog.globals[0]?).map (·.type) = some 75 := by kernel_rfl
theorem y4 : (Tryd.prog.globals[1]?).map (·.type) = some 79 := by kernel_rfl
theorem c5 : Tryd.prog.cellsOf 5 = 1 := by kernel_rfl
theorem c119 : Tryd.prog.cellsOf 75 = 256 := by kernel_rfl
theorem c138 : Tryd.prog.cellsOf 78 = 2 := by kernel_rfl
theorem first_eq : Rows.laid_unicode_utf8_first = firstData := by kernel_rfl
theorem accept_eq : (Rows.laid_unicode_utf8_acceptRanges : DataW Unit) = acceptData := by kernel_rfl
theorem fields_acc : ∃ f0 f1 : Field, Tryd.prog.underlying 78 = some (.struct #[f0, f1]) ∧ f0.type = 5 ∧ f1.type = 5 ∧ f0.offset = 0 ∧ f1.offset = 1 :=
  ⟨_, _, Tryd.underlying78, rfl, rfl, rfl, rfl⟩

theorem tabs_of {w : World} (h3 : VarReads Tryd.prog w "unicode/utf8.first" firstData) (h4 : VarReads Tryd.prog w "unicode/utf8.acceptRanges" acceptData) : Tabs w := by
  refine ⟨fun c hc => ?_, fun i hi => ?_⟩
  · obtain ⟨g, t, cs, fuel, p, hg, hty, hvar, hd⟩ := h3
    obtain rfl := Option.some.inj (n3.symm.trans hg)
    obtain rfl := Option.some.inj (y3.symm.trans hty)
    have hcs := cells_of_tab Tryd.underlying75 Tryd.underlying5 c5 c119 hd
    have := World.var?_cell hg hvar c
    rw [this, ← Array.getElem?_toList, hcs]
    simp [firstTab, hc]
  · obtain ⟨g, t, cs, fuel, p, hg, hty, hvar, hd⟩ := h4
    obtain rfl := Option.some.inj (n4.symm.trans hg)
    obtain rfl := Option.some.inj (y4.symm.trans hty)
    obtain ⟨fuel', d, q, hdi, he⟩ := array_elem Tryd.underlying79 hd i hi
    simp only [List.getElem?_map, List.getElem?_range hi, Option.map_some, Option.some.injEq] at hdi
    subst hdi
    rw [c138] at he
    obtain ⟨f0, f1, hu, t0, t1, o0, o1⟩ := fields_acc
    have hcs := ints_of_struct hu (fun j f hj => by
      match j, hj with
      | 0, hj => simp at hj; subst hj; rw [t0]; exact ⟨Tryd.underlying5, o0, c5⟩
      | 1, hj => simp at hj; subst hj; rw [t1]; exact ⟨Tryd.underlying5, o1, c5⟩
      | j + 2, hj => simp at hj) (by rw [c138]; rfl) he
    have e0 := congrArg (·[0]?) hcs
    have e1 := congrArg (·[1]?) hcs
    simp only [List.getElem?_take, List.getElem?_drop] at e0 e1
    constructor
    · rw [World.var?_cell hg hvar (2 * i), ← Array.getElem?_toList]
      simpa [Nat.mul_comm] using e0
    · rw [World.var?_cell hg hvar (2 * i + 1), ← Array.getElem?_toList]
      simpa [Nat.mul_comm] using e1
theorem size_of {w : World} (h : Tabs w) : 2 ≤ w.heap.size := by
  have h1 := (h.2 0 (by omega)).1
  have := World.block_lt_of_cell? w _ h1
  simp at this
  omega
theorem tabs_met {l : List (String × DataW Unit)} {W : World} (h : laidMetH Tryd.prog l W) (hf : (l.filter fun x => x.2.handleName?.isSome) = []) (hm : ("unicode/utf8.first", Rows.laid_unicode_utf8_first) ∈ l) (hm' : ("unicode/utf8.acceptRanges", (Rows.laid_unicode_utf8_acceptRanges : DataW Unit)) ∈ l) : Tabs W ∧ 2 ≤ W.heap.size := by
  have h1 : laidMet Tryd.prog l W := by unfold laidMetH at h; rw [hf] at h; exact h
  have a := laidMet.reads h1 hm
  have b := laidMet.reads h1 hm'
  rw [first_eq] at a
  rw [accept_eq] at b
  have := tabs_of a b
  exact ⟨this, size_of this⟩
end Go.Proofs.YtpnigcljndjmlaaDoor.laidw
