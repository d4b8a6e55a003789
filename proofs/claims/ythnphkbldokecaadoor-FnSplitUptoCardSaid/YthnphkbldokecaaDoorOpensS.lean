/- How a slice of texts is opened, its bulk told. -/
import Derived.Test.YthnphkbldokecaaDoorKit
import Derived.Test.YthnphkbldokecaaDoorRows
import Derived.Test.YthnphkbldokecaaDoorSplit
import Derived.ProofKit
import Derived.OpenShut
import Derived.SizedLaws
import Derived.SliceStrings
import Derived.Lib.SmallJoins
namespace Go.Proofs.YthnphkbldokecaaDoor.opens
open Go.ChangeShapes Go.WideShapes Go.ChangeAt Go.RowKit Go.Joins
open kit
open fnSplit (strsSize)

theorem bulk_strs {H : Type} (l : List ByteArray) : Rows.uptoBulkAll (strs l : List (DataW H)) = strsSize l := by
  induction l with
  | nil => simp [strs, Rows.uptoBulkAll, strsSize]
  | cons a l ih =>
    have : (strs (a :: l) : List (DataW H)) = .lit (.string a.data.toList) :: strs l := by simp [strs]
    rw [this]
    simp only [Rows.uptoBulkAll, Rows.uptoBulk, ih, strsSize]
    rw [Array.length_toList]
    rfl
theorem open_strs_arg {H : Type} {enc : TypeId × Value → H} {W : World} {b0 : Nat} {v : Value} {d : DataW H} {p : List MemPlace} {r : Reach}
    (hv : Value.okWide Tryd.prog W r b0 22 v) (h : DataW.Trod enc Tryd.prog W 0 (fun _ => true) true 22 v d p) :
    ∃ A c ss, v = .slice A (ss : List ByteArray).length c ∧ Rd W W.heap.size A ss.length (ss.map Value.string) ∧ strsSize ss ≤ Rows.uptoBulk d := by
  obtain ⟨a, len, cap, rfl⟩ := okWide_slice Tryd.underlying22 hv
  obtain ⟨fuel, hf⟩ := h
  rcases open_strings Tryd.underlying22 Tryd.underlying9 (by kernel_rfl) hf with ⟨hcs, _⟩ | ⟨x, l, c, zs, hcs, _, hl, hm, hz, hx, hcell, hwz⟩
  · simp [Value.cells] at hcs
    obtain ⟨rfl, rfl, rfl⟩ := hcs
    exact ⟨none, 0, [], rfl, Rd.nil_, by simp [strsSize]⟩
  · simp [Value.cells] at hcs
    obtain ⟨rfl, rfl, rfl⟩ := hcs
    have hz' : zs.length = cap := by simpa using hz
    have htl : (zs.take len).length = len := by rw [List.length_take]; omega
    refine ⟨some x, cap, zs.take len, by rw [htl], ⟨by simp, fun hn => ?_⟩, ?_⟩
    · obtain ⟨b, o, sp⟩ := x
      have hc0 := hcell 0 (by omega)
      have hsp : sp = none := by simpa [Addr.add] using World.cell?_spot hc0
      subst hsp
      refine ⟨b, o, rfl, ?_, ?_⟩
      · exact World.block_lt_of_cell? W _ (by simpa [Addr.add] using hc0)
      · intro j u hu
        have hj : j < len := by
          have := (List.getElem?_eq_some_iff.1 hu).1
          rw [List.length_map, htl] at this; exact this
        have hc := hcell j (by omega)
        have hplain : (⟨b, o, none⟩ : Addr).add j = ⟨b, o + j, none⟩ := by unfold Addr.add; split <;> simp_all
        rw [hplain] at hc
        rw [hc]
        simp [hj] at hu
        have hj2 : j < zs.length := by omega
        rw [List.getElem?_eq_getElem hj2] at hu
        simp at hu
        rw [← hu]
        simp [hj2]
    · have : d = .slice (strs (zs.take len)) (strs (zs.drop len)) := by injection hx
      rw [this]
      simp only [Rows.uptoBulk, bulk_strs]
      omega
end Go.Proofs.YthnphkbldokecaaDoor.opens
