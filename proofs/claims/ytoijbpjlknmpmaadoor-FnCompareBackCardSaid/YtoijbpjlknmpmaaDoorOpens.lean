/- How arguments are opened: slices of ints, versions. -/
import Derived.Test.YtoijbpjlknmpmaaDoorCmpWalk
import Derived.ProofKit
import Derived.OpenShut
import Derived.SizedLaws
import Derived.SliceStrings
import Derived.Lib.SmallJoins
namespace Go.Proofs.YtoijbpjlknmpmaaDoor.opens
open Go.ChangeShapes Go.WideShapes Go.ChangeAt Go.RowKit Go.Joins
open kit cmp

theorem bytes_int : Tryd.prog.bytesOf 3 = 8 := by kernel_rfl
theorem reach_eq : reachBytes = 140737488351232 := by decide

theorem lits_len {H : Type} (k : IntKind) (l : List Int) : (lits k l : List (DataW H)).length = l.length := by simp [lits]

theorem open_ints_arg {H : Type} {enc : TypeId × Value → H} {W : World} {b0 : Nat} {v : Value} {d : DataW H} {p : List MemPlace} {r : Reach}
    (hv : Value.okWide Tryd.prog W r b0 27 v) (h : DataW.Trod enc Tryd.prog W 0 (fun _ => true) true 27 v d p)
    (wt : ∀ es sp : List (DataW H), d = .slice es sp → (es.length + sp.length) * Tryd.prog.bytesOf 3 ≤ reachBytes) :
    ∃ A c xs, v = .slice A xs.length c ∧ Rd W W.heap.size A xs.length (ints xs) ∧ xs.length * 8 ≤ 140737488351232 ∧ True := by
  obtain ⟨a, len, cap, rfl⟩ := okWide_slice Tryd.underlying27 hv
  obtain ⟨fuel, hf⟩ := h
  rcases open_ints Tryd.underlying27 Tryd.underlying3 (by kernel_rfl) hf with ⟨hcs, _⟩ | ⟨x, l, c, zs, hcs, _, hl, hm, hz, hx, hcell, hwz⟩
  · simp [Value.cells] at hcs
    obtain ⟨rfl, rfl, rfl⟩ := hcs
    exact ⟨none, 0, [], rfl, Rd.nil_, by simp, trivial⟩
  · simp [Value.cells] at hcs
    obtain ⟨rfl, rfl, rfl⟩ := hcs
    have hz' : zs.length = cap := by simpa using hz
    have htl : (zs.take len).length = len := by rw [List.length_take]; omega
    refine ⟨some x, cap, zs.take len, by rw [htl], ⟨by rw [ints_len], fun hn => ?_⟩, ?_, trivial⟩
    · obtain ⟨b, o, sp⟩ := x
      have hc0 := hcell 0 (by omega)
      have hsp : sp = none := by simpa [Addr.add] using World.cell?_spot hc0
      subst hsp
      refine ⟨b, o, rfl, ?_, ?_⟩
      · exact World.block_lt_of_cell? W _ (by simpa [Addr.add] using hc0)
      · intro j u hu
        have hj : j < len := by
          have := (List.getElem?_eq_some_iff.1 hu).1
          rw [ints_len, htl] at this; exact this
        have hc := hcell j (by omega)
        have hplain : (⟨b, o, none⟩ : Addr).add j = ⟨b, o + j, none⟩ := by unfold Addr.add; split <;> simp_all
        rw [hplain] at hc
        rw [hc]
        simp [ints, hj] at hu
        have hj2 : j < zs.length := by omega
        rw [List.getElem?_eq_getElem hj2] at hu
        simp at hu
        rw [← hu]
        simp [hj2]
    · have := wt _ _ (by injection hx)
      rw [lits_len, lits_len, bytes_int, reach_eq] at this
      rw [htl]
      have hd : (zs.take len).length + (zs.drop len).length = zs.length := by rw [List.length_take, List.length_drop]; omega
      omega
/-- the same, with the capacity -/
theorem open_ints_arg2 {H : Type} {enc : TypeId × Value → H} {W : World} {b0 : Nat} {v : Value} {d : DataW H} {p : List MemPlace} {r : Reach}
    (hv : Value.okWide Tryd.prog W r b0 27 v) (h : DataW.Trod enc Tryd.prog W 0 (fun _ => true) true 27 v d p)
    (wt : ∀ es sp : List (DataW H), d = .slice es sp → (es.length + sp.length) * Tryd.prog.bytesOf 3 ≤ reachBytes) :
    ∃ A c xs, v = .slice A xs.length c ∧ Rd W W.heap.size A xs.length (ints xs) ∧ xs.length * 8 ≤ 140737488351232 ∧ xs.length ≤ c := by
  obtain ⟨A, c, xs, rfl, h1, h2, _⟩ := open_ints_arg hv h wt
  refine ⟨A, c, xs, rfl, h1, h2, ?_⟩
  obtain ⟨fuel, hf⟩ := h
  rcases open_ints Tryd.underlying27 Tryd.underlying3 (by kernel_rfl) hf with ⟨hcs, _⟩ | ⟨x, l, c', zs, hcs, _, hl, _⟩
  · simp [Value.cells] at hcs
    have := hcs.2
    simp [this]
  · simp [Value.cells] at hcs
    obtain ⟨rfl, rfl, rfl⟩ := hcs
    exact hl
end Go.Proofs.YtoijbpjlknmpmaaDoor.opens
