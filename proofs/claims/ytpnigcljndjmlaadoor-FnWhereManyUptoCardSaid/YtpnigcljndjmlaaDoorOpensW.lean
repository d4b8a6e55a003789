/- How a slice of ints is opened, its bulk told. -/
import Derived.Test.YtpnigcljndjmlaaDoorKit
import Derived.Test.YtpnigcljndjmlaaDoorRows
import Derived.ProofKit
import Derived.OpenShut
import Derived.SizedLaws
import Derived.SliceStrings
import Derived.Lib.SmallJoins
namespace Go.Proofs.YtpnigcljndjmlaaDoor.opens
open Go.ChangeShapes Go.WideShapes Go.ChangeAt Go.RowKit Go.Joins
open kit

theorem bulk_lits {H : Type} (k : IntKind) (l : List Int) : Rows.uptoBulkAll (lits k l : List (DataW H)) = l.length := by
  induction l with
  | nil => simp [lits, Rows.uptoBulkAll]
  | cons a l ih =>
    have : (lits k (a :: l) : List (DataW H)) = .lit (.int k a) :: lits k l := by simp [lits]
    rw [this]
    simp only [Rows.uptoBulkAll, Rows.uptoBulk, ih, List.length_cons]
    omega
theorem open_ints_arg {H : Type} {enc : TypeId × Value → H} {W : World} {b0 : Nat} {v : Value} {d : DataW H} {p : List MemPlace} {r : Reach}
    (hv : Value.okWide Tryd.prog W r b0 37 v) (h : DataW.Trod enc Tryd.prog W 0 (fun _ => true) true 37 v d p)
    (_ : ∀ es sp : List (DataW H), d = .slice es sp → (es.length + sp.length) * Tryd.prog.bytesOf 3 ≤ reachBytes) :
    ∃ A c xs, v = .slice A (xs : List Int).length c ∧ Rd W W.heap.size A xs.length (xs.map fun x => Value.int .i64 x) ∧ True ∧ xs.length ≤ Rows.uptoBulk d := by
  obtain ⟨a, len, cap, rfl⟩ := okWide_slice Tryd.underlying37 hv
  obtain ⟨fuel, hf⟩ := h
  rcases open_ints Tryd.underlying37 Tryd.underlying3 (by kernel_rfl) hf with ⟨hcs, _⟩ | ⟨x, l, c, zs, hcs, _, hl, hm, hz, hx, hcell, hwz⟩
  · simp [Value.cells] at hcs
    obtain ⟨rfl, rfl, rfl⟩ := hcs
    exact ⟨none, 0, [], rfl, Rd.nil_, trivial, by simp⟩
  · simp [Value.cells] at hcs
    obtain ⟨rfl, rfl, rfl⟩ := hcs
    have hz' : zs.length = cap := by simpa using hz
    have htl : (zs.take len).length = len := by rw [List.length_take]; omega
    refine ⟨some x, cap, zs.take len, by rw [htl], ⟨by simp, fun hn => ?_⟩, trivial, ?_⟩
    · obtain ⟨b, o, sp⟩ := x
      have hc0 := hcell 0 (by omega)
      have hsp : sp = none := by simpa [Addr.add] using World.cell?_spot hc0
      subst hsp
      refine ⟨b, o, rfl, ?_, ?_⟩
      · exact World.block_lt_of_cell? W _ (by simpa [Addr.add] using hc0)
      · intro j u hu
        have hj : j < len := by
          have := (List.getElem?_eq_some_iff.1 hu).1
          rw [List.length_map, htl] at this; exact this
        have hc := hcell j (by omega)
        have hplain : (⟨b, o, none⟩ : Addr).add j = ⟨b, o + j, none⟩ := by unfold Addr.add; split <;> simp_all
        rw [hplain] at hc
        rw [hc]
        simp [hj] at hu
        have hj2 : j < zs.length := by omega
        rw [List.getElem?_eq_getElem hj2] at hu
        simp at hu
        rw [← hu]
        simp [hj2]
    · have : d = .slice (lits .i64 (zs.take len)) (lits .i64 (zs.drop len)) := by injection hx
      rw [this]
      simp only [Rows.uptoBulk, bulk_lits]
      omega
end Go.Proofs.YtpnigcljndjmlaaDoor.opens
