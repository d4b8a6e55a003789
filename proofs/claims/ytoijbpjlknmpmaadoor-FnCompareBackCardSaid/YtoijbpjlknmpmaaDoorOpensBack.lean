/- How a version (a struct of a slice of ints and a string) is opened, its sizes told; the two errors' variables, off the row's list. -/
import Derived.Test.YtoijbpjlknmpmaaDoorOpens
import Derived.Test.YtoijbpjlknmpmaaDoorBackParts
import Derived.Test.YtoijbpjlknmpmaaDoorRows
import Derived.Deep.Fields
import Derived.Stop.LaidErr
namespace Go.Proofs.YtoijbpjlknmpmaaDoor.opens
open Go.ChangeShapes Go.WideShapes Go.ChangeAt Go.RowKit Go.Joins
open kit cmp
open Go.Deep (oneCellFields)

theorem fieldsV : ∃ f0 f1 : Field, Tryd.prog.underlying 29 = some (.struct #[f0, f1]) ∧ oneCellFields Tryd.prog #[f0, f1] = true ∧ f0.type = 27 ∧ f1.type = 9 :=
  ⟨_, _, Tryd.underlying29, by kernel_rfl, rfl, rfl⟩
theorem cellsV : Tryd.prog.cellsOf 29 = 2 := by kernel_rfl

theorem open_ver_sized {H : Type} {enc : TypeId × Value → H} {W : World} {b0 : Nat} {v : Value} {d : DataW H} {p : List MemPlace} {r : Reach}
    (hv : Value.okWide Tryd.prog W r b0 29 v) (h : DataW.Trod enc Tryd.prog W 0 (fun _ => true) true 29 v d p)
    (hw : ∀ n ∈ d.weights Tryd.prog 29, n ≤ reachBytes) :
    ∃ A c xs s, v = .agg #[.slice A (xs : List Int).length c, .string s] ∧ Rd W W.heap.size A xs.length (ints xs) ∧ xs.length * 8 ≤ 140737488351232 ∧ s.size ≤ 140737488351232 := by
  obtain ⟨f0, f1, hu, hone, ht0, ht1⟩ := fieldsV
  obtain ⟨v0, v1, y0, y1, n, rfl, rfl, rfl, h0, h1⟩ := open_agg2 hu hone cellsV hv h
  have hww : ∀ n ∈ y0.1.weights Tryd.prog f0.type ++ (y1.1.weights Tryd.prog f1.type ++ []), n ≤ reachBytes := by
    intro n hn
    apply hw
    simp only [DataW.weights, hu]
    exact hn
  rw [ht0] at h0 hww
  rw [ht1] at h1 hww
  have hs : ∃ s : ByteArray, v1 = .string s ∧ y1.1 = .lit (.string s.data.toList) := by
    obtain ⟨s, hcs, hx, _⟩ := DataW.trod_string Tryd.underlying9 h1
    exact ⟨s, by simpa using hcs, by rw [hx]⟩
  obtain ⟨s, rfl, hs1⟩ := hs
  have hsz : s.size ≤ 140737488351232 := by
    have := hww s.data.toList.length (by rw [hs1]; simp [DataW.weights])
    rw [Array.length_toList, reach_eq] at this
    exact this
  rcases open_ints Tryd.underlying27 Tryd.underlying3 (by kernel_rfl) h0 with ⟨hcs, hy⟩ | ⟨x, l, c, zs, hcs, _, hl, hm, hz, hx, hcell, hwz⟩
  · obtain rfl := by simpa using hcs
    exact ⟨none, 0, [], s, rfl, Rd.nil_, by simp, hsz⟩
  · obtain rfl := by simpa using hcs
    have hz' : zs.length = c := by simpa using hz
    have htl : (zs.take l).length = l := by rw [List.length_take]; omega
    refine ⟨some x, c, zs.take l, s, by rw [htl], ⟨by rw [ints_len], fun hn => ?_⟩, ?_, hsz⟩
    · obtain ⟨b, o, sp⟩ := x
      have hc0 := hcell 0 (by omega)
      have hsp : sp = none := by simpa [Addr.add] using World.cell?_spot hc0
      subst hsp
      refine ⟨b, o, rfl, ?_, ?_⟩
      · exact World.block_lt_of_cell? W _ (by simpa [Addr.add] using hc0)
      · intro j u hu
        have hj : j < l := by
          have := (List.getElem?_eq_some_iff.1 hu).1
          rw [ints_len, htl] at this; exact this
        have hc := hcell j (by omega)
        have hplain : (⟨b, o, none⟩ : Addr).add j = ⟨b, o + j, none⟩ := by unfold Addr.add; split <;> simp_all
        rw [hplain] at hc
        rw [hc]
        simp [ints, hj] at hu
        have hj2 : j < zs.length := by omega
        rw [List.getElem?_eq_getElem hj2] at hu
        simp at hu
        rw [← hu]
        simp [hj2]
    · have := hww ((zs.take l).length * 8 + (zs.drop l).length * 8) (by
        rw [hx]
        simp only [DataW.weights, Tryd.underlying27, lits_len, bytes_int]
        rw [← Nat.add_mul]
        simp)
      rw [reach_eq] at this
      omega

theorem gS : Tryd.prog.globalNamed "strconv.ErrSyntax" = some 2 := by kernel_rfl
theorem gR : Tryd.prog.globalNamed "strconv.ErrRange" = some 3 := by kernel_rfl
theorem gST : (Tryd.prog.globals[2]?).map (·.type) = some 52 := by kernel_rfl
theorem gRT : (Tryd.prog.globals[3]?).map (·.type) = some 52 := by kernel_rfl
theorem cE : Tryd.prog.cellsOf 98 = 1 := by kernel_rfl
theorem cS : Tryd.prog.cellsOf 9 = 1 := by kernel_rfl
theorem star : "*" ++ "errors.errorString" = "*errors.errorString" := by decide
theorem rowE (u : TypeId) (h : Tryd.prog.typeName? 3 u = some "*errors.errorString") : u = 96 :=
  typeName_ptr_named (nm := "errors.errorString") (by rw [star]; kernel_rfl) (by kernel_rfl) (by decide) u (by rw [star]; exact h)
theorem errs {W : World} (h : laidMetH Tryd.prog Rows.fnCompareBackRow.laid W) : back.Errs W := by
  have h1 : laidMet Tryd.prog Rows.fnCompareBackRow.laid W := h
  have h4 := laidMet.tail (laidMet.tail (laidMet.tail h1))
  obtain ⟨a1, s1, v1, _⟩ := laid_sentinel h4 gR gRT Tryd.underlying52 rowE Tryd.underlying96 Tryd.underlying98 rfl rfl Tryd.underlying9 cE cS
  obtain ⟨a2, s2, v2, _⟩ := laid_sentinel (laidMet.tail h4) gS gST Tryd.underlying52 rowE Tryd.underlying96 Tryd.underlying98 rfl rfl Tryd.underlying9 cE cS
  exact ⟨⟨_, by simpa using World.var?_cell gS v2 0, .inr ⟨_, _, rfl⟩⟩, ⟨_, by simpa using World.var?_cell gR v1 0, .inr ⟨_, _, rfl⟩⟩⟩
end Go.Proofs.YtoijbpjlknmpmaaDoor.opens
