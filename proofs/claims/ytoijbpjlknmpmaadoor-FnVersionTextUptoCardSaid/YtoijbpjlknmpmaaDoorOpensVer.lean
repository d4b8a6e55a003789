/- How a version (a struct of a slice of ints and a string) is opened. -/
import Derived.Test.YtoijbpjlknmpmaaDoorOpens
import Derived.Test.YtoijbpjlknmpmaaDoorVer
import Derived.Test.YtoijbpjlknmpmaaDoorRows
import Derived.Deep.Fields
namespace Go.Proofs.YtoijbpjlknmpmaaDoor.opens
open Go.ChangeShapes Go.WideShapes Go.ChangeAt Go.RowKit Go.Joins
open kit cmp ver
open Go.Deep (oneCellFields)

theorem fields_ver : ∃ f0 f1 : Field, Tryd.prog.underlying 29 = some (.struct #[f0, f1]) ∧ oneCellFields Tryd.prog #[f0, f1] = true ∧ f0.type = 27 ∧ f1.type = 9 :=
  ⟨_, _, Tryd.underlying29, by kernel_rfl, rfl, rfl⟩
theorem cells_ver : Tryd.prog.cellsOf 29 = 2 := by kernel_rfl

theorem fit_wf {n : Int} (h : (Lit.int .i64 n).wf = true) : Fit n := by
  simp only [Lit.wf, Bool.and_eq_true, decide_eq_true_eq] at h
  have e1 : IntKind.i64.min = -9223372036854775808 := by decide
  have e2 : IntKind.i64.max = 9223372036854775807 := by decide
  rw [e1, e2] at h
  exact h

theorem open_ver {H : Type} {enc : TypeId × Value → H} {W : World} {b0 : Nat} {v : Value} {d : DataW H} {p : List MemPlace} {r : Reach}
    (hv : Value.okWide Tryd.prog W r b0 29 v) (h : DataW.Trod enc Tryd.prog W 0 (fun _ => true) true 29 v d p) :
    ∃ A c xs s, v = .agg #[.slice A (xs : List Int).length c, .string s] ∧ Rd W W.heap.size A xs.length (ints xs) ∧ (∀ n ∈ xs, Fit n) ∧
      ((xs = [] ∧ d = .agg [.nil, .lit (.string s.data.toList)]) ∨ ∃ sp : List Int, d = .agg [.slice (lits .i64 xs) (lits .i64 sp), .lit (.string s.data.toList)]) := by
  obtain ⟨f0, f1, hu, hone, ht0, ht1⟩ := fields_ver
  obtain ⟨v0, v1, y0, y1, n, rfl, rfl, rfl, h0, h1⟩ := open_agg2 hu hone cells_ver hv h
  rw [ht0] at h0
  rw [ht1] at h1
  have hs : ∃ s : ByteArray, v1 = .string s ∧ y1.1 = .lit (.string s.data.toList) := by
    obtain ⟨s, hcs, hx, _⟩ := DataW.trod_string Tryd.underlying9 h1
    exact ⟨s, by simpa using hcs, by rw [hx]⟩
  obtain ⟨s, rfl, hs1⟩ := hs
  rcases open_ints Tryd.underlying27 Tryd.underlying3 (by kernel_rfl) h0 with ⟨hcs, hy⟩ | ⟨x, l, c, zs, hcs, _, hl, hm, hz, hx, hcell, hwz⟩
  · obtain rfl := by simpa using hcs
    refine ⟨none, 0, [], s, rfl, Rd.nil_, by simp, .inl ⟨rfl, ?_⟩⟩
    rw [hs1, hy]
  · obtain rfl := by simpa using hcs
    have hz' : zs.length = c := by simpa using hz
    have htl : (zs.take l).length = l := by rw [List.length_take]; omega
    refine ⟨some x, c, zs.take l, s, by rw [htl], ⟨by rw [ints_len], fun hn => ?_⟩, fun n hn => fit_wf (hwz n (List.mem_of_mem_take hn)), .inr ⟨zs.drop l, by rw [hs1, hx]⟩⟩
    obtain ⟨b, o, sp⟩ := x
    have hc0 := hcell 0 (by omega)
    have hsp : sp = none := by simpa [Addr.add] using World.cell?_spot hc0
    subst hsp
    refine ⟨b, o, rfl, ?_, ?_⟩
    · exact World.block_lt_of_cell? W _ (by simpa [Addr.add] using hc0)
    · intro j u hu
      have hj : j < l := by
        have := (List.getElem?_eq_some_iff.1 hu).1
        rw [ints_len, htl] at this; exact this
      have hc := hcell j (by omega)
      have hplain : (⟨b, o, none⟩ : Addr).add j = ⟨b, o + j, none⟩ := by unfold Addr.add; split <;> simp_all
      rw [hplain] at hc
      rw [hc]
      simp [ints, hj] at hu
      have hj2 : j < zs.length := by omega
      rw [List.getElem?_eq_getElem hj2] at hu
      simp at hu
      rw [← hu]
      simp [hj2]

theorem bulk_lits {H : Type} (k : IntKind) (l : List Int) : Rows.uptoBulkAll (lits k l : List (DataW H)) = l.length := by
  induction l with
  | nil => simp [lits, Rows.uptoBulkAll]
  | cons a l ih =>
    have : (lits k (a :: l) : List (DataW H)) = .lit (.int k a) :: lits k l := by simp [lits]
    rw [this]
    simp only [Rows.uptoBulkAll, Rows.uptoBulk, ih, List.length_cons]
    omega
/-- a version, its bulk told -/
theorem open_ver_bulk {H : Type} {enc : TypeId × Value → H} {W : World} {b0 : Nat} {v : Value} {d : DataW H} {p : List MemPlace} {r : Reach}
    (hv : Value.okWide Tryd.prog W r b0 29 v) (h : DataW.Trod enc Tryd.prog W 0 (fun _ => true) true 29 v d p) :
    ∃ A c xs s, v = .agg #[.slice A (xs : List Int).length c, .string s] ∧ Rd W W.heap.size A xs.length (ints xs) ∧ (∀ n ∈ xs, Fit n) ∧ xs.length + s.size ≤ Rows.uptoBulk d := by
  obtain ⟨A, c, xs, s, rfl, hr, hf, hd⟩ := open_ver hv h
  have e : s.data.toList.length = s.size := by rw [Array.length_toList]; rfl
  refine ⟨A, c, xs, s, rfl, hr, hf, ?_⟩
  rcases hd with ⟨rfl, rfl⟩ | ⟨sp, rfl⟩
  · simp only [Rows.uptoBulk, Rows.uptoBulkAll, e, List.length_nil]; omega
  · simp only [Rows.uptoBulk, Rows.uptoBulkAll, e, bulk_lits]; omega
end Go.Proofs.YtoijbpjlknmpmaaDoor.opens
