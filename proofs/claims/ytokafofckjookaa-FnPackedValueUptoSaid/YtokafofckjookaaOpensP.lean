/- How a slice of pairs is opened, its bulk told. -/
import Derived.Test.YtokafofckjookaaRows
import Derived.Test.YtokafofckjookaaPacked
import Derived.ProofKit
import Derived.OpenShut
import Derived.SizedLaws
import Derived.SliceStrings
import Derived.Deep.SlicePairs
import Derived.Lib.SmallJoins
namespace Go.Proofs.Ytokafofckjookaa.opens
open Go.ChangeShapes Go.WideShapes Go.ChangeAt Go.RowKit Go.Joins
open kit pk

theorem bulk_mem {H : Type} : ∀ (xs : List (DataW H)) (x : DataW H), x ∈ xs → Rows.uptoBulk x ≤ Rows.uptoBulkAll xs
  | [], x, h => by cases h
  | a :: xs, x, h => by
    rw [Rows.uptoBulkAll]
    rcases List.mem_cons.1 h with rfl | h
    · omega
    · have := bulk_mem xs x h; omega
theorem bulk_len {H : Type} : ∀ (xs : List (DataW H)), (∀ x ∈ xs, 1 ≤ Rows.uptoBulk x) → xs.length ≤ Rows.uptoBulkAll xs
  | [], _ => by simp
  | a :: xs, h => by
    have h1 := h a List.mem_cons_self
    have h2 := bulk_len xs (fun x hx => h x (List.mem_cons_of_mem _ hx))
    rw [Rows.uptoBulkAll, List.length_cons]
    omega
/-- an argument: a slice of pairs -/
structure PArg (W : World) (A : Option Addr) (c : Nat) (l : List (List UInt8 × List UInt8)) : Prop where
  rp : Rp W W.heap.size A l
  cap : l.length ≤ c
  fits : Fits l
  len : l.length ≤ 1048576
def strOf {H : Type} : DataW H → List UInt8
  | .lit (.string b) => b
  | _ => []
theorem fields_pair : ∃ f0 f1 : Field, Try.prog.underlying 25 = some (.struct #[f0, f1]) ∧ f0.type = 9 ∧ f1.type = 9 ∧ f0.offset = 0 ∧ f1.offset = 1 :=
  ⟨_, _, Try.underlying25, rfl, rfl, rfl, rfl⟩
theorem str_back (s : ByteArray) : (⟨s.data.toList.toArray⟩ : ByteArray) = s := by cases s; simp
theorem open_pairs_arg {H : Type} {enc : TypeId × Value → H} {W : World} {b0 : Nat} {v : Value} {d : DataW H} {p : List MemPlace} {r : Reach}
    (hv : Value.okWide Try.prog W r b0 22 v) (h : DataW.Trod enc Try.prog W 0 (fun _ => true) true 22 v d p) :
    ∃ A c l, v = .slice A (l : List (List UInt8 × List UInt8)).length c ∧ (Rows.uptoBulk d ≤ 1048576 → PArg W A c l) := by
  obtain ⟨a, len, cap, rfl⟩ := okWide_slice Try.underlying22 hv
  obtain ⟨fuel, hf⟩ := h
  obtain ⟨f0, f1, hu, t0, t1, o0, o1⟩ := fields_pair
  rcases Go.Deep.open_slice_pairs Try.underlying22 hu (by kernel_rfl) o0 o1 (by rw [t0]; kernel_rfl) (by rw [t1]; kernel_rfl) hf with ⟨hcs, _⟩ | ⟨x, len', cap', m, n, V0, V1, D0, D1, P0, P1, hcs, _, hl, hmx, hm, hx, hall⟩
  · simp [Value.cells] at hcs
    obtain ⟨rfl, rfl, rfl⟩ := hcs
    exact ⟨none, 0, [], rfl, fun _ => ⟨fun h => absurd h (by simp), by simp, (fun p hp => by cases hp), by simp⟩⟩
  · simp [Value.cells] at hcs
    obtain ⟨rfl, rfl, rfl⟩ := hcs
    have hmc : m = cap := by simpa using hm
    have each : ∀ i, i < len → ∃ s0 s1 : ByteArray, V0 i = .string s0 ∧ V1 i = .string s1 ∧ D0 i = .lit (.string s0.data.toList) ∧ D1 i = .lit (.string s1.data.toList) := by
      intro i hi
      obtain ⟨_, _, h0, h1⟩ := hall i (by omega)
      rw [t0] at h0
      rw [t1] at h1
      obtain ⟨s0, e0, y0, _⟩ := DataW.trod_string Try.underlying9 h0
      obtain ⟨s1, e1, y1, _⟩ := DataW.trod_string Try.underlying9 h1
      simp at e0 e1 y0 y1
      exact ⟨s0, s1, e0, e1, y0.1, y1.1⟩
    have hlen : ((List.range len).map fun i => (strOf (D0 i), strOf (D1 i))).length = len := by simp
    refine ⟨some x, cap, (List.range len).map fun i => (strOf (D0 i), strOf (D1 i)), by rw [hlen], fun hb => ?_⟩
    have hd : d = .slice ((List.range len).map fun i => .agg [D0 i, D1 i]) ((List.range (m - len)).map fun j => .agg [D0 (len + j), D1 (len + j)]) := by injection hx
    rw [hd, Rows.uptoBulk] at hb
    have hge : ∀ i, i < len → (strOf (D0 i)).length ≤ 1048576 ∧ (strOf (D1 i)).length ≤ 1048576 := by
      intro i hi
      obtain ⟨s0, s1, _, _, e0, e1⟩ := each i hi
      have h1 := bulk_mem ((List.range len).map fun i => (DataW.agg [D0 i, D1 i] : DataW H)) (.agg [D0 i, D1 i]) (List.mem_map.2 ⟨i, List.mem_range.2 hi, rfl⟩)
      rw [Rows.uptoBulk, Rows.uptoBulkAll, Rows.uptoBulkAll, Rows.uptoBulkAll, e0, e1, Rows.uptoBulk, Rows.uptoBulk] at h1
      rw [e0, e1]
      simp only [strOf]
      omega
    refine ⟨fun hn => ?_, by rw [hlen]; exact hl, ?_, ?_⟩
    · rw [hlen] at hn
      obtain ⟨b, o, sp⟩ := x
      have hc0 := (hall 0 (by omega)).1
      have hsp : sp = none := by simpa [Addr.add] using World.cell?_spot hc0
      subst hsp
      refine ⟨b, o, rfl, World.block_lt_of_cell? W _ (by simpa [Addr.add] using hc0), fun i p hp => ?_⟩
      have hi : i < len := by
        have := (List.getElem?_eq_some_iff.1 hp).1
        rw [hlen] at this; exact this
      obtain ⟨s0, s1, v0, v1, e0, e1⟩ := each i hi
      obtain ⟨k0, k1, _, _⟩ := hall i (by omega)
      have hplain : ∀ j, (⟨b, o, none⟩ : Addr).add j = ⟨b, o + j, none⟩ := fun j => by unfold Addr.add; split <;> simp_all
      rw [hplain] at k0 k1
      rw [List.getElem?_map, List.getElem?_range hi] at hp
      simp at hp
      subst hp
      simp only [e0, e1, strOf, str_back]
      rw [← v0, ← v1]
      exact ⟨k0, by rw [show o + i * 2 + 1 = o + (i * 2 + 1) from by omega]; exact k1⟩
    · intro p hp
      obtain ⟨i, hi, rfl⟩ := List.mem_map.1 hp
      exact hge i (List.mem_range.1 hi)
    · have h1 := bulk_len ((List.range len).map fun i => (DataW.agg [D0 i, D1 i] : DataW H)) (fun x hx => by
        obtain ⟨i, _, rfl⟩ := List.mem_map.1 hx
        rw [Rows.uptoBulk]; omega)
      rw [List.length_map, List.length_range] at h1
      rw [hlen]
      omega
end Go.Proofs.Ytokafofckjookaa.opens
