/- What a map that was filled with pairs holds; its keys, sorted; four bytes laid into an array of the call's own. -/
import Derived.Test.YtokafofckjookaaRows
import Derived.Test.YtokafofckjookaaKit
import Derived.Test.YtokafofckjookaaPackPlain
import Derived.Test.YtokafofckjookaaPackBld
import Derived.Test.YtokafofckjookaaShelf
import Derived.Maps.Own
import Derived.Maps.OwnSet
import Derived.Maps.RangeWalk
import Derived.Maps.StringElems
import Derived.Maps.AppendAt
import Derived.Sort.KeysCollected
import Derived.Sort.OwnSorted
import Derived.Lib.Endian
import Derived.StringKeys
import Derived.Deep.Upon
import Derived.WalkKit
import Derived.OwnWalk
import Derived.Outline
namespace Go.Proofs.Ytokafofckjookaa.pk
open Go.RowKit Go.Maps Go.Sort
open kit bld

theorem lawK : Keyed Try.prog 9 := string_keyed Try.underlying9
theorem zeroE (w : World) : (zeroValue 9).run Try.prog w = .ok (.string ⟨#[]⟩) w := by kernel_rfl
theorem infoStr : (Try.prog.info? 9).map (fun i => (i.zero, i.size, i.bytes)) = some (some (.string ⟨#[]⟩), 1, 16) := by kernel_rfl
/-- D holds the last values of l's keys -/
def Rep (D : DataW Unit) (l : List (List UInt8 × List UInt8)) : Prop := ∀ (k : List UInt8) (zd : DataW Unit), D.atKey (.string k) zd = match look l k with
  | some v => .lit (.string v)
  | none => zd
theorem Rep.nil : Rep (.map []) [] := fun k zd => by simp [look, DataW.atKey]
theorem isKeyLit (k : List UInt8) : WideAt.IsKeyLit (.string k) := trivial
theorem Rep.put {D : DataW Unit} {l : List (List UInt8 × List UInt8)} (h : Rep D l) (hD : IsMap D) (p : List UInt8 × List UInt8) : Rep (D.put (.string p.1) (.lit (.string p.2))) (l ++ [p]) := fun k zd => by
  rw [look_snoc]
  by_cases hk : p.1 = k
  · subst hk
    rw [atKey_put_same hD (isKeyLit _)]
    simp
  · rw [atKey_put_other (k := .string p.1) (k' := .string k) (fun e => hk (by injection e with e; exact e.symm)), h k zd]
    simp [hk]
theorem Rep.has {D : DataW Unit} {l : List (List UInt8 × List UInt8)} (h : Rep D l) (k : List UInt8) : Maps.has D (.string k) = (look l k).isSome := by
  cases hl : look l k with
  | some v => exact has_true_of_atKey (y := .lit (.string v)) fun zd => by rw [h k zd, hl]
  | none => exact has_false_of_atKey fun zd => by rw [h k zd, hl]
/-- pairs of sorted keys -/
def pairsOf (l : List (List UInt8 × List UInt8)) (ks : List (List UInt8)) : List (List UInt8 × List UInt8) := ks.map fun k => (k, (look l k).getD [])
theorem is_sorted {D : DataW Unit} {l : List (List UInt8 × List UInt8)} {ss : List (List UInt8)} {left : Lit → Bool} (h : Rep D l) (hC : Collected D left ss) (hl : ∀ kl, left kl = false) :
    Is l (pairsOf l (ss.mergeSort fun x y => decide (x ≤ y))) := by
  have hp := List.mergeSort_perm ss (fun x y => decide (x ≤ y))
  have tr : ∀ a b c : List UInt8, leB a b = true → leB b c = true → leB a c = true := fun a b c h1 h2 => by simp only [leB, decide_eq_true_eq] at *; exact List.le_trans h1 h2
  have to : ∀ a b : List UInt8, (leB a b || leB b a) = true := fun a b => by simp only [leB, Bool.or_eq_true, decide_eq_true_eq]; exact List.le_total a b
  have hs := List.pairwise_mergeSort tr to ss
  have hn : (ss.mergeSort fun x y => decide (x ≤ y)).Nodup := hp.nodup_iff.2 hC.1
  refine ⟨?_, fun k v => ?_⟩
  · unfold Srt pairsOf
    rw [List.pairwise_map]
    refine (hs.and hn).imp fun {a b} hab => ?_
    have h1 : a ≤ b := by simpa [leB] using hab.1
    rcases List.le_iff_lt_or_eq.1 h1 with h2 | h2
    · exact h2
    · exact absurd h2 hab.2
  · unfold pairsOf
    rw [List.mem_map]
    constructor
    · rintro ⟨x, hx, e⟩
      have := ((hC.2 x).1 (hp.mem_iff.1 hx)).1
      rw [h.has] at this
      obtain ⟨u, hu⟩ := Option.isSome_iff_exists.1 this
      rw [hu] at e
      simp at e
      obtain ⟨rfl, rfl⟩ := e
      exact hu
    · intro hv
      refine ⟨k, hp.mem_iff.2 ((hC.2 k).2 ⟨by rw [h.has, hv]; rfl, hl _⟩), by rw [hv]; rfl⟩
theorem empty_is {D : DataW Unit} {l : List (List UInt8 × List UInt8)} (h : Rep D l) (hz : Maps.size D = 0) (hD : IsMap D) : Is l [] := by
  refine ⟨List.Pairwise.nil, fun k v => ?_⟩
  simp only [List.not_mem_nil, false_iff]
  intro hv
  have := h.has k
  rw [hv] at this
  obtain ⟨es, rfl⟩ := hD
  rw [size_eq] at hz
  rw [List.eq_nil_of_length_eq_zero hz] at this
  simp [has_eq] at this
/-- a map stays what it is below -/
theorem owns_below {w w' : World} {b n B : Nat} {D : DataW Unit} (h : w.ownsMap Try.prog 9 (plainElem Try.prog 9) b n D) (hb : Below B w w') (hB : b < B) : w'.ownsMap Try.prog 9 (plainElem Try.prog 9) b n D := by
  obtain ⟨es, clock, h1, h2⟩ := h
  exact ⟨es, clock, (hb.block b hB).trans h1, h2⟩
theorem look_run {w : World} {b n : Nat} {D : DataW Unit} {l : List (List UInt8 × List UInt8)} (h : w.ownsMap Try.prog 9 (plainElem Try.prog 9) b n D) (hr : Rep D l) {s : ByteArray} {v : List UInt8} (hs : s.size ≤ maxLen) (hv : look l s.data.toList = some v) :
    (Instr.lookup 37 (.map (some b)) (.string s) false).run Try.prog w = .ok (.string ⟨v.toArray⟩) w := by
  obtain ⟨u, ps, hrun, hu⟩ := h.lookup lawK Try.underlying37 (zeroE w) (plainElem_string Try.underlying9 (s := ⟨#[]⟩) (by decide)) (Go.WideMaps.keyOf_string_mk Try.underlying9 hs)
  rw [hr, hv] at hu
  obtain ⟨s', rfl, e, _⟩ := plainElem_string_inv Try.underlying9 hu
  simp only [Prod.mk.injEq, DataW.lit.injEq, Lit.string.injEq] at e
  rw [hrun]
  rw [e.1]

/-- the array's four cells -/
def four (w : World) (g : Nat) (x0 x1 x2 x3 : Value) : Prop := w.heap[g]? = some (.cells #[x0, x1, x2, x3] 50 (0, 0))
theorem leBytes4 (v : Nat) : Lib.leBytes 4 v = le4 v := by
  simp only [Lib.leBytes, le4]
  have e : ∀ n : Nat, (n % 256).toUInt8 = UInt8.ofNat n := fun n => by
    apply UInt8.toNat_inj.1
    simp
  rw [e, e, e, e, Nat.div_div_eq_div_mul, Nat.div_div_eq_div_mul]
theorem leNat4 (a b c d : UInt8) : Lib.leNat [a, b, c, d] = nat4 a b c d := by
  simp only [Lib.leNat, nat4]; omega
theorem setCells_four {w : World} {g : Nat} {x0 x1 x2 x3 : Value} (h : four w g x0 x1 x2 x3) (y0 y1 y2 y3 : Value) : four (w.setCells g 0 [y0, y1, y2, y3]) g y0 y1 y2 y3 := by
  unfold four at *
  simp [World.setCells, World.setCell, Array.getElem?_modify, h]
theorem put32 (g v : Nat) (hv : v < 4294967296) (x0 x1 x2 x3 : Value) (w : World) (h : four w g x0 x1 x2 x3) :
    Calls Try.prog 16 #[.agg #[], .slice (some ⟨g, 0, none⟩) 4 4, .int .u32 v] w fun e w' => e = .returned (.tuple #[]) ∧ w.grownBy w' (some g) ∧
      four w' g (.int .u8 (UInt8.ofNat v).toNat) (.int .u8 (UInt8.ofNat (v / 256)).toNat) (.int .u8 (UInt8.ofNat (v / 65536)).toNat) (.int .u8 (UInt8.ofNat (v / 16777216)).toNat) := by
  have hf := h
  unfold four at h
  refine (Try.binary_LE_PutUint32 g 0 4 4 v hv x0 x1 x2 x3 w (by omega) (by rw [Lib.cell_of_heap h]; rfl) (by rw [Lib.cell_of_heap h]; rfl) (by rw [Lib.cell_of_heap h]; rfl) (by rw [Lib.cell_of_heap h]; rfl)
    (Lib.frozen_of_heap h 0) (Lib.frozen_of_heap h 1) (Lib.frozen_of_heap h 2) (Lib.frozen_of_heap h 3)).mono ?_
  rintro e w' ⟨rfl, rfl⟩
  refine ⟨rfl, ?_, ?_⟩
  · rw [leBytes4]
    refine ⟨World.os_setCells _ _ _ _, ?_, World.output_setCells _ _ _ _, ?_, fun k hk hne => ?_⟩
    · simp [Lib.byteCells, le4, World.setCells, World.setCell]
    · simp [Lib.byteCells, le4, World.setCells, World.setCell]
    · rw [World.heap_setCells_other _ _ _ _ (by simp; omega) (fun e => hne (by rw [e]))]
      exact Below.heap_alloc _ _ _ hk
  · rw [leBytes4]
    have h2 : four (w.alloc (.cells #[] 43)) g x0 x1 x2 x3 := by
      unfold four
      rw [Below.heap_alloc _ _ _ (heap_lt h)]; exact h
    exact setCells_four h2 _ _ _ _
end Go.Proofs.Ytokafofckjookaa.pk
