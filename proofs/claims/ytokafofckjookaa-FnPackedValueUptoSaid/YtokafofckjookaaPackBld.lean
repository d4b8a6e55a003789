/- strings.Builder's Write and WriteString at this dump, with what they leave alone. -/
import Derived.Test.YtokafofckjookaaBuilder
import Derived.Deep.Heap
set_option linter.unusedVariables false
namespace Go.Proofs.Ytokafofckjookaa.bld
open Go.RowKit
open kit

/-- rows of other types than bytes, other than the builder's own block, stay -/
def Keeps (b : Nat) (w w' : World) : Prop := ∀ k cs t f, k ≠ b → w.heap[k]? = some (.cells cs t f) → t ≠ 5 → w'.heap[k]? = some (.cells cs t f)
theorem Keeps.refl (b : Nat) (w : World) : Keeps b w w := fun _ _ _ _ _ h _ => h
theorem Keeps.trans {b : Nat} {w w1 w2 : World} (h : Keeps b w w1) (h' : Keeps b w1 w2) : Keeps b w w2 := fun k cs t f hk hc ht => h' k cs t f hk (h k cs t f hk hc ht) ht
theorem Keeps.set {b j : Nat} {w w1 : World} {v : Value} (h : Keeps b w w1) : Keeps b w (w1.setCell ⟨b, j, none⟩ v) := fun k cs t f hk hc ht => by
  rw [Below.heap_setCell _ _ _ _ hk]
  exact h k cs t f hk hc ht
theorem heap_lt {w : World} {k : Nat} {o : Obj} (h : w.heap[k]? = some o) : k < w.heap.size := (Array.getElem?_eq_some_iff.1 h).1
theorem Keeps.grown {b B n : Nat} {w w1 w2 : World} {v : Value} {xs : List Value} (h : Keeps b w w1) (hown : w1.ownsRow B 5 1 v n xs) (hg : w1.grownBy w2 v.ownBlock) : Keeps b w w2 := fun k cs t f hk hc ht => by
  have h1 := h k cs t f hk hc ht
  rw [hg.block k (heap_lt h1) ?_]
  · exact h1
  · intro e
    rcases hown.2 with ⟨rfl, _⟩ | ⟨g, cap, cur, rfl, _, hh, _⟩
    · cases e
    · simp only [Value.ownBlock, Option.some.injEq] at e
      subst e
      rw [hh] at h1
      simp at h1
      exact ht h1.2.1.symm
theorem copyCheckK (B b : Nat) (bs : List Value) (w : World) (h : Lib.IsBuilder 49 5 B b bs w) :
    Calls Try.prog 21 #[.pointer (some ⟨b, 0, none⟩)] w fun e w' => e = .returned (.tuple #[]) ∧ (Lib.BuilderAt 49 5 B b (.pointer (some ⟨b, 0, none⟩)) bs w' ∧ Below B w w' ∧ Keeps b w w') := by
  rcases h with h | h
  · refine (copyCheck_fresh b w h.cell0 h.shape h.frozen0).mono ?_
    rintro e w' ⟨rfl, rfl⟩
    exact ⟨rfl, h.used _, (Below.refl B w).setCell (p := ⟨b, 0, none⟩) h.1 _, (Keeps.refl b w).set⟩
  · refine (copyCheck_used b w h.cell0).mono ?_
    rintro e w' ⟨rfl, rfl⟩
    exact ⟨rfl, h, Below.refl B _, Keeps.refl _ _⟩

set_option maxHeartbeats 2000000 in
set_option maxRecDepth 100000 in
theorem writeStringK (B b : Nat) (bs : List Value) (s : ByteArray) (w : World) (h : Lib.IsBuilder 49 5 B b bs w) (hlen : bs.length + s.size ≤ 140737488355328) (hBw : B ≤ w.heap.size) :
    Calls Try.prog 18 #[.pointer (some ⟨b, 0, none⟩), .string s] w fun e w' => e = .returned (.tuple #[.int .i64 s.size, .nilIface]) ∧ (Lib.BuilderAt 49 5 B b (.pointer (some ⟨b, 0, none⟩)) (bs ++ Lib.strCells s) w' ∧ Below B w w' ∧ Keeps b w w') := by
  obtain ⟨i0, hi, hz0, hz1, hz2⟩ := info_parts infoByte
  go_enter Try.func18, Try.ntmps18
  go_wp2_with (go_at_call 21; refine (copyCheckK B b bs _ h).mono ?_)
  rintro e w1 ⟨rfl, h1, hb1, hk1⟩
  obtain ⟨hB, v, hbk, hown, hne⟩ := h1
  have c0 : w1.cell? ⟨b, 0, none⟩ = some (.pointer (some ⟨b, 0, none⟩)) := by rw [Lib.cell_of_heap hbk]; rfl
  have c1 : w1.cell? ⟨b, 1, none⟩ = some v := by rw [Lib.cell_of_heap hbk]; rfl
  have HK := Lib.hid hk1
  clear hk1
  go_wp2_with (at_builtin; refine Lib.wpList_append_own_string _ rfl _ _ 40 9 rfl B 5 i0 Try.underlying40 Try.underlying9 hi hz0 hz1 hz2 _ _ _ rfl hown s rfl ?c3 ?c4 ?c5 ?_)
  case c3 => unfold maxLen; omega
  case c4 => omega
  case c5 => have := hb1.size; omega
  intro v' w2 hown' hgrow _
  have hlt : b < w1.heap.size := heap_lt hbk
  have hb2 : w2.heap[b]? = some (.cells #[.pointer (some ⟨b, 0, none⟩), v] 49 (0, 0)) := by
    rw [hgrow.block b hlt (fun e => hne e.symm)]
    exact hbk
  have d0 : w2.cell? ⟨b, 0, none⟩ = some (.pointer (some ⟨b, 0, none⟩)) := by rw [Lib.cell_of_heap hb2]; rfl
  have d1 : w2.cell? ⟨b, 1, none⟩ = some v := by rw [Lib.cell_of_heap hb2]; rfl
  have f1 : w2.frozen? ⟨b, 1, none⟩ = false := Lib.frozen_of_heap hb2 1
  obtain ⟨ao, n', cap, rfl⟩ : ∃ ao n' cap, v' = .slice ao n' cap := by
    rcases hown'.2 with ⟨hv, _⟩ | ⟨g, cap, cur, hv, _⟩
    · exact ⟨_, _, _, hv⟩
    · exact ⟨_, _, _, hv⟩
  go_wp2
  go_ret2
  refine ⟨rfl, ?_, ?_, ?_⟩
  · exact Lib.BuilderAt.put (T := 49) (e := 5) hB hb2 (bs' := bs ++ Lib.strCells s) (by simpa [Lib.strCells_length] using hown') (by decide)
  · exact (hb1.grown hgrow (by have := hb1.size; omega) (fun k hk => (hown.lt k hk).1)).setCell (p := ⟨b, 1, none⟩) hB _
  · exact (HK.out.grown hown hgrow).set

set_option maxHeartbeats 2000000 in
set_option maxRecDepth 100000 in
theorem writeK (B b : Nat) (bs : List Value) (g m cp : Nat) (news : List Value) (w : World) (h : Lib.IsBuilder 49 5 B b bs w) (hl : news.length = m) (cs : Array Value) (t : TypeId) (hg : w.heap[g]? = some (.cells cs t (0, 0))) (ht : t ≠ 5) (hgb : g ≠ b)
    (hnews : ∀ (j : Nat) (u : Value), news[j]? = some u → cs[j]? = some u) (h1 : ∀ u ∈ news, u.oneCell' = true) (hlen : bs.length + m ≤ 140737488355328) (hBw : B ≤ w.heap.size) :
    Calls Try.prog 17 #[.pointer (some ⟨b, 0, none⟩), .slice (some ⟨g, 0, none⟩) m cp] w fun e w' => e = .returned (.tuple #[.int .i64 m, .nilIface]) ∧ (Lib.BuilderAt 49 5 B b (.pointer (some ⟨b, 0, none⟩)) (bs ++ news) w' ∧ Below B w w' ∧ Keeps b w w') := by
  obtain ⟨i0, hi, hz0, hz1, hz2⟩ := info_parts infoByte
  have HN := Lib.hid (And.intro hnews (And.intro hg h1))
  have HL := Lib.hid hl
  clear hnews hg h1 hl
  go_enter Try.func17, Try.ntmps17
  go_wp2_with (go_at_call 21; refine (copyCheckK B b bs _ h).mono ?_)
  rintro e w1 ⟨rfl, h1, hb1, hk1⟩
  obtain ⟨hB, v, hbk, hown, hne⟩ := h1
  have c0 : w1.cell? ⟨b, 0, none⟩ = some (.pointer (some ⟨b, 0, none⟩)) := by rw [Lib.cell_of_heap hbk]; rfl
  have c1 : w1.cell? ⟨b, 1, none⟩ = some v := by rw [Lib.cell_of_heap hbk]; rfl
  have HG := Lib.hid (hk1 g cs t (0, 0) hgb HN.out.2.1 ht)
  have HK := Lib.hid hk1
  have HC := Lib.hid (show ∀ (j : Nat) (u : Value), news[j]? = some u → w1.cell? ((⟨g, 0, none⟩ : Addr).add j) = some u from fun j u hu => by
    have hplain : (⟨g, 0, none⟩ : Addr).add j = ⟨g, j, none⟩ := by unfold Addr.add; split <;> simp_all
    rw [hplain, Lib.cell_of_heap HG.out]
    exact HN.out.1 j u hu)
  clear hk1
  go_wp2_with (at_builtin; refine wpList_append_own _ rfl _ _ 40 rfl B 5 i0 (.int .u8 0) 1 1 Try.underlying40 hi hz0 hz1 hz2 rfl (by decide) _ _ _ rfl hown ⟨g, 0, none⟩ m cp news rfl ?c0 ?c1 ?c2 ?c3 ?c4 ?c5 ?_)
  case c0 => rw [HL.out]; omega
  case c1 => exact HC.out
  case c2 => exact HN.out.2.2
  case c3 => unfold maxLen; omega
  case c4 => omega
  case c5 => have := hb1.size; omega
  intro v' w2 hown' hgrow _
  have hlt : b < w1.heap.size := heap_lt hbk
  have hb2 : w2.heap[b]? = some (.cells #[.pointer (some ⟨b, 0, none⟩), v] 49 (0, 0)) := by
    rw [hgrow.block b hlt (fun e => hne e.symm)]
    exact hbk
  have d0 : w2.cell? ⟨b, 0, none⟩ = some (.pointer (some ⟨b, 0, none⟩)) := by rw [Lib.cell_of_heap hb2]; rfl
  have d1 : w2.cell? ⟨b, 1, none⟩ = some v := by rw [Lib.cell_of_heap hb2]; rfl
  have f1 : w2.frozen? ⟨b, 1, none⟩ = false := Lib.frozen_of_heap hb2 1
  obtain ⟨ao, n', cap, rfl⟩ : ∃ ao n' cap, v' = .slice ao n' cap := by
    rcases hown'.2 with ⟨hv, _⟩ | ⟨g, cap, cur, hv, _⟩
    · exact ⟨_, _, _, hv⟩
    · exact ⟨_, _, _, hv⟩
  go_wp2
  go_ret2
  refine ⟨rfl, ?_, ?_, ?_⟩
  · exact Lib.BuilderAt.put (T := 49) (e := 5) hB hb2 (bs' := bs ++ news) (by simpa [HL.out] using hown') (by decide)
  · exact (hb1.grown hgrow (by have := hb1.size; omega) (fun k hk => (hown.lt k hk).1)).setCell (p := ⟨b, 1, none⟩) hB _
  · exact (HK.out.grown hown hgrow).set
end Go.Proofs.Ytokafofckjookaa.bld
