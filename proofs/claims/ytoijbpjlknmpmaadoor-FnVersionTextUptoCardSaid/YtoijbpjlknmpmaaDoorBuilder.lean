/- strings.Builder's writers at this dump (the shelf's own walks turned to it: its copy check is refused in part by the loader, so they cannot be laid). -/
import Derived.Test.YtoijbpjlknmpmaaDoorProg
import Derived.Test.YtoijbpjlknmpmaaDoorKit
import Derived.Lib.Strings
import Derived.Lib.Slices
import Derived.Lib.Walk
import Derived.Lib.Builder
import Derived.Lib.AppendStr
import Derived.Lib.UnsafeStr
import Derived.Lib.MakeNoZero
import Derived.WalkKit
import Derived.OwnWalk
import Derived.Laws.Externs
import Derived.Laws.IdiomCopy
import Derived.Laws.BitsLemmas
import Derived.KernelRfl
set_option linter.unusedVariables false
namespace Go.Proofs.YtoijbpjlknmpmaaDoor.bld
open Go.RowKit
open kit

theorem sizeBuilder : (Tryd.prog.info? 49).map (·.size) = some 2 := by kernel_rfl
theorem liesBuilder : liesAt Tryd.prog Tryd.prog.depth 49 (2 / Tryd.prog.cellsOf 49) 0 49 1 = true := by kernel_rfl
theorem infoByte : (Tryd.prog.info? 5).map (fun i => (i.zero, i.size, i.bytes)) = some (some (.int .u8 0), 1, 1) := by kernel_rfl

set_option maxHeartbeats 1000000 in
set_option maxRecDepth 100000 in
theorem copyCheck_used (b : Nat) (w : World) (h0 : w.cell? ⟨b, 0, none⟩ = some (.pointer (some ⟨b, 0, none⟩))) :
    Calls Tryd.prog 29 #[.pointer (some ⟨b, 0, none⟩)] w fun e w' => e = .returned (.tuple #[]) ∧ w' = w := by
  obtain ⟨j, hj, _⟩ := Option.map_eq_some_iff.1 sizeBuilder
  go_enter Tryd.func29, Tryd.ntmps29
  go_wp2
  rw [Lib.run_neq_ptr_same w _ Tryd.underlying47 hj]
  go_wp2
  go_end0
  exact ⟨rfl, rfl⟩

set_option maxHeartbeats 1000000 in
set_option maxRecDepth 100000 in
theorem copyCheck_fresh (b : Nat) (w : World) (h0 : w.cell? ⟨b, 0, none⟩ = some (.pointer none)) (hsh : w.shape? b = some (49, 2)) (hfz : w.frozen? ⟨b, 0, none⟩ = false) :
    Calls Tryd.prog 29 #[.pointer (some ⟨b, 0, none⟩)] w fun e w' => e = .returned (.tuple #[]) ∧ w' = w.setCell ⟨b, 0, none⟩ (.pointer (some ⟨b, 0, none⟩)) := by
  obtain ⟨j, hj, hjs⟩ := Option.map_eq_some_iff.1 sizeBuilder
  go_enter Tryd.func29, Tryd.ntmps29
  go_wp2
  rw [Lib.run_to_unsafe w ⟨b, 0, none⟩ Tryd.underlying47 Tryd.underlying64 hj (by rw [hjs]; decide) hsh (Nat.zero_lt_succ 1)]
  simp only [Result.andThen]
  rw [Oper.upon_value]
  go_wp2
  rw [run_callFunc_extern Tryd.func35 (by kernel_rfl) (by kernel_rfl) (by kernel_rfl) (e := Extern.AbiNoEscape.same) (by kernel_rfl)]
  rw [Lib.run_noEscape]
  simp only [Result.andThen]
  rw [Oper.upon_value]
  go_wp2
  rw [Lib.run_from_unsafe w ⟨b, 0, none⟩ Tryd.underlying64 Tryd.underlying47 hj hsh liesBuilder]
  simp only [Result.andThen]
  rw [Oper.upon_value]
  go_wp2
  go_end0
  exact ⟨rfl, rfl⟩

theorem copyCheck (B b : Nat) (bs : List Value) (w : World) (h : Lib.IsBuilder 49 5 B b bs w) :
    Calls Tryd.prog 29 #[.pointer (some ⟨b, 0, none⟩)] w fun e w' => e = .returned (.tuple #[]) ∧ (Lib.BuilderAt 49 5 B b (.pointer (some ⟨b, 0, none⟩)) bs w' ∧ Below B w w') := by
  rcases h with h | h
  · refine (copyCheck_fresh b w h.cell0 h.shape h.frozen0).mono ?_
    rintro e w' ⟨rfl, rfl⟩
    exact ⟨rfl, h.used _, (Below.refl B w).setCell (p := ⟨b, 0, none⟩) h.1 _⟩
  · refine (copyCheck_used b w h.cell0).mono ?_
    rintro e w' ⟨rfl, rfl⟩
    exact ⟨rfl, h, Below.refl B _⟩

set_option maxHeartbeats 2000000 in
set_option maxRecDepth 100000 in
theorem writeString (B b : Nat) (bs : List Value) (s : ByteArray) (w : World) (h : Lib.IsBuilder 49 5 B b bs w) (hlen : bs.length + s.size ≤ 140737488355328) (hBw : B ≤ w.heap.size) :
    Calls Tryd.prog 23 #[.pointer (some ⟨b, 0, none⟩), .string s] w fun e w' => e = .returned (.tuple #[.int .i64 s.size, .nilIface]) ∧ (Lib.BuilderAt 49 5 B b (.pointer (some ⟨b, 0, none⟩)) (bs ++ Lib.strCells s) w' ∧ Below B w w') := by
  obtain ⟨i0, hi, hz0, hz1, hz2⟩ := info_parts infoByte
  go_enter Tryd.func23, Tryd.ntmps23
  go_wp2_with (go_at_call 29; refine (copyCheck B b bs _ h).mono ?_)
  rintro e w1 ⟨rfl, h1, hb1⟩
  obtain ⟨hB, v, hbk, hown, hne⟩ := h1
  have c0 : w1.cell? ⟨b, 0, none⟩ = some (.pointer (some ⟨b, 0, none⟩)) := by rw [Lib.cell_of_heap hbk]; rfl
  have c1 : w1.cell? ⟨b, 1, none⟩ = some v := by rw [Lib.cell_of_heap hbk]; rfl
  go_wp2_with (at_builtin; refine Lib.wpList_append_own_string _ rfl _ _ 39 9 rfl B 5 i0 Tryd.underlying39 Tryd.underlying9 hi hz0 hz1 hz2 _ _ _ rfl hown s rfl ?c3 ?c4 ?c5 ?_)
  case c3 => unfold maxLen; omega
  case c4 => omega
  case c5 => have := hb1.size; omega
  intro v' w2 hown' hgrow _
  have hlt : b < w1.heap.size := by
    rcases Nat.lt_or_ge b w1.heap.size with h' | h'
    · exact h'
    · simp [Array.getElem?_eq_none h'] at hbk
  have hb2 : w2.heap[b]? = some (.cells #[.pointer (some ⟨b, 0, none⟩), v] 49 (0, 0)) := by
    rw [hgrow.block b hlt (fun e => hne e.symm)]
    exact hbk
  have d0 : w2.cell? ⟨b, 0, none⟩ = some (.pointer (some ⟨b, 0, none⟩)) := by rw [Lib.cell_of_heap hb2]; rfl
  have d1 : w2.cell? ⟨b, 1, none⟩ = some v := by rw [Lib.cell_of_heap hb2]; rfl
  have f1 : w2.frozen? ⟨b, 1, none⟩ = false := Lib.frozen_of_heap hb2 1
  obtain ⟨ao, n', cap, rfl⟩ : ∃ ao n' cap, v' = .slice ao n' cap := by
    rcases hown'.2 with ⟨hv, _⟩ | ⟨g, cap, cur, hv, _⟩
    · exact ⟨_, _, _, hv⟩
    · exact ⟨_, _, _, hv⟩
  go_wp2
  go_ret2
  refine ⟨rfl, ?_, ?_⟩
  · exact Lib.BuilderAt.put (T := 49) (e := 5) hB hb2 (bs' := bs ++ Lib.strCells s) (by simpa [Lib.strCells_length] using hown') (by decide)
  · exact (hb1.grown hgrow (by have := hb1.size; omega) (fun k hk => (hown.lt k hk).1)).setCell (p := ⟨b, 1, none⟩) hB _

/-- what AppendRune hands back at a rune of one byte -/
def Put (B : Nat) (ov : Value) (bs : List Value) (c : Int) (w : World) (e : Ending) (w' : World) : Prop :=
  ∃ g cap, e = .returned (.slice (some ⟨g, 0, none⟩) (bs.length + 1) cap) ∧ w'.ownsRow B 5 1 (.slice (some ⟨g, 0, none⟩) (bs.length + 1) cap) (bs.length + 1) (bs ++ [.int .u8 c]) ∧ (∃ o, (w.alloc o).grownBy w' ov.ownBlock)
set_option maxHeartbeats 2000000 in
theorem appendRune (B : Nat) (v : Value) (bs : List Value) (c : Int) (hc0 : 0 ≤ c) (hc : c ≤ 127) (w : World) (hown : w.ownsRow B 5 1 v bs.length bs) (hlen : bs.length + 4 ≤ 140737488355328) (hBw : B ≤ w.heap.size) :
    Calls Tryd.prog 30 #[v, .int .i32 c] w (Put B v bs c w) := by
  obtain ⟨i0, hi, hz0, hz1, hz2⟩ := info_parts infoByte
  go_enter Tryd.func30, Tryd.ntmps30
  go_wp2_with (at_builtin; refine wpList_append_own _ rfl _ _ 39 rfl B 5 i0 (.int .u8 0) 1 1 Tryd.underlying39 hi hz0 hz1 hz2 rfl (by decide) _ _ _ rfl (hown.alloc _) ⟨w.heap.size, 0, none⟩ 1 1 [.int .u8 c] rfl rfl ?c1 ?c2 ?c3 ?c4 ?c5 ?_)
  case c1 =>
    intro j u hj
    match j, hj with
    | 0, hj => simp at hj; subst hj; simp [Addr.add]
  case c2 => intro u hu; simp at hu; subst hu; rfl
  case c3 => unfold maxLen; omega
  case c4 => omega
  case c5 => simp; omega
  intro v' w2 hown' hgrow _
  obtain ⟨g, cap, rfl⟩ : ∃ g cap, v' = .slice (some ⟨g, 0, none⟩) (bs.length + 1) cap := by
    rcases hown'.2 with ⟨_, h0⟩ | ⟨g, cap, cur, hv, _⟩
    · omega
    · exact ⟨g, cap, hv⟩
  have HO := Lib.hid hown'
  have HG := Lib.hid hgrow
  clear hown' hgrow
  go_wp2
  go_ret
  exact ⟨g, cap, rfl, HO.out, _, HG.out⟩
set_option maxHeartbeats 2000000 in
theorem writeRune (B b : Nat) (bs : List Value) (c : Int) (hc0 : 0 ≤ c) (hc : c ≤ 127) (w : World) (h : Lib.IsBuilder 49 5 B b bs w) (hlen : bs.length + 4 ≤ 140737488355328) (hBw : B ≤ w.heap.size) :
    Calls Tryd.prog 22 #[.pointer (some ⟨b, 0, none⟩), .int .i32 c] w fun e w' => e = .returned (.tuple #[.int .i64 1, .nilIface]) ∧ (Lib.BuilderAt 49 5 B b (.pointer (some ⟨b, 0, none⟩)) (bs ++ [.int .u8 c]) w' ∧ Below B w w') := by
  go_enter Tryd.func22, Tryd.ntmps22
  go_wp2_with (go_at_call 29; refine (copyCheck B b bs _ h).mono ?_)
  rintro e w1 ⟨rfl, h1, hb1⟩
  obtain ⟨hB, v, hbk, hown, hne⟩ := h1
  obtain ⟨ao, cap, rfl⟩ : ∃ ao cap, v = .slice ao bs.length cap := by
    rcases hown.2 with ⟨hv, h0⟩ | ⟨g, cap, cur, hv, _⟩
    · exact ⟨none, 0, by rw [hv, h0]⟩
    · exact ⟨_, _, hv⟩
  have c0 : w1.cell? ⟨b, 0, none⟩ = some (.pointer (some ⟨b, 0, none⟩)) := by rw [Lib.cell_of_heap hbk]; rfl
  have c1 : w1.cell? ⟨b, 1, none⟩ = some (.slice ao bs.length cap) := by rw [Lib.cell_of_heap hbk]; rfl
  have hs1 := hb1.size
  have X := Lib.hid (appendRune B (.slice ao bs.length cap) bs c hc0 hc w1 hown hlen (by omega))
  go_wp2_with fail
  refine X.out.mono ?_
  rintro e w2 ⟨g, cap', rfl, hown', o, hgrow⟩
  have hlt : b < w1.heap.size := by
    rcases Nat.lt_or_ge b w1.heap.size with h' | h'
    · exact h'
    · simp [Array.getElem?_eq_none h'] at hbk
  have hb2 : w2.heap[b]? = some (.cells #[.pointer (some ⟨b, 0, none⟩), .slice ao bs.length cap] 49 (0, 0)) := by
    rw [hgrow.block b (by simp; omega) (fun e => hne e.symm), Lib.alloc_old w1 _ b hlt]
    exact hbk
  have d0 : w2.cell? ⟨b, 0, none⟩ = some (.pointer (some ⟨b, 0, none⟩)) := by rw [Lib.cell_of_heap hb2]; rfl
  have d1 : w2.cell? ⟨b, 1, none⟩ = some (.slice ao bs.length cap) := by rw [Lib.cell_of_heap hb2]; rfl
  have f1 : w2.frozen? ⟨b, 1, none⟩ = false := Lib.frozen_of_heap hb2 1
  have hbW : Below B w w2 := (hb1.alloc (by omega) o).grown hgrow (by simp; omega) (fun k hk => (hown.lt k hk).1)
  have d2 : (w2.setCell ⟨b, 1, none⟩ (.slice (some ⟨g, 0, none⟩) (bs.length + 1) cap')).cell? ⟨b, 1, none⟩ = some (.slice (some ⟨g, 0, none⟩) (bs.length + 1) cap') := World.cell?_setCell_same _ _ _ d1
  have HB2 := Lib.hid hb2
  have HO := Lib.hid hown'
  clear hb2 hown' hgrow hown hbk c0 c1 X
  go_wp2
  go_ret2
  refine ⟨?_, ?_, ?_⟩
  · simp; omega
  · exact Lib.BuilderAt.put (T := 49) (e := 5) hB HB2.out (bs' := bs ++ [.int .u8 c]) (by simpa using HO.out) (by decide)
  · exact hbW.setCell (p := ⟨b, 1, none⟩) hB _
end Go.Proofs.YtoijbpjlknmpmaaDoor.bld
