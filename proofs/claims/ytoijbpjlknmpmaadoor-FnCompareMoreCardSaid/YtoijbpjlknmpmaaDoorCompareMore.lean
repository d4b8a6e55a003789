/- The walk of FnCompareMore. -/
import Derived.Test.YtoijbpjlknmpmaaDoorCmpWalk
namespace Go.Proofs.YtoijbpjlknmpmaaDoor.fnCompareMore
open Go.RowKit
open kit cmp

theorem sm_all (xs : List Int) : ∀ n ∈ xs.map sm, 0 ≤ n ∧ n ≤ 999999 := by
  intro n hn
  obtain ⟨m, _, rfl⟩ := List.mem_map.1 hn
  exact sm_bd m

set_option maxHeartbeats 1600000 in
theorem walk (A : Option Addr) (c : Nat) (xs : List Int) (A' : Option Addr) (c' : Nat) (ys : List Int) (w : World) (hr : Rd w w.heap.size A xs.length (ints xs)) (hl : xs.length * 8 ≤ 140737488351232)
    (hr' : Rd w w.heap.size A' ys.length (ints ys)) (hl' : ys.length * 8 ≤ 140737488351232) :
    Calls Tryd.prog 6 #[.slice A xs.length c, .slice A' ys.length c'] w fun e w' => e = .returned (.bool true) ∧ Below w.heap.size w w' := by
  have X1 := Lib.hid (small_any A c xs w hr hl)
  have X2 := Lib.hid (fun (W : World) (h : Below w.heap.size w W) => small_any A' c' ys W (rd_keep hr' h) hl')
  clear hr hr'
  obtain ⟨p, hp⟩ : ∃ p, p = xs.map sm := ⟨_, rfl⟩
  obtain ⟨q, hq⟩ : ∃ q, q = ys.map sm := ⟨_, rfl⟩
  rw [← hp] at X1
  rw [← hq] at X2
  have HP := Lib.hid hp
  have HQ := Lib.hid hq
  clear hp hq
  go_enter Tryd.func6, Tryd.ntmps6
  go_wp2_with fail
  refine X1.out.mono ?_
  rintro e w1 ⟨v1, rfl, hown1, hb1⟩
  obtain ⟨A1, c1, rfl, hr1⟩ := Rd.of_own hown1
  clear hown1
  have HR1 := Lib.hid hr1
  clear hr1
  go_wp2_with fail
  refine (X2.out _ hb1).mono ?_
  rintro e w2 ⟨v2, rfl, hown2, hb2⟩
  obtain ⟨A2, c2, rfl, hr2⟩ := Rd.of_own hown2
  have hr1 := rd_keep HR1.out hb2
  have hW2 : Below w.heap.size w w2 := hb1.trans (hb2.mono hb1.size)
  clear hown2 HR1 hb2 hb1 X1 X2
  have hp := HP.out
  have hq := HQ.out
  have hpl : p.length = xs.length := by rw [hp]; simp
  have hql : q.length = ys.length := by rw [hq]; simp
  have Y := Lib.hid (compare_empty A1 A2 c1 c2 p q w2 hr1 hr2 (by omega) (by omega) (by rw [hp]; exact sm_all xs) (by rw [hq]; exact sm_all ys))
  have Z := Lib.hid (fun (W : World) (h : Below w2.heap.size w2 W) => compared_any A1 A2 c1 c2 p q W (rd_keep hr1 h) (rd_keep hr2 h) (by omega) (by omega))
  clear hr1 hr2 hp hq hpl hql
  go_wp2_with fail
  refine Y.out.mono ?_
  rintro e w3 ⟨rfl, hb3⟩
  go_wp2_with fail
  refine (sign_any _ _).mono ?_
  rintro e w' ⟨rfl, rfl⟩
  go_wp2_with fail
  refine (Z.out _ hb3).mono ?_
  rintro e w' ⟨rfl, rfl⟩
  have hW3 : Below w.heap.size w w3 := hW2.trans (hb3.mono hW2.size)
  have hs3 := hW3.size
  clear hW2 hb3 Y Z
  go_wp2_with fail
  refine (compare_12 _ w3.heap.size (w3.heap.size + 1) _ _ (by go_simp) (by go_simp) (by simp; omega) (by simp)).mono ?_
  rintro e w4 ⟨rfl, hb4⟩
  go_wp2
  go_ret
  refine ⟨rfl, ?_⟩
  exact (((hW3.alloc hs3 _).alloc (by simp; omega) _).trans (hb4.mono (by simp; omega)))
end Go.Proofs.YtoijbpjlknmpmaaDoor.fnCompareMore
