/- The walk of FnCompare. -/
import Derived.Test.YtoijbpjlknmpmaaDoorCmpWalk
import Derived.Deep.RegionWith
import Derived.Deep.RegionHeld3
namespace Go.Proofs.YtoijbpjlknmpmaaDoor.fnCompare
open Go.RowKit
open kit cmp

theorem sm_all (xs : List Int) : ∀ n ∈ xs.map sm, 0 ≤ n ∧ n ≤ 999999 := by
  intro n hn
  obtain ⟨m, _, rfl⟩ := List.mem_map.1 hn
  exact sm_bd m
theorem rd_take {w : World} {B n : Nat} {A : Option Addr} {xs : List Int} (k : Nat) (hk : k ≤ xs.length) (h : Rd w B A n (ints xs)) : Rd w B A k (ints (xs.take k)) := by
  have hl := h.1
  rw [ints_len] at hl
  refine ⟨by rw [ints_len, List.length_take]; omega, fun hn => ?_⟩
  obtain ⟨b, o, rfl, hb, hc⟩ := h.2 (by omega)
  refine ⟨b, o, rfl, hb, fun j u hu => hc j u ?_⟩
  have hj : j < k := by
    have := (List.getElem?_eq_some_iff.1 hu).1
    rw [ints_len, List.length_take] at this; omega
  rw [← hu]
  simp [ints, hj]
/-- small, of a slice that reads as xs, given its length apart -/
theorem small_n (A : Option Addr) (c n : Nat) (p : List Int) (xs : List Int) (w : World) (hn : xs.length = n) (hp : p = xs.map sm) (hr : Rd w w.heap.size A n (ints xs)) (hl : n * 8 ≤ 140737488351232) :
    Calls Tryd.prog 12 #[.slice A n c] w (Gives p w) := by
  subst hn hp
  exact small_any A c xs w hr hl

set_option maxHeartbeats 1600000 in
theorem walk (A : Option Addr) (c : Nat) (xs : List Int) (A' : Option Addr) (c' : Nat) (ys : List Int) (w : World) (hr : Rd w w.heap.size A xs.length (ints xs)) (hl : xs.length * 8 ≤ 140737488351232) (hc : xs.length ≤ c)
    (hr' : Rd w w.heap.size A' ys.length (ints ys)) (hl' : ys.length * 8 ≤ 140737488351232) (hc' : ys.length ≤ c') :
    Calls Tryd.prog 7 #[.slice A xs.length c, .slice A' ys.length c'] w fun e w' => e = .returned (.bool true) ∧ Below w.heap.size w w' := by
  obtain ⟨n, hn, hnx, hny⟩ : ∃ n, n = min xs.length ys.length ∧ n ≤ xs.length ∧ n ≤ ys.length := ⟨_, rfl, by omega, by omega⟩
  obtain ⟨p, hp⟩ : ∃ p, p = (xs.take n).map sm := ⟨_, rfl⟩
  obtain ⟨q, hq⟩ : ∃ q, q = (ys.take n).map sm := ⟨_, rfl⟩
  have hpl : p.length ≤ xs.length := by rw [hp]; simp; omega
  have hql : q.length ≤ ys.length := by rw [hq]; simp; omega
  have hpa : ∀ n ∈ p, 0 ≤ n ∧ n ≤ 999999 := by rw [hp]; exact sm_all _
  have hqa : ∀ n ∈ q, 0 ≤ n ∧ n ≤ 999999 := by rw [hq]; exact sm_all _
  have X1 := Lib.hid (fun (W : World) (h : Below w.heap.size w W) => small_n A c n p (xs.take n) W (by rw [List.length_take]; omega) hp (rd_keep (rd_take n hnx hr) h) (by omega))
  have X2 := Lib.hid (fun (W : World) (h : Below w.heap.size w W) => small_n A' c' n q (ys.take n) W (by rw [List.length_take]; omega) hq (rd_keep (rd_take n hny hr') h) (by omega))
  clear hr hr' hp hq
  have HPA := Lib.hid hpa
  have HQA := Lib.hid hqa
  clear hpa hqa
  have hnc : n ≤ c := by omega
  have hnc' : n ≤ c' := by omega
  have hni : (n : Int) ≤ (c : Int) := by omega
  have hni' : (n : Int) ≤ (c' : Int) := by omega
  have hn0 : (0 : Int) ≤ (n : Int) := by omega
  have hn' : (n = ys.length ∧ ys.length < xs.length) ∨ (n = xs.length ∧ ¬ ys.length < xs.length) := by omega
  clear hn
  rcases hn' with ⟨rfl, hxy⟩ | ⟨rfl, hxy⟩
  all_goals
    go_enter Tryd.func7, Tryd.ntmps7
    go_upto_region 2 with (fail)
    go_cut [0, 1] (fun s0 s1 wx => ∃ A1 c1 A2 c2, s0 = .slice A1 p.length c1 ∧ s1 = .slice A2 q.length c2 ∧ Rd wx wx.heap.size A1 p.length (ints p) ∧ Rd wx wx.heap.size A2 q.length (ints q) ∧ Below w.heap.size w wx)
    case first =>
      go_region_with (first
        | (go_at_call_of 12 (Value.slice A xs.length c); refine (X1.out _ ?_).mono ?_; exact Below.drew (Below.refl _ _); rintro e w1 ⟨v1, rfl, hown1, hb1⟩; have hq1 : Below w.heap.size w w1 := (Below.drew (Below.refl w.heap.size w)).trans hb1)
        | (go_at_call_of 12 (Value.slice A ys.length c); refine (X1.out _ ?_).mono ?_; exact Below.drew (Below.refl _ _); rintro e w1 ⟨v1, rfl, hown1, hb1⟩; have hq1 : Below w.heap.size w w1 := (Below.drew (Below.refl w.heap.size w)).trans hb1)
        | (go_at_call_of 12 (Value.slice A' xs.length c'); refine (X2.out _ ?_).mono ?_; exact hq1; rintro e w2 ⟨v2, rfl, hown2, hb2⟩; have hq2 : Below w.heap.size w w2 := hq1.trans (hb2.mono hq1.size))
        | (go_at_call_of 12 (Value.slice A' ys.length c'); refine (X2.out _ ?_).mono ?_; exact hq1; rintro e w2 ⟨v2, rfl, hown2, hb2⟩; have hq2 : Below w.heap.size w w2 := hq1.trans (hb2.mono hq1.size)))
      obtain ⟨A1, c1, hv1, hr1⟩ := Rd.of_own hown1
      obtain ⟨A2, c2, hv2, hr2⟩ := Rd.of_own hown2
      subst hv1 hv2
      have hr1' := rd_keep hr1 hb2
      clear hown1 hown2 hr1 hb1 hb2 X1 X2
      have R1 := Lib.hid hr1'
      have R2 := Lib.hid hr2
      clear hr1' hr2
      go_wp2_with fail
      go_meet
      exact ⟨A1, c1, A2, c2, rfl, rfl, R1.out, R2.out, hq2⟩
    case rest =>
      obtain ⟨A1, c1, A2, c2, rfl, rfl, hr1, hr2, hW2⟩ := hcut
      have Y := Lib.hid (compare_empty A1 A2 c1 c2 p q wc hr1 hr2 (by omega) (by omega) HPA.out HQA.out)
      have Z := Lib.hid (fun (W : World) (h : Below wc.heap.size wc W) => compared_any A1 A2 c1 c2 p q W (rd_keep hr1 h) (rd_keep hr2 h) (by omega) (by omega))
      clear hr1 hr2 X1 X2
      go_wp2_with fail
      refine Y.out.mono ?_
      rintro e w3 ⟨rfl, hb3⟩
      go_wp2_with fail
      refine (sign_any _ _).mono ?_
      rintro e w' ⟨rfl, rfl⟩
      go_wp2_with fail
      refine (Z.out _ hb3).mono ?_
      rintro e w' ⟨rfl, rfl⟩
      have hW3 : Below w.heap.size w w3 := hW2.trans (hb3.mono hW2.size)
      have hs3 := hW3.size
      clear hW2 hb3 Y Z
      go_wp2_with fail
      refine (compare_12 _ w3.heap.size (w3.heap.size + 1) _ _ (by go_simp) (by go_simp) (by simp; omega) (by simp)).mono ?_
      rintro e w4 ⟨rfl, hb4⟩
      go_wp2
      go_ret
      refine ⟨rfl, ?_⟩
      exact (((hW3.alloc hs3 _).alloc (by simp; omega) _).trans (hb4.mono (by simp; omega)))
end Go.Proofs.YtoijbpjlknmpmaaDoor.fnCompare
