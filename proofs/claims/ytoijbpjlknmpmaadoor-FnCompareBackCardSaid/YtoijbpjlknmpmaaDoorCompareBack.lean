/- The walk of FnCompareBack. -/
import Derived.Test.YtoijbpjlknmpmaaDoorBackSem
import Derived.Deep.RegionLaw
import Derived.Deep.RegionHeld3
import Derived.Deep.RegionWith
namespace Go.Proofs.YtoijbpjlknmpmaaDoor.fnCompareBack
open Go.RowKit
open kit cmp back

theorem sm_all (xs : List Int) : ∀ n ∈ xs.map sm, 0 ≤ n ∧ n ≤ 999999 := by
  intro n hn
  obtain ⟨m, _, rfl⟩ := List.mem_map.1 hn
  exact sm_bd m
/-- a row that lies from block lo on -/
def RdL (w : World) (lo : Nat) (A : Option Addr) (n : Nat) (xs : List Value) : Prop :=
  xs.length = n ∧ (0 < n → ∃ b o, A = some ⟨b, o, none⟩ ∧ lo ≤ b ∧ b < w.heap.size ∧ ∀ j u, xs[j]? = some u → w.cell? ⟨b, o + j, none⟩ = some u)
theorem RdL.rd {w : World} {lo n : Nat} {A : Option Addr} {xs : List Value} (h : RdL w lo A n xs) : Rd w w.heap.size A n xs :=
  ⟨h.1, fun hn => by obtain ⟨b, o, e, _, hb, hc⟩ := h.2 hn; exact ⟨b, o, e, hb, hc⟩⟩
theorem RdL.below {w w' : World} {lo n : Nat} {A : Option Addr} {xs : List Value} (h : RdL w lo A n xs) (hb : Below w.heap.size w w') : RdL w' lo A n xs :=
  ⟨h.1, fun hn => by
    obtain ⟨b, o, e, h1, h2, hc⟩ := h.2 hn
    exact ⟨b, o, e, h1, Nat.lt_of_lt_of_le h2 hb.size, fun j u hu => (hb.cell (p := ⟨b, o + j, none⟩) h2).trans (hc j u hu)⟩⟩
theorem RdL.set {w : World} {lo n : Nat} {A : Option Addr} {xs : List Value} (h : RdL w lo A n xs) {p : Addr} (hp : p.block < lo) (v : Value) : RdL (w.setCell p v) lo A n xs :=
  ⟨h.1, fun hn => by
    obtain ⟨b, o, e, h1, h2, hc⟩ := h.2 hn
    refine ⟨b, o, e, h1, by simpa using h2, fun j u hu => ?_⟩
    rw [World.cell?_setCell_other]
    · exact hc j u hu
    · intro q; rw [q] at hp; simp at hp; omega⟩
theorem RdL.drew {w : World} {lo n : Nat} {A : Option Addr} {xs : List Value} (h : RdL w lo A n xs) : RdL w.drew lo A n xs := h
theorem RdL.of_own {w : World} {base : Nat} {e : TypeId} {n : Nat} {v : Value} {xs : List Value} (h : w.ownsRow base e 1 v n xs) : ∃ A c, v = .slice A n c ∧ RdL w base A n xs := by
  have h1 := h.1
  rcases h.2 with ⟨rfl, rfl⟩ | ⟨g, cap, cur, rfl, hg, hh, hnc, hrest⟩
  · obtain rfl : xs = [] := List.eq_nil_of_length_eq_zero (by simpa using h1)
    exact ⟨none, 0, rfl, rfl, fun h => absurd h (by omega)⟩
  · refine ⟨_, cap, rfl, by simpa using h1, fun hn => ⟨g, 0, rfl, (h.lt g rfl).1, (h.lt g rfl).2, ?_⟩⟩
    intro j u hu
    have := h.cells (g := g) rfl j u hu
    unfold Addr.add at this
    by_cases hj : j = 0
    · subst hj; simpa using this
    · simpa [hj] using this

/-- small, its row told from block lo on -/
def GivesL (lo : Nat) (xs : List Int) (w : World) (e : Ending) (w' : World) : Prop := ∃ A c, e = .returned (.slice A xs.length c) ∧ RdL w' lo A xs.length (ints xs) ∧ Below w.heap.size w w'
theorem small_L (A : Option Addr) (c : Nat) (xs ps : List Int) (w : World) (lo : Nat) (hlo : lo ≤ w.heap.size) (hp : ps = xs.map sm) (hr : Rd w w.heap.size A xs.length (ints xs)) (hl : xs.length * 8 ≤ 140737488351232) :
    Calls Tryd.prog 12 #[.slice A xs.length c] w (GivesL lo ps w) := by
  subst hp
  refine (small_any A c xs w hr hl).mono ?_
  rintro e w' ⟨v, rfl, hown, hb⟩
  obtain ⟨A', c', rfl, hR⟩ := RdL.of_own hown
  exact ⟨A', c', rfl, ⟨hR.1, fun hn => by obtain ⟨b, o, e, h1, h2, hc⟩ := hR.2 hn; exact ⟨b, o, e, by omega, h2, hc⟩⟩, hb⟩

theorem c12 (w : World) (B B' : Nat) (c c' : Nat) (h : w.cell? ⟨B, 0, none⟩ = some (.int .i64 1)) (h' : w.cell? ⟨B', 0, none⟩ = some (.int .i64 2)) :
    Calls Tryd.prog 14 #[.agg #[.slice (some ⟨B, 0, none⟩) 1 c, .string ⟨#[]⟩], .agg #[.slice (some ⟨B', 0, none⟩) 1 c', .string ⟨#[]⟩]] w fun e w' => e = .returned (.int .i64 (-1)) ∧ Below w.heap.size w w' :=
  compare_12 w B B' c c' h h' (World.block_lt_of_cell? w _ h) (World.block_lt_of_cell? w _ h')
/-- the two boxes as they stand -/
def St (w : World) (va vb : Value) (S T : ByteArray) (W : World) : Prop :=
  Below w.heap.size w W ∧ w.heap.size + 2 ≤ W.heap.size ∧
  W.cell? ⟨w.heap.size, 0, none⟩ = some va ∧ W.cell? ⟨w.heap.size, 1, none⟩ = some (.string S) ∧ W.cell? ⟨w.heap.size + 1, 0, none⟩ = some vb ∧ W.cell? ⟨w.heap.size + 1, 1, none⟩ = some (.string T) ∧
  W.frozen? ⟨w.heap.size, 0, none⟩ = false ∧ W.frozen? ⟨w.heap.size + 1, 0, none⟩ = false
theorem St.keep {w : World} {va vb : Value} {S T : ByteArray} {W W' : World} (h : St w va vb S T W) (hb : Below W.heap.size W W') : St w va vb S T W' := by
  obtain ⟨h1, h2, c1, c2, c3, c4, f1, f2⟩ := h
  have e : ∀ b o, b < w.heap.size + 2 → W'.cell? ⟨b, o, none⟩ = W.cell? ⟨b, o, none⟩ := fun b o hb' => hb.cell (p := ⟨b, o, none⟩) (show b < W.heap.size by omega)
  have e' : ∀ b o, b < w.heap.size + 2 → W'.frozen? ⟨b, o, none⟩ = W.frozen? ⟨b, o, none⟩ := fun b o hb' => hb.frozen (p := ⟨b, o, none⟩) (show b < W.heap.size by omega)
  exact ⟨h1.trans (hb.mono h1.size), Nat.le_trans h2 hb.size, (e _ _ (by omega)).trans c1, (e _ _ (by omega)).trans c2, (e _ _ (by omega)).trans c3, (e _ _ (by omega)).trans c4, (e' _ _ (by omega)).trans f1, (e' _ _ (by omega)).trans f2⟩
theorem St.drew {w : World} {va vb : Value} {S T : ByteArray} {W : World} (h : St w va vb S T W) : St w va vb S T W.drew := ⟨h.1.drew, h.2⟩

set_option maxRecDepth 100000 in
set_option maxHeartbeats 3200000 in
theorem walk (A : Option Addr) (c : Nat) (xs : List Int) (S : ByteArray) (A' : Option Addr) (c' : Nat) (ys : List Int) (T : ByteArray) (w : World)
    (hr : Rd w w.heap.size A xs.length (ints xs)) (hl : xs.length * 8 ≤ 140737488351232) (hS : S.size ≤ 140737488351232)
    (hr' : Rd w w.heap.size A' ys.length (ints ys)) (hl' : ys.length * 8 ≤ 140737488351232) (hT : T.size ≤ 140737488351232) (he : Errs w) :
    Calls Tryd.prog 5 #[.agg #[.slice A xs.length c, .string S], .agg #[.slice A' ys.length c', .string T]] w fun e w' => e = .returned (.bool true) ∧ Below w.heap.size w w' := by
  obtain ⟨p, hp⟩ : ∃ p, p = xs.map sm := ⟨_, rfl⟩
  obtain ⟨q, hq⟩ : ∃ q, q = ys.map sm := ⟨_, rfl⟩
  have X1 := Lib.hid (fun (W : World) (h : St w (.slice A xs.length c) (.slice A' ys.length c') S T W) => small_L A c xs p W (w.heap.size + 2) h.2.1 hp (rd_keep hr h.1) hl)
  have X2 := Lib.hid (fun (W : World) (h : St w (.slice A xs.length c) (.slice A' ys.length c') S T W) => small_L A' c' ys q W (w.heap.size + 2) h.2.1 hq (rd_keep hr' h.1) hl')
  have HP := Lib.hid hp
  have HQ := Lib.hid hq
  have HE := Lib.hid he
  clear hp hq hr hr' he
  go_enter Tryd.func5, Tryd.ntmps5
  go_wp2_with fail
  go_cut [] (fun wx => ∃ A1 c1 A2 c2, wx.cell? ⟨w.heap.size, 0, none⟩ = some (.slice A1 p.length c1) ∧ wx.cell? ⟨w.heap.size, 1, none⟩ = some (.string S) ∧ wx.cell? ⟨w.heap.size + 1, 0, none⟩ = some (.slice A2 q.length c2) ∧ wx.cell? ⟨w.heap.size + 1, 1, none⟩ = some (.string T) ∧ RdL wx (w.heap.size + 2) A1 p.length (ints p) ∧ RdL wx (w.heap.size + 2) A2 q.length (ints q) ∧ w.heap.size + 2 ≤ wx.heap.size ∧ Below w.heap.size w wx)
  case first =>
    obtain ⟨W0, hW0⟩ : ∃ W0, W0 = (w.alloc (Obj.cells #[.slice A xs.length c, .string S] 29)).alloc (Obj.cells #[.slice A' ys.length c', .string T] 29) := ⟨_, rfl⟩
    have st0 : St w (.slice A xs.length c) (.slice A' ys.length c') S T W0 := by
      rw [hW0]
      exact ⟨bel2 w _ _, by simp, by go_simp, by go_simp, by go_simp, by go_simp, by go_simp, by go_simp⟩
    rw [← hW0]
    clear hW0
    have H0 := Lib.hid st0
    obtain ⟨_, _, a1, a2, a3, a4, a5, a6⟩ := st0
    go_region_law (first
      | (go_simp; go_at_call 12; (with_reducible refine (X1.out _ (by first | exact H0.out | exact H0.out.drew | exact H2.out | exact H2.out.drew)).mono ?_); rintro e w1 ⟨A1, c1, rfl, R1, b1⟩; (first | (have H1 := Lib.hid (St.keep H0.out b1)) | (have H1 := Lib.hid (St.keep H0.out.drew b1)) | (have H1 := Lib.hid (St.keep H2.out b1)) | (have H1 := Lib.hid (St.keep H2.out.drew b1))); obtain ⟨_, _, d1, d2, d3, d4, d5, d6⟩ := H1.out)
      | (go_simp; go_at_call 12; (with_reducible refine (X2.out _ (by first | exact H0.out | exact H0.out.drew | exact H1.out | exact H1.out.drew)).mono ?_); rintro e w2 ⟨A2, c2, rfl, R2, b2⟩; (first | (have H2 := Lib.hid (St.keep H0.out b2)) | (have H2 := Lib.hid (St.keep H0.out.drew b2)) | (have H2 := Lib.hid (St.keep H1.out b2)) | (have H2 := Lib.hid (St.keep H1.out.drew b2))); obtain ⟨_, _, e1, e2, e3, e4, e5, e6⟩ := H2.out))
    all_goals
      have r1 := (R1.below b2).set (p := ⟨w.heap.size, 0, none⟩) (show w.heap.size < w.heap.size + 2 by omega)
      have r2 := R2.set (p := ⟨w.heap.size, 0, none⟩) (show w.heap.size < w.heap.size + 2 by omega)
      have R := Lib.hid (fun v u => And.intro ((r1 v).set (p := ⟨w.heap.size + 1, 0, none⟩) (show w.heap.size + 1 < w.heap.size + 2 by omega) u) ((r2 v).set (p := ⟨w.heap.size + 1, 0, none⟩) (show w.heap.size + 1 < w.heap.size + 2 by omega) u))
      have hW2 := H2.out.1
      have hz2 := H2.out.2.1
      clear r1 r2 X1 X2
      go_wp2_with fail
      go_meet
      refine ⟨A1, c1, A2, c2, ?_, ?_, ?_, ?_, (R.out _ _).1, (R.out _ _).2, ?_, ?_⟩
      · go_simp
      · go_simp
      · go_simp
      · go_simp
      · simpa using hz2
      · exact (hW2.setCell (Nat.le_refl _) _).setCell (show w.heap.size ≤ w.heap.size + 1 by omega) _
  case rest =>
    obtain ⟨A1, c1, A2, c2, k1, k2, k3, k4, R1, R2, hz, hW⟩ := hcut
    have hpl : p.length = xs.length := by rw [HP.out]; simp
    have hql : q.length = ys.length := by rw [HQ.out]; simp
    have hpb : ∀ n ∈ p, 0 ≤ n ∧ n ≤ 999999 := by rw [HP.out]; exact sm_all xs
    have hqb : ∀ n ∈ q, 0 ≤ n ∧ n ≤ 999999 := by rw [HQ.out]; exact sm_all ys
    have hpl' : p.length * 8 ≤ 140737488351232 := by omega
    have hql' : q.length * 8 ≤ 140737488351232 := by omega
    have Y1 := Lib.hid (fun (W : World) (h : Below wc.heap.size wc W) => compare_all A1 A2 c1 c2 p q S T W (R1.below h).rd (R2.below h).rd hpl' hql' hpb hqb hS hT (HE.out.keep (hW.trans (h.mono hW.size))))
    have Y2 := Lib.hid (fun (W : World) (h : Below wc.heap.size wc W) => compare_all A2 A1 c2 c1 q p T S W (R2.below h).rd (R1.below h).rd hql' hpl' hqb hpb hT hS (HE.out.keep (hW.trans (h.mono hW.size))))
    have Y3 := Lib.hid (fun (W : World) (h : Below wc.heap.size wc W) => compare_all A1 A1 c1 c1 p p S S W (R1.below h).rd (R1.below h).rd hpl' hpl' hpb hpb hS hS (HE.out.keep (hW.trans (h.mono hW.size))))
    have Z2 := Lib.hid (fun W : World => sign_any (ver q p T S) W)
    rw [ver_anti p q S T] at Z2
    rw [ver_self] at Y3
    obtain ⟨r, hr⟩ : ∃ r, r = ver p q S T := ⟨_, rfl⟩
    obtain ⟨r', hr'⟩ : ∃ r', r' = ver q p T S := ⟨_, rfl⟩
    rw [← hr] at Y1 Z2
    rw [← hr'] at Y2 Z2
    have Z1 := Lib.hid (fun W : World => sign_any r W)
    have hs1 : -1 ≤ sgn r ∧ sgn r ≤ 1 := by unfold sgn; (repeat' split) <;> omega
    obtain ⟨d, hd⟩ : ∃ d, d = sgn r := ⟨_, rfl⟩
    rw [← hd] at Z1 Z2 hs1
    obtain ⟨hs1, hs2⟩ := hs1
    clear hr hr' hd hpl hql hpb hqb R1 R2 HP HQ HE X1 X2
    have HK := Lib.hid (fun (W : World) (h : Below wc.heap.size wc W) => And.intro ((h.cell (p := ⟨w.heap.size, 0, none⟩) (show w.heap.size < _ by omega)).trans k1) (And.intro ((h.cell (p := ⟨w.heap.size, 1, none⟩) (show w.heap.size < _ by omega)).trans k2) (And.intro ((h.cell (p := ⟨w.heap.size + 1, 0, none⟩) (show w.heap.size + 1 < _ by omega)).trans k3) ((h.cell (p := ⟨w.heap.size + 1, 1, none⟩) (show w.heap.size + 1 < _ by omega)).trans k4))))
    have hwd : IntKind.i64.wrap d = d := IntWalk.i64_in _ (by omega)
    have l0 := Lib.hid ((Below.refl wc.heap.size wc).drew)
    go_wp2_with fail
    go_cut [4] (fun s4 wx => s4 = .bool true ∧ Below w.heap.size w wx)
    case first =>
      go_region_held3 (fun W => W.cell? ⟨w.heap.size, 0, none⟩ = some (.slice A1 p.length c1) ∧ W.cell? ⟨w.heap.size, 1, none⟩ = some (.string S) ∧ W.cell? ⟨w.heap.size + 1, 0, none⟩ = some (.slice A2 q.length c2) ∧ W.cell? ⟨w.heap.size + 1, 1, none⟩ = some (.string T))
        (first | exact HK.out _ l1.out | exact HK.out _ l2.out | exact HK.out _ l3.out | go_keep | exact HK.out _ l4.out)
        (first
          | (go_at_call 14; (with_reducible refine (Y1.out _ l0.out).mono ?_); rintro e w1 ⟨rfl, b1⟩; have l1 := Lib.hid (l0.out.trans (b1.mono l0.out.size)))
          | (go_at_call 13; (with_reducible refine (Z1.out _).mono ?_); rintro e w' ⟨rfl, rfl⟩)
          | (go_at_call 14; (with_reducible refine (Y2.out _ l1.out).mono ?_); rintro e w2 ⟨rfl, b2⟩; have l2 := Lib.hid (l1.out.trans (b2.mono l1.out.size)))
          | (go_at_call 13; (with_reducible refine (Z2.out _).mono ?_); rintro e w' ⟨rfl, rfl⟩)
          | (go_at_call 14; (with_reducible refine (Y3.out _ l2.out).mono ?_); rintro e w3 ⟨rfl, b3⟩; have l3 := Lib.hid (l2.out.trans (b3.mono l2.out.size)))
          | (go_at_call 14; refine (c12 _ _ _ _ _ ?_ ?_).mono ?_; (go_simp); (go_simp); rintro e w4 ⟨rfl, b4⟩; have l4 := Lib.hid (((l3.out.alloc l3.out.size _).alloc (by have := l3.out.size; simp; omega) _).trans (b4.mono (by have := l3.out.size; simp; omega)))))
      all_goals
        have hW5 := hW.trans (l4.out.mono hW.size)
        go_wp2_with fail
        go_meet
        exact ⟨by simp, hW5⟩
    case rest =>
      obtain ⟨rfl, hW5⟩ := hcut
      go_wp2_with fail
      go_ret
      exact ⟨rfl, hW5⟩
end Go.Proofs.YtoijbpjlknmpmaaDoor.fnCompareBack
