/- Walks of FnExpanded and what it calls. -/
import Derived.Test.YtjfnfoogiihfaaaTextFor
import Derived.Deep.RegionHeld3
import Derived.Lib.Hide
namespace Go.Proofs.Ytjfnfoogiihfaaa.fnExpanded
open Go.ChangeShapes Go.WideShapes Go.ChangeAt Go.RowKit
open fnTextFor (rangeOf_any)

theorem bset {B : Nat} {a w : World} {p : Addr} {u : Value} (hp : B ≤ p.block) (h : Below B a w) : Below B a (w.setCell p u) := h.setCell hp u
theorem bdrew {B : Nat} {a w : World} {n : Nat} (h : Below B a w) : Below B a (w.drewN n) := below_drewN h n
theorem balloc {B : Nat} {a w : World} {o : Obj} (hp : B ≤ w.heap.size) (h : Below B a w) : Below B a (w.alloc o) := h.alloc hp o

def sm (n : Int) : Int := (n.tmod 1000 + 1000) % 1000
theorem sm_bd (n : Int) : 0 ≤ sm n ∧ sm n ≤ 999 := by unfold sm; omega

theorem small_any (n : Int) (w : World) : Calls Try.prog 11 #[.int .i64 n] w fun e w' => e = .returned (.int .i64 (sm n)) ∧ w = w' := by
  have h1 : -1000 < n.tmod 1000 := Int.lt_tmod_of_pos n (by omega)
  have h2 : n.tmod 1000 < 1000 := Int.tmod_lt_of_pos n (by omega)
  go_enter Try.func11, Try.ntmps11
  go_wp2
  go_ret
  exact ⟨rfl, rfl⟩

theorem back_any (a b : Int) (w : World) (ha : 0 ≤ a ∧ a ≤ 2147483647) (hb : 0 ≤ b ∧ b ≤ 2147483647) :
    Calls Try.prog 18 #[.agg #[.int .i32 a, .int .i32 b]] w fun e w' => e = .returned (.agg #[.int .i64 a, .int .i64 b]) ∧ ((w.alloc (Obj.cells #[Value.int IntKind.i32 a, Value.int IntKind.i32 b] 49)).alloc (Obj.cells #[Value.int IntKind.i64 a, Value.int IntKind.i64 b] 24)) = w' := by
  go_enter Try.func18, Try.ntmps18
  go_wp2
  exact bodyPost_ret (v := .agg #[.int .i64 a, .int .i64 b]) (by simp [results, Try.results18, go_sem]) rfl ⟨rfl, rfl⟩

theorem end_any (a b : Int) (w : World) (ha : 0 ≤ a ∧ a ≤ 10000) (hb : 0 ≤ b ∧ b ≤ 10000) :
    Calls Try.prog 21 #[.agg #[.int .i32 a, .int .i32 b]] w fun e w' => e = .returned (.int .i32 (a + b)) ∧ (w.alloc (Obj.cells #[Value.int IntKind.i32 a, Value.int IntKind.i32 b] 49)) = w' := by
  go_enter Try.func21, Try.ntmps21
  go_wp2
  go_ret
  exact ⟨rfl, rfl⟩

/-- what ExpandBy leaves: the receiver's two cells; below them nothing has turned -/
def Left (B : Nat) (a b : Int) (w w' : World) : Prop :=
  Below B w w' ∧ w'.cell? ⟨B, 0, none⟩ = some (.int .i32 a) ∧ w'.cell? ⟨B, 1, none⟩ = some (.int .i32 b)

set_option maxHeartbeats 800000 in
theorem expandBy_any (B : Nat) (a b c d : Int) (w : World) (ha : 0 ≤ a ∧ a ≤ 999) (hb : 1 ≤ b ∧ b ≤ 1000) (hc : 0 ≤ c ∧ c ≤ 999) (hd : 1 ≤ d ∧ d ≤ 1000)
    (hB : B < w.heap.size) (h0 : w.cell? ⟨B, 0, none⟩ = some (.int .i32 a)) (h1 : w.cell? ⟨B, 1, none⟩ = some (.int .i32 b))
    (f0 : w.frozen? ⟨B, 0, none⟩ = false) (f1 : w.frozen? ⟨B, 1, none⟩ = false) :
    Calls Try.prog 20 #[.pointer (some ⟨B, 0, none⟩), .agg #[.int .i32 c, .int .i32 d]] w fun e w' => e = .returned (.tuple #[]) ∧ Left B (min a c) (max (a + b) (c + d) - min a c) w w' := by
  have hb0 : (b == 0) = false := by simp; omega
  have q1 : B < w.heap.size + 1 := by omega
  have q2 : B < w.heap.size + 1 + 1 := by omega
  have q3 : B < w.heap.size + 2 := by omega
  by_cases t1 : a + b < c + d <;> by_cases t2 : c < a
  all_goals
    go_enter Try.func20, Try.ntmps20
    go_wp2_with (first | (go_at_call 21; refine (end_any _ _ _ (by omega) (by omega)).mono ?_; rintro e w' ⟨rfl, rfl⟩))
    go_quiet (fail)
    go_wp2
    go_end0
    refine ⟨rfl, ?_, ?_, ?_⟩
    · repeat (first | with_reducible exact Below.refl _ _ | (refine bset (Nat.le_refl _) ?_) | refine bdrew ?_ | (refine balloc (by first | omega | (simp; omega)) ?_))
    · simp [go_sem, *]; omega
    · simp [go_sem, *]; omega

set_option maxHeartbeats 800000 in
theorem expanded_any (a b c d : Int) (w : World) (ha : 0 ≤ a ∧ a ≤ 999) (hb : 1 ≤ b ∧ b ≤ 1000) (hc : 0 ≤ c ∧ c ≤ 999) (hd : 1 ≤ d ∧ d ≤ 1000) :
    Calls Try.prog 12 #[.agg #[.int .i64 a, .int .i64 b], .agg #[.int .i64 c, .int .i64 d]] w fun e w' =>
      e = .returned (.agg #[.int .i64 (min a c), .int .i64 (max (a + b) (c + d) - min a c)]) ∧ Below w.heap.size w w' := by
  go_enter Try.func12, Try.ntmps12
  go_wp2_with (first | (go_at_call 14; refine (rangeOf_any _ _ _ (by omega) (by omega)).mono ?_; rintro e w' ⟨rfl, rfl⟩))
  refine (expandBy_any (w.heap.size + 5) a b c d _ ha hb hc hd (by simp) (by go_simp) (by go_simp) (by go_simp) (by go_simp)).mono ?_
  rintro e w1 ⟨rfl, hB, h0, h1⟩
  have hz : w.heap.size + 8 ≤ w1.heap.size := by have := hB.size; simpa using this
  have c0 : w1.cell? ⟨w.heap.size + 1 + 1, 0, none⟩ = some (.int .i64 0) := by rw [hB.cell (by simp)]; go_simp
  have c1 : w1.cell? ⟨w.heap.size + 1 + 1, 1, none⟩ = some (.int .i64 0) := by rw [hB.cell (by simp)]; go_simp
  have f0 : w1.frozen? ⟨w.heap.size + 1 + 1, 0, none⟩ = false := by rw [hB.frozen (by simp)]; go_simp
  have f1 : w1.frozen? ⟨w.heap.size + 1 + 1, 1, none⟩ = false := by rw [hB.frozen (by simp)]; go_simp
  have hW : Below w.heap.size w w1 := by
    refine Below.trans ?_ (hB.mono (by omega))
    repeat (first | with_reducible exact Below.refl _ _ | (refine balloc (by first | omega | (simp; omega) | simp) ?_))
  clear hB
  have hm : 0 ≤ min a c ∧ min a c ≤ 999 := by omega
  have hx : 0 ≤ max (a + b) (c + d) - min a c ∧ max (a + b) (c + d) - min a c ≤ 5000 := by omega
  obtain ⟨m, em⟩ : ∃ m, m = min a c := ⟨_, rfl⟩
  obtain ⟨x, ex⟩ : ∃ x, x = max (a + b) (c + d) - min a c := ⟨_, rfl⟩
  rw [← em] at h0 hm
  rw [← ex] at h1 hx
  have z1 : w.heap.size + 1 + 1 < w1.heap.size := by omega
  have z2 : w.heap.size + 1 + 1 < w1.heap.size + 1 := by omega
  have z3 : w.heap.size + 1 + 1 ≠ w1.heap.size := by omega
  have z4 : w.heap.size + 1 + 1 ≠ w1.heap.size + 1 := by omega
  have EM := Lib.hid em
  have EX := Lib.hid ex
  clear em ex
  go_wp2_with (first | (go_at_call 18; refine (back_any _ _ _ (by omega) (by omega)).mono ?_; rintro e w' ⟨rfl, rfl⟩))
  refine bodyPost_ret (v := .agg #[.int .i64 m, .int .i64 x]) ?_ rfl ⟨by rw [EX.out, EM.out], ?_⟩
  · simp [results, Try.results12, go_sem, *]
  · refine balloc ?_ (balloc ?_ (bset ?_ (bset ?_ hW)))
    all_goals first | omega | (simp; omega)

theorem bcell {W w1 : World} (hb : Below W.heap.size W w1) : (∀ b o, b < W.heap.size → w1.cell? ⟨b, o, none⟩ = W.cell? ⟨b, o, none⟩) ∧ (∀ b o, b < W.heap.size → w1.frozen? ⟨b, o, none⟩ = W.frozen? ⟨b, o, none⟩) :=
  ⟨fun b o h => hb.cell (p := ⟨b, o, none⟩) h, fun b o h => hb.frozen (p := ⟨b, o, none⟩) h⟩

theorem expanded_at (a b c d m M : Int) (w : World) (ha : 0 ≤ a ∧ a ≤ 999) (hb : 1 ≤ b ∧ b ≤ 1000) (hc : 0 ≤ c ∧ c ≤ 999) (hd : 1 ≤ d ∧ d ≤ 1000) (hm : min a c = m) (hM : max (a + b) (c + d) = M) :
    Calls Try.prog 12 #[.agg #[.int .i64 a, .int .i64 b], .agg #[.int .i64 c, .int .i64 d]] w fun e w' => e = .returned (.agg #[.int .i64 m, .int .i64 (M - m)]) ∧ Below w.heap.size w w' := by
  subst hm hM
  exact expanded_any a b c d w ha hb hc hd

set_option maxHeartbeats 1600000 in
theorem walk0 (a0 a1 a2 a3 : Int) (t1 : sm a2 < sm a0) (t2 : sm a0 + (sm a1 + 1) < sm a2 + (sm a3 + 1)) (w : World) :
    Calls Try.prog 6 #[.int .i64 a0, .int .i64 a1, .int .i64 a2, .int .i64 a3] w fun e w' => e = .returned (.bool true) ∧ Below w.heap.size w w' := by
  have b0 := sm_bd a0
  have b1 := sm_bd a1
  have b2 := sm_bd a2
  have b3 := sm_bd a3
  have q1 : w.heap.size < w.heap.size + 1 + 1 := by omega
  have q2 : w.heap.size < w.heap.size + 2 := by omega
  have X := Lib.hid (fun W : World => expanded_at (sm a0) (sm a1 + 1) (sm a2) (sm a3 + 1) (sm a2) (sm a2 + (sm a3 + 1)) W (by omega) (by omega) (by omega) (by omega) (by omega) (by omega))
  have s1 : IntKind.i64.wrap (sm a0 + (sm a1 + 1)) = sm a0 + (sm a1 + 1) := IntWalk.i64_in _ (by omega)
  have s2 : IntKind.i64.wrap (sm a2 + (sm a3 + 1)) = sm a2 + (sm a3 + 1) := IntWalk.i64_in _ (by omega)
  have s3 : IntKind.i64.wrap (sm a2 + (sm a3 + 1) - sm a2) = sm a2 + (sm a3 + 1) - sm a2 := IntWalk.i64_in _ (by omega)
  go_enter Try.func6, Try.ntmps6
  go_wp2_with (first | (go_at_call 11; refine (small_any _ _).mono ?_; rintro e w' ⟨rfl, rfl⟩))
  go_region_held3 (fun w' => w'.cell? ⟨w.heap.size, 0, none⟩ = some (.int .i64 (sm a0)) ∧ w'.cell? ⟨w.heap.size, 1, none⟩ = some (.int .i64 (sm a1 + 1)) ∧ w'.cell? ⟨w.heap.size + 1, 0, none⟩ = some (.int .i64 (sm a2)) ∧ w'.cell? ⟨w.heap.size + 1, 1, none⟩ = some (.int .i64 (sm a3 + 1))) (go_keep)
    (first | (go_at_call 12; refine (X.out _).mono ?_; rintro e w' ⟨rfl, hb⟩; obtain ⟨hc, hf⟩ := bcell hb))
  all_goals
    go_wp2
    go_ret
    refine ⟨rfl, ?_⟩
    first
      | exact Below.trans (Below.drew (balloc (by simp) (balloc (Nat.le_refl _) (Below.refl _ _)))) (hb.mono (by simp; omega))
      | exact Below.drew (Below.trans (balloc (by simp) (balloc (Nat.le_refl _) (Below.refl _ _))) (hb.mono (by simp; omega)))

set_option maxHeartbeats 1600000 in
theorem walk1 (a0 a1 a2 a3 : Int) (t1 : sm a2 < sm a0) (t2 : ¬ sm a0 + (sm a1 + 1) < sm a2 + (sm a3 + 1)) (w : World) :
    Calls Try.prog 6 #[.int .i64 a0, .int .i64 a1, .int .i64 a2, .int .i64 a3] w fun e w' => e = .returned (.bool true) ∧ Below w.heap.size w w' := by
  have b0 := sm_bd a0
  have b1 := sm_bd a1
  have b2 := sm_bd a2
  have b3 := sm_bd a3
  have q1 : w.heap.size < w.heap.size + 1 + 1 := by omega
  have q2 : w.heap.size < w.heap.size + 2 := by omega
  have X := Lib.hid (fun W : World => expanded_at (sm a0) (sm a1 + 1) (sm a2) (sm a3 + 1) (sm a2) (sm a0 + (sm a1 + 1)) W (by omega) (by omega) (by omega) (by omega) (by omega) (by omega))
  have s1 : IntKind.i64.wrap (sm a0 + (sm a1 + 1)) = sm a0 + (sm a1 + 1) := IntWalk.i64_in _ (by omega)
  have s2 : IntKind.i64.wrap (sm a2 + (sm a3 + 1)) = sm a2 + (sm a3 + 1) := IntWalk.i64_in _ (by omega)
  have s3 : IntKind.i64.wrap (sm a0 + (sm a1 + 1) - sm a2) = sm a0 + (sm a1 + 1) - sm a2 := IntWalk.i64_in _ (by omega)
  have t3 : (sm a0 + (sm a1 + 1) < sm a2 + (sm a3 + 1)) = False := eq_false t2
  go_enter Try.func6, Try.ntmps6
  go_wp2_with (first | (go_at_call 11; refine (small_any _ _).mono ?_; rintro e w' ⟨rfl, rfl⟩))
  go_region_held3 (fun w' => w'.cell? ⟨w.heap.size, 0, none⟩ = some (.int .i64 (sm a0)) ∧ w'.cell? ⟨w.heap.size, 1, none⟩ = some (.int .i64 (sm a1 + 1)) ∧ w'.cell? ⟨w.heap.size + 1, 0, none⟩ = some (.int .i64 (sm a2)) ∧ w'.cell? ⟨w.heap.size + 1, 1, none⟩ = some (.int .i64 (sm a3 + 1))) (go_keep)
    (first | (go_at_call 12; refine (X.out _).mono ?_; rintro e w' ⟨rfl, hb⟩; obtain ⟨hc, hf⟩ := bcell hb))
  all_goals
    go_wp2
    go_ret
    refine ⟨rfl, ?_⟩
    first
      | exact Below.trans (Below.drew (balloc (by simp) (balloc (Nat.le_refl _) (Below.refl _ _)))) (hb.mono (by simp; omega))
      | exact Below.drew (Below.trans (balloc (by simp) (balloc (Nat.le_refl _) (Below.refl _ _))) (hb.mono (by simp; omega)))

set_option maxHeartbeats 1600000 in
theorem walk2 (a0 a1 a2 a3 : Int) (t1 : ¬ sm a2 < sm a0) (t2 : sm a0 + (sm a1 + 1) < sm a2 + (sm a3 + 1)) (w : World) :
    Calls Try.prog 6 #[.int .i64 a0, .int .i64 a1, .int .i64 a2, .int .i64 a3] w fun e w' => e = .returned (.bool true) ∧ Below w.heap.size w w' := by
  have b0 := sm_bd a0
  have b1 := sm_bd a1
  have b2 := sm_bd a2
  have b3 := sm_bd a3
  have q1 : w.heap.size < w.heap.size + 1 + 1 := by omega
  have q2 : w.heap.size < w.heap.size + 2 := by omega
  have X := Lib.hid (fun W : World => expanded_at (sm a0) (sm a1 + 1) (sm a2) (sm a3 + 1) (sm a0) (sm a2 + (sm a3 + 1)) W (by omega) (by omega) (by omega) (by omega) (by omega) (by omega))
  have s1 : IntKind.i64.wrap (sm a0 + (sm a1 + 1)) = sm a0 + (sm a1 + 1) := IntWalk.i64_in _ (by omega)
  have s2 : IntKind.i64.wrap (sm a2 + (sm a3 + 1)) = sm a2 + (sm a3 + 1) := IntWalk.i64_in _ (by omega)
  have s3 : IntKind.i64.wrap (sm a2 + (sm a3 + 1) - sm a0) = sm a2 + (sm a3 + 1) - sm a0 := IntWalk.i64_in _ (by omega)
  go_enter Try.func6, Try.ntmps6
  go_wp2_with (first | (go_at_call 11; refine (small_any _ _).mono ?_; rintro e w' ⟨rfl, rfl⟩))
  go_region_held3 (fun w' => w'.cell? ⟨w.heap.size, 0, none⟩ = some (.int .i64 (sm a0)) ∧ w'.cell? ⟨w.heap.size, 1, none⟩ = some (.int .i64 (sm a1 + 1)) ∧ w'.cell? ⟨w.heap.size + 1, 0, none⟩ = some (.int .i64 (sm a2)) ∧ w'.cell? ⟨w.heap.size + 1, 1, none⟩ = some (.int .i64 (sm a3 + 1))) (go_keep)
    (first | (go_at_call 12; refine (X.out _).mono ?_; rintro e w' ⟨rfl, hb⟩; obtain ⟨hc, hf⟩ := bcell hb))
  all_goals
    go_wp2
    go_ret
    refine ⟨rfl, ?_⟩
    first
      | exact Below.trans (Below.drew (balloc (by simp) (balloc (Nat.le_refl _) (Below.refl _ _)))) (hb.mono (by simp; omega))
      | exact Below.drew (Below.trans (balloc (by simp) (balloc (Nat.le_refl _) (Below.refl _ _))) (hb.mono (by simp; omega)))

set_option maxHeartbeats 1600000 in
theorem walk3 (a0 a1 a2 a3 : Int) (t1 : ¬ sm a2 < sm a0) (t2 : ¬ sm a0 + (sm a1 + 1) < sm a2 + (sm a3 + 1)) (w : World) :
    Calls Try.prog 6 #[.int .i64 a0, .int .i64 a1, .int .i64 a2, .int .i64 a3] w fun e w' => e = .returned (.bool true) ∧ Below w.heap.size w w' := by
  have b0 := sm_bd a0
  have b1 := sm_bd a1
  have b2 := sm_bd a2
  have b3 := sm_bd a3
  have q1 : w.heap.size < w.heap.size + 1 + 1 := by omega
  have q2 : w.heap.size < w.heap.size + 2 := by omega
  have X := Lib.hid (fun W : World => expanded_at (sm a0) (sm a1 + 1) (sm a2) (sm a3 + 1) (sm a0) (sm a0 + (sm a1 + 1)) W (by omega) (by omega) (by omega) (by omega) (by omega) (by omega))
  have s1 : IntKind.i64.wrap (sm a0 + (sm a1 + 1)) = sm a0 + (sm a1 + 1) := IntWalk.i64_in _ (by omega)
  have s2 : IntKind.i64.wrap (sm a2 + (sm a3 + 1)) = sm a2 + (sm a3 + 1) := IntWalk.i64_in _ (by omega)
  have s3 : IntKind.i64.wrap (sm a0 + (sm a1 + 1) - sm a0) = sm a0 + (sm a1 + 1) - sm a0 := IntWalk.i64_in _ (by omega)
  have t3 : (sm a0 + (sm a1 + 1) < sm a2 + (sm a3 + 1)) = False := eq_false t2
  go_enter Try.func6, Try.ntmps6
  go_wp2_with (first | (go_at_call 11; refine (small_any _ _).mono ?_; rintro e w' ⟨rfl, rfl⟩))
  go_region_held3 (fun w' => w'.cell? ⟨w.heap.size, 0, none⟩ = some (.int .i64 (sm a0)) ∧ w'.cell? ⟨w.heap.size, 1, none⟩ = some (.int .i64 (sm a1 + 1)) ∧ w'.cell? ⟨w.heap.size + 1, 0, none⟩ = some (.int .i64 (sm a2)) ∧ w'.cell? ⟨w.heap.size + 1, 1, none⟩ = some (.int .i64 (sm a3 + 1))) (go_keep)
    (first | (go_at_call 12; refine (X.out _).mono ?_; rintro e w' ⟨rfl, hb⟩; obtain ⟨hc, hf⟩ := bcell hb))
  all_goals
    go_wp2
    go_ret
    refine ⟨rfl, ?_⟩
    first
      | exact Below.trans (Below.drew (balloc (by simp) (balloc (Nat.le_refl _) (Below.refl _ _)))) (hb.mono (by simp; omega))
      | exact Below.drew (Below.trans (balloc (by simp) (balloc (Nat.le_refl _) (Below.refl _ _))) (hb.mono (by simp; omega)))

theorem walk (a0 a1 a2 a3 : Int) (_ : (Lit.int .i64 a0).wf = true) (_ : (Lit.int .i64 a1).wf = true) (_ : (Lit.int .i64 a2).wf = true) (_ : (Lit.int .i64 a3).wf = true) (w : World) :
    Calls Try.prog 6 #[.int .i64 a0, .int .i64 a1, .int .i64 a2, .int .i64 a3] w fun e w' => e = .returned (.bool true) ∧ Below w.heap.size w w' := by
  by_cases t1 : sm a2 < sm a0 <;> by_cases t2 : sm a0 + (sm a1 + 1) < sm a2 + (sm a3 + 1)
  · exact walk0 a0 a1 a2 a3 t1 t2 w
  · exact walk1 a0 a1 a2 a3 t1 t2 w
  · exact walk2 a0 a1 a2 a3 t1 t2 w
  · exact walk3 a0 a1 a2 a3 t1 t2 w
end Go.Proofs.Ytjfnfoogiihfaaa.fnExpanded
