/- Walks of RangeOfString, back, StringRange. -/
import Derived.Test.YtpnigcljndjmlaaRows
import Derived.Test.YtpnigcljndjmlaaKit
import Derived.Test.YtpnigcljndjmlaaBody
import Derived.WalkKit
import Derived.ProofKit
import Derived.IntWalk
import Derived.WalkSpells
import Derived.Deep.LoopGhost
import Derived.Deep.DeepCutAuto
import Derived.Deep.QuietTactic
import Derived.BigQuiet
import Derived.Outline
import Derived.Lib.Strings
namespace Go.Proofs.Ytpnigcljndjmlaa.body
open Go.RowKit
open kit

theorem back_any (x y : Int) (w : World) : Calls Try.prog 9 #[.agg #[.int .i32 x, .int .i32 y]] w fun e w' => e = .returned (.agg #[.int .i64 (wrap64 x), .int .i64 (wrap64 y)]) ∧ Below w.heap.size w w' := by
  go_enter Try.func9, Try.ntmps9
  go_wp2_with fail
  refine bodyPost_ret (v := .agg #[.int .i64 (wrap64 x), .int .i64 (wrap64 y)]) ?_ rfl ⟨rfl, ?_⟩
  · simp [results, Try.results9, go_sem]
  · refine balloc ?_ (balloc (Nat.le_refl _) (Below.refl _ _))
    simp

/-- what RangeOfString's loop keeps -/
def Kp (w wr : World) (a : Nat) : Prop :=
  Below w.heap.size w wr ∧ w.heap.size + 2 ≤ wr.heap.size ∧ wr.cell? ⟨w.heap.size, 0, none⟩ = some (.int .i32 a) ∧ wr.cell? ⟨w.heap.size + 1, 0, none⟩ = some (.int .i32 0) ∧ wr.cell? ⟨w.heap.size + 1, 1, none⟩ = some (.int .i32 0) ∧
  wr.frozen? ⟨w.heap.size + 1, 0, none⟩ = false ∧ wr.frozen? ⟨w.heap.size + 1, 1, none⟩ = false
theorem byte_at (t : ByteArray) (i : Nat) (b : UInt8) (r : List UInt8) (h : t.data.toList.drop i = b :: r) : ∃ hi : i < t.size, (t[i]'hi) = b ∧ t.data.toList.drop (i + 1) = r := by
  have hl : t.data.toList.length = t.size := by rw [Array.length_toList]; rfl
  have hi : i < t.size := by
    have := congrArg List.length h
    rw [List.length_drop, hl] at this
    simp at this
    omega
  have e : t.data.toList.drop i = (t[i]'hi) :: t.data.toList.drop (i + 1) := by
    rw [List.drop_eq_getElem_cons (by rw [hl]; exact hi), Array.getElem_toList]; rfl
  rw [e] at h
  exact ⟨hi, (List.cons.inj h).1, (List.cons.inj h).2⟩

set_option maxRecDepth 100000 in
set_option maxHeartbeats 1600000 in
theorem rangeOfString_any (s t : ByteArray) (a : Nat) (q rest : List UInt8) (B : Nat) (w : World) (hs : s.size ≤ 2000000000) (ht : s.extract a s.size = t) (ga : a ≤ s.size) (hl : t.data.toList = 34 :: (q ++ 34 :: rest)) (hq : Body q)
    (hB : B < w.heap.size) (hc : w.cell? ⟨B, 3, none⟩ = some (.string s)) :
    Calls Try.prog 10 #[.pointer (some ⟨B, 0, none⟩), .agg #[.int .i32 a]] w fun e w' => e = .returned (.agg #[.int .i32 a, .int .i32 ((q.length + 2 : Nat) : Int)]) ∧ Below w.heap.size w w' := by
  have q1 : B < w.heap.size + 1 := by omega
  have q2 : B < w.heap.size + 1 + 1 := by omega
  have q3 : B < w.heap.size + 2 := by omega
  have tb : t.size ≤ 2000000000 := by rw [← ht]; simp; omega
  obtain ⟨t0, e0, e1⟩ := byte_at t 0 34 (q ++ 34 :: rest) (by rw [List.drop_zero]; exact hl)
  have tz : t.size = q.length + 2 + rest.length := by
    have h2 : t.data.toList.length = t.size := by rw [Array.length_toList]; rfl
    rw [← h2, hl]; simp; omega
  have tz1 : q.length + 2 ≤ t.size := by omega
  have b0 : (t[0]'t0).toNat = 34 := by rw [e0]; rfl
  have HT := Lib.hid ht
  have HQ := Lib.hid hq
  have E1 := Lib.hid e1
  have ga' : (a : Int) ≤ (s.size : Int) := by omega
  have ga0 : (0 : Int) ≤ (a : Int) := by omega
  clear ht hq hl e0 e1 tz
  go_enter Try.func10, Try.ntmps10
  go_wp2_with fail
  go_quiet (fail)
  rw [HT.out]
  have hne : ((t.size : Int) == 0) = false := by rw [beq_eq_false_iff_ne]; omega
  go_wp2_with fail
  clear b0 hne
  go_loopg [7, 8] t.size (fun g s7 _ wr => ∃ (i : Nat) (r : List UInt8), i + g = t.size + 1 ∧ s7 = .int .i64 (i : Nat) ∧ Hid (t.data.toList.drop i = r ++ 34 :: rest) ∧ Hid (Body r) ∧ i + r.length = q.length + 1 ∧ Kp w wr a)
  case atStart =>
    refine ⟨1, q, by omega, rfl, E1, HQ, by omega, ?_, by simp, ?_, ?_, ?_, ?_, ?_⟩
    · refine bdrew (balloc ?_ (balloc (Nat.le_refl _) (Below.refl _ _)))
      simp
    · go_simp
    · go_simp
    · go_simp
    · go_simp
    · go_simp
  case round =>
    obtain ⟨i, r, hig, rfl, HD, HR, hir, hK⟩ := hrel
    have HG := Lib.hid hig
    have HI := Lib.hid hir
    obtain ⟨k1, k2, k3, k4, k5, k6, k7⟩ := hK
    have KK := Lib.hid (show Kp w wr a from ⟨k1, k2, k3, k4, k5, k6, k7⟩)
    have hr := HR.out
    cases hr with
    | nil =>
      obtain ⟨hi, eb, _⟩ := byte_at t i 34 rest HD.out
      have eb' : (t[i]'hi).toNat = 34 := by rw [eb]; rfl
      have hii : i = q.length + 1 := by simpa using HI.out
      have HII := Lib.hid hii
      clear eb hig hir hii HR HD
      go_wp2_with fail
      refine bodyPost_ret (v := .agg #[.int .i32 a, .int .i32 ((q.length + 2 : Nat) : Int)]) ?_ rfl ⟨rfl, ?_⟩
      · have hii := HII.out
        subst hii
        rw [show ((q.length + 2 : Nat) : Int) = (q.length : Int) + 1 + 1 from by omega]
        simp [results, Try.results10, go_sem, k4, k5]
      · refine bset ?_ (bset ?_ k1)
        all_goals first | omega | (simp; done) | (simp; omega)
    | bare b l h1 h2 h =>
      obtain ⟨hi, eb, ed⟩ := byte_at t i b (l ++ 34 :: rest) HD.out
      obtain ⟨c, hc1⟩ : ∃ c, (t[i]'hi).toNat = c := ⟨_, rfl⟩
      have h1' : ((c : Int) == 34) = false := by rw [beq_eq_false_iff_ne]; rw [eb] at hc1; omega
      have h2' : ((c : Int) == 92) = false := by rw [beq_eq_false_iff_ne]; rw [eb] at hc1; omega
      have ED := Lib.hid ed
      have HL := Lib.hid h
      have hil : i + l.length + 1 = q.length + 1 := by have := HI.out; simp at this; omega
      have HIL := Lib.hid hil
      clear eb ed h h1 h2 hig hir HR HD hil k1 k2 k3 k4 k5 k6 k7
      go_wp2_with fail
      have hg := HG.out
      have hil := HIL.out
      go_roundg (gk - 1)
      case measure => omega
      case rel => exact ⟨i + 1, l, by omega, by go_num, ED, HL, by omega, KK.out⟩
    | esc b l h =>
      obtain ⟨hi, eb, ed⟩ := byte_at t i 92 (b :: (l ++ 34 :: rest)) HD.out
      obtain ⟨hi2, _, ed2⟩ := byte_at t (i + 1) b (l ++ 34 :: rest) ed
      have eb' : (t[i]'hi).toNat = 92 := by rw [eb]; rfl
      have ED := Lib.hid ed2
      have HL := Lib.hid h
      have hil : i + l.length + 2 = q.length + 1 := by have := HI.out; simp at this; omega
      have HIL := Lib.hid hil
      clear eb ed ed2 h hig hir HR HD hil k1 k2 k3 k4 k5 k6 k7
      go_wp2_with fail
      have hg := HG.out
      have hil := HIL.out
      go_roundg (gk - 2)
      case measure => omega
      case rel => exact ⟨i + 2, l, by omega, by go_num, ED, HL, by omega, KK.out⟩

set_option maxHeartbeats 800000 in
theorem stringRange_any (s t : ByteArray) (x : Int) (a : Nat) (q rest : List UInt8) (w : World) (hx : x = (a : Int)) (hs : s.size ≤ 2000000000) (ht : s.extract a s.size = t) (ga : a ≤ s.size) (hl : t.data.toList = 34 :: (q ++ 34 :: rest)) (hq : Body q) :
    Calls Try.prog 6 #[.string s, .int .i64 x] w fun e w' => e = .returned (.agg #[.int .i64 a, .int .i64 ((q.length + 2 : Nat) : Int)]) ∧ Below w.heap.size w w' := by
  subst hx
  have ka : (a : Int) ≤ 2147483647 := by omega
  have tb : q.length + 2 ≤ 2000000000 := by
    have h2 : t.data.toList.length = t.size := by rw [Array.length_toList]; rfl
    have h3 : t.size ≤ s.size := by rw [← ht, ByteArray.size_extract]; omega
    rw [hl] at h2; simp at h2; omega
  have X := Lib.hid (fun (B : Nat) (W : World) => rangeOfString_any s t a q rest B W hs ht ga hl hq)
  obtain ⟨K, hK⟩ : ∃ K, K = q.length + 2 := ⟨_, rfl⟩
  rw [← hK] at X tb ⊢
  clear ht hl hq hK
  go_enter Try.func6, Try.ntmps6
  go_wp2_with fail
  refine (X.out (w.heap.size + 1) _ (by simp) (by go_simp)).mono ?_
  rintro e w1 ⟨rfl, hB⟩
  have hz : w.heap.size + 2 ≤ w1.heap.size := by have := hB.size; simpa using this
  have c0 : w1.cell? ⟨w.heap.size, 0, none⟩ = some (.int .i64 0) := by rw [hB.cell (by simp; omega)]; go_simp
  have c1 : w1.cell? ⟨w.heap.size, 1, none⟩ = some (.int .i64 0) := by rw [hB.cell (by simp; omega)]; go_simp
  have f0 : w1.frozen? ⟨w.heap.size, 0, none⟩ = false := by rw [hB.frozen (by simp; omega)]; go_simp
  have f1 : w1.frozen? ⟨w.heap.size, 1, none⟩ = false := by rw [hB.frozen (by simp; omega)]; go_simp
  have hW : Below w.heap.size w w1 := by
    refine Below.trans ?_ (hB.mono (by simp; omega))
    repeat (first | with_reducible exact Below.refl _ _ | (refine balloc (by first | omega | (simp; omega) | simp) ?_))
  have e1 : wrap64 (a : Int) = (a : Int) := IntWalk.wrap64_in _ ⟨by omega, by omega⟩
  have e2 : wrap64 (K : Int) = (K : Int) := IntWalk.wrap64_in _ ⟨by omega, by omega⟩
  have Y := Lib.hid (fun W : World => back_any (a : Int) (K : Int) W)
  rw [e1, e2] at Y
  clear hB e1 e2 X
  go_wp2_with fail
  refine (Y.out _).mono ?_
  rintro e w2 ⟨rfl, hB2⟩
  have d0 : w2.cell? ⟨w.heap.size, 0, none⟩ = some (.int .i64 0) := (hB2.cell (p := ⟨w.heap.size, 0, none⟩) (show w.heap.size < _ by omega)).trans c0
  have d1 : w2.cell? ⟨w.heap.size, 1, none⟩ = some (.int .i64 0) := (hB2.cell (p := ⟨w.heap.size, 1, none⟩) (show w.heap.size < _ by omega)).trans c1
  have g0 : w2.frozen? ⟨w.heap.size, 0, none⟩ = false := (hB2.frozen (p := ⟨w.heap.size, 0, none⟩) (show w.heap.size < _ by omega)).trans f0
  have g1 : w2.frozen? ⟨w.heap.size, 1, none⟩ = false := (hB2.frozen (p := ⟨w.heap.size, 1, none⟩) (show w.heap.size < _ by omega)).trans f1
  have hW2 : Below w.heap.size w w2 := hW.trans (hB2.mono hW.size)
  have hz2 : w.heap.size < w2.heap.size := by have := hB2.size; omega
  clear hB2 hW c0 c1 f0 f1 Y
  go_wp2_with fail
  refine bodyPost_ret (v := .agg #[.int .i64 a, .int .i64 K]) ?_ rfl ⟨rfl, ?_⟩
  · simp [results, Try.results6, go_sem, *]
  · refine bset ?_ (bset ?_ hW2)
    all_goals first | omega | (simp; done) | (simp; omega)
end Go.Proofs.Ytpnigcljndjmlaa.body
