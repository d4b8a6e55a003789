/- Walks of FnNumber and what it calls. -/
import Derived.Test.YtjfnfoogiihfaaaExpanded
import Derived.Deep.LoopGhost
import Derived.Deep.DeepCutAuto
import Derived.Deep.CutBlock
namespace Go.Proofs.Ytjfnfoogiihfaaa.fnNumber
open Go.ChangeShapes Go.WideShapes Go.ChangeAt Go.RowKit
open fnExpanded (back_any bset bdrew balloc)

/-- a letter, a digit, a point or _ -/
def numB (c : Nat) : Bool := decide (48 ≤ c ∧ c ≤ 57 ∨ 97 ≤ c ∧ c ≤ 122 ∨ 65 ≤ c ∧ c ≤ 90 ∨ c = 46 ∨ c = 95)
/-- the eleven stretches of bytes -/
theorem parts (c : Nat) : (c < 46 ∧ numB c = false) ∨ (c = 46 ∧ numB c = true) ∨ (c = 47 ∧ numB c = false) ∨ ((48 ≤ c ∧ c ≤ 57) ∧ numB c = true) ∨ ((58 ≤ c ∧ c ≤ 64) ∧ numB c = false) ∨
    ((65 ≤ c ∧ c ≤ 90) ∧ numB c = true) ∨ ((91 ≤ c ∧ c ≤ 94) ∧ numB c = false) ∨ (c = 95 ∧ numB c = true) ∨ (c = 96 ∧ numB c = false) ∨ ((97 ≤ c ∧ c ≤ 122) ∧ numB c = true) ∨ (123 ≤ c ∧ numB c = false) := by
  simp only [numB, decide_eq_true_eq, decide_eq_false_iff_not]
  omega

/-- what the loop of RangeOfNumber keeps -/
def Kept (w wr : World) (a j : Nat) : Prop :=
  Below w.heap.size w wr ∧ w.heap.size + 2 ≤ wr.heap.size ∧ wr.cell? ⟨w.heap.size + 1, 0, none⟩ = some (.int .i32 a) ∧ wr.cell? ⟨w.heap.size + 1, 1, none⟩ = some (.int .i32 j) ∧
  wr.frozen? ⟨w.heap.size + 1, 1, none⟩ = false
theorem Kept.step {w wr : World} {a j : Nat} (h : Kept w wr a j) : Kept w (wr.setCell ⟨w.heap.size + 1, 1, none⟩ (.int .i32 ((j : Int) + 1))) a (j + 1) := by
  obtain ⟨h1, h2, h3, h4, h5⟩ := h
  refine ⟨bset (by show w.heap.size ≤ w.heap.size + 1; omega) h1, by simpa [World.setCell] using h2, (World.cell?_setCell_other _ _ _ _ (by simp)).trans h3, ?_, (World.frozen?_setCell _ _ _ _).trans h5⟩
  rw [World.cell?_setCell_same _ _ _ h4]; simp

set_option maxHeartbeats 1600000 in
theorem rangeOfNumber_any (s t : ByteArray) (a k : Nat) (B : Nat) (w : World) (hs : s.size ≤ 2000000000) (ht : s.extract a s.size = t) (ga : a ≤ s.size) (hk1 : 1 ≤ k) (hk : k ≤ t.size)
    (hd : ∀ h : 0 < t.size, 48 ≤ t[0].toNat ∧ t[0].toNat ≤ 57) (hn : ∀ j (h : j < t.size), j < k → numB t[j].toNat = true) (he : ∀ h : k < t.size, numB t[k].toNat = false)
    (hB : B < w.heap.size) (hc : w.cell? ⟨B, 3, none⟩ = some (.string s)) :
    Calls Try.prog 19 #[.pointer (some ⟨B, 0, none⟩), .agg #[.int .i32 a]] w fun e w' => e = .returned (.agg #[.int .i32 a, .int .i32 k]) ∧ Below w.heap.size w w' := by
  have q1 : B < w.heap.size + 1 := by omega
  have q2 : B < w.heap.size + 1 + 1 := by omega
  have q3 : B < w.heap.size + 2 := by omega
  have g0 : 0 < t.size := by omega
  have d0 := hd g0
  have d1 : decide ((t[0].toNat : Int) ≤ 57) = true := by simp; omega
  have d2 : decide (48 ≤ (t[0].toNat : Int)) = true := by simp; omega
  have tb : t.size ≤ 2000000000 := by rw [← ht]; simp; omega
  have HT := Lib.hid ht
  have HN := Lib.hid hn
  have HE := Lib.hid he
  clear ht hn he hd
  go_enter Try.func19, Try.ntmps19
  go_wp2
  go_quiet (fail)
  rw [HT.out]
  go_wp2
  go_loopg [7] (k - 1) (fun g _ wr => ∃ j, 1 ≤ j ∧ j + g = k ∧ Kept w wr a j)
  case atStart =>
    refine ⟨1, Nat.le_refl _, by omega, ?_, by simp [World.setCell], ?_, ?_, ?_⟩
    · refine bset ?_ (bset ?_ (bset ?_ (bdrew (balloc ?_ (balloc (Nat.le_refl _) (Below.refl _ _))))))
      all_goals first | omega | (simp; done) | (simp; omega)
    · simp [go_sem]
    · refine World.cell?_setCell_same _ _ _ (World.cell?_setCell_same _ _ _ (u := .int .i32 0) ?_)
      simp [go_sem]
    · simp [go_sem]
  case round =>
    obtain ⟨j, hj1, hjg, hK⟩ := hrel
    have HK := Lib.hid hK
    obtain ⟨k1, k2, k3, k4, k5⟩ := hK
    have hjk : j ≤ k := by omega
    have HG := Lib.hid hjg
    clear hjg
    by_cases hjt : j < t.size
    · rcases parts (t[j].toNat) with ⟨c1, cn⟩ | ⟨c1, cn⟩ | ⟨c1, cn⟩ | ⟨⟨c1, c2⟩, cn⟩ | ⟨⟨c1, c2⟩, cn⟩ | ⟨⟨c1, c2⟩, cn⟩ | ⟨⟨c1, c2⟩, cn⟩ | ⟨c1, cn⟩ | ⟨c1, cn⟩ | ⟨⟨c1, c2⟩, cn⟩ | ⟨c1, cn⟩
      all_goals
        have CN := Lib.hid cn
        clear cn
        try have n1 : ((t[j].toNat : Int) != 46) = true := by rw [bne_iff_ne]; omega
        try have n2 : ((t[j].toNat : Int) == 46) = false := by rw [beq_eq_false_iff_ne]; omega
        try have n3 : ((t[j].toNat : Int) != 95) = true := by rw [bne_iff_ne]; omega
        try have n4 : ((t[j].toNat : Int) == 95) = false := by rw [beq_eq_false_iff_ne]; omega
        go_wp2
        first
          | (have hjk2 : j = k := by
               rcases Nat.lt_or_ge j k with h | h
               · have := HN.out j hjt h; rw [CN.out] at this; cases this
               · omega
             refine bodyPost_ret (v := .agg #[.int .i32 a, .int .i32 k]) ?_ rfl ⟨rfl, k1⟩
             subst hjk2
             simp [results, Try.results19, go_sem, k3, k4])
          | (have hjk2 : j < k := by
               rcases Nat.lt_or_ge j k with h | h
               · exact h
               · obtain rfl : j = k := by omega
                 have := HE.out hjt; rw [CN.out] at this; cases this
             have hg := HG.out
             go_roundg (gk - 1)
             case measure => omega
             case rel => exact ⟨j + 1, by omega, by omega, HK.out.step⟩)
    · have hjk2 : j = k := by omega
      have HJ := Lib.hid hjk2
      clear hjk2
      go_wp2
      refine bodyPost_ret (v := .agg #[.int .i32 a, .int .i32 k]) ?_ rfl ⟨rfl, k1⟩
      have := HJ.out
      subst this
      simp [results, Try.results19, go_sem, k3, k4]
set_option maxHeartbeats 800000 in
theorem numberRange_any (s t : ByteArray) (x : Int) (a k : Nat) (w : World) (hx : x = (a : Int)) (hs : s.size ≤ 2000000000) (ht : s.extract a s.size = t) (ga : a ≤ s.size) (hk1 : 1 ≤ k) (hk : k ≤ t.size)
    (hd : ∀ h : 0 < t.size, 48 ≤ t[0].toNat ∧ t[0].toNat ≤ 57) (hn : ∀ j (h : j < t.size), j < k → numB t[j].toNat = true) (he : ∀ h : k < t.size, numB t[k].toNat = false) :
    Calls Try.prog 10 #[.string s, .int .i64 x] w fun e w' => e = .returned (.agg #[.int .i64 a, .int .i64 k]) ∧ Below w.heap.size w w' := by
  subst hx
  have ka : (a : Int) ≤ 2147483647 := by omega
  have tb : t.size ≤ 2000000000 := by rw [← ht]; simp; omega
  have X := Lib.hid (fun (B : Nat) (W : World) => rangeOfNumber_any s t a k B W hs ht ga hk1 hk hd hn he)
  clear ht hd hn he
  go_enter Try.func10, Try.ntmps10
  go_wp2_with fail
  refine (X.out (w.heap.size + 1) _ (by simp) (by go_simp)).mono ?_
  rintro e w1 ⟨rfl, hB⟩
  have hz : w.heap.size + 2 ≤ w1.heap.size := by have := hB.size; simpa using this
  have c0 : w1.cell? ⟨w.heap.size, 0, none⟩ = some (.int .i64 0) := by rw [hB.cell (by simp; omega)]; go_simp
  have c1 : w1.cell? ⟨w.heap.size, 1, none⟩ = some (.int .i64 0) := by rw [hB.cell (by simp; omega)]; go_simp
  have f0 : w1.frozen? ⟨w.heap.size, 0, none⟩ = false := by rw [hB.frozen (by simp; omega)]; go_simp
  have f1 : w1.frozen? ⟨w.heap.size, 1, none⟩ = false := by rw [hB.frozen (by simp; omega)]; go_simp
  have hW : Below w.heap.size w w1 := by
    refine Below.trans ?_ (hB.mono (by simp; omega))
    repeat (first | with_reducible exact Below.refl _ _ | (refine balloc (by first | omega | (simp; omega) | simp) ?_))
  clear hB
  have z1 : w.heap.size < w1.heap.size := by omega
  have z2 : w.heap.size < w1.heap.size + 1 := by omega
  have z3 : w.heap.size ≠ w1.heap.size := by omega
  have z4 : w.heap.size ≠ w1.heap.size + 1 := by omega
  go_wp2_with (first | (go_at_call 18; refine (back_any _ _ _ (by omega) (by omega)).mono ?_; rintro e w' ⟨rfl, rfl⟩))
  refine bodyPost_ret (v := .agg #[.int .i64 a, .int .i64 k]) ?_ rfl ⟨rfl, ?_⟩
  · simp [results, Try.results10, go_sem, *]
  · refine balloc ?_ (balloc ?_ (bset ?_ (bset ?_ hW)))
    all_goals first | omega | (simp; done) | (simp; omega)

theorem one_any (w : World) : Calls Try.prog 10 #[.string ⟨#[49]⟩, .int .i64 0] w fun e w' => e = .returned (.agg #[.int .i64 0, .int .i64 1]) ∧ Below w.heap.size w w' := by
  have h := numberRange_any ⟨#[49]⟩ ⟨#[49]⟩ 0 0 1 w rfl (by decide) (by decide) (by decide) (by decide) (by decide) (by decide) (by decide) (by decide)
  exact h

theorem bget (b : ByteArray) (j : Nat) (h : j < b.size) : b[j] = b.data.toList[j]'(by simpa using h) := by simp [ByteArray.getElem_eq_getElem_data]
theorem one_size : (ByteArray.mk #[32]).size = 1 := rfl
theorem exl (b : ByteArray) (k : Nat) : (b.extract 0 k).data.toList = b.data.toList.take k := by simp [ByteArray.data_extract]
theorem tlist (b c : ByteArray) (k : Nat) : (b.extract 0 k ++ ⟨#[32]⟩ ++ c).data.toList = b.data.toList.take k ++ (32 :: c.data.toList) := by
  simp [ByteArray.data_append]
theorem lsize (b : ByteArray) : b.size = b.data.toList.length := by simp
theorem tsize (b c : ByteArray) (k : Nat) (hk : k ≤ b.size) : (b.extract 0 k ++ ⟨#[32]⟩ ++ c).size = k + 1 + c.size := by
  rw [lsize, tlist, List.length_append, List.length_take, ← lsize, List.length_cons, ← lsize]; omega
theorem tlt (b c : ByteArray) (k j : Nat) (hk : k ≤ b.size) (hj : j < k) (h : j < (b.extract 0 k ++ ⟨#[32]⟩ ++ c).size) : (b.extract 0 k ++ ⟨#[32]⟩ ++ c)[j] = b[j] := by
  rw [bget, bget]
  simp only [tlist]
  rw [List.getElem_append_left (by rw [List.length_take, ← lsize]; omega), List.getElem_take]
theorem teq (b c : ByteArray) (k : Nat) (hk : k ≤ b.size) (h : k < (b.extract 0 k ++ ⟨#[32]⟩ ++ c).size) : (b.extract 0 k ++ ⟨#[32]⟩ ++ c)[k] = 32 := by
  rw [bget]
  simp only [tlist]
  have e : (b.data.toList.take k).length = k := by rw [List.length_take, ← lsize]; omega
  rw [List.getElem_append_right (by omega)]
  simp [e]
theorem plain (a t : ByteArray) : (a ++ t).extract a.size (a ++ t).size = t := by
  apply ByteArray.ext
  apply Array.toList_inj.1
  simp [ByteArray.data_extract, ByteArray.data_append]
  rw [List.drop_of_length_le (by simp), List.take_nil, List.nil_append, List.take_of_length_le (by simp)]
theorem asso (a b c d : ByteArray) : a ++ b ++ c ++ d = a ++ (b ++ c ++ d) := by simp [ByteArray.append_assoc]

theorem fld : ∀ w : World, (Instr.field 24 (.agg #[.int .i64 0, .int .i64 1]) 1).run Try.prog w = .ok (.int .i64 1) w := fun _ => by kernel_rfl

theorem main_any (a0 a1 a2 : ByteArray) (k : Nat) (w : World) (h : a0.size + a1.size + a2.size ≤ 1048576) (hk0 : 0 < k) (hk : k ≤ a1.size) (hd : ∀ h : 0 < a1.size, 48 ≤ a1[0].toNat ∧ a1[0].toNat ≤ 57)
    (hn : ∀ j (h : j < a1.size), j < k → numB a1[j].toNat = true) :
    Calls Try.prog 10 #[.string (a0 ++ a1.extract 0 k ++ ⟨#[32]⟩ ++ a2), .int .i64 (a0.size : Int)] w fun e w' => e = .returned (.agg #[.int .i64 a0.size, .int .i64 k]) ∧ Below w.heap.size w w' := by
  have ts := tsize a1 a2 k hk
  rw [asso a0]
  refine numberRange_any (a0 ++ (a1.extract 0 k ++ ⟨#[32]⟩ ++ a2)) (a1.extract 0 k ++ ⟨#[32]⟩ ++ a2) _ a0.size k w rfl ?_ (plain _ _) ?_ hk0 ?_ ?_ ?_ ?_
  · rw [ByteArray.size_append, ts]; omega
  · rw [ByteArray.size_append, ts]; omega
  · rw [ts]; omega
  · intro hh
    rw [tlt a1 a2 k 0 hk hk0 hh]
    exact hd (by omega)
  · intro j hh hj
    rw [tlt a1 a2 k j hk hj hh]
    exact hn j (by omega) hj
  · intro hh
    rw [teq a1 a2 k hk hh]
    decide

set_option maxHeartbeats 1600000 in
theorem walk (a0 a1 a2 : ByteArray) (_ : a0.size ≤ maxLen) (_ : a1.size ≤ maxLen) (_ : a2.size ≤ maxLen) (h : a0.size + a1.size + a2.size ≤ 1048576) (w : World) :
    Calls Try.prog 5 #[.string a0, .string a1, .string a2] w fun e w' => e = .returned (.bool true) ∧ Below w.heap.size w w' := by
  have fl := fld
  go_enter Try.func5, Try.ntmps5
  go_upto_block 0 with (fail)
  go_cut [7] (fun v wx => ∃ k : Nat, k ≤ a1.size ∧ v = .int .i64 k ∧ wx = w ∧ Hid (∀ j (h : j < a1.size), j < k → numB a1[j].toNat = true))
  case first =>
    go_wp2_with fail
    go_loopg [7] a1.size (fun g v wr => ∃ k : Nat, k + g = a1.size ∧ v = .int .i64 k ∧ wr = w ∧ Hid (∀ j (h : j < a1.size), j < k → numB a1[j].toNat = true))
    case atStart => exact ⟨0, by omega, rfl, rfl, fun j h1 h2 => absurd h2 (by omega)⟩
    case round =>
      obtain ⟨k, hkg, rfl, rfl, HN⟩ := hrel
      have hk : k ≤ a1.size := by omega
      have HG := Lib.hid hkg
      clear hkg
      by_cases hlt : k < a1.size
      · rcases parts (a1[k].toNat) with ⟨c1, cn⟩ | ⟨c1, cn⟩ | ⟨c1, cn⟩ | ⟨⟨c1, c2⟩, cn⟩ | ⟨⟨c1, c2⟩, cn⟩ | ⟨⟨c1, c2⟩, cn⟩ | ⟨⟨c1, c2⟩, cn⟩ | ⟨c1, cn⟩ | ⟨c1, cn⟩ | ⟨⟨c1, c2⟩, cn⟩ | ⟨c1, cn⟩
        all_goals
          have CN := Lib.hid cn
          clear cn
          try have n1 : ((a1[k].toNat : Int) != 46) = true := by rw [bne_iff_ne]; omega
          try have n2 : ((a1[k].toNat : Int) == 46) = false := by rw [beq_eq_false_iff_ne]; omega
          try have n3 : ((a1[k].toNat : Int) != 95) = true := by rw [bne_iff_ne]; omega
          try have n4 : ((a1[k].toNat : Int) == 95) = false := by rw [beq_eq_false_iff_ne]; omega
          go_wp2
          first
            | (go_meet; exact ⟨k, hk, rfl, rfl, HN⟩)
            | (have hg := HG.out
               go_roundg (gk - 1)
               case measure => omega
               case rel =>
                 refine ⟨k + 1, by omega, by go_num, rfl, fun j h1 h2 => ?_⟩
                 rcases Nat.lt_or_ge j k with h3 | h3
                 · exact HN j h1 h3
                 · obtain rfl : j = k := by omega
                   exact CN.out)
      · go_wp2
        go_meet
        exact ⟨k, hk, rfl, rfl, HN⟩
  case rest =>
    obtain ⟨k, hk, rfl, rfl, HN⟩ := hcut
    rcases Nat.eq_zero_or_pos k with hk0 | hk0
    · subst hk0
      go_wp2_with (first | (go_at_call 10; refine (one_any _).mono ?_; rintro e w' ⟨rfl, hb⟩))
      go_ret
      exact ⟨rfl, hb⟩
    · have hkb : ((k : Int) == 0) = false := by rw [beq_eq_false_iff_ne]; omega
      have hs0 : 0 < a1.size := by omega
      by_cases l1 : a1[0].toNat < 48
      · go_wp2_with (first | (go_at_call 10; refine (one_any _).mono ?_; rintro e w' ⟨rfl, hb⟩))
        go_ret
        exact ⟨rfl, hb⟩
      · by_cases l2 : 57 < a1[0].toNat
        · go_wp2_with (first | (go_at_call 10; refine (one_any _).mono ?_; rintro e w' ⟨rfl, hb⟩))
          go_ret
          exact ⟨rfl, hb⟩
        · have d1 : (48 : Int) ≤ (a1[0].toNat : Int) := by omega
          have d2 : (a1[0].toNat : Int) ≤ 57 := by omega
          go_wp2_with fail
          refine (main_any a0 a1 a2 k _ h hk0 hk (fun _ => ⟨by omega, by omega⟩) HN).mono ?_
          rintro e w' ⟨rfl, hb⟩
          go_wp2
          go_ret
          exact ⟨rfl, hb⟩
end Go.Proofs.Ytjfnfoogiihfaaa.fnNumber
