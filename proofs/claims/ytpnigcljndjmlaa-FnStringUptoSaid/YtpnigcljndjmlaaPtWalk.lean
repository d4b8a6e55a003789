/- Walks of spec.Point, spec.isSurrogate, spec.Points, spec.Valid. -/
import Derived.Test.YtpnigcljndjmlaaRows
import Derived.Test.YtpnigcljndjmlaaKit
import Derived.Test.YtpnigcljndjmlaaPt
import Derived.WalkKit
import Derived.ProofKit
import Derived.IntWalk
import Derived.OwnWalk
import Derived.WalkSpells
import Derived.Deep.LoopGhost
import Derived.Deep.DeepCutAuto
import Derived.Deep.CutBlock
import Derived.Deep.RegionLaw
import Derived.Deep.AppendLies
import Derived.Lib.Strings
import Derived.Outline
namespace Go.Proofs.Ytpnigcljndjmlaa.pt
open Go.RowKit
open kit

theorem drop_at (s : ByteArray) (k : Nat) (h : k < s.size) : s.data.toList.drop k = (s[k]'h) :: s.data.toList.drop (k + 1) := by
  have hl : k < s.data.toList.length := by rw [Array.length_toList]; exact h
  rw [List.drop_eq_getElem_cons hl, Array.getElem_toList]; rfl
theorem drop_end (s : ByteArray) (k : Nat) (h : s.size ≤ k) : s.data.toList.drop k = [] := List.drop_of_length_le (by rw [Array.length_toList]; exact h)
theorem acc_yes (n : Nat) (P : Int) (s : ByteArray) (k : Nat) (h : k < s.size) (h1 : 128 ≤ (s[k]'h).toNat) (h2 : (s[k]'h).toNat ≤ 191) :
    acc (n + 1) P (s.data.toList.drop k) = acc n (P * 64 + (((s[k]'h).toNat : Int) - 128)) (s.data.toList.drop (k + 1)) := by
  rw [drop_at s k h, acc, if_pos ((ct_iff _).2 ⟨h1, h2⟩)]
theorem acc_no (n : Nat) (P : Int) (s : ByteArray) (k : Nat) (h : k < s.size) (h1 : ¬ (128 ≤ (s[k]'h).toNat ∧ (s[k]'h).toNat ≤ 191)) : acc (n + 1) P (s.data.toList.drop k) = none := by
  rw [drop_at s k h, acc, if_neg (fun q => h1 ((ct_iff _).1 q))]
theorem acc_end (n : Nat) (P : Int) (s : ByteArray) (k : Nat) (h : s.size ≤ k) : acc (n + 1) P (s.data.toList.drop k) = none := by
  rw [drop_end s k h, acc]
theorem point_bad (s : ByteArray) (K : Nat) (p0 : Int) (h0 : 0 < s.size) (hc : ¬ (s[0]'h0).toNat < 128) (hl : lead (s[0]'h0).toNat = some (p0, K)) (ha : acc K p0 (s.data.toList.drop 1) = none) : point s.data.toList = (-1, 0) := by
  have e := drop_at s 0 h0
  rw [List.drop_zero] at e
  rw [e, point_cons, if_neg hc, hl]
  simp only [ha]
theorem point_good (s : ByteArray) (K : Nat) (p0 P : Int) (h0 : 0 < s.size) (hc : ¬ (s[0]'h0).toNat < 128) (hl : lead (s[0]'h0).toNat = some (p0, K)) (ha : acc K p0 (s.data.toList.drop 1) = some P) : point s.data.toList = if fits K P then (P, (K : Int) + 1) else (-1, 0) := by
  have e := drop_at s 0 h0
  rw [List.drop_zero] at e
  rw [e, point_cons, if_neg hc, hl]
  simp only [ha]
theorem point_none (s : ByteArray) (h0 : 0 < s.size) (hc : ¬ (s[0]'h0).toNat < 128) (hl : lead (s[0]'h0).toNat = none) : point s.data.toList = (-1, 0) := by
  have e := drop_at s 0 h0
  rw [List.drop_zero] at e
  rw [e, point_cons, if_neg hc, hl]
theorem point_one (s : ByteArray) (h0 : 0 < s.size) (hc : (s[0]'h0).toNat < 128) : point s.data.toList = (((s[0]'h0).toNat : Int), 1) := by
  have e := drop_at s 0 h0
  rw [List.drop_zero] at e
  rw [e, point_cons, if_pos hc]
theorem str_empty {s : ByteArray} (h : s.size = 0) : s = ⟨#[]⟩ := by
  apply ByteArray.ext
  exact Array.eq_empty_of_size_eq_zero h
theorem str_full {s : ByteArray} (h : 0 < s.size) : (s.toList.isEmpty = false) ∧ (¬ s.toList = []) := by
  have hl : s.toList.length = s.size := by rw [Lib.toList_data, Array.length_toList]; rfl
  refine ⟨?_, ?_⟩
  · cases hs : s.toList with
    | nil => rw [hs] at hl; simp at hl; omega
    | cons a l => rfl
  · intro q; rw [q] at hl; simp at hl; omega
def Bd (k : Nat) (P : Int) : Prop := 0 ≤ P ∧ (k = 1 ∧ P ≤ 31 ∨ k = 2 ∧ P ≤ 2047 ∨ k = 3 ∧ P ≤ 131071 ∨ k = 4 ∧ P ≤ 8388607)
theorem Bd.le {k : Nat} {P : Int} (h : Bd k P) : P ≤ 8388607 := by unfold Bd at h; omega
theorem Bd.next {k : Nat} {P : Int} {b : Nat} (h : Bd k P) (hk : k < 4) (h1 : 128 ≤ b) (h2 : b ≤ 191) : Bd (k + 1) (P * 64 + ((b : Int) - 128)) := by unfold Bd at h ⊢; omega
def Pt (s : ByteArray) (w : World) (e : Ending) (w' : World) : Prop := e = .returned (.tuple #[.int .i64 (point s.data.toList).1, .int .i64 (point s.data.toList).2]) ∧ w = w'


set_option maxRecDepth 100000 in
set_option maxHeartbeats 1600000 in
theorem point_1 (s : ByteArray) (w : World) (_hs : s.size ≤ 140737488351232) (h0 : 0 < s.size) (g1 : 194 ≤ (s[0]'h0).toNat) (g2 : (s[0]'h0).toNat < 224) : Calls Try.prog 11 #[.string s] w (Pt s w) := by
  have hlead : lead (s[0]'h0).toNat = some (((s[0]'h0).toNat : Int) - 192, 1) := by
    unfold lead
    rw [if_pos ⟨g1, g2⟩]
  have HB := Lib.hid (point_bad s 1 _ h0 (by omega) hlead)
  have HG := Lib.hid (fun P => point_good s 1 _ P h0 (by omega) hlead)
  clear hlead
  obtain ⟨n1, n2⟩ := str_full h0
  obtain ⟨c, hc⟩ : ∃ c, c = (s[0]'h0).toNat := ⟨_, rfl⟩
  rw [← hc] at g1 g2 HB HG
  have HC := Lib.hid hc
  go_enter Try.func11, Try.ntmps11
  have d1 : decide ((c : Int) < 128) = false := by rw [decide_eq_false_iff_not]; omega
  have d2 : decide ((c : Int) < 224) = true := by rw [decide_eq_true_iff]; omega
  skip
  skip
  go_upto_block 0 with (fail)
  rw [← hc]
  clear hc
  go_wp2_with fail
  clear d1 d2 n1 n2
  go_loopg [2, 3, 5] 1 (fun g s2 s3 s5 wr => ∃ (k : Nat) (P : Int), k + g = 2 ∧ 1 ≤ k ∧ s5 = .int .i64 (k : Nat) ∧ s2 = .int .i64 P ∧ s3 = .int .i64 2 ∧ wr = w ∧ Bd k P ∧ Hid (acc 1 ((c : Int) - 192) (s.data.toList.drop 1) = acc (2 - k) P (s.data.toList.drop k)))
  case atStart => exact ⟨1, (c : Int) - 192, by omega, by omega, rfl, rfl, rfl, rfl, ⟨by omega, .inl ⟨rfl, by omega⟩⟩, rfl⟩
  case round =>
    obtain ⟨k, P, hkg, hk1, rfl, rfl, rfl, rfl, hbd, HA⟩ := hrel
    have HG' := Lib.hid hkg
    have hkK : k ≤ 2 := by omega
    have hP := hbd.le
    have hP0 := hbd.1
    have HBD := Lib.hid hbd
    clear hkg hbd
    by_cases hk : k < 2
    · obtain ⟨m, hm⟩ : ∃ m, 2 - k = m + 1 := ⟨1 - k, by omega⟩
      rw [hm] at HA
      have HM := Lib.hid hm
      clear hm
      by_cases hlen : k < s.size
      · by_cases b1 : 128 ≤ (s[k]'hlen).toNat
        · by_cases b2 : (s[k]'hlen).toNat ≤ 191
          · have HA' := Lib.hid (HA.out.trans (acc_yes m P s k hlen b1 b2))
            clear HA HB HG
            obtain ⟨b, hb⟩ : ∃ b, (s[k]'hlen).toNat = b := ⟨_, rfl⟩
            rw [hb] at HA' b1 b2
            have hx := Lib.hid (HBD.out.next (by omega) b1 b2)
            go_wp2_with fail
            have hg := HG'.out
            have hm := HM.out
            go_roundg (gk - 1)
            case measure => omega
            case rel => exact ⟨k + 1, P * 64 + ((b : Int) - 128), by omega, by omega, by go_num, rfl, rfl, rfl, hx.out, (by rw [show 2 - (k + 1) = m from by omega]; exact HA')⟩
          · have HA' := Lib.hid (HB.out (HA.out.trans (acc_no m P s k hlen (by omega))))
            clear HA HB HG
            obtain ⟨b, hb⟩ : ∃ b, (s[k]'hlen).toNat = b := ⟨_, rfl⟩
            rw [hb] at b1 b2
            have b2' : 191 < b := by omega
            clear b2
            go_wp2_with fail
            go_ret2
            exact ⟨by rw [HA'.out]; rfl, rfl⟩
        · have HA' := Lib.hid (HB.out (HA.out.trans (acc_no m P s k hlen (by omega))))
          clear HA HB HG
          obtain ⟨b, hb⟩ : ∃ b, (s[k]'hlen).toNat = b := ⟨_, rfl⟩
          rw [hb] at b1
          have b1' : b < 128 := by omega
          clear b1
          go_wp2_with fail
          go_ret2
          exact ⟨by rw [HA'.out]; rfl, rfl⟩
      · have HA' := Lib.hid (HB.out (HA.out.trans (acc_end m P s k (by omega))))
        clear HA HB HG
        have hl' : s.size ≤ k := by omega
        clear hlen
        go_wp2_with fail
        go_ret2
        exact ⟨by rw [HA'.out]; rfl, rfl⟩
    · obtain rfl : k = 2 := by omega
      have HA' := Lib.hid (HG.out P HA.out)
      clear HA HB HG hk hkK
      have hf : Hid (fits 1 P = true) := by show _ = _; unfold fits; simp
      go_wp2_with fail
      go_ret2
      exact ⟨by rw [HA'.out, hf.out]; rfl, rfl⟩


set_option maxRecDepth 100000 in
set_option maxHeartbeats 1600000 in
theorem point_2 (s : ByteArray) (w : World) (_hs : s.size ≤ 140737488351232) (h0 : 0 < s.size) (g1 : 224 ≤ (s[0]'h0).toNat) (g2 : (s[0]'h0).toNat < 240) : Calls Try.prog 11 #[.string s] w (Pt s w) := by
  have hlead : lead (s[0]'h0).toNat = some (((s[0]'h0).toNat : Int) - 224, 2) := by
    unfold lead
    rw [if_neg (by omega), if_pos ⟨g1, g2⟩]
  have HB := Lib.hid (point_bad s 2 _ h0 (by omega) hlead)
  have HG := Lib.hid (fun P => point_good s 2 _ P h0 (by omega) hlead)
  clear hlead
  obtain ⟨n1, n2⟩ := str_full h0
  obtain ⟨c, hc⟩ : ∃ c, c = (s[0]'h0).toNat := ⟨_, rfl⟩
  rw [← hc] at g1 g2 HB HG
  have HC := Lib.hid hc
  go_enter Try.func11, Try.ntmps11
  have d1 : decide ((c : Int) < 128) = false := by rw [decide_eq_false_iff_not]; omega
  have d2 : decide ((c : Int) < 224) = false := by rw [decide_eq_false_iff_not]; omega
  have d3 : decide ((c : Int) < 240) = true := by rw [decide_eq_true_iff]; omega
  skip
  go_upto_block 0 with (fail)
  rw [← hc]
  clear hc
  go_wp2_with fail
  clear d1 d2 d3 n1 n2
  go_loopg [2, 3, 5] 2 (fun g s2 s3 s5 wr => ∃ (k : Nat) (P : Int), k + g = 3 ∧ 1 ≤ k ∧ s5 = .int .i64 (k : Nat) ∧ s2 = .int .i64 P ∧ s3 = .int .i64 3 ∧ wr = w ∧ Bd k P ∧ Hid (acc 2 ((c : Int) - 224) (s.data.toList.drop 1) = acc (3 - k) P (s.data.toList.drop k)))
  case atStart => exact ⟨1, (c : Int) - 224, by omega, by omega, rfl, rfl, rfl, rfl, ⟨by omega, .inl ⟨rfl, by omega⟩⟩, rfl⟩
  case round =>
    obtain ⟨k, P, hkg, hk1, rfl, rfl, rfl, rfl, hbd, HA⟩ := hrel
    have HG' := Lib.hid hkg
    have hkK : k ≤ 3 := by omega
    have hP := hbd.le
    have hP0 := hbd.1
    have HBD := Lib.hid hbd
    clear hkg hbd
    by_cases hk : k < 3
    · obtain ⟨m, hm⟩ : ∃ m, 3 - k = m + 1 := ⟨2 - k, by omega⟩
      rw [hm] at HA
      have HM := Lib.hid hm
      clear hm
      by_cases hlen : k < s.size
      · by_cases b1 : 128 ≤ (s[k]'hlen).toNat
        · by_cases b2 : (s[k]'hlen).toNat ≤ 191
          · have HA' := Lib.hid (HA.out.trans (acc_yes m P s k hlen b1 b2))
            clear HA HB HG
            obtain ⟨b, hb⟩ : ∃ b, (s[k]'hlen).toNat = b := ⟨_, rfl⟩
            rw [hb] at HA' b1 b2
            have hx := Lib.hid (HBD.out.next (by omega) b1 b2)
            go_wp2_with fail
            have hg := HG'.out
            have hm := HM.out
            go_roundg (gk - 1)
            case measure => omega
            case rel => exact ⟨k + 1, P * 64 + ((b : Int) - 128), by omega, by omega, by go_num, rfl, rfl, rfl, hx.out, (by rw [show 3 - (k + 1) = m from by omega]; exact HA')⟩
          · have HA' := Lib.hid (HB.out (HA.out.trans (acc_no m P s k hlen (by omega))))
            clear HA HB HG
            obtain ⟨b, hb⟩ : ∃ b, (s[k]'hlen).toNat = b := ⟨_, rfl⟩
            rw [hb] at b1 b2
            have b2' : 191 < b := by omega
            clear b2
            go_wp2_with fail
            go_ret2
            exact ⟨by rw [HA'.out]; rfl, rfl⟩
        · have HA' := Lib.hid (HB.out (HA.out.trans (acc_no m P s k hlen (by omega))))
          clear HA HB HG
          obtain ⟨b, hb⟩ : ∃ b, (s[k]'hlen).toNat = b := ⟨_, rfl⟩
          rw [hb] at b1
          have b1' : b < 128 := by omega
          clear b1
          go_wp2_with fail
          go_ret2
          exact ⟨by rw [HA'.out]; rfl, rfl⟩
      · have HA' := Lib.hid (HB.out (HA.out.trans (acc_end m P s k (by omega))))
        clear HA HB HG
        have hl' : s.size ≤ k := by omega
        clear hlen
        go_wp2_with fail
        go_ret2
        exact ⟨by rw [HA'.out]; rfl, rfl⟩
    · obtain rfl : k = 3 := by omega
      have HA' := Lib.hid (HG.out P HA.out)
      clear HA HB HG hk hkK
      by_cases f1 : P < 2048
      · have hf : Hid (fits 2 P = false) := by show _ = _; unfold fits; simp [f1]
        go_wp2_with fail
        go_ret2
        exact ⟨by rw [HA'.out, hf.out]; rfl, rfl⟩
      · have hf : Hid (fits 2 P = true) := by show _ = _; unfold fits; simp [f1]
        go_wp2_with fail
        go_ret2
        exact ⟨by rw [HA'.out, hf.out]; rfl, rfl⟩


set_option maxRecDepth 100000 in
set_option maxHeartbeats 1600000 in
theorem point_3 (s : ByteArray) (w : World) (_hs : s.size ≤ 140737488351232) (h0 : 0 < s.size) (g1 : 240 ≤ (s[0]'h0).toNat) (g2 : (s[0]'h0).toNat < 245) : Calls Try.prog 11 #[.string s] w (Pt s w) := by
  have hlead : lead (s[0]'h0).toNat = some (((s[0]'h0).toNat : Int) - 240, 3) := by
    unfold lead
    rw [if_neg (by omega), if_neg (by omega), if_pos ⟨g1, g2⟩]
  have HB := Lib.hid (point_bad s 3 _ h0 (by omega) hlead)
  have HG := Lib.hid (fun P => point_good s 3 _ P h0 (by omega) hlead)
  clear hlead
  obtain ⟨n1, n2⟩ := str_full h0
  obtain ⟨c, hc⟩ : ∃ c, c = (s[0]'h0).toNat := ⟨_, rfl⟩
  rw [← hc] at g1 g2 HB HG
  have HC := Lib.hid hc
  go_enter Try.func11, Try.ntmps11
  have d1 : decide ((c : Int) < 128) = false := by rw [decide_eq_false_iff_not]; omega
  have d2 : decide ((c : Int) < 224) = false := by rw [decide_eq_false_iff_not]; omega
  have d3 : decide ((c : Int) < 240) = false := by rw [decide_eq_false_iff_not]; omega
  have d4 : decide ((c : Int) < 245) = true := by rw [decide_eq_true_iff]; omega
  go_upto_block 0 with (fail)
  rw [← hc]
  clear hc
  go_wp2_with fail
  clear d1 d2 d3 d4 n1 n2
  go_loopg [2, 3, 5] 3 (fun g s2 s3 s5 wr => ∃ (k : Nat) (P : Int), k + g = 4 ∧ 1 ≤ k ∧ s5 = .int .i64 (k : Nat) ∧ s2 = .int .i64 P ∧ s3 = .int .i64 4 ∧ wr = w ∧ Bd k P ∧ Hid (acc 3 ((c : Int) - 240) (s.data.toList.drop 1) = acc (4 - k) P (s.data.toList.drop k)))
  case atStart => exact ⟨1, (c : Int) - 240, by omega, by omega, rfl, rfl, rfl, rfl, ⟨by omega, .inl ⟨rfl, by omega⟩⟩, rfl⟩
  case round =>
    obtain ⟨k, P, hkg, hk1, rfl, rfl, rfl, rfl, hbd, HA⟩ := hrel
    have HG' := Lib.hid hkg
    have hkK : k ≤ 4 := by omega
    have hP := hbd.le
    have hP0 := hbd.1
    have HBD := Lib.hid hbd
    clear hkg hbd
    by_cases hk : k < 4
    · obtain ⟨m, hm⟩ : ∃ m, 4 - k = m + 1 := ⟨3 - k, by omega⟩
      rw [hm] at HA
      have HM := Lib.hid hm
      clear hm
      by_cases hlen : k < s.size
      · by_cases b1 : 128 ≤ (s[k]'hlen).toNat
        · by_cases b2 : (s[k]'hlen).toNat ≤ 191
          · have HA' := Lib.hid (HA.out.trans (acc_yes m P s k hlen b1 b2))
            clear HA HB HG
            obtain ⟨b, hb⟩ : ∃ b, (s[k]'hlen).toNat = b := ⟨_, rfl⟩
            rw [hb] at HA' b1 b2
            have hx := Lib.hid (HBD.out.next (by omega) b1 b2)
            go_wp2_with fail
            have hg := HG'.out
            have hm := HM.out
            go_roundg (gk - 1)
            case measure => omega
            case rel => exact ⟨k + 1, P * 64 + ((b : Int) - 128), by omega, by omega, by go_num, rfl, rfl, rfl, hx.out, (by rw [show 4 - (k + 1) = m from by omega]; exact HA')⟩
          · have HA' := Lib.hid (HB.out (HA.out.trans (acc_no m P s k hlen (by omega))))
            clear HA HB HG
            obtain ⟨b, hb⟩ : ∃ b, (s[k]'hlen).toNat = b := ⟨_, rfl⟩
            rw [hb] at b1 b2
            have b2' : 191 < b := by omega
            clear b2
            go_wp2_with fail
            go_ret2
            exact ⟨by rw [HA'.out]; rfl, rfl⟩
        · have HA' := Lib.hid (HB.out (HA.out.trans (acc_no m P s k hlen (by omega))))
          clear HA HB HG
          obtain ⟨b, hb⟩ : ∃ b, (s[k]'hlen).toNat = b := ⟨_, rfl⟩
          rw [hb] at b1
          have b1' : b < 128 := by omega
          clear b1
          go_wp2_with fail
          go_ret2
          exact ⟨by rw [HA'.out]; rfl, rfl⟩
      · have HA' := Lib.hid (HB.out (HA.out.trans (acc_end m P s k (by omega))))
        clear HA HB HG
        have hl' : s.size ≤ k := by omega
        clear hlen
        go_wp2_with fail
        go_ret2
        exact ⟨by rw [HA'.out]; rfl, rfl⟩
    · obtain rfl : k = 4 := by omega
      have HA' := Lib.hid (HG.out P HA.out)
      clear HA HB HG hk hkK
      by_cases f1 : P < 65536
      · have hf : Hid (fits 3 P = false) := by show _ = _; unfold fits; simp [f1]
        go_wp2_with fail
        go_ret2
        exact ⟨by rw [HA'.out, hf.out]; rfl, rfl⟩
      · by_cases f2 : 1114111 < P
        · have hf : Hid (fits 3 P = false) := by show _ = _; unfold fits; simp [f2]
          go_wp2_with fail
          go_ret2
          exact ⟨by rw [HA'.out, hf.out]; rfl, rfl⟩
        · have hf : Hid (fits 3 P = true) := by show _ = _; unfold fits; simp [f1, f2]
          go_wp2_with fail
          go_ret2
          exact ⟨by rw [HA'.out, hf.out]; rfl, rfl⟩


set_option maxRecDepth 100000 in
theorem point_0 (w : World) : Calls Try.prog 11 #[.string ⟨#[]⟩] w (Pt ⟨#[]⟩ w) := by
  go_enter Try.func11, Try.ntmps11
  go_wp2_with fail
  go_ret2
  exact ⟨rfl, rfl⟩
set_option maxRecDepth 100000 in
theorem point_a (s : ByteArray) (w : World) (h0 : 0 < s.size) (hc : (s[0]'h0).toNat < 128) : Calls Try.prog 11 #[.string s] w (Pt s w) := by
  have HP := Lib.hid (point_one s h0 hc)
  obtain ⟨n1, n2⟩ := str_full h0
  obtain ⟨c, hb⟩ : ∃ c, (s[0]'h0).toNat = c := ⟨_, rfl⟩
  rw [hb] at hc HP
  go_enter Try.func11, Try.ntmps11
  go_wp2_with fail
  go_ret2
  exact ⟨by rw [HP.out]; rfl, rfl⟩
set_option maxRecDepth 100000 in
theorem point_n (s : ByteArray) (w : World) (h0 : 0 < s.size) (hc : ¬ (s[0]'h0).toNat < 128) (h1 : ¬ (194 ≤ (s[0]'h0).toNat ∧ (s[0]'h0).toNat < 245)) : Calls Try.prog 11 #[.string s] w (Pt s w) := by
  have hl : lead (s[0]'h0).toNat = none := by
    unfold lead
    rw [if_neg (by omega), if_neg (by omega), if_neg (by omega)]
  have HP := Lib.hid (point_none s h0 hc hl)
  clear hl
  obtain ⟨n1, n2⟩ := str_full h0
  obtain ⟨c, hb⟩ : ∃ c, (s[0]'h0).toNat = c := ⟨_, rfl⟩
  rw [hb] at hc h1
  have h256 : c < 256 := by rw [← hb]; exact UInt8.toNat_lt _
  have hc' : 128 ≤ c := by omega
  clear hc
  by_cases h2 : 194 ≤ c
  · have h3 : 245 ≤ c := by omega
    clear h1
    go_enter Try.func11, Try.ntmps11
    go_wp2_with fail
    go_ret2
    exact ⟨by rw [HP.out]; rfl, rfl⟩
  · have h3 : c < 194 := by omega
    clear h1 h2
    go_enter Try.func11, Try.ntmps11
    go_wp2_with fail
    go_ret2
    exact ⟨by rw [HP.out]; rfl, rfl⟩
theorem point_any (s : ByteArray) (w : World) (hs : s.size ≤ 140737488351232) : Calls Try.prog 11 #[.string s] w (Pt s w) := by
  by_cases h0 : 0 < s.size
  · by_cases hc : (s[0]'h0).toNat < 128
    · exact point_a s w h0 hc
    · by_cases h1 : 194 ≤ (s[0]'h0).toNat ∧ (s[0]'h0).toNat < 245
      · by_cases a1 : (s[0]'h0).toNat < 224
        · exact point_1 s w hs h0 h1.1 a1
        · by_cases a2 : (s[0]'h0).toNat < 240
          · exact point_2 s w hs h0 (by omega) a2
          · exact point_3 s w hs h0 (by omega) h1.2
      · exact point_n s w h0 hc h1
  · obtain rfl := str_empty (s := s) (by omega)
    exact point_0 w

theorem sur_no (n : Int) (w : World) (h : ¬ (55296 ≤ n ∧ n < 57344)) : Calls Try.prog 12 #[.int .i64 n] w fun e w' => e = .returned (.bool false) ∧ w = w' := by
  by_cases h1 : 55296 ≤ n
  · have h2 : 57344 ≤ n := by omega
    clear h
    go_enter Try.func12, Try.ntmps12
    go_wp2_with fail
    go_ret
    exact ⟨by first | rfl | (simp; omega) | simp, rfl⟩
  · have h2 : n < 55296 := by omega
    clear h h1
    go_enter Try.func12, Try.ntmps12
    go_wp2_with fail
    go_ret
    exact ⟨rfl, rfl⟩
theorem sur_yes (n : Int) (w : World) (h1 : 55296 ≤ n) (h2 : n < 57344) : Calls Try.prog 12 #[.int .i64 n] w fun e w' => e = .returned (.bool true) ∧ w = w' := by
  go_enter Try.func12, Try.ntmps12
  go_wp2_with fail
  go_ret
  exact ⟨by first | rfl | (simp; omega) | simp, rfl⟩

end Go.Proofs.Ytpnigcljndjmlaa.pt
