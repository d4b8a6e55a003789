/- Walks of canPrintWithoutEscape, RuneLen. -/
import Derived.Test.YtpnigcljndjmlaaWtf
import Derived.Test.YtpnigcljndjmlaaBody
namespace Go.Proofs.Ytpnigcljndjmlaa.body
open Go.RowKit
open kit

set_option maxHeartbeats 800000 in
theorem can_yes (c : Int) (a : Bool) (w : World) (h : canP c a = true) :
    Calls Try.prog 14 #[.int .i32 c, .bool a] w fun e w' => e = .returned (.bool true) ∧ w = w' := by
  unfold canP at h
  by_cases h1 : c ≤ 126
  · rw [if_pos h1] at h
    simp at h
    obtain ⟨⟨h2, h3⟩, h4⟩ := h
    have e3 : (c != 92) = true := by rw [bne_iff_ne]; exact h3
    have e4 : (c != 34) = true := by rw [bne_iff_ne]; exact h4
    clear h3 h4
    go_enter Try.func14, Try.ntmps14
    go_wp2_with fail
    go_ret
    exact ⟨by first | rfl | simp, rfl⟩
  · rw [if_neg h1] at h
    simp at h
    obtain ⟨⟨rfl, h3⟩, h4⟩ := h
    have e3 : (c != 65279) = true := by rw [bne_iff_ne]; exact h3
    have h1' : 126 < c := by omega
    clear h3 h1
    by_cases h5 : c < 55296
    · clear h4
      go_enter Try.func14, Try.ntmps14
      go_wp2_with fail
      go_ret
      exact ⟨by first | rfl | simp, rfl⟩
    · have h6 : 57343 < c := by omega
      have h5' : 55296 ≤ c := by omega
      clear h4 h5
      go_enter Try.func14, Try.ntmps14
      go_wp2_with fail
      go_ret
      exact ⟨by first | rfl | simp, rfl⟩
set_option maxHeartbeats 800000 in
theorem can_no (c : Int) (a : Bool) (w : World) (h : canP c a = false) :
    Calls Try.prog 14 #[.int .i32 c, .bool a] w fun e w' => e = .returned (.bool false) ∧ w = w' := by
  have HH := Lib.hid h
  unfold canP at h
  by_cases h1 : c ≤ 126
  · rw [if_pos h1] at h
    simp at h
    by_cases h2 : 32 ≤ c
    · by_cases h3 : c = 92
      · subst h3
        clear h h1 h2 HH
        go_enter Try.func14, Try.ntmps14
        go_wp2_with fail
        go_ret
        exact ⟨rfl, rfl⟩
      · have h4 : c = 34 := h h2 h3
        subst h4
        clear h h1 h2 h3 HH
        go_enter Try.func14, Try.ntmps14
        go_wp2_with fail
        go_ret
        exact ⟨rfl, rfl⟩
    · have h2' : c < 32 := by omega
      clear h h2 HH
      go_enter Try.func14, Try.ntmps14
      go_wp2_with fail
      go_ret
      exact ⟨by first | rfl | simp, rfl⟩
  · have h1' : 126 < c := by omega
    cases a with
    | true =>
      clear h h1 HH
      go_enter Try.func14, Try.ntmps14
      go_wp2_with fail
      go_ret
      exact ⟨by first | rfl | simp, rfl⟩
    | false =>
      rw [if_neg h1] at h
      simp at h
      by_cases h3 : c = 65279
      · subst h3
        clear h h1 h1' HH
        go_enter Try.func14, Try.ntmps14
        go_wp2_with fail
        go_ret
        exact ⟨by first | rfl | simp, rfl⟩
      · obtain ⟨h4, h5⟩ := h h3
        have e3 : (c != 65279) = true := by rw [bne_iff_ne]; exact h3
        clear h h1 h3 HH
        go_enter Try.func14, Try.ntmps14
        go_wp2_with fail
        go_ret
        exact ⟨by first | rfl | (simp; omega) | simp, rfl⟩
def SomeLen (w : World) (e : Ending) (w' : World) : Prop := ∃ n : Int, 1 ≤ n ∧ n ≤ 4 ∧ e = .returned (.int .i64 n) ∧ w = w'
set_option maxHeartbeats 800000 in
theorem rune_len (c : Int) (w : World) (h0 : 0 ≤ c) (h1 : c ≤ 1114111) (h2 : ¬ (55296 ≤ c ∧ c < 57344)) :
    Calls Try.prog 15 #[.int .i32 c] w (SomeLen w) := by
  by_cases a1 : c ≤ 127
  · clear h2
    go_enter Try.func15, Try.ntmps15
    go_wp2_with fail
    go_ret
    exact ⟨1, by omega, by omega, rfl, rfl⟩
  · by_cases a2 : c ≤ 2047
    · have a1' : 127 < c := by omega
      clear h2 a1
      go_enter Try.func15, Try.ntmps15
      go_wp2_with fail
      go_ret
      exact ⟨2, by omega, by omega, rfl, rfl⟩
    · have a2' : 2047 < c := by omega
      clear a1 a2
      by_cases a3 : 55296 ≤ c
      · have a4 : 57343 < c := by omega
        clear h2
        by_cases a5 : c ≤ 65535
        · go_enter Try.func15, Try.ntmps15
          go_wp2_with fail
          go_ret
          exact ⟨3, by omega, by omega, rfl, rfl⟩
        · have a5' : 65535 < c := by omega
          clear a5
          go_enter Try.func15, Try.ntmps15
          go_wp2_with fail
          go_ret
          exact ⟨4, by omega, by omega, rfl, rfl⟩
      · have a3' : c < 55296 := by omega
        clear h2 a3
        go_enter Try.func15, Try.ntmps15
        go_wp2_with fail
        go_ret
        exact ⟨3, by omega, by omega, rfl, rfl⟩
end Go.Proofs.Ytpnigcljndjmlaa.body
