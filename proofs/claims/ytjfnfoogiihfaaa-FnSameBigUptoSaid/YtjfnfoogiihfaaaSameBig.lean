/- The walk of FnSameBig. -/
import Derived.Test.YtjfnfoogiihfaaaSameWalk
namespace Go.Proofs.Ytjfnfoogiihfaaa.fnSameBig
open Go.RowKit
open kit big

theorem text_small (b : Nat) (l : List Nat) (hb : b ≤ 16) (hl : ∀ c ∈ l, dig c < b) : ∀ c ∈ text (acc b l), c < 256 := by
  intro c hc
  simp only [text, List.mem_reverse, List.mem_map] at hc
  obtain ⟨d, hd, rfl⟩ := hc
  have := acc_dig b l hb hl d hd
  omega
theorem half_small (b : Nat) (l : List Nat) (hb : b ≤ 16) : ∀ c ∈ (half b l).1, c < 256 := by
  unfold half
  split
  · simp
  · split
    · rename_i h; exact text_small b l hb h
    · simp
theorem txt_inj (l m : List Nat) (hl : ∀ c ∈ l, c < 256) (hm : ∀ c ∈ m, c < 256) (h : txt l = txt m) : l = m := by
  have h1 : l.map (·.toUInt8) = m.map (·.toUInt8) := by
    have := congrArg (fun b : ByteArray => b.data.toList) h
    simpa [txt] using this
  have key : ∀ l : List Nat, (∀ c ∈ l, c < 256) → (l.map (·.toUInt8)).map (·.toNat) = l := by
    intro l hl
    rw [List.map_map]
    conv => rhs; rw [← List.map_id l]
    apply List.map_congr_left
    intro c hc
    have := hl c hc
    show (c.toUInt8).toNat = c
    rw [show c.toUInt8.toNat = c % 256 from UInt8.toNat_ofNat', Nat.mod_eq_of_lt this]
  rw [← key l hl, h1, key m hm]
theorem lets_inj (a b : ByteArray) (h : lets a = lets b) : a = b := by
  apply WideShapes.bytes_inj
  have : ∀ l m : List UInt8, l.map (·.toNat) = m.map (·.toNat) → l = m := by
    intro l
    induction l with
    | nil => intro m h; cases m with | nil => rfl | cons _ _ => simp at h
    | cons x l ih =>
      intro m h
      cases m with
      | nil => simp at h
      | cons y m =>
        simp only [List.map_cons, List.cons.injEq] at h
        rw [UInt8.toNat_inj.1 h.1, ih m h.2]
  exact this _ _ h

/-- THE PLAIN LAW: what is known of two literals is right -/
theorem law (a b : ByteArray) (oa : (big (lets a)).2 = true) (ob : (big (lets b)).2 = true) (hk : sameK a b = true) :
    sameE a b = ((txt (big (lets a)).1).toList == (txt (big (lets b)).1).toList) := by
  by_cases hab : a = b
  · subst hab; simp [sameE]
  · have hp : Plain a ∧ Plain b := by simpa [sameK, hab] using hk
    have he : sameE a b = false := by simp [sameE, hab]
    rw [he]
    symm
    apply ne_of
    intro h
    have hpa : (lets a).length < 2 ∨ (lets a).getD 0 0 ≠ 48 := by rw [lets_len]; exact hp.1
    have hpb : (lets b).length < 2 ∨ (lets b).getD 0 0 ≠ 48 := by rw [lets_len]; exact hp.2
    refine big_ne (lets a) (lets b) hpa hpb oa ob (fun e => hab (lets_inj a b e)) ?_
    exact txt_inj _ _ (half_small _ _ (base_le _)) (half_small _ _ (base_le _)) h

set_option maxHeartbeats 1600000 in
theorem walk (a0 a1 : ByteArray) (_ : a0.size ≤ maxLen) (_ : a1.size ≤ maxLen) (h : a0.size + a1.size ≤ 1048576) (w : World) :
    Calls Try.prog 4 #[.string a0, .string a1] w fun e w' => e = .returned (.bool true) ∧ Below w.heap.size w w' := by
  have L := Lib.hid (law a0 a1)
  have S1 := Lib.hid (fun W : World => same_any ⟨#[49]⟩ ⟨#[49]⟩ W (by decide) (by decide))
  have e1 : sameE ⟨#[49]⟩ ⟨#[49]⟩ = true := by simp [sameE]
  have e2 : sameK ⟨#[49]⟩ ⟨#[49]⟩ = true := by simp [sameK]
  rw [e1, e2] at S1
  clear e1 e2
  go_enter Try.func4, Try.ntmps4
  go_wp2_with fail
  refine (big_any a0 _ (by omega)).mono ?_
  rintro e w1 ⟨rfl, hb1⟩
  go_wp2_with fail
  refine (big_any a1 _ (by omega)).mono ?_
  rintro e w2 ⟨rfl, hb2⟩
  go_wp2_with fail
  refine (same_any a0 a1 _ (by omega) (by omega)).mono ?_
  rintro e w3 ⟨rfl, rfl⟩
  go_wp2_with fail
  refine (S1.out _).mono ?_
  rintro e w3 ⟨rfl, rfl⟩
  generalize (big (lets a0)).2 = X1 at *
  generalize (big (lets a1)).2 = X2 at *
  generalize sameK a0 a1 = K at *
  generalize sameE a0 a1 = E at *
  have hW : Below w.heap.size w w2 := hb1.trans (hb2.mono hb1.size)
  clear hb1 hb2
  cases X1 <;> cases X2 <;> cases K
  all_goals
    try (have hE := L.out rfl rfl rfl; have HE := Lib.hid hE; clear hE)
    clear L
    go_wp2
    go_ret
    first
      | exact ⟨rfl, hW⟩
      | (rw [HE.out]; simp; exact hW)
end Go.Proofs.Ytjfnfoogiihfaaa.fnSameBig
