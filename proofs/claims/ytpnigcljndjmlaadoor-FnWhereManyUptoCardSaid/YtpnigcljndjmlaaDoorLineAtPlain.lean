/- What spec.long and spec.LineAt compute, in plain terms. -/
import Derived.Test.YtpnigcljndjmlaaDoorLine
namespace Go.Proofs.YtpnigcljndjmlaaDoor.line
open Go
open pt

theorem acc_len : ∀ (k : Nat) (p q : Int) (l : List UInt8), acc k p l = some q → k ≤ l.length
  | 0, _, _, _, _ => Nat.zero_le _
  | _ + 1, _, _, [], h => by cases h
  | k + 1, p, q, b :: r, h => by
    unfold acc at h
    split at h
    · have := acc_len k _ q r h
      simp; omega
    · cases h
theorem acc_nn : ∀ (k : Nat) (p q : Int) (l : List UInt8), 0 ≤ p → acc k p l = some q → 0 ≤ q
  | 0, p, q, _, hp, h => by injection h with h; omega
  | _ + 1, _, _, [], _, h => by cases h
  | k + 1, p, q, b :: r, hp, h => by
    unfold acc at h
    split at h
    · rename_i hb
      rw [ct_iff] at hb
      exact acc_nn k _ q r (by omega) h
    · cases h
theorem lead_cases (c : Nat) (p0 : Int) (k : Nat) (h : lead c = some (p0, k)) : 0 ≤ p0 ∧ 1 ≤ k ∧ k ≤ 3 := by
  unfold lead at h
  by_cases a1 : 194 ≤ c ∧ c < 224
  · rw [if_pos a1] at h; injection h with h; have := Prod.mk.inj h; omega
  · rw [if_neg a1] at h
    by_cases a2 : 224 ≤ c ∧ c < 240
    · rw [if_pos a2] at h; injection h with h; have := Prod.mk.inj h; omega
    · rw [if_neg a2] at h
      by_cases a3 : 240 ≤ c ∧ c < 245
      · rw [if_pos a3] at h; injection h with h; have := Prod.mk.inj h; omega
      · rw [if_neg a3] at h; cases h
/-- how long what is read can be -/
theorem point_bd (l : List UInt8) : ∃ (p : Int) (m : Nat), point l = (p, (m : Int)) ∧ m ≤ 4 ∧ m ≤ l.length ∧ ((p = -1 ∧ m = 0) ∨ (0 ≤ p ∧ 1 ≤ m)) := by
  cases l with
  | nil => exact ⟨-1, 0, rfl, by omega, by simp, .inl ⟨rfl, rfl⟩⟩
  | cons c r =>
    rw [point_cons]
    by_cases hc : c.toNat < 128
    · rw [if_pos hc]; exact ⟨c.toNat, 1, rfl, by omega, by simp, .inr ⟨by omega, by omega⟩⟩
    · rw [if_neg hc]
      cases hl : lead c.toNat with
      | none => exact ⟨-1, 0, rfl, by omega, by simp, .inl ⟨rfl, rfl⟩⟩
      | some x =>
        obtain ⟨p0, k⟩ := x
        have hk := lead_cases _ _ _ hl
        simp only
        cases ha : acc k p0 r with
        | none => exact ⟨-1, 0, rfl, by omega, by simp, .inl ⟨rfl, rfl⟩⟩
        | some q =>
          have h1 := acc_len _ _ _ _ ha
          have h2 := acc_nn _ _ _ _ hk.1 ha
          simp only
          by_cases hf : fits k q = true
          · rw [if_pos hf]; exact ⟨q, k + 1, by simp, by omega, by simp; omega, .inr ⟨h2, by omega⟩⟩
          · rw [if_neg hf]; exact ⟨-1, 0, rfl, by omega, by simp, .inl ⟨rfl, rfl⟩⟩
/-- spec.long -/
def lng (l : List UInt8) : Nat := if (point l).1 = 13 ∧ 1 < l.length ∧ (l.getD 1 0).toNat = 10 then 2 else if T (point l).1 = true then (point l).2.toNat else 0
theorem lng_le (l : List UInt8) : lng l ≤ l.length ∧ lng l ≤ 4 := by
  obtain ⟨p, m, h, h4, hm, _⟩ := point_bd l
  unfold lng
  rw [h]
  simp only [Int.toNat_natCast]
  split
  · omega
  · split <;> omega
/-- spec.Point's length, at least one -/
def wid (l : List UInt8) : Nat := max 1 (point l).2.toNat
theorem wid_le (l : List UInt8) (h : l ≠ []) : 1 ≤ wid l ∧ wid l ≤ l.length ∧ wid l ≤ 4 := by
  obtain ⟨p, m, e, h4, hm, _⟩ := point_bd l
  unfold wid
  rw [e]
  simp only [Int.toNat_natCast]
  have : 1 ≤ l.length := by cases l with | nil => exact absurd rfl h | cons a r => simp
  omega
/-- not between CR and LF -/
def NB (l : List UInt8) (k : Nat) : Prop := ¬ (0 < k ∧ (l.getD (k - 1) 0).toNat = 13 ∧ (l.getD k 0).toNat = 10)
theorem getD_drop (l : List UInt8) (k i : Nat) : (l.drop k).getD i 0 = l.getD (k + i) 0 := by
  simp [List.getD_eq_getElem?_getD]
theorem ch_one {l : List UInt8} {p : Int} {n : Nat} (h : Ch l p n) (hp : p < 128) : n = 1 ∧ ((l.getD 0 0).toNat : Int) = p := by
  cases h with
  | one c r h => simp
  | two c b r h1 h2 hb => rw [ct_iff] at hb; omega
  | three c b d r h1 h2 hb hd h3 h4 => omega
  | four c b d e r h1 h2 hb hd he h3 h4 => omega
/-- a sign's last byte -/
theorem ch_last {l : List UInt8} {p : Int} {n : Nat} (h : Ch l p n) (hp : p ≠ 13) : (l.getD (n - 1) 0).toNat ≠ 13 := by
  cases h with
  | one c r h => simp at hp ⊢; omega
  | two c b r h1 h2 hb => rw [ct_iff] at hb; simp; omega
  | three c b d r h1 h2 hb hd h3 h4 => rw [ct_iff] at hd; simp; omega
  | four c b d e r h1 h2 hb hd he h3 h4 => rw [ct_iff] at he; simp; omega
theorem nb_of {l : List UInt8} {k n : Nat} {p : Int} (hc : Ch (l.drop k) p n) (hp : p ≠ 13) : NB l (k + n) := by
  have hn := hc.len
  have h := ch_last hc hp
  rw [getD_drop] at h
  intro q
  rw [show k + n - 1 = k + (n - 1) from by omega] at q
  exact h q.2.1
/-- one step of LineAt -/
theorem step_end {l : List UInt8} {j k c f : Nat} (h : At l j k c f) (hb : NB l k) (hv : Vld l) (hk : k < l.length) (hl : 0 < lng (l.drop k)) :
    ∃ j', At l j' (k + lng (l.drop k)) (c + 1) (k + lng (l.drop k)) ∧ NB l (k + lng (l.drop k)) := by
  obtain ⟨p, n, hc, hr⟩ := (h.vld hv).next (by intro q; have := congrArg List.length q; rw [List.length_drop] at this; simp at this; omega)
  have hpt := hc.point
  have hst := At.step h hc
  by_cases h13 : p = 13
  · subst h13
    obtain ⟨rfl, h0⟩ := ch_one hc (by omega)
    rw [getD_drop, Nat.add_zero] at h0
    by_cases h10 : 1 < (l.drop k).length ∧ ((l.drop k).getD 1 0).toNat = 10
    · have e : lng (l.drop k) = 2 := by unfold lng; rw [hpt]; exact if_pos ⟨rfl, h10⟩
      rw [e]
      have hk1 : k + 1 < l.length := by have := h10.1; rw [List.length_drop] at this; omega
      have h2 := h10.2
      rw [getD_drop] at h2
      have hc2 : Ch (l.drop (k + 1)) 10 1 := by
        rw [List.drop_eq_getElem_cons hk1]
        have e2 : l.getD (k + 1) 0 = l[k + 1] := by simp [hk1]
        rw [e2] at h2
        have := Ch.one l[k + 1] (l.drop (k + 1 + 1)) (by omega)
        rw [h2] at this
        exact this
      have hst2 := At.step hst hc2
      have ec : cnt l (k + 1) 10 (cnt l k 13 c) = c + 1 := by
        have e1 : cnt l k 13 c = c + 1 := rfl
        rw [e1]
        unfold cnt
        rw [if_pos rfl, if_neg]
        intro q
        rcases q with q | q
        · omega
        · apply q; rw [Nat.add_sub_cancel]; omega
      rw [ec, show frm (k + 1 + 1) 10 (frm (k + 1) 13 f) = k + 2 from rfl] at hst2
      exact ⟨_, hst2, nb_of (k := k + 1) hc2 (by omega)⟩
    · have e : lng (l.drop k) = 1 := by unfold lng; rw [hpt, if_neg (fun q => h10 q.2)]; rfl
      rw [e]
      have e1 : cnt l k 13 c = c + 1 := rfl
      rw [e1, show frm (k + 1) 13 f = k + 1 from rfl] at hst
      refine ⟨_, hst, ?_⟩
      intro q
      by_cases hk1 : k + 1 < l.length
      · apply h10
        refine ⟨by rw [List.length_drop]; omega, ?_⟩
        rw [getD_drop]; exact q.2.2
      · have := q.2.2
        rw [show l.getD (k + 1) 0 = 0 from by simp [List.getD_eq_getElem?_getD, List.getElem?_eq_none (show l.length ≤ k + 1 by omega)]] at this
        simp at this
  · have e : lng (l.drop k) = if T p = true then n else 0 := by unfold lng; rw [hpt, if_neg (fun q => h13 q.1)]; simp
    by_cases ht : T p = true
    · rw [if_pos ht] at e
      rw [e]
      have ec : cnt l k p c = c + 1 := by
        unfold cnt
        by_cases h10 : p = 10
        · subst h10
          rw [if_pos rfl, if_pos]
          obtain ⟨_, h0⟩ := ch_one hc (by omega)
          rw [getD_drop, Nat.add_zero] at h0
          by_cases hk0 : k = 0
          · exact .inl hk0
          · right
            intro q
            apply hb
            exact ⟨by omega, q, by omega⟩
        · rw [if_neg h10, if_pos ht]
      rw [ec, show frm (k + n) p f = k + n from if_pos ht] at hst
      exact ⟨_, hst, nb_of hc h13⟩
    · rw [if_neg ht] at e
      omega
theorem step_on {l : List UInt8} {j k c f : Nat} (h : At l j k c f) (hv : Vld l) (hk : k < l.length) (hl : lng (l.drop k) = 0) :
    ∃ p n, Ch (l.drop k) p n ∧ T p = false ∧ wid (l.drop k) = n ∧ At l (j + 1) (k + wid (l.drop k)) c f ∧ NB l (k + wid (l.drop k)) := by
  obtain ⟨p, n, hc, hr⟩ := (h.vld hv).next (by intro q; have := congrArg List.length q; rw [List.length_drop] at this; simp at this; omega)
  have hn := hc.len
  have hpt := hc.point
  have hw : wid (l.drop k) = n := by unfold wid; rw [hpt]; simp; omega
  have h13 : p ≠ 13 := by
    intro q
    subst q
    unfold lng at hl
    rw [hpt] at hl
    split at hl
    · cases hl
    · rw [if_pos (by rfl)] at hl; simp at hl; omega
  have ht : T p = false := by
    cases ht : T p with
    | false => rfl
    | true =>
      unfold lng at hl
      rw [hpt, if_neg (fun q => h13 q.1), if_pos ht] at hl
      simp at hl; omega
  have hst := At.step h hc
  rw [show frm (k + n) p f = f from if_neg (by rw [ht]; simp), show cnt l k p c = c from by
    unfold cnt
    have h10 : p ≠ 10 := fun q => by subst q; cases ht
    rw [if_neg h10, if_neg (by rw [ht]; simp)]] at hst
  rw [hw]
  exact ⟨p, n, hc, ht, rfl, hst, nb_of hc h13⟩
theorem stop_of {l : List UInt8} {j k c f : Nat} (h : At l j k c f) (hv : Vld l) (hk : k < l.length) (hl : 0 < lng (l.drop k)) : Fin l k k := by
  obtain ⟨p, n, hc, hr⟩ := (h.vld hv).next (by intro q; have := congrArg List.length q; rw [List.length_drop] at this; simp at this; omega)
  have hpt := hc.point
  refine .stop hc ?_
  by_cases h13 : p = 13
  · subst h13; rfl
  · unfold lng at hl
    rw [hpt, if_neg (fun q => h13 q.1)] at hl
    split at hl
    · assumption
    · omega
end Go.Proofs.YtpnigcljndjmlaaDoor.line
