/- Code points in UTF-8, in plain terms: what spec.Point reads, and what a text in UTF-8 is. -/
import Derived.Below
namespace Go.Proofs.Ytpnigcljndjmlaa.pt

/-- a byte that follows -/
def ct (c : UInt8) : Bool := decide (128 ≤ c.toNat) && decide (c.toNat ≤ 191)
theorem ct_iff (c : UInt8) : ct c = true ↔ 128 ≤ c.toNat ∧ c.toNat ≤ 191 := by simp [ct]
/-- what the first byte says: the beginning of the number, and how many bytes follow -/
def lead (c : Nat) : Option (Int × Nat) :=
  if 194 ≤ c ∧ c < 224 then some ((c : Int) - 192, 1)
  else if 224 ≤ c ∧ c < 240 then some ((c : Int) - 224, 2)
  else if 240 ≤ c ∧ c < 245 then some ((c : Int) - 240, 3)
  else none
def acc : Nat → Int → List UInt8 → Option Int
  | 0, p, _ => some p
  | _ + 1, _, [] => none
  | n + 1, p, b :: r => if ct b then acc n (p * 64 + ((b.toNat : Int) - 128)) r else none
def fits (k : Nat) (p : Int) : Bool := !((k == 2 && decide (p < 2048)) || (k == 3 && (decide (p < 65536) || decide (1114111 < p))))
def point : List UInt8 → Int × Int
  | [] => (-1, 0)
  | c :: r =>
    if c.toNat < 128 then ((c.toNat : Int), 1)
    else match lead c.toNat with
      | none => (-1, 0)
      | some (p0, k) => match acc k p0 r with
        | none => (-1, 0)
        | some p => if fits k p then (p, (k : Int) + 1) else (-1, 0)

theorem point_cons (c : UInt8) (r : List UInt8) : point (c :: r) = if c.toNat < 128 then ((c.toNat : Int), 1) else match lead c.toNat with
      | none => (-1, 0)
      | some (p0, k) => match acc k p0 r with
        | none => (-1, 0)
        | some p => if fits k p then (p, (k : Int) + 1) else (-1, 0) := rfl
/-- a text begins with the sign p, of n bytes -/
inductive Ch : List UInt8 → Int → Nat → Prop
  | one (c : UInt8) (r : List UInt8) (h : c.toNat < 128) : Ch (c :: r) c.toNat 1
  | two (c b : UInt8) (r : List UInt8) (h1 : 194 ≤ c.toNat) (h2 : c.toNat < 224) (hb : ct b = true) : Ch (c :: b :: r) (((c.toNat : Int) - 192) * 64 + ((b.toNat : Int) - 128)) 2
  | three (c b d : UInt8) (r : List UInt8) (h1 : 224 ≤ c.toNat) (h2 : c.toNat < 240) (hb : ct b = true) (hd : ct d = true)
      (h3 : 2048 ≤ (((c.toNat : Int) - 224) * 64 + ((b.toNat : Int) - 128)) * 64 + ((d.toNat : Int) - 128))
      (h4 : ¬ (55296 ≤ (((c.toNat : Int) - 224) * 64 + ((b.toNat : Int) - 128)) * 64 + ((d.toNat : Int) - 128) ∧ (((c.toNat : Int) - 224) * 64 + ((b.toNat : Int) - 128)) * 64 + ((d.toNat : Int) - 128) < 57344)) :
      Ch (c :: b :: d :: r) ((((c.toNat : Int) - 224) * 64 + ((b.toNat : Int) - 128)) * 64 + ((d.toNat : Int) - 128)) 3
  | four (c b d e : UInt8) (r : List UInt8) (h1 : 240 ≤ c.toNat) (h2 : c.toNat < 245) (hb : ct b = true) (hd : ct d = true) (he : ct e = true)
      (h3 : 65536 ≤ ((((c.toNat : Int) - 240) * 64 + ((b.toNat : Int) - 128)) * 64 + ((d.toNat : Int) - 128)) * 64 + ((e.toNat : Int) - 128))
      (h4 : ((((c.toNat : Int) - 240) * 64 + ((b.toNat : Int) - 128)) * 64 + ((d.toNat : Int) - 128)) * 64 + ((e.toNat : Int) - 128) ≤ 1114111) :
      Ch (c :: b :: d :: e :: r) (((((c.toNat : Int) - 240) * 64 + ((b.toNat : Int) - 128)) * 64 + ((d.toNat : Int) - 128)) * 64 + ((e.toNat : Int) - 128)) 4
theorem Ch.len {l : List UInt8} {p : Int} {n : Nat} (h : Ch l p n) : 1 ≤ n ∧ n ≤ 4 ∧ n ≤ l.length := by
  cases h <;> simp
theorem Ch.bd {l : List UInt8} {p : Int} {n : Nat} (h : Ch l p n) : 0 ≤ p ∧ p ≤ 1114111 ∧ ¬ (55296 ≤ p ∧ p < 57344) := by
  cases h with
  | one c r h => omega
  | two c b r h1 h2 hb => rw [ct_iff] at hb; omega
  | three c b d r h1 h2 hb hd h3 h4 => rw [ct_iff] at hb hd; omega
  | four c b d e r h1 h2 hb hd he h3 h4 => rw [ct_iff] at hb hd he; omega
theorem Ch.point {l : List UInt8} {p : Int} {n : Nat} (h : Ch l p n) : point l = (p, (n : Int)) := by
  cases h with
  | one c r h => rw [point_cons, if_pos h]; rfl
  | two c b r h1 h2 hb =>
    rw [point_cons, if_neg (by omega)]
    have : lead c.toNat = some ((c.toNat : Int) - 192, 1) := by unfold lead; rw [if_pos ⟨h1, h2⟩]
    rw [this]
    simp [acc, hb, fits]
  | three c b d r h1 h2 hb hd h3 h4 =>
    rw [point_cons, if_neg (by omega)]
    have : lead c.toNat = some ((c.toNat : Int) - 224, 2) := by unfold lead; rw [if_neg (by omega), if_pos ⟨h1, h2⟩]
    rw [this]
    simp only [acc, hb, hd, if_true]
    rw [if_pos (by unfold fits; simp; omega)]
    rfl
  | four c b d e r h1 h2 hb hd he h3 h4 =>
    rw [point_cons, if_neg (by omega)]
    have : lead c.toNat = some ((c.toNat : Int) - 240, 3) := by unfold lead; rw [if_neg (by omega), if_neg (by omega), if_pos ⟨h1, h2⟩]
    rw [this]
    simp only [acc, hb, hd, he, if_true]
    rw [if_pos (by unfold fits; simp; omega)]
    rfl
/-- what is read is a sign -/
theorem ch_of {l : List UInt8} {p m : Int} (h : point l = (p, m)) (h1 : p ≠ -1) (h2 : ¬ (55296 ≤ p ∧ p < 57344)) : ∃ n : Nat, m = n ∧ Ch l p n := by
  cases l with
  | nil => have := (Prod.mk.inj h).1; omega
  | cons c r =>
    rw [point_cons] at h
    by_cases hc : c.toNat < 128
    · rw [if_pos hc] at h
      obtain ⟨rfl, rfl⟩ := Prod.mk.inj h
      exact ⟨1, rfl, .one c r hc⟩
    · rw [if_neg hc] at h
      by_cases a1 : 194 ≤ c.toNat ∧ c.toNat < 224
      · have : lead c.toNat = some ((c.toNat : Int) - 192, 1) := by unfold lead; rw [if_pos a1]
        rw [this] at h
        cases r with
        | nil => simp [acc] at h; omega
        | cons b r =>
          cases hb : ct b with
          | false => simp [acc, hb] at h; omega
          | true =>
            simp [acc, hb, fits] at h
            obtain ⟨rfl, rfl⟩ := h
            exact ⟨2, rfl, .two c b r a1.1 a1.2 hb⟩
      · by_cases a2 : 224 ≤ c.toNat ∧ c.toNat < 240
        · have : lead c.toNat = some ((c.toNat : Int) - 224, 2) := by unfold lead; rw [if_neg a1, if_pos a2]
          rw [this] at h
          match r, h with
          | [], h => simp [acc] at h; omega
          | [b], h =>
            cases hb : ct b with
            | false => simp [acc, hb] at h; omega
            | true => simp [acc, hb] at h; omega
          | b :: d :: r, h =>
            cases hb : ct b with
            | false => simp [acc, hb] at h; omega
            | true =>
              cases hd : ct d with
              | false => simp [acc, hb, hd] at h; omega
              | true =>
                simp only [acc, hb, hd, if_true] at h
                by_cases hf : fits 2 ((((c.toNat : Int) - 224) * 64 + ((b.toNat : Int) - 128)) * 64 + ((d.toNat : Int) - 128)) = true
                · rw [if_pos hf] at h
                  obtain ⟨rfl, rfl⟩ := Prod.mk.inj h
                  exact ⟨3, rfl, .three c b d r a2.1 a2.2 hb hd (by unfold fits at hf; simp at hf; omega) h2⟩
                · rw [if_neg hf] at h
                  obtain ⟨rfl, rfl⟩ := Prod.mk.inj h
                  omega
        · by_cases a3 : 240 ≤ c.toNat ∧ c.toNat < 245
          · have : lead c.toNat = some ((c.toNat : Int) - 240, 3) := by unfold lead; rw [if_neg a1, if_neg a2, if_pos a3]
            rw [this] at h
            match r, h with
            | [], h => simp [acc] at h; omega
            | [b], h =>
              cases hb : ct b with
              | false => simp [acc, hb] at h; omega
              | true => simp [acc, hb] at h; omega
            | [b, d], h =>
              cases hb : ct b with
              | false => simp [acc, hb] at h; omega
              | true =>
                cases hd : ct d with
                | false => simp [acc, hb, hd] at h; omega
                | true => simp [acc, hb, hd] at h; omega
            | b :: d :: e :: r, h =>
              cases hb : ct b with
              | false => simp [acc, hb] at h; omega
              | true =>
                cases hd : ct d with
                | false => simp [acc, hb, hd] at h; omega
                | true =>
                  cases he : ct e with
                  | false => simp [acc, hb, hd, he] at h; omega
                  | true =>
                    simp only [acc, hb, hd, he, if_true] at h
                    by_cases hf : fits 3 (((((c.toNat : Int) - 240) * 64 + ((b.toNat : Int) - 128)) * 64 + ((d.toNat : Int) - 128)) * 64 + ((e.toNat : Int) - 128)) = true
                    · rw [if_pos hf] at h
                      obtain ⟨rfl, rfl⟩ := Prod.mk.inj h
                      exact ⟨4, rfl, .four c b d e r a3.1 a3.2 hb hd he (by unfold fits at hf; simp at hf; omega) (by unfold fits at hf; simp at hf; omega)⟩
                    · rw [if_neg hf] at h
                      obtain ⟨rfl, rfl⟩ := Prod.mk.inj h
                      omega
          · have : lead c.toNat = none := by unfold lead; rw [if_neg a1, if_neg a2, if_neg a3]
            rw [this] at h
            obtain ⟨rfl, rfl⟩ := Prod.mk.inj h
            omega
/-- a text in UTF-8 -/
inductive Vld : List UInt8 → Prop
  | nil : Vld []
  | step {l : List UInt8} {p : Int} {n : Nat} (h : Ch l p n) (hr : Vld (l.drop n)) : Vld l
/-- so many signs -/
theorem Vld.next {l : List UInt8} (h : Vld l) (hl : l ≠ []) : ∃ p n, Ch l p n ∧ Vld (l.drop n) := by
  cases h with
  | nil => exact absurd rfl hl
  | step h hr => exact ⟨_, _, h, hr⟩
theorem Ch.det {l : List UInt8} {p q : Int} {n m : Nat} (h : Ch l p n) (h' : Ch l q m) : p = q ∧ n = m := by
  have a := h.point
  have b := h'.point
  rw [a] at b
  have := Prod.mk.inj b
  omega
end Go.Proofs.Ytpnigcljndjmlaa.pt
