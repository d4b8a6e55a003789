/- What stands between quotes, in plain terms: no bare quote; behind a backslash one byte is passed over. -/
import Derived.Laws.RangeAny
namespace Go.Proofs.Ytpnigcljndjmlaa.body
open Go

inductive Body : List UInt8 → Prop
  | nil : Body []
  | bare (b : UInt8) (l : List UInt8) (h1 : b.toNat ≠ 34) (h2 : b.toNat ≠ 92) (h : Body l) : Body (b :: l)
  | esc (b : UInt8) (l : List UInt8) (h : Body l) : Body (92 :: b :: l)
theorem Body.append {a b : List UInt8} (ha : Body a) (hb : Body b) : Body (a ++ b) := by
  induction ha with
  | nil => exact hb
  | bare x l h1 h2 _ ih => exact .bare x _ h1 h2 ih
  | esc x l _ ih => exact .esc x _ ih
def Bare (l : List UInt8) : Prop := ∀ b ∈ l, b.toNat ≠ 34 ∧ b.toNat ≠ 92
theorem Bare.body {l : List UInt8} (h : Bare l) : Body l := by
  induction l with
  | nil => exact .nil
  | cons b l ih => exact .bare b l (h b (by simp)).1 (h b (by simp)).2 (ih fun x hx => h x (by simp [hx]))
theorem Bare.append {a b : List UInt8} (ha : Bare a) (hb : Bare b) : Bare (a ++ b) := by
  intro x hx
  rcases List.mem_append.1 hx with h | h
  · exact ha x h
  · exact hb x h
theorem esc_one (b : UInt8) : Body [92, b] := .esc b [] .nil
theorem esc_six (a b c d : UInt8) (h : Bare [a, b, c, d]) : Body [92, 117, a, b, c, d] := .esc 117 _ h.body
theorem esc_twelve (a b c d a' b' c' d' : UInt8) (h : Bare [a, b, c, d]) (h' : Bare [a', b', c', d']) : Body [92, 117, a, b, c, d, 92, 117, a', b', c', d'] :=
  (esc_six a b c d h).append (esc_six a' b' c' d' h')
def hex : List UInt8 := [48, 49, 50, 51, 52, 53, 54, 55, 56, 57, 65, 66, 67, 68, 69, 70]
theorem hex_ok (x : Nat) (hx : x < 16) : (hex.getD x 0).toNat ≠ 34 ∧ (hex.getD x 0).toNat ≠ 92 := by
  have : ∀ x : Fin 16, (hex.getD x.1 0).toNat ≠ 34 ∧ (hex.getD x.1 0).toNat ≠ 92 := by decide
  exact this ⟨x, hx⟩
theorem hex_four (a b c d : Nat) (ha : a < 16) (hb : b < 16) (hc : c < 16) (hd : d < 16) : Bare [hex.getD a 0, hex.getD b 0, hex.getD c 0, hex.getD d 0] := by
  intro x hx
  simp only [List.mem_cons, List.not_mem_nil, or_false] at hx
  rcases hx with rfl | rfl | rfl | rfl
  · exact hex_ok a ha
  · exact hex_ok b hb
  · exact hex_ok c hc
  · exact hex_ok d hd

/-- may it stand as it is? -/
def canP (c : Int) (a : Bool) : Bool := if c ≤ 126 then decide (32 ≤ c) && decide (c ≠ 92) && decide (c ≠ 34) else !a && decide (c ≠ 65279) && (decide (c < 55296) || decide (57343 < c))

theorem decode_bd (s : ByteArray) (pos : Nat) : (Utf8.decode s pos).1 ≤ 1114111 ∧ ¬ (55296 ≤ (Utf8.decode s pos).1 ∧ (Utf8.decode s pos).1 < 57344) := by
  have hb : ∀ k, (s.get! (pos + k)).toNat < 256 := fun k => (s.get! (pos + k)).toNat_lt
  have h0 := hb 0; have h1 := hb 1; have h2 := hb 2; have h3 := hb 3
  simp only [Utf8.decode]
  repeat' split
  all_goals simp_all [Utf8.runeError, Utf8.valid]
  all_goals omega
theorem decode_pos (s : ByteArray) (pos : Nat) (h : pos < s.size) : 1 ≤ (Utf8.decode s pos).2 := by
  by_cases ha : (s[pos]'h).toNat < 128
  · rw [decode_ascii s pos h ha]
    exact Nat.le_refl _
  · exact (decode_high s pos h (by omega)).2
theorem decode_end (s : ByteArray) (pos : Nat) (h : pos < s.size) : pos + (Utf8.decode s pos).2 ≤ s.size := by
  simp only [Utf8.decode]
  repeat' split
  all_goals simp_all
  all_goals omega
end Go.Proofs.Ytpnigcljndjmlaa.body
