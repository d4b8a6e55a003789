/- Plain mathematics of spec.Big (BigInt literals as decimal digits): no program in sight. -/
import Derived.Below
namespace Go.Proofs.YtoijbpjlknmpmaaDoor.big

def dig (c : Nat) : Nat := if 48 ≤ c ∧ c ≤ 57 then c - 48 else if 97 ≤ c ∧ c ≤ 102 then c - 87 else if 65 ≤ c ∧ c ≤ 70 then c - 55 else 99

def step (n : Nat) (st : List Nat × Nat) (d : Nat) : List Nat × Nat := (st.1 ++ [(st.2 + d * n) % 10], (st.2 + d * n) / 10)
def mul (n : Nat) (xs : List Nat) (m : Nat) : List Nat × Nat := xs.foldl (step n) ([], m)
def spill (m : Nat) : List Nat := if m = 0 then [] else if m < 10 then [m] else [m % 10, m / 10]
def strip (l : List Nat) : List Nat := (l.reverse.dropWhile (· == 0)).reverse
def times (xs : List Nat) (n m : Nat) : List Nat := strip ((mul n xs m).1 ++ spill (mul n xs m).2)

theorem mul_snoc (n : Nat) (xs : List Nat) (d m : Nat) : mul n (xs ++ [d]) m = step n (mul n xs m) d := by simp [mul]
theorem mul_len (n : Nat) (xs : List Nat) (m : Nat) : (mul n xs m).1.length = xs.length := by
  have h : ∀ (st : List Nat × Nat), (xs.foldl (step n) st).1.length = st.1.length + xs.length := by
    induction xs with
    | nil => intro st; simp
    | cons d xs ih => intro st; simp only [List.foldl_cons, ih, step, List.length_append, List.length_cons, List.length_nil]; omega
  have := h ([], m); simpa [mul] using this
theorem mul_carry (n : Nat) (xs : List Nat) (m : Nat) (hn : n ≤ 16) (hm : m ≤ 16) (hx : ∀ d ∈ xs, d < 10) : (mul n xs m).2 ≤ 16 := by
  have h : ∀ (st : List Nat × Nat), st.2 ≤ 16 → (xs.foldl (step n) st).2 ≤ 16 := by
    induction xs with
    | nil => intro st h; simpa using h
    | cons d xs ih =>
      intro st h
      simp only [List.foldl_cons]
      refine ih (fun d hd => hx d (by simp [hd])) _ ?_
      have hd := hx d (by simp)
      have : d * n ≤ 9 * 16 := Nat.mul_le_mul (by omega) hn
      simp only [step]; omega
  exact h ([], m) hm
theorem mul_dig (n : Nat) (xs : List Nat) (m : Nat) : ∀ d ∈ (mul n xs m).1, d < 10 := by
  have h : ∀ (st : List Nat × Nat), (∀ d ∈ st.1, d < 10) → ∀ d ∈ (xs.foldl (step n) st).1, d < 10 := by
    induction xs with
    | nil => intro st h; simpa using h
    | cons d xs ih =>
      intro st h
      simp only [List.foldl_cons]
      refine ih _ ?_
      intro e he
      simp only [step, List.mem_append, List.mem_singleton] at he
      rcases he with he | he
      · exact h e he
      · omega
  exact h ([], m) (by simp)
theorem spill_eq (m : Nat) (h0 : 0 < m) (h : m < 100) : spill m = (m % 10) :: spill (m / 10) := by
  unfold spill
  rw [if_neg (by omega)]
  by_cases h9 : m < 10
  · rw [if_pos h9, if_pos (by omega : m / 10 = 0), Nat.mod_eq_of_lt h9]
  · rw [if_neg h9, if_neg (by omega), if_pos (by omega)]
theorem spill_dig (m : Nat) (h : m < 100) : ∀ d ∈ spill m, d < 10 := by
  unfold spill
  intro d hd
  split at hd
  · simp at hd
  · split at hd
    · simp at hd; omega
    · simp at hd; omega
theorem spill_len (m : Nat) : (spill m).length ≤ 2 := by unfold spill; split <;> (try split) <;> simp
theorem strip_len (l : List Nat) : (strip l).length ≤ l.length := by
  unfold strip
  rw [List.length_reverse, ← List.length_reverse (as := l)]
  exact (List.dropWhile_sublist _).length_le
theorem strip_mem (l : List Nat) (d : Nat) (h : d ∈ strip l) : d ∈ l := by
  unfold strip at h
  rw [List.mem_reverse] at h
  have := (List.dropWhile_sublist _).subset h
  simpa using this
theorem strip_zero (l : List Nat) : strip (l ++ [0]) = strip l := by simp [strip]
theorem strip_keep (l : List Nat) (d : Nat) (h : d ≠ 0) : strip (l ++ [d]) = l ++ [d] := by simp [strip, h]
theorem times_len (xs : List Nat) (n m : Nat) : (times xs n m).length ≤ xs.length + 2 := by
  unfold times
  refine Nat.le_trans (strip_len _) ?_
  have := spill_len (mul n xs m).2
  rw [List.length_append, mul_len]; omega
theorem times_dig (xs : List Nat) (n m : Nat) (hn : n ≤ 16) (hm : m ≤ 16) (hx : ∀ d ∈ xs, d < 10) : ∀ d ∈ times xs n m, d < 10 := by
  intro d hd
  have := strip_mem _ _ hd
  have hc := mul_carry n xs m hn hm hx
  rcases List.mem_append.1 this with h | h
  · exact mul_dig n xs m d h
  · exact spill_dig _ (by omega) d h

/-- the digits of a literal's letters so far -/
def acc (base : Nat) (l : List Nat) : List Nat := l.foldl (fun x c => times x base (dig c)) []
theorem acc_snoc (base : Nat) (l : List Nat) (c : Nat) : acc base (l ++ [c]) = times (acc base l) base (dig c) := by simp [acc]
theorem acc_len (base : Nat) (l : List Nat) : (acc base l).length ≤ 2 * l.length := by
  have h : ∀ (x : List Nat), (l.foldl (fun x c => times x base (dig c)) x).length ≤ x.length + 2 * l.length := by
    induction l with
    | nil => intro x; simp
    | cons c l ih => intro x; have h1 := ih (times x base (dig c)); have h2 := times_len x base (dig c); simp only [List.foldl_cons, List.length_cons]; omega
  have := h []; simpa [acc] using this
theorem acc_dig (base : Nat) (l : List Nat) (hb : base ≤ 16) (hl : ∀ c ∈ l, dig c < base) : ∀ d ∈ acc base l, d < 10 := by
  have h : ∀ (x : List Nat), (∀ d ∈ x, d < 10) → ∀ d ∈ l.foldl (fun x c => times x base (dig c)) x, d < 10 := by
    induction l with
    | nil => intro x hx; simpa using hx
    | cons c l ih =>
      intro x hx
      simp only [List.foldl_cons]
      have hc := hl c (by simp)
      exact ih (fun c hc => hl c (by simp [hc])) _ (times_dig x base (dig c) hb (by omega) hx)
  exact h [] (by simp)

/-- ten times a number and a digit more -/
theorem mul_ten (xs : List Nat) (a : List Nat) (c : Nat) (hc : c < 10) (hx : ∀ d ∈ xs, d < 10) :
    xs.foldl (step 10) (a, c) = (a ++ (c :: xs).dropLast, (c :: xs).getLast (by simp)) := by
  induction xs generalizing a c with
  | nil => simp
  | cons d xs ih =>
    have hd := hx d (by simp)
    simp only [List.foldl_cons, step]
    rw [show (c + d * 10) % 10 = c by omega, show (c + d * 10) / 10 = d by omega, ih _ _ hd (fun e he => hx e (by simp [he]))]
    simp
theorem last_spill (l : List Nat) (h : l ≠ []) (hx : ∀ d ∈ l, d < 10) (h0 : l.getLast h ≠ 0) : l.dropLast ++ spill (l.getLast h) = l := by
  have hl := hx _ (List.getLast_mem h)
  unfold spill
  rw [if_neg h0, if_pos hl]
  exact List.dropLast_concat_getLast h
theorem strip_last (l : List Nat) (h : l ≠ []) (h0 : l.getLast h ≠ 0) : strip l = l := by
  have e := List.dropLast_concat_getLast h
  have := strip_keep l.dropLast (l.getLast h) h0
  rwa [e] at this
def Canon (xs : List Nat) : Prop := (∀ d ∈ xs, d < 10) ∧ ∀ h : xs ≠ [], xs.getLast h ≠ 0
theorem times_ten (xs : List Nat) (m : Nat) (hm : m < 10) (hx : Canon xs) (h : xs ≠ [] ∨ m ≠ 0) : times xs 10 m = m :: xs := by
  have hall : ∀ d ∈ m :: xs, d < 10 := by
    intro d hd
    rcases List.mem_cons.1 hd with rfl | hd
    · exact hm
    · exact hx.1 d hd
  have hl : (m :: xs).getLast (by simp) ≠ 0 := by
    cases xs with
    | nil => simpa using h
    | cons d r => rw [List.getLast_cons (by simp)]; exact hx.2 (by simp)
  unfold times mul
  rw [mul_ten xs [] m hm hx.1]
  simp only [List.nil_append]
  rw [last_spill _ (by simp) hall hl]
  exact strip_last _ (by simp) hl
theorem times_ten_zero : times [] 10 0 = [] := by decide
theorem canon_cons (xs : List Nat) (m : Nat) (hm : m < 10) (hx : Canon xs) (h : xs ≠ [] ∨ m ≠ 0) : Canon (m :: xs) := by
  refine ⟨?_, fun _ => ?_⟩
  · intro d hd
    rcases List.mem_cons.1 hd with rfl | hd
    · exact hm
    · exact hx.1 d hd
  · cases xs with
    | nil => simpa using h
    | cons d r => rw [List.getLast_cons (by simp)]; exact hx.2 (by simp)
theorem fold_ten (l : List Nat) (x : List Nat) (hx : Canon x) (hl : ∀ c ∈ l, dig c < 10) (h : x ≠ []) :
    l.foldl (fun x c => times x 10 (dig c)) x = (l.map dig).reverse ++ x := by
  induction l generalizing x with
  | nil => simp
  | cons c l ih =>
    have hc := hl c (by simp)
    simp only [List.foldl_cons]
    rw [times_ten x (dig c) hc hx (.inl h), ih _ (canon_cons x _ hc hx (.inl h)) (fun c hc => hl c (by simp [hc])) (by simp)]
    simp
theorem dig_ten (c : Nat) (h : dig c < 10) : 48 ≤ c ∧ c ≤ 57 ∧ dig c + 48 = c := by
  unfold dig at h ⊢
  split at h
  · rename_i h1; rw [if_pos h1]; omega
  · split at h
    · omega
    · split at h <;> omega
/-- the text of what was read: of a decimal literal without needless noughts it is the literal itself, of 0 nothing -/
def text (x : List Nat) : List Nat := (x.map (· + 48)).reverse
theorem text_ten (l : List Nat) (hl : ∀ c ∈ l, dig c < 10) (h0 : ∀ c r, l = c :: r → c ≠ 48 ∨ r = []) (hne : l ≠ []) :
    text (acc 10 l) = if l = [48] then [] else l := by
  cases l with
  | nil => exact absurd rfl hne
  | cons c r =>
    have hc := hl c (by simp)
    obtain ⟨c1, c2, c3⟩ := dig_ten c hc
    by_cases h48 : c = 48
    · have hr : r = [] := by
        rcases h0 c r rfl with h | h
        · exact absurd h48 h
        · exact h
      subst hr; subst h48
      rw [if_pos rfl]; decide
    · rw [if_neg (by simp [h48])]
      have hd : dig c ≠ 0 := by omega
      have hk : Canon [] := ⟨by simp, fun h => absurd rfl h⟩
      unfold text acc
      simp only [List.foldl_cons]
      rw [times_ten [] (dig c) hc hk (.inr hd), fold_ten r _ (canon_cons _ _ hc hk (.inr hd)) (fun c hc => hl c (by simp [hc])) (by simp)]
      have hm : ∀ (l : List Nat), (∀ c ∈ l, dig c < 10) → (l.map dig).map (· + 48) = l := by
        intro l hl
        rw [List.map_map]
        conv => rhs; rw [← List.map_id l]
        apply List.map_congr_left
        intro a ha
        exact (dig_ten a (hl a ha)).2.2
      rw [List.map_append, List.map_reverse, hm r (fun c hc => hl c (by simp [hc]))]
      simp [c3]
/-- two unlike decimal literals are read unlike -/
theorem text_inj (a b : List Nat) (ha : ∀ c ∈ a, dig c < 10) (hb : ∀ c ∈ b, dig c < 10) (ha0 : ∀ c r, a = c :: r → c ≠ 48 ∨ r = []) (hb0 : ∀ c r, b = c :: r → c ≠ 48 ∨ r = [])
    (hna : a ≠ []) (hnb : b ≠ []) (hne : a ≠ b) : text (acc 10 a) ≠ text (acc 10 b) := by
  rw [text_ten a ha ha0 hna, text_ten b hb hb0 hnb]
  by_cases h1 : a = [48] <;> by_cases h2 : b = [48]
  · exact absurd (h1.trans h2.symm) hne
  · rw [if_pos h1, if_neg h2]; exact fun h => hnb h.symm
  · rw [if_neg h1, if_pos h2]; exact hna
  · rw [if_neg h1, if_neg h2]; exact hne

/-- the base that a literal's letters tell -/
def base (l : List Nat) : Nat :=
  if 2 < l.length ∧ l.getD 0 0 = 48 then
    if l.getD 1 0 = 120 ∨ l.getD 1 0 = 88 then 16 else if l.getD 1 0 = 111 ∨ l.getD 1 0 = 79 then 8 else if l.getD 1 0 = 98 ∨ l.getD 1 0 = 66 then 2 else 10
  else 10
def rest (l : List Nat) : List Nat := if base l = 10 then l else l.drop 2
def bad (b : Nat) (l : List Nat) : Prop := l = [] ∨ (b = 10 ∧ 1 < l.length ∧ l.getD 0 0 = 48)
/-- what the second half of Big makes of a base and letters -/
def half (b : Nat) (l : List Nat) : List Nat × Bool :=
  if l = [] ∨ (b = 10 ∧ 1 < l.length ∧ l.getD 0 0 = 48) then ([], false) else if ∀ c ∈ l, dig c < b then (text (acc b l), true) else ([], false)
def big (l : List Nat) : List Nat × Bool := half (base l) (rest l)
theorem base_le (l : List Nat) : base l ≤ 16 := by unfold base; repeat' split
                                                   all_goals omega
/-- of two unlike literals that are known to be decimal the numbers are unlike -/
theorem big_ne (a b : List Nat) (ha : a.length < 2 ∨ a.getD 0 0 ≠ 48) (hb : b.length < 2 ∨ b.getD 0 0 ≠ 48) (oa : (big a).2 = true) (ob : (big b).2 = true) (hne : a ≠ b) : (big a).1 ≠ (big b).1 := by
  have key : ∀ l : List Nat, (l.length < 2 ∨ l.getD 0 0 ≠ 48) → (big l).2 = true → (∀ c ∈ l, dig c < 10) ∧ (∀ c r, l = c :: r → c ≠ 48 ∨ r = []) ∧ l ≠ [] ∧ (big l).1 = text (acc 10 l) := by
    intro l hl ol
    have e : base l = 10 := by
      unfold base
      rw [if_neg]
      intro h
      rcases hl with h1 | h1
      · omega
      · exact h1 h.2
    have er : rest l = l := by unfold rest; rw [if_pos e]
    unfold big at ol ⊢
    rw [e, er] at ol ⊢
    unfold half at ol ⊢
    by_cases hbad : l = [] ∨ (10 = 10 ∧ 1 < l.length ∧ l.getD 0 0 = 48)
    · rw [if_pos hbad] at ol; cases ol
    · rw [if_neg hbad] at ol ⊢
      by_cases hall : ∀ c ∈ l, dig c < 10
      · rw [if_pos hall]
        refine ⟨hall, ?_, fun h => hbad (.inl h), rfl⟩
        rintro c r rfl
        by_cases hc : c = 48
        · right
          rcases hl with h1 | h1
          · exact List.eq_nil_of_length_eq_zero (by simp at h1; omega)
          · exact absurd hc (by simpa using h1)
        · exact .inl hc
      · rw [if_neg hall] at ol; cases ol
  obtain ⟨a1, a2, a3, a4⟩ := key a ha oa
  obtain ⟨b1, b2, b3, b4⟩ := key b hb ob
  rw [a4, b4]
  exact text_inj a b a1 b1 a2 b2 a3 b3 hne
theorem big_plain (l : List Nat) (h : ¬ (2 < l.length ∧ l.getD 0 0 = 48)) : big l = half 10 l := by
  have e : base l = 10 := by unfold base; rw [if_neg h]
  have er : rest l = l := by unfold rest; rw [if_pos e]
  unfold big; rw [e, er]
theorem big_other (l : List Nat) (h1 : ¬ (l.getD 1 0 = 120 ∨ l.getD 1 0 = 88)) (h2 : ¬ (l.getD 1 0 = 111 ∨ l.getD 1 0 = 79)) (h3 : ¬ (l.getD 1 0 = 98 ∨ l.getD 1 0 = 66)) : big l = half 10 l := by
  have e : base l = 10 := by
    unfold base
    by_cases hh : 2 < l.length ∧ l.getD 0 0 = 48
    · rw [if_pos hh, if_neg h1, if_neg h2, if_neg h3]
    · rw [if_neg hh]
  have er : rest l = l := by unfold rest; rw [if_pos e]
  unfold big; rw [e, er]
theorem big_based (l : List Nat) (b : Nat) (h : 2 < l.length ∧ l.getD 0 0 = 48) (hb : (b = 16 ∧ (l.getD 1 0 = 120 ∨ l.getD 1 0 = 88)) ∨ (b = 8 ∧ (l.getD 1 0 = 111 ∨ l.getD 1 0 = 79)) ∨ (b = 2 ∧ (l.getD 1 0 = 98 ∨ l.getD 1 0 = 66))) : big l = half b (l.drop 2) := by
  have e : base l = b := by
    unfold base
    rw [if_pos h]
    rcases hb with ⟨rfl, hc⟩ | ⟨rfl, hc⟩ | ⟨rfl, hc⟩
    · rw [if_pos hc]
    · rw [if_neg (by omega), if_pos hc]
    · rw [if_neg (by omega), if_neg (by omega), if_pos hc]
  have er : rest l = l.drop 2 := by unfold rest; rw [if_neg (by rw [e]; omega)]
  unfold big; rw [e, er]
theorem half_bad (b : Nat) (l : List Nat) (h : l = [] ∨ (b = 10 ∧ 1 < l.length ∧ l.getD 0 0 = 48)) : half b l = ([], false) := by unfold half; rw [if_pos h]
theorem half_no (b : Nat) (l : List Nat) (c : Nat) (hc : c ∈ l) (hd : ¬ dig c < b) : half b l = ([], false) := by
  unfold half
  by_cases h : l = [] ∨ (b = 10 ∧ 1 < l.length ∧ l.getD 0 0 = 48)
  · rw [if_pos h]
  · rw [if_neg h, if_neg (fun h => hd (h c hc))]
theorem half_yes (b : Nat) (l : List Nat) (h : ¬ (l = [] ∨ (b = 10 ∧ 1 < l.length ∧ l.getD 0 0 = 48))) (hd : ∀ c ∈ l, dig c < b) : half b l = (text (acc b l), true) := by
  unfold half; rw [if_neg h, if_pos hd]
theorem text_snoc (xs : List Nat) (d : Nat) : text (xs ++ [d]) = (d + 48) :: text xs := by simp [text]
end Go.Proofs.YtoijbpjlknmpmaaDoor.big
