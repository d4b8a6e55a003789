/- Pairs by their keys, and how they are packed: plain. -/
import Derived.Lib.Hide
namespace Go.Proofs.Ytokafofckjookaa.pk

/-- the last value of a key -/
def look : List (List UInt8 × List UInt8) → List UInt8 → Option (List UInt8)
  | [], _ => none
  | p :: r, k => match look r k with
    | some v => some v
    | none => if p.1 = k then some p.2 else none
theorem look_append (l r : List (List UInt8 × List UInt8)) (k : List UInt8) : look (l ++ r) k = match look r k with
    | some v => some v
    | none => look l k := by
  induction l with
  | nil => simp [look]; split <;> simp_all
  | cons p l ih =>
    rw [List.cons_append, look, ih]
    cases h : look r k <;> simp [look]
theorem look_snoc (l : List (List UInt8 × List UInt8)) (p : List UInt8 × List UInt8) (k : List UInt8) : look (l ++ [p]) k = if p.1 = k then some p.2 else look l k := by
  rw [look_append]
  by_cases h : p.1 = k <;> simp [look, h]
theorem look_none (l : List (List UInt8 × List UInt8)) (k : List UInt8) : look l k = none ↔ ∀ p ∈ l, p.1 ≠ k := by
  induction l with
  | nil => simp [look]
  | cons p l ih =>
    rw [look]
    cases h : look l k with
    | some v =>
      have : ¬ (look l k = none) := by rw [h]; simp
      rw [ih] at this
      refine ⟨fun q => by simp at q, fun hh => absurd (fun q hq => hh q (List.mem_cons_of_mem _ hq)) this⟩
    | none =>
      have := ih.1 h
      by_cases hp : p.1 = k
      · simp [hp]
      · simp [hp]
        exact fun a b hab => this (a, b) hab
theorem look_mem {l : List (List UInt8 × List UInt8)} {k v : List UInt8} (h : look l k = some v) : (k, v) ∈ l := by
  induction l with
  | nil => cases h
  | cons p l ih =>
    rw [look] at h
    cases hl : look l k with
    | some u =>
      rw [hl] at h
      simp at h
      exact List.mem_cons_of_mem _ (ih (by rw [hl, h]))
    | none =>
      rw [hl] at h
      by_cases hp : p.1 = k
      · simp [hp] at h
        subst hp; subst h
        exact List.mem_cons_self
      · simp [hp] at h

/-- strictly by their keys -/
def Srt (o : List (List UInt8 × List UInt8)) : Prop := o.Pairwise fun p q => p.1 < q.1
/-- o are l's pairs, each key once, with what it had last, by key -/
def Is (l o : List (List UInt8 × List UInt8)) : Prop := Srt o ∧ ∀ k v, (k, v) ∈ o ↔ look l k = some v

theorem lt_ne {a b : List UInt8} (h : a < b) : a ≠ b := fun e => by subst e; exact List.lt_irrefl _ h
theorem Srt.nodup {o : List (List UInt8 × List UInt8)} (h : Srt o) : o.Nodup := by
  unfold Srt at h
  exact List.Pairwise.imp (R := fun (p q : List UInt8 × List UInt8) => p.1 < q.1) (S := fun p q => p ≠ q) (fun {a b} hab e => lt_ne hab (by rw [e])) h
theorem Is.uniq {l o o' : List (List UInt8 × List UInt8)} (h : Is l o) (h' : Is l o') : o = o' := by
  refine List.Perm.eq_of_pairwise (le := fun (p q : List UInt8 × List UInt8) => p.1 < q.1) (fun a b _ _ h1 h2 => ?_) h.1 h'.1 ((List.perm_ext_iff_of_nodup h.1.nodup h'.1.nodup).2 fun p => ?_)
  · exact absurd (List.lt_trans h1 h2) (List.lt_irrefl _)
  · obtain ⟨k, v⟩ := p
    rw [h.2, h'.2]
theorem Srt.look {o : List (List UInt8 × List UInt8)} (h : Srt o) {k v : List UInt8} (hm : (k, v) ∈ o) : look o k = some v := by
  induction o with
  | nil => cases hm
  | cons p o ih =>
    have h1 := List.pairwise_cons.1 h
    rw [pk.look]
    rcases List.mem_cons.1 hm with e | e
    · have : pk.look o k = none := (look_none o k).2 fun q hq he => lt_ne (h1.1 q hq) (by rw [← e, he])
      rw [this, ← e]
      simp
    · rw [ih h1.2 e]
theorem Srt.self {o : List (List UInt8 × List UInt8)} (h : Srt o) : Is o o := ⟨h, fun _ _ => ⟨h.look, look_mem⟩⟩
theorem Is.same {l o : List (List UInt8 × List UInt8)} (h : Is l o) (k : List UInt8) : look o k = look l k := by
  cases hl : look l k with
  | some v => exact h.1.look ((h.2 k v).2 hl)
  | none =>
    cases ho : look o k with
    | none => rfl
    | some v => have := (h.2 k v).1 (look_mem ho); rw [hl] at this; cases this

/-- what stands in out behind i rounds of last -/
def Part (l : List (List UInt8 × List UInt8)) (i : Nat) (o : List (List UInt8 × List UInt8)) : Prop :=
  Srt o ∧ ∀ k v, (k, v) ∈ o ↔ (look l k = some v ∧ ∀ p ∈ l.drop i, p.1 ≠ k)
theorem Part.zero (l : List (List UInt8 × List UInt8)) : Part l 0 [] := by
  refine ⟨List.Pairwise.nil, fun k v => ?_⟩
  simp only [List.not_mem_nil, false_iff, List.drop_zero]
  rintro ⟨h1, h2⟩
  rw [(look_none l k).2 h2] at h1
  cases h1
theorem Part.whole {l o : List (List UInt8 × List UInt8)} {i : Nat} (h : Part l i o) (hi : l.length ≤ i) : Is l o := by
  refine ⟨h.1, fun k v => ?_⟩
  rw [h.2, List.drop_of_length_le hi]
  simp
/-- whether a key comes again -/
def again (k : List UInt8) (r : List (List UInt8 × List UInt8)) : Bool := r.any fun q => q.1 == k
theorem again_snoc (k : List UInt8) (r : List (List UInt8 × List UInt8)) (q : List UInt8 × List UInt8) : again k (r ++ [q]) = (again k r || q.1 == k) := by simp [again]
theorem again_false {k : List UInt8} {r : List (List UInt8 × List UInt8)} (h : again k r = false) : ∀ q ∈ r, q.1 ≠ k := by
  intro q hq e
  simp only [again, List.any_eq_false] at h
  exact h q hq (by simp [e])
theorem again_true {k : List UInt8} {r : List (List UInt8 × List UInt8)} (h : again k r = true) : ∃ q ∈ r, q.1 = k := by
  simp only [again, List.any_eq_true] at h
  obtain ⟨q, hq, e⟩ := h
  exact ⟨q, hq, by simpa using e⟩
theorem Part.skip {l o : List (List UInt8 × List UInt8)} {i : Nat} {p : List UInt8 × List UInt8} (h : Part l i o) (hp : l[i]? = some p) (ha : again p.1 (l.drop (i + 1)) = true) : Part l (i + 1) o := by
  obtain ⟨hi, rfl⟩ := List.getElem?_eq_some_iff.1 hp
  refine ⟨h.1, fun k v => ?_⟩
  rw [h.2, List.drop_eq_getElem_cons hi]
  obtain ⟨q, hq, e⟩ := again_true ha
  constructor
  · rintro ⟨h1, h2⟩
    exact ⟨h1, fun r hr => h2 r (List.mem_cons_of_mem _ hr)⟩
  · rintro ⟨h1, h2⟩
    refine ⟨h1, fun r hr => ?_⟩
    rcases List.mem_cons.1 hr with rfl | hr
    · rw [← e]; exact h2 q hq
    · exact h2 r hr
theorem look_at {l : List (List UInt8 × List UInt8)} {i : Nat} {p : List UInt8 × List UInt8} (hp : l[i]? = some p) (ha : again p.1 (l.drop (i + 1)) = false) : look l p.1 = some p.2 := by
  obtain ⟨hi, rfl⟩ := List.getElem?_eq_some_iff.1 hp
  have e : l = l.take i ++ l[i] :: l.drop (i + 1) := by rw [← List.drop_eq_getElem_cons hi, List.take_append_drop]
  have hn : look (l.drop (i + 1)) l[i].1 = none := (look_none _ _).2 (again_false ha)
  have h2 := look_append (l.take i) (l[i] :: l.drop (i + 1)) l[i].1
  rw [← e, look, hn] at h2
  rw [h2]
  simp
/-- where a pair goes in -/
def Gap (o : List (List UInt8 × List UInt8)) (k : List UInt8) (j : Nat) : Prop := ∀ q ∈ o.take j, q.1 < k
theorem Part.put {l o : List (List UInt8 × List UInt8)} {i j : Nat} {p : List UInt8 × List UInt8} (h : Part l i o) (hp : l[i]? = some p) (ha : again p.1 (l.drop (i + 1)) = false) (hg : Gap o p.1 j)
    (hj : ∀ q, o[j]? = some q → ¬ q.1 < p.1) : Part l (i + 1) (o.take j ++ p :: o.drop j) := by
  obtain ⟨hi, hpe⟩ := List.getElem?_eq_some_iff.1 hp
  have hne : ∀ q ∈ o, q.1 ≠ p.1 := fun q hq => by
    have := ((h.2 q.1 q.2).1 hq).2 p (by rw [List.drop_eq_getElem_cons hi, hpe]; exact List.mem_cons_self)
    exact fun e => this e.symm
  have hs : (o.take j ++ o.drop j).Pairwise fun p q => p.1 < q.1 := by rw [List.take_append_drop]; exact h.1
  obtain ⟨s1, s2, s3⟩ := List.pairwise_append.1 hs
  have hgt : ∀ q ∈ o.drop j, p.1 < q.1 := by
    cases hd : o.drop j with
    | nil => intro q hq; cases hq
    | cons q0 r =>
      have hq0 : o[j]? = some q0 := by
        have := congrArg (fun x => x[0]?) hd
        simpa using this
      have h0 : p.1 < q0.1 := by
        have h1 := hj q0 hq0
        have h2 := hne q0 (List.mem_of_getElem? hq0)
        have h3 : p.1 ≤ q0.1 := List.not_lt.1 h1
        rcases List.le_iff_lt_or_eq.1 h3 with h4 | h4
        · exact h4
        · exact absurd h4.symm h2
      intro q hq
      rw [hd] at s2
      rcases List.mem_cons.1 hq with rfl | hq
      · exact h0
      · exact List.lt_trans h0 ((List.pairwise_cons.1 s2).1 q hq)
  refine ⟨List.pairwise_append.2 ⟨s1, List.pairwise_cons.2 ⟨hgt, s2⟩, ?_⟩, fun k v => ?_⟩
  · intro a ha' b hb
    rcases List.mem_cons.1 hb with rfl | hb
    · exact hg a ha'
    · exact s3 a ha' b hb
  · have hl := look_at hp ha
    have hm : (k, v) ∈ o.take j ++ p :: o.drop j ↔ (k, v) = p ∨ (k, v) ∈ o := by
      have e : o = o.take j ++ o.drop j := (List.take_append_drop j o).symm
      rw [List.mem_append, List.mem_cons]
      conv => rhs; rw [e, List.mem_append]
      constructor
      · rintro (a | a | a)
        · exact Or.inr (Or.inl a)
        · exact Or.inl a
        · exact Or.inr (Or.inr a)
      · rintro (a | a | a)
        · exact Or.inr (Or.inl a)
        · exact Or.inl a
        · exact Or.inr (Or.inr a)
    rw [hm, h.2, List.drop_eq_getElem_cons hi, hpe]
    have hn := again_false ha
    constructor
    · rintro (e | ⟨h1, h2⟩)
      · rw [← e] at hl hn
        exact ⟨hl, hn⟩
      · exact ⟨h1, fun q hq => h2 q (List.mem_cons_of_mem _ hq)⟩
    · rintro ⟨h1, h2⟩
      by_cases hk : p.1 = k
      · left
        subst hk
        rw [hl] at h1
        cases h1
        rfl
      · right
        refine ⟨h1, fun q hq => ?_⟩
        rcases List.mem_cons.1 hq with rfl | hq
        · exact hk
        · exact h2 q hq

/-- four bytes, the least first -/
def le4 (n : Nat) : List UInt8 := [UInt8.ofNat n, UInt8.ofNat (n / 256), UInt8.ofNat (n / 65536), UInt8.ofNat (n / 16777216)]
def nat4 (a b c d : UInt8) : Nat := a.toNat + b.toNat * 256 + c.toNat * 65536 + d.toNat * 16777216
theorem nat4_le4 (n : Nat) (h : n < 4294967296) : nat4 (UInt8.ofNat n) (UInt8.ofNat (n / 256)) (UInt8.ofNat (n / 65536)) (UInt8.ofNat (n / 16777216)) = n := by
  unfold nat4
  simp only [UInt8.toNat_ofNat']
  omega
def one (p : List UInt8 × List UInt8) : List UInt8 := le4 p.1.length ++ (p.1 ++ (le4 p.2.length ++ p.2))
def pack : List (List UInt8 × List UInt8) → List UInt8
  | [] => []
  | p :: r => one p ++ pack r
theorem pack_append (a b : List (List UInt8 × List UInt8)) : pack (a ++ b) = pack a ++ pack b := by
  induction a with
  | nil => rfl
  | cons p a ih => rw [List.cons_append, pack, pack, ih, List.append_assoc]
/-- each part is short -/
def Short (o : List (List UInt8 × List UInt8)) : Prop := ∀ p ∈ o, p.1.length < 4294967296 ∧ p.2.length < 4294967296
theorem le4_inj {m n : Nat} (hm : m < 4294967296) (hn : n < 4294967296) (h : le4 m = le4 n) : m = n := by
  simp only [le4, List.cons.injEq, and_true] at h
  rw [← nat4_le4 m hm, ← nat4_le4 n hn, h.1, h.2.1, h.2.2.1, h.2.2.2]
theorem head_inj {x y a b : List UInt8} (hx : x.length < 4294967296) (hy : y.length < 4294967296) (h : le4 x.length ++ (x ++ a) = le4 y.length ++ (y ++ b)) : x = y ∧ a = b := by
  obtain ⟨h1, h2⟩ := List.append_inj h rfl
  exact List.append_inj h2 (le4_inj hx hy h1)
theorem pack_inj : ∀ (a b : List (List UInt8 × List UInt8)), Short a → Short b → pack a = pack b → a = b
  | [], [], _, _, _ => rfl
  | [], q :: b, _, _, h => by simp [pack, one, le4] at h
  | p :: a, [], _, _, h => by simp [pack, one, le4] at h
  | p :: a, q :: b, ha, hb, h => by
    simp only [pack, one, List.append_assoc] at h
    have hp := ha p List.mem_cons_self
    have hq := hb q List.mem_cons_self
    obtain ⟨h1, h2⟩ := head_inj hp.1 hq.1 h
    obtain ⟨h3, h4⟩ := head_inj hp.2 hq.2 h2
    rw [pack_inj a b (fun r hr => ha r (List.mem_cons_of_mem _ hr)) (fun r hr => hb r (List.mem_cons_of_mem _ hr)) h4, Prod.ext h1 h3]
end Go.Proofs.Ytokafofckjookaa.pk
