/- Lines of a text in UTF-8, in plain terms: places between signs, how many line ends stand ahead of a place, where its line begins and ends. -/
import Derived.Test.YtpnigcljndjmlaaDoorPt
import Derived.Lib.SpaceUEq
import Derived.Lib.TrimUEq
import Derived.Lib.TrimAscii
namespace Go.Proofs.YtpnigcljndjmlaaDoor.line
open Go
open pt

theorem dec_ch {l : List UInt8} {p : Int} {n : Nat} (h : Ch l p n) : Lib.decodeL l = (p.toNat, n) := by
  rw [Lib.decodeL_N]
  unfold Lib.decodeN
  cases h with
  | one c r h =>
    simp only [List.getD_cons_zero]
    rw [if_pos h]; simp
  | two c b r h1 h2 hb =>
    rw [ct_iff] at hb
    simp only [List.getD_cons_zero, List.getD_cons_succ, List.length_cons]
    rw [if_neg (by omega), if_pos (by omega), if_pos (by omega)]
    congr 1; omega
  | three c b d r h1 h2 hb hd h3 h4 =>
    rw [ct_iff] at hb hd
    simp only [List.getD_cons_zero, List.getD_cons_succ, List.length_cons]
    rw [if_neg (by omega), if_neg (by omega), if_pos (by omega), if_pos (by omega)]
    congr 1; omega
  | four c b d e r h1 h2 hb hd he h3 h4 =>
    rw [ct_iff] at hb hd he
    simp only [List.getD_cons_zero, List.getD_cons_succ, List.length_cons]
    rw [if_neg (by omega), if_neg (by omega), if_neg (by omega), if_pos (by omega), if_pos (by omega)]
    congr 1; omega
theorem rs_ct (b : UInt8) (h : ct b = true) : Lib.runeStartB b = false := by rw [ct_iff] at h; unfold Lib.runeStartB; simp; omega
theorem rs_lead (c : UInt8) (h : 194 ≤ c.toNat) : Lib.runeStartB c = true := by
  have := c.toNat_lt
  unfold Lib.runeStartB; simp; omega
theorem last4 (t : List UInt8) (c0 c1 c2 c3 : UInt8) (h3 : 128 ≤ c3.toNat) (h2 : Lib.runeStartB c2 = false) (h1 : Lib.runeStartB c1 = false) (h0 : Lib.runeStartB c0 = true) (hd : (Lib.decodeL [c0, c1, c2, c3]).2 = 4) :
    Lib.decodeLastL (t ++ [c0, c1, c2, c3]) = Lib.decodeL [c0, c1, c2, c3] := by
  have g1 := Lib.getD_app_end t [c0, c1, c2, c3] 1 (by omega) (by simp)
  have g2 := Lib.getD_app_end t [c0, c1, c2, c3] 2 (by omega) (by simp)
  have g3 := Lib.getD_app_end t [c0, c1, c2, c3] 3 (by omega) (by simp)
  have g4 := Lib.getD_app_end t [c0, c1, c2, c3] 4 (by omega) (by simp)
  have hl : (t ++ [c0, c1, c2, c3]).length = t.length + 4 := by simp
  have hs : Lib.lastStart (t ++ [c0, c1, c2, c3]) = (t ++ [c0, c1, c2, c3]).length - 4 := by
    unfold Lib.lastStart
    simp only [g2, g3, g4]
    rw [if_neg (by omega)]
    simp only [List.length_cons, List.length_nil, List.getD_cons_succ, List.getD_cons_zero, Nat.reduceAdd, Nat.reduceSub, h2, h1, h0, Bool.false_eq_true, if_false, if_true]
    rw [if_neg (by omega), if_neg (by omega)]
  have hdrop := Lib.drop_app_end t [c0, c1, c2, c3]
  unfold Lib.decodeLastL
  rw [if_neg (by simp), g1, if_neg (by simp; omega), hs]
  simp only [List.length_cons, List.length_nil] at hdrop
  simp only [hdrop, hd]
  rw [if_pos (by omega)]
theorem decLast_ch {l : List UInt8} {p : Int} {n k : Nat} (h : Ch (l.drop k) p n) : Lib.decodeLastL (l.take (k + n)) = (p.toNat, n) := by
  rw [List.take_add]
  generalize l.take k = t
  generalize l.drop k = m at h
  cases h with
  | one c r h => simp only [List.take_succ_cons, List.take_zero]; rw [Lib.decodeLastL_ascii t c h]; simp
  | two c b r h1 h2 hb =>
    have e := dec_ch (Ch.two c b [] h1 h2 hb)
    simp only [List.take_succ_cons, List.take_zero]
    rw [Lib.last2 t c b (by rw [ct_iff] at hb; omega) (rs_lead c h1) (by rw [e]), e]
  | three c b d r h1 h2 hb hd h3 h4 =>
    have e := dec_ch (Ch.three c b d [] h1 h2 hb hd h3 h4)
    simp only [List.take_succ_cons, List.take_zero]
    rw [Lib.last3 t c b d (by rw [ct_iff] at hd; omega) (rs_ct b hb) (rs_lead c (by omega)) (by rw [e]), e]
  | four c b d f r h1 h2 hb hd he h3 h4 =>
    have e := dec_ch (Ch.four c b d f [] h1 h2 hb hd he h3 h4)
    simp only [List.take_succ_cons, List.take_zero]
    rw [last4 t c b d f (by rw [ct_iff] at he; omega) (rs_ct d hd) (rs_ct b hb) (rs_lead c (by omega)) (by rw [e]), e]

/-- does the sign end a line? -/
def T (p : Int) : Bool := p == 10 || p == 13 || p == 8232 || p == 8233
/-- the line ends ahead, behind the sign p at place k -/
def cnt (l : List UInt8) (k : Nat) (p : Int) (c : Nat) : Nat :=
  if p = 10 then (if k = 0 ∨ (l.getD (k - 1) 0).toNat ≠ 13 then c + 1 else c) else if T p = true then c + 1 else c
def frm (k : Nat) (p : Int) (f : Nat) : Nat := if T p = true then k else f
/-- behind j signs stands place k; c line ends ahead; the line begins at f -/
inductive At (l : List UInt8) : Nat → Nat → Nat → Nat → Prop
  | start : At l 0 0 0 0
  | step {j k c f : Nat} {p : Int} {n : Nat} (h : At l j k c f) (hc : Ch (l.drop k) p n) : At l (j + 1) (k + n) (cnt l k p c) (frm (k + n) p f)
theorem At.det {l : List UInt8} {j k c f k' c' f' : Nat} (h : At l j k c f) (h' : At l j k' c' f') : k = k' ∧ c = c' ∧ f = f' := by
  induction j generalizing k c f k' c' f' with
  | zero => cases h; cases h'; exact ⟨rfl, rfl, rfl⟩
  | succ j ih =>
    cases h with
    | step h hc =>
      cases h' with
      | step h' hc' =>
        obtain ⟨rfl, rfl, rfl⟩ := ih h h'
        obtain ⟨rfl, rfl⟩ := hc.det hc'
        exact ⟨rfl, rfl, rfl⟩
theorem At.lt {l : List UInt8} {j k c f j' k' c' f' : Nat} (h : At l j k c f) (h' : At l j' k' c' f') (hj : j < j') : k < k' := by
  induction h' with
  | start => omega
  | step h1 hc ih =>
    rename_i m k2 c2 f2 p n
    have hn := hc.len
    by_cases hjm : j = m
    · subst hjm
      obtain ⟨rfl, _, _⟩ := h.det h1
      omega
    · have := ih (by omega)
      omega
theorem At.same {l : List UInt8} {j k c f j' c' f' : Nat} (h : At l j k c f) (h' : At l j' k c' f') : j = j' ∧ c = c' ∧ f = f' := by
  have hj : j = j' := by
    rcases Nat.lt_trichotomy j j' with q | q | q
    · have := h.lt h' q; omega
    · exact q
    · have := h'.lt h q; omega
  subst hj
  exact ⟨rfl, (h.det h').2⟩
theorem At.le {l : List UInt8} {j k c f : Nat} (h : At l j k c f) : k ≤ l.length ∧ c ≤ k ∧ f ≤ k ∧ j ≤ k := by
  induction h with
  | start => simp
  | step h hc ih =>
    have hn := hc.len
    rw [List.length_drop] at hn
    refine ⟨by omega, ?_, ?_, by omega⟩
    · unfold cnt; (repeat' split) <;> omega
    · unfold frm; split <;> omega
/-- between two places there is a sign -/
theorem At.next {l : List UInt8} {j k c f j' k' c' f' : Nat} (h : At l j k c f) (h' : At l j' k' c' f') (hk : k < k') : ∃ p n, Ch (l.drop k) p n ∧ k + n ≤ k' := by
  induction h' with
  | start => omega
  | step h1 hc ih =>
    rename_i m k2 c2 f2 p n
    have hn := hc.len
    by_cases hk2 : k < k2
    · obtain ⟨q, b, hq, hb⟩ := ih hk2
      exact ⟨q, b, hq, by omega⟩
    · by_cases he : k = k2
      · subst he; exact ⟨p, n, hc, Nat.le_refl _⟩
      · exfalso
        have h2 : m < j := by
          rcases Nat.lt_trichotomy j m with q | q | q
          · have := h.lt h1 q; omega
          · subst q; have := h.det h1; omega
          · exact q
        by_cases h3 : j = m + 1
        · subst h3; have := h.det (At.step h1 hc); omega
        · have := (At.step h1 hc).lt h (by omega); omega
/-- ahead of a place stands a sign, or it is the first -/
theorem At.prev {l : List UInt8} {j k c f : Nat} (h : At l j k c f) (hk : 0 < k) : ∃ j0 k0 c0 f0 p n, k = k0 + n ∧ Ch (l.drop k0) p n ∧ At l j0 k0 c0 f0 ∧ c = cnt l k0 p c0 ∧ f = frm k p f0 := by
  cases h with
  | start => omega
  | step h hc => exact ⟨_, _, _, _, _, _, rfl, hc, h, rfl, rfl⟩
/-- a place further back, with the one asked for not behind it -/
theorem At.prev_ge {l : List UInt8} {k j' k' c' f' k0 n : Nat} {p : Int} (h' : At l j' k' c' f') (hk : k' < k) (hc : Ch (l.drop k0) p n) (e : k = k0 + n) (j0 c0 f0 : Nat) (h0 : At l j0 k0 c0 f0) : k' ≤ k0 := by
  rcases Nat.lt_or_ge k0 k' with q | q
  · obtain ⟨p2, n2, hc2, hle⟩ := h0.next h' q
    obtain ⟨rfl, rfl⟩ := hc.det hc2
    omega
  · exact q
theorem At.vld {l : List UInt8} (hv : Vld l) {j k c f : Nat} (h : At l j k c f) : Vld (l.drop k) := by
  induction h with
  | start => exact hv
  | step h hc ih =>
    have hn := hc.len
    obtain ⟨p, n, hc', hr⟩ := ih.next (by intro q; rw [q] at hn; simp at hn; omega)
    obtain ⟨rfl, rfl⟩ := hc.det hc'
    rw [List.drop_drop] at hr
    exact hr
/-- the line goes on up to place e -/
inductive Fin (l : List UInt8) : Nat → Nat → Prop
  | last {k : Nat} (h : k = l.length) : Fin l k k
  | stop {k : Nat} {p : Int} {n : Nat} (hc : Ch (l.drop k) p n) (ht : T p = true) : Fin l k k
  | go {k e : Nat} {p : Int} {n : Nat} (hc : Ch (l.drop k) p n) (ht : T p = false) (h : Fin l (k + n) e) : Fin l k e
theorem no_ch {l : List UInt8} {k : Nat} {p : Int} {n : Nat} (hc : Ch (l.drop k) p n) (h : k = l.length) : False := by
  have := hc.len
  rw [List.length_drop] at this
  omega
theorem Fin.det {l : List UInt8} {k e e' : Nat} (h : Fin l k e) (h' : Fin l k e') : e = e' := by
  induction h with
  | last h =>
    cases h' with
    | last _ => rfl
    | stop _ _ => rfl
    | go hc _ _ => exact (no_ch hc h).elim
  | stop hc ht =>
    cases h' with
    | last _ => rfl
    | stop _ _ => rfl
    | go hc' ht' _ =>
      obtain ⟨rfl, _⟩ := hc.det hc'
      rw [ht] at ht'; cases ht'
  | go hc ht _ ih =>
    cases h' with
    | last h => exact (no_ch hc h).elim
    | stop hc' ht' =>
      obtain ⟨rfl, _⟩ := hc.det hc'
      rw [ht] at ht'; cases ht'
    | go hc' ht' h2 =>
      obtain ⟨rfl, rfl⟩ := hc.det hc'
      exact ih h2
theorem Fin.le {l : List UInt8} {k e : Nat} (h : Fin l k e) (hk : k ≤ l.length) : k ≤ e ∧ e ≤ l.length := by
  induction h with
  | last h => omega
  | stop hc ht => omega
  | go hc ht _ ih =>
    have hn := hc.len
    rw [List.length_drop] at hn
    have := ih (by omega)
    omega
/-- back over a sign that ends no line -/
theorem Fin.back {l : List UInt8} {k e : Nat} {p : Int} {n : Nat} (h : Fin l (k + n) e) (hc : Ch (l.drop k) p n) (ht : T p = false) : Fin l k e := .go hc ht h
/-- forth over it -/
theorem Fin.forth {l : List UInt8} {k e : Nat} {p : Int} {n : Nat} (h : Fin l k e) (hc : Ch (l.drop k) p n) (ht : T p = false) : Fin l (k + n) e := by
  cases h with
  | last h => exact (no_ch hc h).elim
  | stop hc' ht' =>
    obtain ⟨rfl, _⟩ := hc.det hc'
    rw [ht] at ht'; cases ht'
  | go hc' _ h2 =>
    obtain ⟨rfl, rfl⟩ := hc.det hc'
    exact h2
end Go.Proofs.YtpnigcljndjmlaaDoor.line
