/- What stands behind a version's numbers, in plain terms: how two of them are compared, and that the other way round the sign is the contrary one. -/
import Derived.Lib.AtoiAllCases
import Derived.Lib.Bytealg
import Derived.Lib.Strings
import Derived.WalkKit
import Derived.Test.YtoijbpjlknmpmaaDoorCmpPlain
namespace Go.Proofs.YtoijbpjlknmpmaaDoor.back
open Go
open cmp (sgn)

theorem bl_irr : ∀ a : List UInt8, Op.bytesLess a a = false
  | [] => by simp [Op.bytesLess]
  | x :: a => by simp [Op.bytesLess, bl_irr a]
theorem bl_tri : ∀ a b : List UInt8, a ≠ b → Op.bytesLess b a = !Op.bytesLess a b
  | [], [], h => absurd rfl h
  | [], y :: b, _ => by simp [Op.bytesLess]
  | x :: a, [], _ => by simp [Op.bytesLess]
  | x :: a, y :: b, h => by
    by_cases e : x = y
    · subst e
      have hab : a ≠ b := fun e => h (by rw [e])
      simp [Op.bytesLess, bl_tri a b hab]
    · have e' : ¬ y = x := fun q => e q.symm
      have hn : x.toNat ≠ y.toNat := fun q => e (UInt8.toNat_inj.1 q)
      simp only [Op.bytesLess]
      rcases Nat.lt_or_ge x.toNat y.toNat with hl | hl
      · simp [UInt8.lt_iff_toNat_lt, e', hl, show ¬ y.toNat < x.toNat by omega]
      · simp [UInt8.lt_iff_toNat_lt, e, show ¬ x.toNat < y.toNat by omega, show y.toNat < x.toNat by omega]

/-- all bytes are digits -/
def digs (s : ByteArray) : Bool := s.data.toList.all fun c => decide (48 ≤ c.toNat) && decide (c.toNat ≤ 57)
def numOf (l : List UInt8) : Option Int := match Lib.atoiAll l with
  | .ok v => some v
  | _ => none
def num (s : ByteArray) : Option Int := if digs s then numOf s.data.toList else none
theorem num_bd {s : ByteArray} {v : Int} (h : num s = some v) : 0 ≤ v ∧ v ≤ 9223372036854775807 := by
  unfold num at h
  split at h
  case isFalse => cases h
  case isTrue hd =>
    unfold numOf at h
    rcases ha : Lib.atoiAll s.data.toList with u | _ | _
    rotate_left
    · rw [ha] at h; cases h
    · rw [ha] at h; cases h
    · rw [ha] at h
      obtain rfl : u = v := Option.some.inj h
      refine ⟨?_, (Lib.atoiAll_bounds ha).2⟩
      unfold digs at hd
      cases hl : s.data.toList with
      | nil => rw [hl] at ha; cases ha
      | cons c r =>
        rw [hl] at hd ha
        have hc : 48 ≤ c.toNat ∧ c.toNat ≤ 57 := by
          have := List.all_eq_true.1 hd c (by simp)
          simpa using this
        rw [Lib.atoiAll_plain c r (by omega) (by omega)] at ha
        rcases hm : Lib.parseMag (c :: r) with n | _ | _
        rotate_left
        · rw [hm] at ha; cases ha
        · rw [hm] at ha; cases ha
        · rw [hm] at ha
          simp only [Lib.signless] at ha
          split at ha
          · cases ha
          · injection ha with ha
            omega

def ix (s : ByteArray) : Int := Lib.indexByte s.data.toList 46
/-- up to the first point -/
def hd (s : ByteArray) : ByteArray := if ix s = -1 then s else s.extract 0 (ix s).toNat
/-- behind it -/
def rest (s : ByteArray) : ByteArray := if ix s = -1 then ⟨#[]⟩ else s.extract ((ix s).toNat + 1) s.size
theorem rest_size (s : ByteArray) (h : 0 < s.size) : (rest s).size < s.size := by
  unfold rest
  split
  · exact h
  · rw [ByteArray.size_extract]; omega

def hcmp (a b : ByteArray) : Int :=
  match num a, num b with
  | none, none => if Op.bytesLess a.toList b.toList then -1 else 1
  | some x, some y => if x ≠ y then x - y else (a.size : Int) - b.size
  | some _, none => -1
  | none, some _ => 1
theorem sgn_sub (x y : Int) : sgn (y - x) = - sgn (x - y) := by
  rw [show y - x = -(x - y) by omega, cmp.sgn_neg]
theorem hcmp_anti (a b : ByteArray) (h : a.toList ≠ b.toList) : sgn (hcmp b a) = - sgn (hcmp a b) := by
  unfold hcmp
  cases num a with
  | none =>
    cases num b with
    | none =>
      simp only [bl_tri _ _ h]
      cases Op.bytesLess a.toList b.toList <;> simp [sgn]
    | some y => simp [sgn]
  | some x =>
    cases num b with
    | none => simp [sgn]
    | some y =>
      by_cases e : x = y
      · subst e; simp only [ne_eq, not_true_eq_false, if_false]; exact sgn_sub _ _
      · simp only [ne_eq, e, not_false_eq_true, if_true, show ¬ y = x from fun q => e q.symm]; exact sgn_sub _ _

def tl : Nat → ByteArray → ByteArray → Int
  | 0, a, b => (a.size : Int) - b.size
  | f + 1, a, b => if a.size = 0 ∨ b.size = 0 then (a.size : Int) - b.size else if (hd a).toList = (hd b).toList then tl f (rest a) (rest b) else hcmp (hd a) (hd b)
theorem tl_anti (f : Nat) : ∀ a b : ByteArray, sgn (tl f b a) = - sgn (tl f a b) := by
  induction f with
  | zero => intro a b; exact sgn_sub _ _
  | succ f ih =>
    intro a b
    unfold tl
    by_cases h : a.size = 0 ∨ b.size = 0
    · rw [if_pos h, if_pos h.symm]; exact sgn_sub _ _
    · rw [if_neg h, if_neg (fun q => h q.symm)]
      by_cases e : (hd a).toList = (hd b).toList
      · rw [if_pos e, if_pos e.symm]; exact ih _ _
      · rw [if_neg e, if_neg (fun q => e q.symm)]; exact hcmp_anti _ _ e
theorem tl_self (f : Nat) : ∀ a : ByteArray, tl f a a = 0 := by
  induction f with
  | zero => intro a; simp [tl]
  | succ f ih =>
    intro a
    unfold tl
    by_cases h : a.size = 0 ∨ a.size = 0
    · rw [if_pos h]; omega
    · rw [if_neg h, if_pos rfl]; exact ih _
/-- fuel: as much as the first one's bytes serves -/
theorem tl_more (f : Nat) : ∀ (g : Nat) (a b : ByteArray), a.size ≤ f → a.size ≤ g → tl f a b = tl g a b := by
  induction f with
  | zero =>
    intro g a b ha _
    cases g with
    | zero => rfl
    | succ g => unfold tl; rw [if_pos (by omega)]
  | succ f ih =>
    intro g a b ha hg
    cases g with
    | zero => unfold tl; rw [if_pos (by omega)]
    | succ g =>
      unfold tl
      by_cases h : a.size = 0 ∨ b.size = 0
      · rw [if_pos h, if_pos h]
      · rw [if_neg h, if_neg h]
        have := rest_size a (by omega)
        rw [ih g (rest a) (rest b) (by omega) (by omega)]

def cut (s : ByteArray) : ByteArray := ⟨(Lib.trimPrefix s.data.toList [45]).toArray⟩
theorem cut_size (s : ByteArray) : (cut s).size ≤ s.size := by
  have h := Lib.trimPrefix_le s.data.toList [45]
  have h1 : (cut s).size = (Lib.trimPrefix s.data.toList [45]).length := by show (Lib.trimPrefix s.data.toList [45]).toArray.size = _; simp
  have h2 : s.data.toList.length = s.size := by rw [Array.length_toList]; rfl
  omega
/-- what stands behind, compared -/
def beh (s t : ByteArray) : Int := if (s.size = 0) ≠ (t.size = 0) then (t.size : Int) - s.size else tl ((cut s).size + (cut t).size) (cut s) (cut t)
theorem beh_anti (s t : ByteArray) : sgn (beh t s) = - sgn (beh s t) := by
  unfold beh
  by_cases h : (s.size = 0) = (t.size = 0)
  · rw [if_neg (fun q => q h.symm), if_neg (fun q => q h), Nat.add_comm]; exact tl_anti _ _ _
  · rw [if_pos (fun q => h q.symm), if_pos h]; exact sgn_sub _ _
theorem beh_self (s : ByteArray) : beh s s = 0 := by
  unfold beh
  rw [if_neg (fun q => q rfl)]
  exact tl_self _ _
/-- two versions, compared -/
def ver (xs ys : List Int) (s t : ByteArray) : Int := if cmp.dif xs ys ≠ 0 then cmp.dif xs ys else beh s t
theorem ver_anti (xs ys : List Int) (s t : ByteArray) : sgn (ver ys xs t s) = - sgn (ver xs ys s t) := by
  unfold ver
  rw [cmp.dif_anti xs ys]
  by_cases h : cmp.dif xs ys = 0
  · rw [if_neg (by omega), if_neg (by omega)]; exact beh_anti _ _
  · rw [if_pos (by omega), if_pos h]; exact cmp.sgn_neg _
theorem ver_self (xs : List Int) (s : ByteArray) : ver xs xs s s = 0 := by
  unfold ver
  rw [if_neg (by rw [cmp.dif_self]; simp)]
  exact beh_self s
end Go.Proofs.YtoijbpjlknmpmaaDoor.back
