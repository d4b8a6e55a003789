/- What a path of names reads as: plain. -/
import Derived.Test.YthnphkbldokecaaDoorSplitParts
namespace Go.Proofs.YthnphkbldokecaaDoor.spl

theorem len_size (s : ByteArray) : s.data.toList.length = s.size := by rw [Array.length_toList]; rfl
theorem ba_ext {a b : ByteArray} (h : a.data.toList = b.data.toList) : a = b := by
  apply ByteArray.ext
  exact Array.ext' h
theorem cat_list (a b : ByteArray) : (a ++ b).data.toList = a.data.toList ++ b.data.toList := by rw [ByteArray.data_append, Array.toList_append]
theorem ext_list (s : ByteArray) (i j : Nat) : (s.extract i j).data.toList = (s.data.toList.take j).drop i := by
  rw [ByteArray.data_extract, Array.toList_extract]
  simp [List.extract, List.drop_take]
theorem get_list (s : ByteArray) (k : Nat) (h : k < s.size) : s.data.toList[k]? = some (s[k]'h) := by
  rw [List.getElem?_eq_getElem (by rw [len_size]; exact h), Array.getElem_toList]; rfl
theorem mem_get (s : ByteArray) (k : Nat) (h : k < s.size) : s[k]'h ∈ s.data.toList := List.mem_of_getElem? (get_list s k h)
theorem slash_iff (b : UInt8) : slash b = true ↔ b = 47 ∨ b = 92 := by simp [slash]
/-- of a path: a letter, a point or a slash c -/
def Cls (c b : UInt8) : Prop := (97 ≤ b.toNat ∧ b.toNat ≤ 122) ∨ b = 46 ∨ b = c
theorem no_slash {b : UInt8} (h : (97 ≤ b.toNat ∧ b.toNat ≤ 122) ∨ b = 46) : slash b = false := by
  cases hs : slash b with
  | false => rfl
  | true =>
    rcases (slash_iff b).1 hs with rfl | rfl <;> simp at h
theorem cls_ascii {c b : UInt8} (hc : slash c = true) (h : Cls c b) : b.toNat < 128 := by
  rcases (slash_iff c).1 hc with rfl | rfl <;> rcases h with h | rfl | rfl <;> first | omega | decide
theorem cls_colon {c b : UInt8} (hc : slash c = true) (h : Cls c b) : b.toNat ≠ 58 := by
  rcases (slash_iff c).1 hc with rfl | rfl <;> rcases h with h | rfl | rfl <;> first | omega | decide

theorem lst_at {l u t : List UInt8} {c : UInt8} {r : Int} (h : Lst l r) (hl : l = u ++ c :: t) (hc : slash c = true) (ht : ∀ b ∈ t, slash b = false) : r = ((u.length : Nat) : Int) := by
  rcases h with ⟨_, hn⟩ | ⟨a, c', t', hl', hc', ht', rfl⟩
  · have := hn c (by rw [hl]; simp)
    rw [hc] at this; cases this
  · have e : a ++ c' :: t' = u ++ c :: t := by rw [← hl', hl]
    rcases List.append_eq_append_iff.1 e with ⟨m, h1, h2⟩ | ⟨m, h1, h2⟩
    · cases m with
      | nil => rw [h1]; simp
      | cons x m =>
        simp at h2
        have := ht' c (by rw [h2.2]; simp)
        rw [hc] at this; cases this
    · cases m with
      | nil => rw [h1]; simp
      | cons x m =>
        simp at h2
        have := ht c' (by rw [h2.2]; simp)
        rw [hc'] at this; cases this
theorem lst_none {l : List UInt8} {r : Int} (h : Lst l r) (hn : ∀ b ∈ l, slash b = false) : r = -1 := by
  rcases h with ⟨h, _⟩ | ⟨a, c', t', hl', hc', _, _⟩
  · exact h
  · have := hn c' (by rw [hl']; simp)
    rw [hc'] at this; cases this

theorem bang_list (s : ByteArray) (k : Nat) (b : UInt8) (h : s.data.toList[k]? = some b) : s.data[k]! = b := by
  have hk := (List.getElem?_eq_some_iff.1 h).1
  rw [Array.length_toList] at hk
  rw [getElem!_pos s.data k hk]
  have := (List.getElem?_eq_some_iff.1 h).2
  rw [Array.getElem_toList] at this
  exact this
theorem last_at (s : ByteArray) (u t : List UInt8) (c : UInt8) (hl : s.data.toList = u ++ c :: t) (ht : ∀ b ∈ t, b ≠ c) : Lib.lastIndexByte s (c.toNat : Int) = ((u.length : Nat) : Int) := by
  have hz : s.size = u.length + 1 + t.length := by rw [← len_size, hl]; simp; omega
  have hat : s.data[u.length]! = c := bang_list s _ c (by rw [hl]; simp)
  have hbe : ∀ j, u.length < j → j < s.size → s.data[j]! ≠ c := by
    intro j h1 h2
    have hj : s.data.toList[j]? = some (s[j]'h2) := get_list s j h2
    rw [bang_list s j _ hj]
    have : s[j]'h2 ∈ t := by
      rw [hl, List.getElem?_append_right (by omega)] at hj
      obtain ⟨m, hm⟩ : ∃ m, j - u.length = m + 1 := ⟨j - u.length - 1, by omega⟩
      rw [hm, List.getElem?_cons_succ] at hj
      exact List.mem_of_getElem? hj
    exact ht _ this
  rcases Lib.lastIndexByte_spec s (c.toNat : Int) with ⟨_, hn⟩ | ⟨i, hi, e, hc, hn⟩
  · exact absurd (by rw [hat]) (hn u.length (by omega))
  · rw [e]
    have hic : s.data[i]! = c := by
      apply UInt8.toNat_inj.1
      exact_mod_cast hc
    rcases Nat.lt_trichotomy i u.length with h | h | h
    · exact absurd (by rw [hat]) (hn u.length h (by omega))
    · rw [h]
    · exact absurd hic (hbe i h hi)
theorem last_none (s : ByteArray) (c : UInt8) (h : ∀ b ∈ s.data.toList, b ≠ c) : Lib.lastIndexByte s (c.toNat : Int) = -1 := by
  rcases Lib.lastIndexByte_spec s (c.toNat : Int) with ⟨h1, _⟩ | ⟨i, hi, e, hc, hn⟩
  · exact h1
  · have hj := get_list s i hi
    rw [bang_list s i _ hj] at hc
    exact absurd (UInt8.toNat_inj.1 (by exact_mod_cast hc)) (h _ (mem_get s i hi))
theorem ltr_ne {b : UInt8} (h : 97 ≤ b.toNat ∧ b.toNat ≤ 122) : b ≠ 46 := by
  rintro rfl
  simp at h

/-- a name with an ending -/
def nm (b x : ByteArray) : ByteArray := b ++ ⟨#[46]⟩ ++ x
theorem nm_list (b x : ByteArray) : (nm b x).data.toList = b.data.toList ++ 46 :: x.data.toList := by
  rw [nm, cat_list, cat_list]; simp
theorem nm_size (b x : ByteArray) : (nm b x).size = b.size + 1 + x.size := by
  rw [← len_size, nm_list, List.length_append, List.length_cons, len_size, len_size]; omega
theorem nm_cls {b x : ByteArray} (hb : Part b) (hx : Part x) : ∀ y ∈ (nm b x).data.toList, (97 ≤ y.toNat ∧ y.toNat ≤ 122) ∨ y = 46 := by
  intro y hy
  rw [nm_list] at hy
  rcases List.mem_append.1 hy with h | h
  · exact Or.inl (hb.2 y h)
  · rcases List.mem_cons.1 h with h | h
    · exact Or.inr h
    · exact Or.inl (hx.2 y h)
theorem nm_end {b x : ByteArray} (hb : Part b) (hx : Part x) (hz : b.size + x.size ≤ 3000000) : End (nm b x) b (⟨#[46]⟩ ++ x) := by
  have e := nm_list b x
  refine ⟨?_, by rw [nm_size]; omega, ?_, ?_, ?_, by rw [nm_size]; omega⟩
  · have := last_at (nm b x) b.data.toList x.data.toList 46 e (fun y hy => ltr_ne (hx.2 y hy))
    rw [len_size] at this
    exact this
  · apply ba_ext
    rw [ext_list, List.take_of_length_le (by rw [len_size]; exact Nat.le_refl _), e, List.drop_left' (len_size b), cat_list]
    rfl
  · apply ba_ext
    rw [ext_list, e, List.drop_zero, List.take_left' (len_size b)]
  · exact last_none b 46 (fun y hy => ltr_ne (hb.2 y hy))

/-- names with slashes between -/
def Good (c : UInt8) (a : ByteArray) : Prop := ∃ b0 r, a.data.toList = b0 :: r ∧ (97 ≤ b0.toNat ∧ b0.toNat ≤ 122) ∧ ∀ b ∈ r, Cls c b
def Al (c : UInt8) (k : Nat) (a : ByteArray) : Prop := (k = 0 → a = ⟨#[]⟩) ∧ (0 < k → Good c a)
theorem part_list {s : ByteArray} (h : Part s) : ∃ b0 r, s.data.toList = b0 :: r ∧ (97 ≤ b0.toNat ∧ b0.toNat ≤ 122) ∧ ∀ b ∈ r, 97 ≤ b.toNat ∧ b.toNat ≤ 122 := by
  cases hl : s.data.toList with
  | nil => have := len_size s; rw [hl] at this; have := h.1; simp at *; omega
  | cons b0 r => exact ⟨b0, r, rfl, h.2 b0 (by rw [hl]; simp), fun b hb => h.2 b (by rw [hl]; exact List.mem_cons_of_mem _ hb)⟩
theorem Al.zero (c : UInt8) : Al c 0 ⟨#[]⟩ := ⟨fun _ => rfl, fun h => absurd h (by omega)⟩
theorem Al.first {c : UInt8} {a s : ByteArray} (h : Al c 0 a) (hs : Part s) : Al c 1 (a ++ s) := by
  refine ⟨fun h => absurd h (by omega), fun _ => ?_⟩
  obtain ⟨b0, r, e, h0, hr⟩ := part_list hs
  refine ⟨b0, r, ?_, h0, fun b hb => Or.inl (hr b hb)⟩
  rw [h.1 rfl, cat_list, e]
  rfl
theorem Al.next {c : UInt8} {k : Nat} {a s : ByteArray} (h : Al c k a) (hk : 0 < k) (hs : Part s) : Al c (k + 1) (a ++ ⟨#[c]⟩ ++ s) := by
  refine ⟨fun h => absurd h (by omega), fun _ => ?_⟩
  obtain ⟨b0, r, e, h0, hr⟩ := h.2 hk
  refine ⟨b0, r ++ (c :: s.data.toList), ?_, h0, fun b hb => ?_⟩
  · rw [cat_list, cat_list, e]; simp
  · rcases List.mem_append.1 hb with q | q
    · exact hr b q
    · rcases List.mem_cons.1 q with q | q
      · exact Or.inr (Or.inr q)
      · exact Or.inl (hs.2 b q)
/-- the whole path -/
def pth (c : UInt8) (a q : ByteArray) : ByteArray := a ++ ⟨#[c]⟩ ++ q
theorem pth_list (c : UInt8) (a q : ByteArray) : (pth c a q).data.toList = a.data.toList ++ c :: q.data.toList := by rw [pth, cat_list, cat_list]; simp
theorem pth_size (c : UInt8) (a q : ByteArray) : (pth c a q).size = a.size + 1 + q.size := by
  rw [← len_size, pth_list, List.length_append, List.length_cons, len_size, len_size]; omega
theorem good_size {c : UInt8} {a : ByteArray} (h : Good c a) : 0 < a.size := by
  obtain ⟨b0, r, e, _⟩ := h
  rw [← len_size, e]; simp
theorem get_of {s : ByteArray} {b0 : UInt8} {r : List UInt8} (h : s.data.toList = b0 :: r) (hz : 0 < s.size) : s[0]'hz = b0 := by
  have := get_list s 0 hz
  rw [h] at this
  simpa using this.symm

open kit in
theorem split_none (b x : ByteArray) (w : World) (hb : Part b) (hx : Part x) (hz : b.size + x.size ≤ 3000000) :
    Calls Tryd.prog 6 #[.string (nm b x)] w (Gives ⟨#[]⟩ b (⟨#[46]⟩ ++ x) w) := by
  have hs := nm_size b x
  have h1 := hb.1
  have h2 := hx.1
  obtain ⟨b0, r, e, h0, hr⟩ := part_list hb
  have hc := nm_cls hb hx
  have z0 : (nm b x)[0]'(by omega) = b0 := get_of (r := r ++ 46 :: x.data.toList) (by rw [nm_list, e]; simp) (by omega)
  refine dir_none (nm b x) b _ w (by omega) b0 _ z0 rfl h0.1 h0.2 ?_ ?_ ?_ (nm_end hb hx hz)
  · refine cls_colon (c := 47) rfl ?_
    rcases hc _ (mem_get (nm b x) 1 (by omega)) with q | q
    · exact Or.inl q
    · exact Or.inr (Or.inl q)
  · intro y hy
    refine cls_ascii (c := 47) rfl ?_
    rcases hc y hy with q | q
    · exact Or.inl q
    · exact Or.inr (Or.inl q)
  · intro r hr
    exact lst_none hr fun y hy => no_slash (hc y hy)
theorem split_some (c : UInt8) (a b x : ByteArray) (w : World) (hc : slash c = true) (ha : Good c a) (hb : Part b) (hx : Part x) (hz : a.size + b.size + x.size ≤ 3000000) :
    Calls Tryd.prog 6 #[.string (pth c a (nm b x))] w (Gives a b (⟨#[46]⟩ ++ x) w) := by
  have hs := nm_size b x
  have hp := pth_size c a (nm b x)
  have h1 := hb.1
  have h2 := hx.1
  have h3 := good_size ha
  obtain ⟨b0, r, e, h0, hr⟩ := ha
  have hq := nm_cls hb hx
  have e2 := pth_list c a (nm b x)
  have hcl : ∀ y ∈ (pth c a (nm b x)).data.toList, Cls c y := by
    intro y hy
    rw [e2] at hy
    rcases List.mem_append.1 hy with q | q
    · rw [e] at q
      rcases List.mem_cons.1 q with q | q
      · rw [q]; exact Or.inl h0
      · exact hr y q
    · rcases List.mem_cons.1 q with q | q
      · exact Or.inr (Or.inr q)
      · rcases hq y q with q | q
        · exact Or.inl q
        · exact Or.inr (Or.inl q)
  have z0 : (pth c a (nm b x))[0]'(by omega) = b0 := get_of (r := r ++ c :: (nm b x).data.toList) (by rw [e2, e]; simp) (by omega)
  refine dir_some (pth c a (nm b x)) a (nm b x) b _ w (by omega) (by omega) b0 _ z0 rfl h0.1 h0.2 (cls_colon hc (hcl _ (mem_get _ 1 (by omega)))) (fun y hy => cls_ascii hc (hcl y hy)) ?_ (by omega) ?_ ?_ (nm_end hb hx (by omega))
  · intro r hr
    have := lst_at hr e2 hc (fun y hy => no_slash (hq y hy))
    rw [len_size] at this
    exact this
  · apply ba_ext
    rw [ext_list, e2, List.drop_zero, List.take_left' (len_size a)]
  · apply ba_ext
    rw [ext_list, List.take_of_length_le (by rw [len_size]; exact Nat.le_refl _), e2, List.drop_append, len_size, List.drop_of_length_le (by rw [len_size]; omega)]
    simp
theorem impl_of {p d b x : ByteArray} {w : World} (h : Calls Tryd.prog 6 #[.string p] w (Gives d b x w)) : Calls Tryd.prog 5 #[.string p] w (Gives d b x w) := by
  have H := Lib.hid h
  clear h
  go_enter Tryd.func5, Tryd.ntmps5
  go_wp2_with fail
  refine H.out.mono ?_
  rintro e w1 ⟨rfl, hb⟩
  have HB := Lib.hid hb
  clear hb H
  go_wp2_with fail
  go_ret3
  exact ⟨rfl, HB.out⟩
end Go.Proofs.YthnphkbldokecaaDoor.spl
