/- FnSplit's walk: a path of names with an ending has directory, name and ending. -/
import Derived.Test.YthnphkbldokecaaDoorSplitPlain
namespace Go.Proofs.YthnphkbldokecaaDoor.fnSplit
open Go.RowKit
open kit spl

/-- the bulk of texts -/
def strsSize : List ByteArray → Nat
  | [] => 0
  | s :: r => s.size + 1 + strsSize r
theorem strsSize_snoc (l : List ByteArray) (s : ByteArray) : strsSize (l ++ [s]) = strsSize l + s.size + 1 := by
  induction l with
  | nil => simp [strsSize]
  | cons a l ih => simp only [List.cons_append, strsSize, ih]; omega
theorem strsSize_append (l r : List ByteArray) : strsSize (l ++ r) = strsSize l + strsSize r := by
  induction l with
  | nil => simp [strsSize]
  | cons a l ih => simp only [List.cons_append, strsSize, ih]; omega
theorem take_le (l : List ByteArray) (k : Nat) : strsSize (l.take k) ≤ strsSize l := by
  have := strsSize_append (l.take k) (l.drop k)
  rw [List.take_append_drop] at this
  omega
theorem take_next {l : List ByteArray} {k : Nat} {s : ByteArray} (h : l[k]? = some s) : l.take (k + 1) = l.take k ++ [s] := by
  rw [List.take_add_one, h]; rfl
theorem len_le (l : List ByteArray) : l.length ≤ strsSize l := by
  induction l with
  | nil => exact Nat.le_refl _
  | cons a l ih => simp only [strsSize, List.length_cons]; omega

set_option maxHeartbeats 3200000 in
set_option maxRecDepth 100000 in
theorem walk_s (A : Option Addr) (cp : Nat) (ss : List ByteArray) (b x : ByteArray) (w : World) (hR : Rd w w.heap.size A ss.length (ss.map Value.string)) (hsz : strsSize ss + b.size + x.size ≤ 1048576) :
    Calls Tryd.prog 3 #[.slice A ss.length cp, .string b, .string x, .bool false] w fun e w' => e = .returned (.bool true) ∧ Below w.heap.size w w' := by
  have hll := len_le ss
  have HR := Lib.hid hR
  clear hR
  go_enter Tryd.func3, Tryd.ntmps3
  go_wp2_with fail
  go_loopg [10, 11, 12, 20] ss.length (fun g s10 _ _ s20 wx => ∃ (k : Nat) (a : ByteArray), k + g = ss.length ∧ s20 = .int .i64 (k : Nat) ∧ s10 = .string a ∧ Hid (Al 47 k a) ∧ a.size ≤ strsSize (ss.take k) ∧ wx = w)
  case atStart => exact ⟨0, ⟨#[]⟩, by omega, rfl, rfl, Lib.hid (Al.zero _), Nat.zero_le _, rfl⟩
  case round =>
    obtain ⟨k, a, hkg, rfl, rfl, HA, haz, rfl⟩ := hrel
    have htl := take_le ss k
    have HZ := Lib.hid haz
    have haz' : a.size ≤ 1048576 := by omega
    clear haz
    cases gk with
    | zero =>
      obtain rfl : k = ss.length := by omega
      clear hkg htl
      have P1 := Lib.hid (isPart_any b wr (by omega))
      have P2 := Lib.hid (isPart_any x wr (by omega))
      go_wp2_with fail
      refine P1.out.mono ?_
      rintro e w1 ⟨v, rfl, hv, rfl⟩
      have HV := Lib.hid hv
      clear hv P1
      cases v with
      | false =>
        go_wp2_with fail
        go_ret
        exact ⟨rfl, Below.refl _ _⟩
      | true =>
        go_wp2_with fail
        refine P2.out.mono ?_
        rintro e w1 ⟨v, rfl, hv, rfl⟩
        have HX := Lib.hid hv
        clear hv P2
        cases v with
        | false =>
          go_wp2_with fail
          go_ret
          exact ⟨rfl, Below.refl _ _⟩
        | true =>
          have pb := HV.out (by trivial)
          have px := HX.out (by trivial)
          have z1 : ¬ 9223372036854775807 < b.size + 1 := by omega
          have z2 : ¬ 9223372036854775807 < b.size + 1 + x.size := by omega
          have z3 : ¬ 9223372036854775807 < a.size + 1 := by omega
          have z5 : ¬ 9223372036854775807 < 1 + x.size := by omega
          by_cases hn : ss.length = 0
          · have ea : a = ⟨#[]⟩ := HA.out.1 hn
            subst ea
            have X := Lib.hid (fun W : World => impl_of (split_none b x W pb px (by omega)))
            have hq : b ++ ⟨#[46]⟩ ++ x = nm b x := rfl
            have HQ := Lib.hid hq
            have HN := Lib.hid hn
            have hn' : ¬ (0 : Int) < ((ss.length : Nat) : Int) := by omega
            clear hq pb px HV HX hn
            go_wp2_with fail
            rw [HQ.out]
            refine (X.out _).mono ?_
            rintro e w1 ⟨rfl, hb⟩
            have HB := Lib.hid hb
            clear hb X HQ
            go_wp2_with fail
            go_ret
            exact ⟨by simp, HB.out⟩
          · have ga := HA.out.2 (by omega)
            have X := Lib.hid (fun W : World => impl_of (split_some 47 a b x W rfl ga pb px (by omega)))
            have HQ := Lib.hid (show a ++ ⟨#[47]⟩ ++ (b ++ ⟨#[46]⟩ ++ x) = pth 47 a (nm b x) from rfl)
            have hn' : (0 : Int) < ((ss.length : Nat) : Int) := by omega
            have z4 : ¬ 9223372036854775807 < a.size + 1 + (b.size + 1 + x.size) := by omega
            clear pb px HV HX hn ga
            go_wp2_with fail
            rw [HQ.out]
            refine (X.out _).mono ?_
            rintro e w1 ⟨rfl, hb⟩
            have HB := Lib.hid hb
            clear hb X HQ
            go_wp2_with fail
            go_ret
            exact ⟨by simp, HB.out⟩
    | succ g =>
      have hk : k < ss.length := by omega
      obtain ⟨s, hs⟩ : ∃ s, ss[k]? = some s := ⟨_, List.getElem?_eq_getElem hk⟩
      obtain ⟨bl, of, u, rfl, _, hu, hcell⟩ := HR.out.at_ hk
      obtain rfl : u = .string s := by rw [List.getElem?_map, hs] at hu; simpa using hu.symm
      have ht := take_next hs
      have hsn := strsSize_snoc (ss.take k) s
      rw [← ht] at hsn
      have htl2 := take_le ss (k + 1)
      have HT := Lib.hid hsn
      have hsz1 : s.size ≤ 1048576 := by omega
      have hsz2 : a.size + 1 + s.size ≤ 1048576 := by have := HZ.out; omega
      have P1 := Lib.hid (isPart_any s wr hsz1)
      have HG := Lib.hid hkg
      have hki : (k : Int) < ((ss.length : Nat) : Int) := by omega
      clear hs hu ht hsn htl htl2 hkg
      go_wp2_with fail
      refine P1.out.mono ?_
      rintro e w1 ⟨v, rfl, hv, rfl⟩
      have HV := Lib.hid hv
      clear hv P1
      cases v with
      | false =>
        go_wp2_with fail
        go_ret
        exact ⟨rfl, Below.refl _ _⟩
      | true =>
        have z1 : ¬ 9223372036854775807 < a.size + 1 := by omega
        have z2 : ¬ 9223372036854775807 < a.size + 1 + s.size := by omega
        have z3 : ¬ 9223372036854775807 < a.size + s.size := by omega
        by_cases h0 : k = 0
        · subst h0
          go_wp2_with fail
          have hg := HG.out
          go_roundg g
          case measure => omega
          case rel => exact ⟨1, a ++ s, by omega, by go_num, by first | rfl | simp, Lib.hid (HA.out.first (HV.out (by trivial))), by have h1 := HT.out; have h2 := HZ.out; rw [ByteArray.size_append]; rw [Nat.zero_add] at h1; omega, rfl⟩
        · have h0' : (0 : Int) < (k : Int) := by omega
          go_wp2_with fail
          have hg := HG.out
          go_roundg g
          case measure => omega
          case rel => exact ⟨k + 1, a ++ ⟨#[47]⟩ ++ s, by omega, by go_num, by first | rfl | simp, Lib.hid (HA.out.next (by omega) (HV.out (by trivial))), by have := HT.out; have := HZ.out; rw [ByteArray.size_append, ByteArray.size_append]; show a.size + 1 + s.size ≤ _; omega, rfl⟩

set_option maxHeartbeats 3200000 in
set_option maxRecDepth 100000 in
theorem walk_b (A : Option Addr) (cp : Nat) (ss : List ByteArray) (b x : ByteArray) (w : World) (hR : Rd w w.heap.size A ss.length (ss.map Value.string)) (hsz : strsSize ss + b.size + x.size ≤ 1048576) :
    Calls Tryd.prog 3 #[.slice A ss.length cp, .string b, .string x, .bool true] w fun e w' => e = .returned (.bool true) ∧ Below w.heap.size w w' := by
  have hll := len_le ss
  have HR := Lib.hid hR
  clear hR
  go_enter Tryd.func3, Tryd.ntmps3
  go_wp2_with fail
  go_loopg [10, 11, 12, 20] ss.length (fun g s10 _ _ s20 wx => ∃ (k : Nat) (a : ByteArray), k + g = ss.length ∧ s20 = .int .i64 (k : Nat) ∧ s10 = .string a ∧ Hid (Al 92 k a) ∧ a.size ≤ strsSize (ss.take k) ∧ wx = w)
  case atStart => exact ⟨0, ⟨#[]⟩, by omega, rfl, rfl, Lib.hid (Al.zero _), Nat.zero_le _, rfl⟩
  case round =>
    obtain ⟨k, a, hkg, rfl, rfl, HA, haz, rfl⟩ := hrel
    have htl := take_le ss k
    have HZ := Lib.hid haz
    have haz' : a.size ≤ 1048576 := by omega
    clear haz
    cases gk with
    | zero =>
      obtain rfl : k = ss.length := by omega
      clear hkg htl
      have P1 := Lib.hid (isPart_any b wr (by omega))
      have P2 := Lib.hid (isPart_any x wr (by omega))
      go_wp2_with fail
      refine P1.out.mono ?_
      rintro e w1 ⟨v, rfl, hv, rfl⟩
      have HV := Lib.hid hv
      clear hv P1
      cases v with
      | false =>
        go_wp2_with fail
        go_ret
        exact ⟨rfl, Below.refl _ _⟩
      | true =>
        go_wp2_with fail
        refine P2.out.mono ?_
        rintro e w1 ⟨v, rfl, hv, rfl⟩
        have HX := Lib.hid hv
        clear hv P2
        cases v with
        | false =>
          go_wp2_with fail
          go_ret
          exact ⟨rfl, Below.refl _ _⟩
        | true =>
          have pb := HV.out (by trivial)
          have px := HX.out (by trivial)
          have z1 : ¬ 9223372036854775807 < b.size + 1 := by omega
          have z2 : ¬ 9223372036854775807 < b.size + 1 + x.size := by omega
          have z3 : ¬ 9223372036854775807 < a.size + 1 := by omega
          have z5 : ¬ 9223372036854775807 < 1 + x.size := by omega
          by_cases hn : ss.length = 0
          · have ea : a = ⟨#[]⟩ := HA.out.1 hn
            subst ea
            have X := Lib.hid (fun W : World => impl_of (split_none b x W pb px (by omega)))
            have hq : b ++ ⟨#[46]⟩ ++ x = nm b x := rfl
            have HQ := Lib.hid hq
            have HN := Lib.hid hn
            have hn' : ¬ (0 : Int) < ((ss.length : Nat) : Int) := by omega
            clear hq pb px HV HX hn
            go_wp2_with fail
            rw [HQ.out]
            refine (X.out _).mono ?_
            rintro e w1 ⟨rfl, hb⟩
            have HB := Lib.hid hb
            clear hb X HQ
            go_wp2_with fail
            go_ret
            exact ⟨by simp, HB.out⟩
          · have ga := HA.out.2 (by omega)
            have X := Lib.hid (fun W : World => impl_of (split_some 92 a b x W rfl ga pb px (by omega)))
            have HQ := Lib.hid (show a ++ ⟨#[92]⟩ ++ (b ++ ⟨#[46]⟩ ++ x) = pth 92 a (nm b x) from rfl)
            have hn' : (0 : Int) < ((ss.length : Nat) : Int) := by omega
            have z4 : ¬ 9223372036854775807 < a.size + 1 + (b.size + 1 + x.size) := by omega
            clear pb px HV HX hn ga
            go_wp2_with fail
            rw [HQ.out]
            refine (X.out _).mono ?_
            rintro e w1 ⟨rfl, hb⟩
            have HB := Lib.hid hb
            clear hb X HQ
            go_wp2_with fail
            go_ret
            exact ⟨by simp, HB.out⟩
    | succ g =>
      have hk : k < ss.length := by omega
      obtain ⟨s, hs⟩ : ∃ s, ss[k]? = some s := ⟨_, List.getElem?_eq_getElem hk⟩
      obtain ⟨bl, of, u, rfl, _, hu, hcell⟩ := HR.out.at_ hk
      obtain rfl : u = .string s := by rw [List.getElem?_map, hs] at hu; simpa using hu.symm
      have ht := take_next hs
      have hsn := strsSize_snoc (ss.take k) s
      rw [← ht] at hsn
      have htl2 := take_le ss (k + 1)
      have HT := Lib.hid hsn
      have hsz1 : s.size ≤ 1048576 := by omega
      have hsz2 : a.size + 1 + s.size ≤ 1048576 := by have := HZ.out; omega
      have P1 := Lib.hid (isPart_any s wr hsz1)
      have HG := Lib.hid hkg
      have hki : (k : Int) < ((ss.length : Nat) : Int) := by omega
      clear hs hu ht hsn htl htl2 hkg
      go_wp2_with fail
      refine P1.out.mono ?_
      rintro e w1 ⟨v, rfl, hv, rfl⟩
      have HV := Lib.hid hv
      clear hv P1
      cases v with
      | false =>
        go_wp2_with fail
        go_ret
        exact ⟨rfl, Below.refl _ _⟩
      | true =>
        have z1 : ¬ 9223372036854775807 < a.size + 1 := by omega
        have z2 : ¬ 9223372036854775807 < a.size + 1 + s.size := by omega
        have z3 : ¬ 9223372036854775807 < a.size + s.size := by omega
        by_cases h0 : k = 0
        · subst h0
          go_wp2_with fail
          have hg := HG.out
          go_roundg g
          case measure => omega
          case rel => exact ⟨1, a ++ s, by omega, by go_num, by first | rfl | simp, Lib.hid (HA.out.first (HV.out (by trivial))), by have h1 := HT.out; have h2 := HZ.out; rw [ByteArray.size_append]; rw [Nat.zero_add] at h1; omega, rfl⟩
        · have h0' : (0 : Int) < (k : Int) := by omega
          go_wp2_with fail
          have hg := HG.out
          go_roundg g
          case measure => omega
          case rel => exact ⟨k + 1, a ++ ⟨#[92]⟩ ++ s, by omega, by go_num, by first | rfl | simp, Lib.hid (HA.out.next (by omega) (HV.out (by trivial))), by have := HT.out; have := HZ.out; rw [ByteArray.size_append, ByteArray.size_append]; show a.size + 1 + s.size ≤ _; omega, rfl⟩

theorem walk (A : Option Addr) (cp : Nat) (ss : List ByteArray) (b x : ByteArray) (sl : Bool) (w : World) (hR : Rd w w.heap.size A ss.length (ss.map Value.string)) (hsz : strsSize ss + b.size + x.size ≤ 1048576) :
    Calls Tryd.prog 3 #[.slice A ss.length cp, .string b, .string x, .bool sl] w fun e w' => e = .returned (.bool true) ∧ Below w.heap.size w w' := by
  cases sl with
  | false => exact walk_s A cp ss b x w hR hsz
  | true => exact walk_b A cp ss b x w hR hsz
end Go.Proofs.YthnphkbldokecaaDoor.fnSplit
