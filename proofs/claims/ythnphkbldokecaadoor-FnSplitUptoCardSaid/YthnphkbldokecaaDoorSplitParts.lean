/- spec.IsPart, PlatformIndependentPathDirBaseExt, impl.Split. -/
import Derived.Test.YthnphkbldokecaaDoorLastAny
import Derived.Deep.QuietTactic
import Derived.BigQuiet
namespace Go.Proofs.YthnphkbldokecaaDoor.spl
open Go.RowKit
open kit

/-- letters, at least one -/
def Part (s : ByteArray) : Prop := 0 < s.size ∧ ∀ b ∈ s.data.toList, 97 ≤ b.toNat ∧ b.toNat ≤ 122
def IsP (s : ByteArray) (w : World) (e : Ending) (w' : World) : Prop := ∃ v : Bool, e = .returned (.bool v) ∧ (v = true → Part s) ∧ w = w'
set_option maxHeartbeats 800000 in
theorem isPart_any (s : ByteArray) (w : World) (hs : s.size ≤ 1048576) : Calls Tryd.prog 4 #[.string s] w (IsP s w) := by
  go_enter Tryd.func4, Tryd.ntmps4
  go_wp2
  go_loopg [3, 6] s.size (fun g _ s6 wx => ∃ i : Nat, i + g = s.size ∧ s6 = .int .i64 (i : Nat) ∧ wx = w ∧ Hid (∀ b ∈ s.data.toList.take i, 97 ≤ b.toNat ∧ b.toNat ≤ 122))
  case atStart => exact ⟨0, by omega, rfl, rfl, Lib.hid (by simp)⟩
  case round =>
    obtain ⟨i, hig, rfl, rfl, HN⟩ := hrel
    cases gk with
    | zero =>
      obtain rfl : i = s.size := by omega
      clear hig
      by_cases h0 : s.size = 0
      · have h1 : s.toList.isEmpty = true := by
          rw [Lib.toList_data]
          have : s.data.toList = [] := List.eq_nil_of_length_eq_zero (by rw [Array.length_toList]; exact h0)
          rw [this]; rfl
        have H0 := Lib.hid h0
        clear h0
        go_wp2
        all_goals
          go_ret
          exact ⟨_, rfl, by simp_all, rfl⟩
      · have h1 : s.toList.isEmpty = false := by
          rw [Lib.toList_data]
          cases hl : s.data.toList with
          | nil => exact absurd (by have := congrArg List.length hl; rw [Array.length_toList] at this; exact this) h0
          | cons _ _ => rfl
        go_wp2
        all_goals
          go_ret
          refine ⟨_, rfl, fun _ => ⟨by omega, ?_⟩, rfl⟩
          have := HN.out
          rw [List.take_of_length_le (by rw [Array.length_toList]; exact Nat.le_refl _)] at this
          exact this
    | succ g =>
      have hi : i < s.size := by omega
      obtain ⟨x, hx⟩ : ∃ x : UInt8, s[i]'hi = x := ⟨_, rfl⟩
      have ht : s.data.toList.take (i + 1) = s.data.toList.take i ++ [x] := by
        rw [List.take_succ_eq_append_getElem (by rw [Array.length_toList]; exact hi), ← hx]; rfl
      have HT := Lib.hid ht
      have HG := Lib.hid hig
      clear ht hig
      by_cases h1 : x.toNat < 97
      · go_wp2
        go_ret
        exact ⟨false, rfl, (fun h => by cases h), rfl⟩
      by_cases h2 : 122 < x.toNat
      · go_wp2
        go_ret
        exact ⟨false, rfl, (fun h => by cases h), rfl⟩
      go_wp2
      have hg := HG.out
      go_roundg g
      case measure => omega
      case rel =>
        refine ⟨i + 1, by omega, by go_num, rfl, Lib.hid ?_⟩
        rw [HT.out]
        intro b hb
        rcases List.mem_append.1 hb with q | q
        · exact HN.out b q
        · simp at q; subst q; exact ⟨by omega, by omega⟩

/-- what Split gives -/
def Gives (d b x : ByteArray) (w : World) (e : Ending) (w' : World) : Prop := e = .returned (.tuple #[.string d, .string b, .string x]) ∧ Below w.heap.size w w'
/-- a path's end -/
def End (q b x : ByteArray) : Prop := Lib.lastIndexByte q 46 = (b.size : Int) ∧ b.size ≤ q.size ∧ q.extract b.size q.size = x ∧ q.extract 0 b.size = b ∧ Lib.lastIndexByte b 46 = -1 ∧ q.size ≤ 4000000

set_option maxHeartbeats 3200000 in
set_option maxRecDepth 100000 in
theorem dir_none (q b x : ByteArray) (w : World) (h3 : 3 ≤ q.size) (c0 c1 : UInt8) (e0 : q[0]'(by omega) = c0) (e1 : q[1]'(by omega) = c1) (h0 : 97 ≤ c0.toNat) (h0' : c0.toNat ≤ 122) (h1 : c1.toNat ≠ 58)
    (ha : ∀ b ∈ q.data.toList, b.toNat < 128) (hr : ∀ r, Lst q.data.toList r → r = -1) (hE : End q b x) :
    Calls Tryd.prog 6 #[.string q] w (Gives ⟨#[]⟩ b x w) := by
  obtain ⟨k1, k2, k3, k4, k5, k6⟩ := hE
  have A := Lib.hid (lastAny_any q w (by omega) (by omega) ha)
  have R := Lib.hid hr
  have B := Lib.hid (fun W : World => Tryd.strings_LastIndexByte q 46 (by omega) W)
  have B2 := Lib.hid (fun W : World => Tryd.strings_LastIndexByte b 46 (by omega) W)
  rw [k1] at B
  rw [k5] at B2
  have z47 : ((c0.toNat : Int) == 47) = false := beq_eq_false_iff_ne.2 (by omega)
  have z92 : ((c0.toNat : Int) == 92) = false := beq_eq_false_iff_ne.2 (by omega)
  have z58 : ((c1.toNat : Int) == 58) = false := beq_eq_false_iff_ne.2 (by omega)
  have K := Lib.hid (And.intro k3 k4)
  clear ha hr k1 k3 k4 k5
  go_enter Tryd.func6, Tryd.ntmps6
  go_wp2_with fail
  refine wp_loop_rounds 1 ?_
  rw [rounds_succ]
  go_wp2_with fail
  refine A.out.mono ?_
  rintro e w1 ⟨r, rfl, hl, hb⟩
  obtain rfl := R.out r hl
  have HB := Lib.hid hb
  clear hl hb R A
  go_wp2_with fail
  refine (B.out _).mono ?_
  rintro e w2 ⟨rfl, rfl⟩
  clear B
  go_wp2_with fail
  · rw [K.out.2]
    refine (B2.out _).mono ?_
    rintro e w3 ⟨rfl, rfl⟩
    go_wp2_with fail
    go_ret3
    exact ⟨by rw [K.out.1, K.out.2]; rfl, HB.out⟩
  · go_ret3
    exact ⟨by rw [K.out.1, K.out.2]; rfl, HB.out⟩

set_option maxHeartbeats 3200000 in
set_option maxRecDepth 100000 in
theorem dir_some (p d q b x : ByteArray) (w : World) (h3 : 3 ≤ p.size) (hpz : p.size ≤ 4000000) (c0 c1 : UInt8) (e0 : p[0]'(by omega) = c0) (e1 : p[1]'(by omega) = c1) (h0 : 97 ≤ c0.toNat) (h0' : c0.toNat ≤ 122) (h1 : c1.toNat ≠ 58)
    (ha : ∀ b ∈ p.data.toList, b.toNat < 128) (hr : ∀ r, Lst p.data.toList r → r = (d.size : Int)) (hd : d.size + 1 < p.size) (he1 : p.extract 0 d.size = d) (he2 : p.extract (d.size + 1) p.size = q) (hE : End q b x) :
    Calls Tryd.prog 6 #[.string p] w (Gives d b x w) := by
  obtain ⟨k1, k2, k3, k4, k5, k6⟩ := hE
  have A := Lib.hid (lastAny_any p w (by omega) (by omega) ha)
  have R := Lib.hid hr
  have B := Lib.hid (fun W : World => Tryd.strings_LastIndexByte q 46 (by omega) W)
  have B2 := Lib.hid (fun W : World => Tryd.strings_LastIndexByte b 46 (by omega) W)
  rw [k1] at B
  rw [k5] at B2
  have z47 : ((c0.toNat : Int) == 47) = false := beq_eq_false_iff_ne.2 (by omega)
  have z92 : ((c0.toNat : Int) == 92) = false := beq_eq_false_iff_ne.2 (by omega)
  have z58 : ((c1.toNat : Int) == 58) = false := beq_eq_false_iff_ne.2 (by omega)
  have K := Lib.hid (And.intro k3 k4)
  have KP := Lib.hid (And.intro he1 he2)
  have y1 : ((d.size : Int) == -1) = false := beq_eq_false_iff_ne.2 (by omega)
  have y2 : ((d.size : Int) + 1 != (p.size : Int)) = true := bne_iff_ne.2 (by omega)
  have y3 : IntKind.i64.wrap ((d.size : Int) + 1) = (d.size : Int) + 1 := IntWalk.i64_in _ (by omega)
  have y4 : (0 : Int) ≤ (d.size : Int) + 1 := by omega
  have y5 : ((d.size : Int) + 1).toNat = d.size + 1 := by omega
  have y6 : (d.size : Int) + 1 ≤ (p.size : Int) := by omega
  have y7 : (d.size : Int) ≤ (p.size : Int) := by omega
  clear ha hr k1 k3 k4 k5 he1 he2
  go_enter Tryd.func6, Tryd.ntmps6
  go_wp2_with fail
  refine wp_loop_rounds 1 ?_
  rw [rounds_succ]
  go_wp2_with fail
  refine A.out.mono ?_
  rintro e w1 ⟨r, rfl, hl, hb⟩
  obtain rfl := R.out r hl
  have HB := Lib.hid hb
  clear hl hb R A
  go_wp2_with fail
  go_quiet (fail)
  go_wp2_with fail
  rw [KP.out.1, KP.out.2]
  refine (B.out _).mono ?_
  rintro e w2 ⟨rfl, rfl⟩
  clear B
  go_wp2_with fail
  · rw [K.out.2]
    refine (B2.out _).mono ?_
    rintro e w3 ⟨rfl, rfl⟩
    go_wp2_with fail
    go_ret3
    exact ⟨by rw [K.out.1, K.out.2]; rfl, bdrew HB.out⟩
  · go_ret3
    exact ⟨by rw [K.out.1, K.out.2]; rfl, bdrew HB.out⟩
end Go.Proofs.YthnphkbldokecaaDoor.spl
