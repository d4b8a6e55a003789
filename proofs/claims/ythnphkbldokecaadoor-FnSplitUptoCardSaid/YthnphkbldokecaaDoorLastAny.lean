/- strings.LastIndexAny of an ASCII text, at slashes; the last rune of an ASCII text; spec.IsPart. -/
import Derived.Test.YthnphkbldokecaaDoorRows
import Derived.Test.YthnphkbldokecaaDoorKit
import Derived.Test.YthnphkbldokecaaDoorShelf
import Derived.WalkKit
import Derived.ProofKit
import Derived.IntWalk
import Derived.WalkSpells
import Derived.Deep.LoopGhost
import Derived.Deep.DeepCutAuto
import Derived.Deep.WholeRow
import Derived.Lib.Strings
import Derived.Lib.AsciiSet
import Derived.Lib.IndexAny
import Derived.Lib.LastIndexByte
import Derived.Outline
namespace Go.Proofs.YthnphkbldokecaaDoor.spl
open Go.RowKit
open kit

def slash (b : UInt8) : Bool := ([47, 92] : List UInt8).contains b
/-- the last slash's place, or -1 -/
def Lst (l : List UInt8) (r : Int) : Prop :=
  (r = -1 ∧ ∀ b ∈ l, slash b = false) ∨ ∃ a c t, l = a ++ c :: t ∧ slash c = true ∧ (∀ b ∈ t, slash b = false) ∧ r = ((a.length : Nat) : Int)
def LA (s : ByteArray) (w : World) (e : Ending) (w' : World) : Prop := ∃ r : Int, e = .returned (.int .i64 r) ∧ Lst s.data.toList r ∧ Below w.heap.size w w'
/-- none from k on -/
def NoF (l : List UInt8) (k : Nat) : Prop := ∀ b ∈ l.drop k, slash b = false
theorem NoF.start (s : ByteArray) : NoF s.data.toList s.size := by
  intro b hb
  rw [List.drop_of_length_le (by rw [Array.length_toList]; exact Nat.le_refl _)] at hb
  cases hb
theorem drop_at (s : ByteArray) (k : Nat) (h : k < s.size) : s.data.toList.drop k = (s[k]'h) :: s.data.toList.drop (k + 1) := by
  have hl : k < s.data.toList.length := by rw [Array.length_toList]; exact h
  rw [List.drop_eq_getElem_cons hl, Array.getElem_toList]; rfl
theorem NoF.step {s : ByteArray} {k : Nat} (h : NoF s.data.toList (k + 1)) (hk : k < s.size) (hn : slash (s[k]'hk) = false) : NoF s.data.toList k := by
  intro b hb
  rw [drop_at s k hk] at hb
  rcases List.mem_cons.1 hb with rfl | hb
  · exact hn
  · exact h b hb
theorem NoF.hit {s : ByteArray} {k : Nat} (h : NoF s.data.toList (k + 1)) (hk : k < s.size) (hn : slash (s[k]'hk) = true) : Lst s.data.toList (k : Int) := by
  refine Or.inr ⟨s.data.toList.take k, s[k]'hk, s.data.toList.drop (k + 1), ?_, hn, h, ?_⟩
  · rw [← drop_at s k hk, List.take_append_drop]
  · rw [List.length_take, Array.length_toList]
    have : s.data.size = s.size := rfl
    omega
theorem NoF.none {s : ByteArray} (h : NoF s.data.toList 0) : Lst s.data.toList (-1) := Or.inl ⟨rfl, fun b hb => h b (by rw [List.drop_zero]; exact hb)⟩

theorem info_set : (Tryd.prog.info? 32).map (fun i => (i.zero, i.size)) = some (some (.agg (Array.replicate 256 (.bool false))), 256) := by kernel_rfl
theorem sl_ascii : ∀ (j : Nat) b, (⟨#[47, 92]⟩ : ByteArray).data.toList[j]? = some b → b.toNat < 128 := by
  intro j b h
  match j, h with
  | 0, h => simp at h; subst h; decide
  | 1, h => simp at h; subst h; decide

set_option maxHeartbeats 8000000 in
set_option maxRecDepth 1000000 in
theorem lastAny_long (s : ByteArray) (w : World) (h8 : 8 < s.size) (hs : s.size < 4294967281) :
    Calls Tryd.prog 7 #[.string s, .string ⟨#[47, 92]⟩] w (LA s w) := by
  have hM := Lib.hid (Tryd.strings_makeASCIISet (zero_of_info info_set).1 ⟨#[47, 92]⟩ w (by decide) sl_ascii)
  have hn1 : ((s.size : Int) == 1) = false := beq_eq_false_iff_ne.2 (by omega)
  have h8z : decide ((8 : Int) < (s.size : Int)) = true := decide_eq_true (by omega)
  obtain ⟨C, hC⟩ : ∃ C, C = Lib.setCells ([47, 92] : List UInt8) := ⟨_, rfl⟩
  have hsc : (storeCells ⟨w.heap.size + 1, 0, none⟩ C.toList 0).run Tryd.prog ((w.alloc (.cells C 32)).alloc (.cells (Array.replicate 256 (.bool false)) 32)) = .ok () ((w.alloc (.cells C 32)).alloc (.cells C 32)) := by
    have := run_storeCells_new (P := Tryd.prog) (w.alloc (.cells C 32)) 32 (Array.replicate 256 (.bool false)) C (by rw [hC, Lib.setCells_size]; kernel_rfl) (by rw [hC, Lib.setCells_size, Array.size_replicate]) (by rw [hC]; exact Lib.setCells_one _)
    simpa using this
  have HS := Lib.hid hsc
  have hsz : C.size = 256 := by rw [hC]; exact Lib.setCells_size _
  have HC := Lib.hid (fun x : UInt8 => show ((w.alloc (.cells C 32)).alloc (.cells C 32)).cell? ⟨w.heap.size + 1, x.toNat, none⟩ = some (.bool (slash x)) by
    rw [World.cell?_alloc_at _ _ _ _ (by simp), hC, Lib.setCells_at]; rfl)
  have HM := Lib.hid (show Calls Tryd.prog 11 #[.string ⟨#[47, 92]⟩] w fun e w' => e = .returned (.tuple #[.agg C, .bool true]) ∧ w' = w.alloc (.cells C 32) by rw [hC]; exact hM.out)
  clear hsc hC hM
  go_enter Tryd.func7, Tryd.ntmps7
  go_wp2_with (first
    | (go_at_call 10; refine (Tryd.strings_shouldUseASCIISet _ _).mono ?_; rintro e w' ⟨rfl, hw⟩; rw [hw, h8z])
    | (go_at_call 11; refine HM.out.mono ?_; rintro e w' ⟨rfl, hw⟩; rw [hw]))
  rw [(zero_of_info info_set).1]
  go_wp2
  simp only [Result.andThen, HS.out]
  rw [Oper.upon_skip]
  go_wp2
  clear HM HS
  go_loopg [8] s.size (fun g s8 wx => s8 = .int .i64 ((g : Int) - 1) ∧ g ≤ s.size ∧ wx = ((w.alloc (.cells C 32)).alloc (.cells C 32)) ∧ NoF s.data.toList g)
  case atStart => exact ⟨rfl, Nat.le_refl _, rfl, NoF.start s⟩
  case round =>
    obtain ⟨rfl, hg, rfl, hno⟩ := hrel
    have HN := Lib.hid hno
    clear hno
    cases gk with
    | zero =>
      go_wp2
      go_ret
      exact ⟨-1, rfl, NoF.none HN.out, balloc (by simp) (balloc (Nat.le_refl _) (Below.refl _ _))⟩
    | succ g =>
      have hi : g < s.size := by omega
      have e1 : ((g + 1 : Nat) : Int) - 1 = (g : Int) := by omega
      rw [e1]
      have hiz : (g : Int) < (s.size : Int) := by omega
      obtain ⟨x, hx⟩ : ∃ x : UInt8, s[g]'hi = x := ⟨_, rfl⟩
      have Hx := Lib.hid hx
      have hcx := HC.out x
      clear e1
      cases hin : slash x <;> rw [hin] at hcx
      · go_wp2_with (go_at_call 12; refine (Tryd.asciiSet_contains _ x _ _ hcx).mono ?_; rintro e w' ⟨rfl, hw⟩; rw [hw])
        go_roundg g
        case measure => omega
        case rel => exact ⟨rfl, by omega, rfl, HN.out.step hi (by rw [Hx.out]; exact hin)⟩
      · go_wp2_with (go_at_call 12; refine (Tryd.asciiSet_contains _ x _ _ hcx).mono ?_; rintro e w' ⟨rfl, hw⟩; rw [hw])
        go_ret
        exact ⟨g, rfl, NoF.hit HN.out hi (by rw [Hx.out]; exact hin), balloc (by simp) (balloc (Nat.le_refl _) (Below.refl _ _))⟩

/-- the last byte of an ASCII text -/
theorem decLast (s : ByteArray) (k : Nat) (w : World) (hk : s.size = k + 1) (hs : s.size ≤ 1000000000) (x : UInt8) (e3 : k < s.size) (hx : s[k]'e3 = x) (ha : x.toNat < 128) :
    Calls Tryd.prog 13 #[.string s] w fun e w' => e = .returned (.tuple #[.int .i32 x.toNat, .int .i64 1]) ∧ w' = w := by
  have e0 : ((s.size : Int) == 0) = false := beq_eq_false_iff_ne.2 (by omega)
  have e1 : (s.size : Int) - 1 = (k : Int) := by omega
  have e2 : (k : Int) < (s.size : Int) := by omega
  have e4 : (x.toNat : Int) < 128 := by omega
  have H1 := Lib.hid hk
  clear hk
  go_enter Tryd.func13, Tryd.ntmps13
  go_wp2_with fail
  go_ret2
  exact ⟨rfl, rfl⟩

theorem idxRune (x : UInt8) (w : World) (ha : x.toNat < 128) :
    Calls Tryd.prog 9 #[.string ⟨#[47, 92]⟩, .int .i32 x.toNat] w fun e w' => ∃ n : Int, e = .returned (.int .i64 n) ∧ slash x = decide (0 ≤ n) ∧ w = w' := by
  refine (Tryd.strings_IndexRune_ascii ⟨#[47, 92]⟩ (x.toNat : Int) w (by omega) (by omega)).mono ?_
  rintro e w' ⟨rfl, rfl⟩
  refine ⟨_, rfl, ?_, rfl⟩
  have e1 : ((x.toNat : Int)).toNat.toUInt8 = x := by simp
  rw [e1]
  exact Lib.contains_iff_indexByte [47, 92] x

theorem head_at (s : ByteArray) (k : Nat) (h : k < s.size) : ∃ h' : k < (s.extract 0 (k + 1)).size, (s.extract 0 (k + 1))[k]'h' = s[k]'h := by
  have hz : (s.extract 0 (k + 1)).size = k + 1 := by rw [ByteArray.size_extract]; omega
  refine ⟨by omega, ?_⟩
  rw [ByteArray.getElem_extract]
  simp

set_option maxHeartbeats 1600000 in
set_option maxRecDepth 100000 in
theorem lastAny_short (s : ByteArray) (w : World) (h2 : 2 ≤ s.size) (h8 : s.size ≤ 8) (ha : ∀ b ∈ s.data.toList, b.toNat < 128) :
    Calls Tryd.prog 7 #[.string s, .string ⟨#[47, 92]⟩] w (LA s w) := by
  have hn1 : ((s.size : Int) == 1) = false := beq_eq_false_iff_ne.2 (by omega)
  have h8z : decide ((8 : Int) < (s.size : Int)) = false := decide_eq_false (by omega)
  have HA := Lib.hid ha
  clear ha
  go_enter Tryd.func7, Tryd.ntmps7
  go_wp2_with (go_at_call 10; refine (Tryd.strings_shouldUseASCIISet _ _).mono ?_; rintro e w' ⟨rfl, hw⟩; rw [hw, h8z])
  go_loopg [13, 14, 15] s.size (fun g s13 _ _ wx => s13 = .int .i64 (g : Int) ∧ g ≤ s.size ∧ wx = w ∧ NoF s.data.toList g)
  case atStart => exact ⟨rfl, Nat.le_refl _, rfl, NoF.start s⟩
  case round =>
    obtain ⟨rfl, hg, rfl, hno⟩ := hrel
    have HN := Lib.hid hno
    clear hno
    cases gk with
    | zero =>
      go_wp2
      go_ret
      exact ⟨-1, rfl, NoF.none HN.out, Below.refl _ _⟩
    | succ g =>
      have hi : g < s.size := by omega
      obtain ⟨h', hx'⟩ := head_at s g hi
      obtain ⟨x, hx⟩ : ∃ x : UInt8, s[g]'hi = x := ⟨_, rfl⟩
      have hxa : x.toNat < 128 := HA.out x (by rw [← hx]; show s.data[g] ∈ _; exact Array.mem_toList_iff.2 (Array.getElem_mem _))
      have Hx := Lib.hid hx
      have X := Lib.hid (decLast (s.extract 0 (g + 1)) g wr (by rw [ByteArray.size_extract]; omega) (by rw [ByteArray.size_extract]; omega) x h' (hx'.trans hx) hxa)
      have Y := Lib.hid (idxRune x wr hxa)
      clear hx hx' h'
      have c1 : (0 : Int) < ((g + 1 : Nat) : Int) := by omega
      have c2 : ((g + 1 : Nat) : Int) ≤ (s.size : Int) := by omega
      go_wp2_with fail
      refine X.out.mono ?_
      rintro e w' ⟨rfl, rfl⟩
      clear X
      go_wp2_with fail
      refine Y.out.mono ?_
      rintro e w' ⟨n, rfl, hn, rfl⟩
      cases hin : slash x with
      | false =>
        have hd : decide (0 ≤ n) = false := by rw [← hn, hin]
        clear hn Y
        go_wp2_with fail
        go_roundg g
        case measure => omega
        case rel => exact ⟨by go_num, by omega, rfl, HN.out.step hi (by rw [Hx.out]; exact hin)⟩
      | true =>
        have hd : decide (0 ≤ n) = true := by rw [← hn, hin]
        clear hn Y
        go_wp2_with fail
        go_ret
        exact ⟨g, by simp, NoF.hit HN.out hi (by rw [Hx.out]; exact hin), Below.refl _ _⟩
theorem lastAny_any (s : ByteArray) (w : World) (h2 : 2 ≤ s.size) (hs : s.size < 4294967281) (ha : ∀ b ∈ s.data.toList, b.toNat < 128) :
    Calls Tryd.prog 7 #[.string s, .string ⟨#[47, 92]⟩] w (LA s w) := by
  by_cases h8 : s.size ≤ 8
  · exact lastAny_short s w h2 h8 ha
  · exact lastAny_long s w (by omega) hs
end Go.Proofs.YthnphkbldokecaaDoor.spl
