/- Walks of splitOffNextPreReleasePart and preReleasePartToNumber. -/
import Derived.Test.YtoijbpjlknmpmaaDoorCmpWalk
import Derived.Test.YtoijbpjlknmpmaaDoorBackPlain
import Derived.Test.YtoijbpjlknmpmaaDoorShelfB
import Derived.Laws.RangeAny
import Derived.Lib.SmallJoins
import Derived.Deep.QuietTactic
import Derived.BigQuiet
import Derived.Laws.RangeString
import Derived.Outline
namespace Go.Proofs.YtoijbpjlknmpmaaDoor.back
open Go.RowKit
open kit cmp

/-- the variable holds an error, or none -/
def ErrAt (g : Nat) (w : World) : Prop := ∃ ev, w.cell? ⟨g, 0, none⟩ = some ev ∧ (ev = .nilIface ∨ ∃ te pe, ev = .iface te pe)
def Errs (w : World) : Prop := ErrAt 2 w ∧ ErrAt 3 w
theorem ErrAt.keep {g : Nat} {w w' : World} (h : ErrAt g w) (hb : Below w.heap.size w w') : ErrAt g w' := by
  obtain ⟨ev, hc, he⟩ := h
  exact ⟨ev, (hb.cell (p := ⟨g, 0, none⟩) (World.block_lt_of_cell? w _ hc)).trans hc, he⟩
theorem Errs.keep {w w' : World} (h : Errs w) (hb : Below w.heap.size w w') : Errs w' := ⟨h.1.keep hb, h.2.keep hb⟩

theorem ib_bd (l : List UInt8) (c : UInt8) : Lib.indexByte l c = -1 ∨ (0 ≤ Lib.indexByte l c ∧ Lib.indexByte l c < l.length) := by
  induction l with
  | nil => exact .inl rfl
  | cons b l ih =>
    unfold Lib.indexByte
    by_cases h : (b == c) = true
    · rw [if_pos h]; right; simp
    · rw [if_neg h]
      rcases ih with h1 | ⟨h1, h2⟩
      · left; rw [h1]; rfl
      · right
        have h3 : (Lib.indexByte l c == -1) = false := by rw [beq_eq_false_iff_ne]; omega
        rw [h3]
        simp
        omega
theorem ix_nat (s : ByteArray) (h : ix s ≠ -1) : ∃ k : Nat, ix s = (k : Int) ∧ k < s.size := by
  have hl : s.data.toList.length = s.size := by rw [Array.length_toList]; rfl
  rcases ib_bd s.data.toList 46 with h1 | ⟨h1, h2⟩
  · exact absurd h1 h
  · exact ⟨(ix s).toNat, by show Lib.indexByte _ _ = _; unfold ix; omega, by unfold ix; omega⟩

theorem split_any (s : ByteArray) (w : World) (hs : s.size ≤ 140737488351232) :
    Calls Tryd.prog 27 #[.string s] w fun e w' => e = .returned (.tuple #[.string (hd s), .string (rest s)]) ∧ Below w.heap.size w w' := by
  have X := Lib.hid (fun W : World => Tryd.strings_IndexByte s 46 W)
  rw [show ((46 : Int).toNat.toUInt8) = 46 from rfl] at X
  by_cases h : ix s = -1
  · have H1 : Hid (hd s = s) := by show _ = _; unfold hd; rw [if_pos h]
    have H2 : Hid (rest s = ⟨#[]⟩) := by show _ = _; unfold rest; rw [if_pos h]
    unfold ix at h
    rw [h] at X
    clear h
    go_enter Tryd.func27, Tryd.ntmps27
    go_wp2_with fail
    refine (X.out _).mono ?_
    rintro e w' ⟨rfl, hw⟩
    obtain rfl := hw.symm
    go_wp2_with fail
    go_ret2
    exact ⟨by rw [H1.out, H2.out]; rfl, Below.refl _ _⟩
  · obtain ⟨k, hk, hks⟩ := ix_nat s h
    have H1 : Hid (hd s = s.extract 0 k) := by show _ = _; unfold hd; rw [if_neg h, hk]; rfl
    have H2 : Hid (rest s = s.extract (k + 1) s.size) := by show _ = _; unfold rest; rw [if_neg h, hk]; rfl
    have hk1 : ((k : Int) != -1) = true := by simp
    have hk2 : (0 : Int) ≤ (k : Int) := by omega
    have hk3 : (k : Int) ≤ (s.size : Int) := by omega
    have hk4 : (k : Int) + 1 ≤ (s.size : Int) := by omega
    have hk5 : IntKind.i64.wrap ((k : Int) + 1) = (k : Int) + 1 := IntWalk.i64_in _ (by omega)
    have hk6 : ((k : Int) + 1).toNat = k + 1 := by omega
    have hk7 : (0 : Int) ≤ (k : Int) + 1 := by omega
    clear h
    unfold ix at hk
    rw [hk] at X
    clear hk
    go_enter Tryd.func27, Tryd.ntmps27
    go_wp2_with fail
    refine (X.out _).mono ?_
    rintro e w' ⟨rfl, hw⟩
    obtain rfl := hw.symm
    go_wp2_with fail
    go_quiet (fail)
    go_wp2_with fail
    go_ret2
    exact ⟨by rw [H1.out, H2.out]; rfl, bdrew (Below.refl _ _)⟩

theorem hd_size (s : ByteArray) : (hd s).size ≤ s.size := by
  unfold hd
  split
  · omega
  · rw [ByteArray.size_extract]; omega
theorem rest_le (s : ByteArray) : (rest s).size ≤ s.size := by
  unfold rest
  split
  · show 0 ≤ _; omega
  · rw [ByteArray.size_extract]; omega

def Part (o : Option Int) (w : World) (e : Ending) (w' : World) : Prop :=
  ∃ v : Int, e = .returned (.tuple #[.int .i64 v, .bool o.isSome]) ∧ (∀ x, o = some x → v = x) ∧ Below w.heap.size w w'

theorem digs_at {s : ByteArray} (h : digs s = true) (k : Nat) (hk : k < s.size) : 48 ≤ (s[k]'hk).toNat ∧ (s[k]'hk).toNat ≤ 57 := by
  unfold digs at h
  have := List.all_eq_true.1 h (s[k]'hk) (by
    have : s[k]'hk = s.data.toList[k]'(by rw [Array.length_toList]; exact hk) := by rw [Array.getElem_toList]; rfl
    rw [this]; exact List.getElem_mem _)
  simpa using this
theorem digs_of {s : ByteArray} (h : ∀ k (hk : k < s.size), 48 ≤ (s[k]'hk).toNat ∧ (s[k]'hk).toNat ≤ 57) : digs s = true := by
  unfold digs
  rw [List.all_eq_true]
  intro c hc
  obtain ⟨k, hk, rfl⟩ := List.getElem_of_mem hc
  have hk' : k < s.size := by rw [Array.length_toList] at hk; exact hk
  have := h k hk'
  have e : s.data.toList[k] = s[k]'hk' := by rw [Array.getElem_toList]; rfl
  rw [e]
  simpa using this

def Dg (s : ByteArray) (pos : Nat) : Prop := ∀ k (hk : k < s.size), k < pos → 48 ≤ (s[k]'hk).toNat ∧ (s[k]'hk).toNat ≤ 57

theorem below_iter (w : World) (s : ByteArray) (pos : Nat) : Below w.heap.size w (w.iter s pos) := (Below.refl _ _).alloc (Nat.le_refl _) _

set_option maxHeartbeats 1600000 in
theorem part_no (s : ByteArray) (w : World) (_hs : s.size ≤ 140737488351232) (hd : digs s = false) :
    Calls Tryd.prog 28 #[.string s] w fun e w' => e = .returned (.tuple #[.int .i64 0, .bool false]) ∧ Below w.heap.size w w' := by
  have HD := Lib.hid hd
  clear hd
  go_enter Tryd.func28, Tryd.ntmps28
  go_wp2_with fail
  go_loopg [] s.size (fun g wr => ∃ pos, pos + g = s.size ∧ wr = w.iter s pos ∧ Dg s pos)
  case atStart => exact ⟨0, by omega, rfl, fun k _ h => absurd h (by omega)⟩
  case round =>
    obtain ⟨pos, hpg, rfl, hdg⟩ := hrel
    have HG := Lib.hid hpg
    clear hpg
    have HDG := Lib.hid hdg
    clear hdg
    by_cases hp : pos < s.size
    · by_cases ha : (s[pos]'hp).toNat < 128
      · have hnx : ∀ ty, (Instr.next (.pointer (some ⟨w.heap.size, 0, none⟩)) true ty).run Tryd.prog (w.iter s pos) = _ := fun ty => run_next_ascii w s pos ty hp ha
        obtain ⟨c, hc⟩ : ∃ c, c = (s[pos]'hp).toNat := ⟨_, rfl⟩
        rw [← hc] at hnx ha
        have HC := Lib.hid hc
        clear hc
        by_cases h1 : c < 48
        · go_wp2_with fail
          go_ret2
          exact ⟨rfl, below_iter w s _⟩
        · by_cases h2 : 57 < c
          · go_wp2_with fail
            go_ret2
            exact ⟨rfl, below_iter w s _⟩
          · go_wp2_with fail
            have hg := HG.out
            have hc := HC.out
            go_roundg (gk - 1)
            case measure => omega
            case rel =>
              refine ⟨pos + 1, by omega, rfl, fun k hk hlt => ?_⟩
              rcases Nat.lt_or_ge k pos with h | h
              · exact HDG.out k hk h
              · obtain rfl : k = pos := by omega
                omega
      · have hnx : ∀ ty, (Instr.next (.pointer (some ⟨w.heap.size, 0, none⟩)) true ty).run Tryd.prog (w.iter s pos) = _ := fun ty => run_next_any w s pos ty hp
        have hh := (decode_high s pos hp (by omega)).1
        have hle := decode_le s pos
        obtain ⟨c, hc⟩ : ∃ c, c = (Utf8.decode s pos).1 := ⟨_, rfl⟩
        obtain ⟨d, hd⟩ : ∃ d, d = (Utf8.decode s pos).2 := ⟨_, rfl⟩
        rw [← hc, ← hd] at hnx
        rw [← hc] at hh hle
        clear hc hd
        have h1 : ¬ c < 48 := by omega
        have h2 : 57 < c := by omega
        go_wp2_with fail
        go_ret2
        exact ⟨rfl, below_iter w s _⟩
    · exfalso
      have hg := HG.out
      have : digs s = true := digs_of fun k hk => HDG.out k hk (by omega)
      rw [HD.out] at this
      cases this

/-- where the rest speaks of the digits -/
def Atoi (s : ByteArray) (w : World) : Prop := Calls Tryd.prog 34 #[.string s] w fun e w' => ∃ v : Int, (numOf s.data.toList = some v ∧ e = .returned (.tuple #[.int .i64 v, .nilIface]) ∧ Below w.heap.size w w' ∨ (numOf s.data.toList = none ∧ ∃ t p, e = .returned (.tuple #[.int .i64 v, .iface t p]) ∧ Below w.heap.size w w'))
theorem atoi_any (s : ByteArray) (w : World) (hs : s.size ≤ 140737488351232) (he : Errs w) : Atoi s w := by
  obtain ⟨⟨e1, hc1, hx1⟩, ⟨e2, hc2, hx2⟩⟩ := he
  unfold Atoi
  rcases ha : Lib.atoiAll s.data.toList with v | _ | _
  · have hn : numOf s.data.toList = some v := by unfold numOf; rw [ha]
    refine (Tryd.strconv_Atoi_ok s (by omega) v ha w).mono ?_
    rintro e w' ⟨rfl, hw⟩
    refine ⟨v, .inl ⟨hn, rfl, ?_⟩⟩
    rcases hw with rfl | ⟨t, rfl⟩
    · exact Below.refl _ _
    · exact Joins.below_bytesWorld _ _ _ _ (Nat.le_refl _)
  · have hn : numOf s.data.toList = none := by unfold numOf; rw [ha]
    refine (Tryd.strconv_Atoi_syntax s (by omega) ha e1 w hc1 hx1).mono ?_
    rintro e w' ⟨N, rfl, _, _, hb⟩
    exact ⟨0, .inr ⟨hn, _, _, rfl, hb⟩⟩
  · have hn : numOf s.data.toList = none := by unfold numOf; rw [ha]
    refine (Tryd.strconv_Atoi_range s (by omega) ha e2 w hc2 hx2).mono ?_
    rintro e w' ⟨N, rfl, _, _, hb⟩
    exact ⟨_, .inr ⟨hn, _, _, rfl, hb⟩⟩

set_option maxHeartbeats 1600000 in
theorem part_yes (s : ByteArray) (w : World) (hs : s.size ≤ 140737488351232) (hd : digs s = true) (he : Errs w) :
    Calls Tryd.prog 28 #[.string s] w (Part (numOf s.data.toList) w) := by
  have HD := Lib.hid hd
  have X := Lib.hid (atoi_any s (w.iter s s.size) hs (he.keep (below_iter w s _)))
  clear hd he
  go_enter Tryd.func28, Tryd.ntmps28
  go_wp2_with fail
  go_loopg [] s.size (fun g wr => ∃ pos, pos + g = s.size ∧ wr = w.iter s pos)
  case atStart => exact ⟨0, by omega, rfl⟩
  case round =>
    obtain ⟨pos, hpg, rfl⟩ := hrel
    have HG := Lib.hid hpg
    have hle : pos ≤ s.size := by omega
    clear hpg
    by_cases hp : pos < s.size
    · have hd := digs_at HD.out pos hp
      have hnx : ∀ ty, (Instr.next (.pointer (some ⟨w.heap.size, 0, none⟩)) true ty).run Tryd.prog (w.iter s pos) = _ := fun ty => run_next_ascii w s pos ty hp (by omega)
      obtain ⟨c, hc⟩ : ∃ c, c = (s[pos]'hp).toNat := ⟨_, rfl⟩
      rw [← hc] at hnx hd
      clear hc
      obtain ⟨h1, h2⟩ := hd
      go_wp2_with fail
      have hg := HG.out
      go_roundg (gk - 1)
      case measure => omega
      case rel => exact ⟨pos + 1, by omega, rfl⟩
    · obtain rfl : pos = s.size := by omega
      clear hle
      have hnx : ∀ ty, (Instr.next (.pointer (some ⟨w.heap.size, 0, none⟩)) true ty).run Tryd.prog (w.iter s s.size) = _ := fun ty => run_next_end w s s.size ty hp
      clear hp
      go_wp2_with fail
      refine X.out.mono ?_
      rintro e w' ⟨v, ⟨hn, rfl, hb⟩ | ⟨hn, t, p, rfl, hb⟩⟩
      · have HN := Lib.hid hn
        clear hn
        have hW : Below w.heap.size w w' := (below_iter w s _).trans (hb.mono (below_iter w s _).size)
        clear hb X
        go_wp2_with fail
        go_quiet (fail)
        go_wp2_with fail
        go_ret2
        exact ⟨v, by rw [HN.out]; rfl, fun x hx => by rw [HN.out] at hx; exact Option.some.inj hx, bdrew hW⟩
      · have HN := Lib.hid hn
        clear hn
        have hW : Below w.heap.size w w' := (below_iter w s _).trans (hb.mono (below_iter w s _).size)
        clear hb X
        go_wp2_with fail
        go_quiet (fail)
        go_wp2_with fail
        go_ret2
        exact ⟨v, by rw [HN.out]; rfl, fun x hx => (by rw [HN.out] at hx; cases hx), bdrew hW⟩

theorem part_any (s : ByteArray) (w : World) (hs : s.size ≤ 140737488351232) (he : Errs w) :
    Calls Tryd.prog 28 #[.string s] w (Part (num s) w) := by
  cases hd : digs s with
  | true =>
    have : num s = numOf s.data.toList := by unfold num; rw [if_pos hd]
    rw [this]
    exact part_yes s w hs hd he
  | false =>
    have : num s = none := by unfold num; rw [hd]; rfl
    rw [this]
    refine (part_no s w hs hd).mono ?_
    rintro e w' ⟨rfl, hb⟩
    exact ⟨0, rfl, fun x hx => (by cases hx), hb⟩
end Go.Proofs.YtoijbpjlknmpmaaDoor.back
