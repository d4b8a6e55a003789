/- FnPackedValue's walk. -/
import Derived.Test.YtokafofckjookaaMapP
import Derived.Test.YtokafofckjookaaPackedLaw
import Derived.Test.YtokafofckjookaaOpensP
namespace Go.Proofs.Ytokafofckjookaa.fnPackedValue
open Go.RowKit
open kit bld pk
open fnPacked (oneA oneA_fits oneA_at)

theorem oneA_look : pk.look oneA [97] = some [] := by rfl

set_option maxHeartbeats 3200000 in
set_option maxRecDepth 100000 in
theorem walk0 (A : Option Addr) (cp : Nat) (l : List (List UInt8 × List UInt8)) (kk : List UInt8) (w : World) (h : opens.PArg w A cp l) (hk : kk.length ≤ 1048576) :
    Calls Try.prog 5 #[.slice A l.length cp, .string ⟨kk.toArray⟩] w fun e w' => e = .returned (.bool true) ∧ Below w.heap.size w w' := by
  have hz := h.len
  have H := Lib.hid h
  clear h
  go_enter Try.func5, Try.ntmps5
  go_wp2_with fail
  go_loopg [5, 6, 8, 15] l.length (fun g s5 s6 _ s15 wx => ∃ (i : Nat) (wv : List UInt8) (th : Bool), i + g = l.length ∧ s15 = .int .i64 (i : Nat) ∧ s5 = .string ⟨wv.toArray⟩ ∧ s6 = .bool th ∧ Hid (wv = (pk.look (l.take i) kk).getD [] ∧ th = (pk.look (l.take i) kk).isSome) ∧ Hid (Below w.heap.size w wx))
  case atStart => exact ⟨0, [], false, by omega, rfl, rfl, rfl, Lib.hid ⟨rfl, rfl⟩, Lib.hid (Below.refl _ _)⟩
  case round =>
    obtain ⟨i, wv, th, hig, rfl, rfl, rfl, HL, HB⟩ := hrel
    have hbz := HB.out.size
    cases gk with
    | zero =>
      obtain rfl : i = l.length := by omega
      have hl := HL.out
      rw [List.take_length] at hl
      have X1 := Lib.hid (value_any l A cp kk wr ((H.out.rp.keep HB.out).more HB.out.size) H.out.fits hz hk)
      unfold Pv at X1
      rw [← hl.1, ← hl.2] at X1
      clear hig hl HL
      go_wp2_with fail
      refine X1.out.mono ?_
      rintro e w2 ⟨rfl, hb2⟩
      have HB2 := Lib.hid (HB.out.trans (hb2.mono HB.out.size))
      have X2 := Lib.hid (value_any oneA (some ⟨w2.heap.size, 0, none⟩) 1 [97] (w2.alloc (.cells #[.string ⟨#[97]⟩, .string ⟨#[]⟩] 25)) (oneA_at w2) oneA_fits (by decide) (by decide))
      unfold Pv at X2
      rw [oneA_look] at X2
      clear X1 hb2
      go_wp2_with fail
      refine X2.out.mono ?_
      rintro e w3 ⟨rfl, hb3⟩
      have HB3 := Lib.hid ((balloc (o := .cells #[.string ⟨#[97]⟩, .string ⟨#[]⟩] 25) HB2.out.size HB2.out).trans (hb3.mono (by rw [World.size_alloc]; have := HB2.out.size; omega)))
      clear X2 hb3
      go_wp2_with fail
      go_ret
      exact ⟨by simp, HB3.out⟩
    | succ g =>
      have hil : i < l.length := by omega
      obtain ⟨⟨k, v⟩, hp⟩ : ∃ p, l[i]? = some p := ⟨_, List.getElem?_eq_getElem hil⟩
      obtain ⟨bl, of, rfl, hbl, hcs⟩ := H.out.rp.keep HB.out (by omega)
      have c0 := (hcs i _ hp).1
      have c1 := (hcs i _ hp).2
      have HT := Lib.hid (show l.take (i + 1) = l.take i ++ [(k, v)] by rw [List.take_add_one, hp]; rfl)
      have HG := Lib.hid hig
      have hil' : (i : Int) < (l.length : Int) := by omega
      have hbr : bl < wr.heap.size := by omega
      clear hp hcs hig
      go_wp2_with fail
      · have hq : k = kk := by simpa using (by assumption : (k == kk) = true)
        have hg := HG.out
        go_roundg g
        case measure => omega
        case rel => exact ⟨i + 1, v, true, by omega, by go_num, rfl, rfl, Lib.hid (by rw [HT.out, look_snoc]; simp [hq]), Lib.hid (HB.out.alloc hbz _)⟩
      · have hq : ¬ k = kk := by simpa using (by assumption : (k == kk) = false)
        have hg := HG.out
        go_roundg g
        case measure => omega
        case rel => exact ⟨i + 1, wv, th, by omega, by go_num, rfl, rfl, Lib.hid (by rw [HT.out, look_snoc, if_neg hq]; exact HL.out), Lib.hid (HB.out.alloc hbz _)⟩
theorem walk (A : Option Addr) (cp : Nat) (l : List (List UInt8 × List UInt8)) (key : ByteArray) (w : World) (h : opens.PArg w A cp l) (hk : key.size ≤ 1048576) :
    Calls Try.prog 5 #[.slice A l.length cp, .string key] w fun e w' => e = .returned (.bool true) ∧ Below w.heap.size w w' := by
  have := walk0 A cp l key.data.toList w h (by rw [Array.length_toList]; exact hk)
  rw [opens.str_back] at this
  exact this
end Go.Proofs.Ytokafofckjookaa.fnPackedValue
