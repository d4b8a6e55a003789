/- FnPacked's walk. -/
import Derived.Test.YtokafofckjookaaLast
import Derived.Test.YtokafofckjookaaPackedW
import Derived.Test.YtokafofckjookaaEqlP
import Derived.Test.YtokafofckjookaaOpensP
namespace Go.Proofs.Ytokafofckjookaa.fnPacked
open Go.RowKit
open kit bld pk

/-- one pair, "a" and nothing -/
def oneA : List (List UInt8 × List UInt8) := [([97], [])]
theorem oneA_is : Is oneA oneA := Srt.self (List.pairwise_singleton _ _)
theorem oneA_fits : Fits oneA := fun p hp => by
  simp [oneA] at hp
  subst hp
  decide
theorem oneA_at (w : World) : Rp (w.alloc (.cells #[.string ⟨#[97]⟩, .string ⟨#[]⟩] 25)) (w.alloc (.cells #[.string ⟨#[97]⟩, .string ⟨#[]⟩] 25)).heap.size (some ⟨w.heap.size, 0, none⟩) oneA := by
  intro _
  refine ⟨w.heap.size, 0, rfl, by simp, fun i p hp => ?_⟩
  match i, hp with
  | 0, hp =>
    simp [oneA] at hp
    subst hp
    simp

set_option maxHeartbeats 3200000 in
set_option maxRecDepth 100000 in
theorem walk (A : Option Addr) (cp : Nat) (l : List (List UInt8 × List UInt8)) (w : World) (h : opens.PArg w A cp l) :
    Calls Try.prog 4 #[.slice A l.length cp] w fun e w' => e = .returned (.bool true) ∧ Below w.heap.size w w' := by
  have hz := h.len
  have H := Lib.hid h
  have X1 := Lib.hid (last_any l A cp w h.rp h.cap hz)
  clear h
  go_enter Try.func4, Try.ntmps4
  go_wp2_with fail
  refine X1.out.mono ?_
  rintro e w1 ⟨v1, o1, rfl, h1, hI1, hz1, hb1⟩
  have X2 := Lib.hid (packs_any l A cp w1 ((H.out.rp.keep hb1).more hb1.size) H.out.fits hz)
  obtain ⟨A1, c1, rfl, r1⟩ := Rp.of_own h1
  have HI1 := Lib.hid hI1
  have HB1 := Lib.hid hb1
  have H1 := Lib.hid r1
  clear X1 h1 hI1 hb1 r1
  go_wp2_with fail
  refine X2.out.mono ?_
  rintro e w2 ⟨v2, o2, rfl, h2, hI2, hb2⟩
  obtain rfl := hI2.uniq HI1.out
  obtain ⟨A2, c2, rfl, r2⟩ := Rp.of_own h2
  have HB2 := Lib.hid (HB1.out.trans (hb2.mono HB1.out.size))
  have H2 := Lib.hid r2
  have H12 := Lib.hid ((H1.out.keep hb2).more hb2.size)
  clear X2 h2 hI2 hb2 r2 H1
  have hlen : ((o2.length : Int) != (o2.length : Int)) = false := by simp
  go_wp2_with fail
  go_loopg [5, 17] o2.length (fun g _ s17 wx => ∃ i : Nat, i + g = o2.length ∧ s17 = .int .i64 (i : Nat) ∧ Hid (Below w2.heap.size w2 wx))
  case atStart => exact ⟨0, by omega, rfl, Lib.hid (Below.refl _ _)⟩
  case round =>
    obtain ⟨i, hig, rfl, HBx⟩ := hrel
    have hbz := HBx.out.size
    cases gk with
    | zero =>
      obtain rfl : i = o2.length := by omega
      have HBW := Lib.hid (HB2.out.trans (HBx.out.mono HB2.out.size))
      have X3 := Lib.hid (packs_any oneA (some ⟨wr.heap.size, 0, none⟩) 1 (wr.alloc (.cells #[.string ⟨#[97]⟩, .string ⟨#[]⟩] 25)) (oneA_at wr) oneA_fits (by decide))
      clear hig
      go_wp2_with fail
      refine X3.out.mono ?_
      rintro e w3 ⟨v3, o3, rfl, h3, hI3, hb3⟩
      obtain rfl := hI3.uniq oneA_is
      obtain ⟨A3, c3, rfl, r3⟩ := Rp.of_own h3
      have HB3 := Lib.hid ((balloc (o := .cells #[.string ⟨#[97]⟩, .string ⟨#[]⟩] 25) HBW.out.size HBW.out).trans (hb3.mono (by rw [World.size_alloc]; have := HBW.out.size; omega)))
      clear X3 h3 hI3 hb3 r3
      go_wp2_with fail
      go_ret
      exact ⟨by simp [oneA], HB3.out⟩
    | succ g =>
      have hil : i < o2.length := by omega
      have HG := Lib.hid hig
      have hil' : (i : Int) < (o2.length : Int) := by omega
      obtain ⟨⟨k, v⟩, hp⟩ : ∃ p, o2[i]? = some p := ⟨_, List.getElem?_eq_getElem hil⟩
      obtain ⟨g1, f1, rfl, hg1, hc1⟩ := H12.out.keep HBx.out (by omega)
      obtain ⟨g2, f2, rfl, hg2, hc2⟩ := H2.out.keep HBx.out (by omega)
      have a0 := (hc1 i _ hp).1
      have a1 := (hc1 i _ hp).2
      have b0 := (hc2 i _ hp).1
      have b1 := (hc2 i _ hp).2
      obtain ⟨cm, n1, n2, n3, hcm⟩ := eq_pair k v k v
      obtain rfl : cm = true := hcm.2 rfl
      clear hc1 hc2 hp hig hcm
      go_wp2_with fail
      go_quiet (fail)
      have hbq : Below wr.heap.size wr (wr.drewN nq) := bdrew (Below.refl _ _)
      generalize wr.drewN nq = wz at hbq ⊢
      clear n1 n2 n3
      go_wp2_with fail
      have hg := HG.out
      go_roundg g
      case measure => omega
      case rel => exact ⟨i + 1, by omega, by go_num, Lib.hid (HBx.out.trans (hbq.mono hbz))⟩
end Go.Proofs.Ytokafofckjookaa.fnPacked
