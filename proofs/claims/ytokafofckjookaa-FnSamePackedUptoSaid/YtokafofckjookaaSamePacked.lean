/- FnSamePacked's walk. -/
import Derived.Test.YtokafofckjookaaLast
import Derived.Test.YtokafofckjookaaSameP
import Derived.Test.YtokafofckjookaaEqlP
import Derived.Test.YtokafofckjookaaOpensP
namespace Go.Proofs.Ytokafofckjookaa.fnSamePacked
open Go.RowKit
open kit bld pk

theorem take_more {α : Type} [DecidableEq α] {a b : List α} {i : Nat} {p q : α} (hp : a[i]? = some p) (hq : b[i]? = some q) : a.take (i + 1) = b.take (i + 1) ↔ a.take i = b.take i ∧ p = q := by
  rw [List.take_add_one, List.take_add_one, hp, hq]
  have h1 := (List.getElem?_eq_some_iff.1 hp).1
  have h2 := (List.getElem?_eq_some_iff.1 hq).1
  constructor
  · intro h
    have := List.append_inj h (by simp; omega)
    simpa using this
  · rintro ⟨h1, rfl⟩
    rw [h1]
theorem all_eq {α : Type} {a b : List α} {i : Nat} (hl : a.length = b.length) (hi : a.length ≤ i) : a.take i = b.take i ↔ a = b := by
  rw [List.take_of_length_le hi, List.take_of_length_le (by omega)]

set_option maxHeartbeats 3200000 in
set_option maxRecDepth 100000 in
theorem walk0 (A A' : Option Addr) (cp cp' : Nat) (l m : List (List UInt8 × List UInt8)) (w : World) (hR : Rp w w.heap.size A l) (hcp : l.length ≤ cp) (hf : Fits l) (hz : l.length ≤ 1048576)
    (hR' : Rp w w.heap.size A' m) (hcp' : m.length ≤ cp') (hf' : Fits m) (hz' : m.length ≤ 1048576) :
    Calls Try.prog 3 #[.slice A l.length cp, .slice A' m.length cp'] w fun e w' => e = .returned (.bool true) ∧ Below w.heap.size w w' := by
  have X1 := Lib.hid (last_any l A cp w hR hcp hz)
  have HR := Lib.hid (And.intro hR hR')
  have HF := Lib.hid (And.intro hf hf')
  clear hR hR' hf hf'
  go_enter Try.func3, Try.ntmps3
  go_wp2_with fail
  refine X1.out.mono ?_
  rintro e w1 ⟨v1, o1, rfl, h1, hI1, hz1, hb1⟩
  have X2 := Lib.hid (last_any m A' cp' w1 ((HR.out.2.keep hb1).more hb1.size) hcp' hz')
  obtain ⟨A1, c1, rfl, r1⟩ := Rp.of_own h1
  have HI1 := Lib.hid hI1
  have HB1 := Lib.hid hb1
  have H1 := Lib.hid r1
  clear X1 h1 hI1 hb1 r1
  go_wp2_with fail
  refine X2.out.mono ?_
  rintro e w2 ⟨v2, o2, rfl, h2, hI2, hz2, hb2⟩
  obtain ⟨A2, c2, rfl, r2⟩ := Rp.of_own h2
  have HI2 := Lib.hid hI2
  have HB2 := Lib.hid (HB1.out.trans (hb2.mono HB1.out.size))
  have H2 := Lib.hid r2
  have H12 := Lib.hid ((H1.out.keep hb2).more hb2.size)
  clear X2 h2 hI2 hb2 r2
  obtain ⟨b0, hb0, hb0'⟩ : ∃ b0 : Bool, ((o1.length : Int) == (o2.length : Int)) = b0 ∧ (b0 = true ↔ o1.length = o2.length) := ⟨_, rfl, by rw [beq_iff_eq]; omega⟩
  go_wp2_with fail
  have HB0 := Lib.hid hb0'
  clear hb0 hb0'
  go_loopg [7, 8, 20] o1.length (fun g s7 _ s20 wx => ∃ (i : Nat) (b : Bool), i + g = o1.length ∧ s20 = .int .i64 (i : Nat) ∧ s7 = .bool b ∧ Hid (b = true ↔ (o1.length = o2.length ∧ o1.take i = o2.take i)) ∧ Hid (Below w2.heap.size w2 wx))
  case atStart => exact ⟨0, b0, by omega, rfl, rfl, Lib.hid (by rw [HB0.out]; simp), Lib.hid (Below.refl _ _)⟩
  case round =>
    obtain ⟨i, b, hig, rfl, rfl, Hb, HBx⟩ := hrel
    have hbz := HBx.out.size
    cases gk with
    | zero =>
      obtain rfl : i = o1.length := by omega
      clear hig
      have HBW := Lib.hid (HB2.out.trans (HBx.out.mono HB2.out.size))
      have X3 := Lib.hid (same_any l m A A' cp cp' wr ((HR.out.1.keep HBW.out).more HBW.out.size) ((HR.out.2.keep HBW.out).more HBW.out.size) HF.out.1 HF.out.2 hz hz')
      go_wp2_with fail
      refine X3.out.mono ?_
      rintro e w3 ⟨p1, p2, vb, hp1, hp2, rfl, hvb, hb3⟩
      obtain rfl := hp1.uniq HI1.out
      obtain rfl := hp2.uniq HI2.out
      obtain rfl : vb = b := by
        rw [Bool.eq_iff_iff, hvb, Hb.out]
        constructor
        · rintro rfl; exact ⟨rfl, rfl⟩
        · rintro ⟨h1, h2⟩; exact (all_eq h1 (Nat.le_refl _)).1 h2
      have HB3 := Lib.hid (HBW.out.trans (hb3.mono HBW.out.size))
      have X4 := Lib.hid (same_any l p1 A A1 cp c1 w3 ((HR.out.1.keep HB3.out).more HB3.out.size) ((H12.out.keep (HBx.out.trans (hb3.mono hbz))).more (by have := hb3.size; omega)) HF.out.1 (HI1.out.fits HF.out.1) hz (by omega))
      clear X3 hp1 hp2 hvb hb3
      cases vb with
      | true =>
        go_wp2_with fail
        refine X4.out.mono ?_
        rintro e w4 ⟨q1, q2, vc, hq1, hq2, rfl, hvc, hb4⟩
        obtain rfl : vc = true := hvc.2 ((hq1.uniq HI1.out).trans (hq2.uniq HI1.out.1.self).symm)
        have HB4 := Lib.hid (HB3.out.trans (hb4.mono HB3.out.size))
        clear X4 hq1 hq2 hvc hb4
        go_wp2_with fail
        go_ret
        exact ⟨rfl, HB4.out⟩
      | false =>
        go_wp2_with fail
        refine X4.out.mono ?_
        rintro e w4 ⟨q1, q2, vc, hq1, hq2, rfl, hvc, hb4⟩
        obtain rfl : vc = true := hvc.2 ((hq1.uniq HI1.out).trans (hq2.uniq HI1.out.1.self).symm)
        have HB4 := Lib.hid (HB3.out.trans (hb4.mono HB3.out.size))
        clear X4 hq1 hq2 hvc hb4
        go_wp2_with fail
        go_ret
        exact ⟨rfl, HB4.out⟩
    | succ g =>
      have hil : i < o1.length := by omega
      have HG := Lib.hid hig
      have hil' : (i : Int) < (o1.length : Int) := by omega
      clear hig
      cases b with
      | false =>
        go_wp2_with fail
        go_quiet (fail)
        have hbq : Below wr.heap.size wr (wr.drewN nq) := bdrew (Below.refl _ _)
        generalize wr.drewN nq = wz at hbq ⊢
        go_wp2_with fail
        have hg := HG.out
        go_roundg g
        case measure => omega
        case rel =>
          refine ⟨i + 1, false, by omega, by go_num, rfl, Lib.hid ?_, Lib.hid (HBx.out.trans (hbq.mono hbz))⟩
          have h := Hb.out
          constructor
          · intro q; cases q
          · rintro ⟨q1, q2⟩
            refine h.2 ⟨q1, ?_⟩
            have := congrArg (List.take i) q2
            rw [List.take_take, List.take_take] at this
            simpa using this
      | true =>
        have hle : o1.length = o2.length := (Hb.out.1 rfl).1
        have hil2 : (i : Int) < (o2.length : Int) := by omega
        obtain ⟨⟨pk1, pv1⟩, hp⟩ : ∃ p, o1[i]? = some p := ⟨_, List.getElem?_eq_getElem hil⟩
        obtain ⟨⟨qk1, qv1⟩, hq⟩ : ∃ q, o2[i]? = some q := ⟨_, List.getElem?_eq_getElem (by omega)⟩
        obtain ⟨g1, f1, rfl, hg1, hc1⟩ := H12.out.keep HBx.out (by omega)
        obtain ⟨g2, f2, rfl, hg2, hc2⟩ := H2.out.keep HBx.out (by omega)
        have a0 := (hc1 i _ hp).1
        have a1 := (hc1 i _ hp).2
        have b0 := (hc2 i _ hq).1
        have b1 := (hc2 i _ hq).2
        have HTM := Lib.hid (take_more hp hq)
        have HLE := Lib.hid hle
        clear hc1 hc2 hp hq hle
        obtain ⟨cm, n1, n2, _, hcm⟩ := eq_pair pk1 pv1 qk1 qv1
        have HCM := Lib.hid hcm
        clear hcm
        go_wp2_with fail
        go_quiet (fail)
        have hbq : Below wr.heap.size wr (wr.drewN nq) := bdrew (Below.refl _ _)
        generalize wr.drewN nq = wz at hbq ⊢
        clear n1 n2
        go_wp2_with fail
        have hg := HG.out
        go_roundg g
        case measure => omega
        case rel =>
          refine ⟨i + 1, cm, by omega, by go_num, rfl, Lib.hid ?_, Lib.hid (HBx.out.trans (hbq.mono hbz))⟩
          rw [HCM.out, HTM.out]
          have h := Hb.out.1 (by trivial)
          constructor
          · intro q; exact ⟨h.1, h.2, q⟩
          · rintro ⟨_, _, q⟩; exact q
theorem walk (A : Option Addr) (cp : Nat) (l : List (List UInt8 × List UInt8)) (A' : Option Addr) (cp' : Nat) (m : List (List UInt8 × List UInt8)) (w : World) (h : opens.PArg w A cp l) (h' : opens.PArg w A' cp' m) :
    Calls Try.prog 3 #[.slice A l.length cp, .slice A' m.length cp'] w fun e w' => e = .returned (.bool true) ∧ Below w.heap.size w w' :=
  walk0 A A' cp cp' l m w h.rp h.cap h.fits h.len h'.rp h'.cap h'.fits h'.len
end Go.Proofs.Ytokafofckjookaa.fnSamePacked
