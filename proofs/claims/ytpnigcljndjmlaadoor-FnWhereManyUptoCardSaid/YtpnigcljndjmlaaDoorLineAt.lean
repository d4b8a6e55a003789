/- The walks of spec.long, spec.LineAt, laws.at. -/
import Derived.Test.YtpnigcljndjmlaaDoorLineAtPlain
import Derived.Test.YtpnigcljndjmlaaDoorPtVld
import Derived.Deep.QuietTactic
import Derived.BigQuiet
namespace Go.Proofs.YtpnigcljndjmlaaDoor.line
open Go.RowKit
open kit pt

set_option maxRecDepth 100000 in
set_option maxHeartbeats 1600000 in
theorem long_any (t : ByteArray) (w : World) (hz : t.size ≤ 1048576) : Calls Tryd.prog 10 #[.string t] w fun e w' => e = .returned (.int .i64 (lng t.data.toList : Nat)) ∧ w = w' := by
  have X := Lib.hid (fun W : World => point_any t W (by omega))
  obtain ⟨p, m, hpm, hm4, hml, hpc⟩ := point_bd t.data.toList
  have hl : t.data.toList.length = t.size := by rw [Array.length_toList]; rfl
  unfold Pt at X
  have HL : Hid (lng t.data.toList = if p = 13 ∧ 1 < t.size ∧ (t.data.toList.getD 1 0).toNat = 10 then 2 else if T p = true then m else 0) := by
    show _ = _
    unfold lng; rw [hpm, hl]; simp
  rw [hpm] at X
  clear hpm hl
  by_cases h13 : p = 13
  · subst h13
    by_cases h1 : 1 < t.size
    · have hg : Hid ((t.data.toList.getD 1 0) = t[1]'h1) := by show _ = _; rw [List.getD_eq_getElem?_getD, Array.getElem?_toList, Array.getElem?_eq_getElem h1]; rfl
      obtain ⟨b, hb⟩ : ∃ b, (t[1]'h1).toNat = b := ⟨_, rfl⟩
      by_cases h10 : b = 10
      · subst h10
        have HE : Hid (lng t.data.toList = 2) := by show _ = _; rw [HL.out, if_pos ⟨rfl, h1, by rw [hg.out]; exact hb⟩]
        go_enter Tryd.func10, Tryd.ntmps10
        go_wp2_with fail
        refine (X.out _).mono ?_
        rintro e w' ⟨rfl, rfl⟩
        go_wp2_with fail
        go_ret
        exact ⟨by rw [HE.out]; rfl, rfl⟩
      · have hb10 : ((b : Int) == 10) = false := by rw [beq_eq_false_iff_ne]; omega
        have HE : Hid (lng t.data.toList = m) := by show _ = _; rw [HL.out, if_neg (by rw [hg.out]; omega)]; rfl
        clear h10
        go_enter Tryd.func10, Tryd.ntmps10
        go_wp2_with fail
        refine (X.out _).mono ?_
        rintro e w' ⟨rfl, rfl⟩
        go_wp2_with fail
        go_ret
        exact ⟨by rw [HE.out]; rfl, rfl⟩
    · have HE : Hid (lng t.data.toList = m) := by show _ = _; rw [HL.out, if_neg (by omega)]; rfl
      have h1' : t.size ≤ 1 := by omega
      have hd1 : decide (1 < t.size) = false := by rw [decide_eq_false_iff_not]; omega
      have hd2 : decide ((1 : Int) < (t.size : Int)) = false := by rw [decide_eq_false_iff_not]; omega
      clear h1
      go_enter Tryd.func10, Tryd.ntmps10
      go_wp2_with fail
      refine (X.out _).mono ?_
      rintro e w' ⟨rfl, rfl⟩
      go_wp2_with fail
      go_ret
      exact ⟨by rw [HE.out]; rfl, rfl⟩
  · have e13 : (p == 13) = false := by rw [beq_eq_false_iff_ne]; exact h13
    have HE : Hid (lng t.data.toList = if T p = true then m else 0) := by show _ = _; rw [HL.out, if_neg (by omega)]
    clear HL
    by_cases hT : p = 10 ∨ p = 8232 ∨ p = 8233
    · rcases hT with rfl | rfl | rfl
      all_goals
        have HF : Hid (lng t.data.toList = m) := HE.out
        clear h13
        go_enter Tryd.func10, Tryd.ntmps10
        go_wp2_with fail
        refine (X.out _).mono ?_
        rintro e w' ⟨rfl, rfl⟩
        go_wp2_with fail
        go_ret
        exact ⟨by rw [HF.out]; rfl, rfl⟩
    · have e10 : (p == 10) = false := by rw [beq_eq_false_iff_ne]; omega
      have e28 : (p == 8232) = false := by rw [beq_eq_false_iff_ne]; omega
      have e29 : (p == 8233) = false := by rw [beq_eq_false_iff_ne]; omega
      have HF : Hid (lng t.data.toList = 0) := by show _ = _; rw [HE.out, if_neg (by unfold T; rw [e10, e13, e28, e29]; simp)]
      clear h13 hT
      go_enter Tryd.func10, Tryd.ntmps10
      go_wp2_with fail
      refine (X.out _).mono ?_
      rintro e w' ⟨rfl, rfl⟩
      go_wp2_with fail
      go_ret
      exact ⟨by rw [HF.out]; rfl, rfl⟩

/-- a place out of any number -/
def plc (z : Nat) (n : Int) : Nat := ((n.tmod (z + 1) + z + 1) % (z + 1)).toNat
theorem plc_le (z : Nat) (n : Int) : plc z n ≤ z := by
  unfold plc
  have := Int.emod_lt_of_pos (n.tmod (z + 1) + z + 1) (show (0 : Int) < (z : Int) + 1 by omega)
  omega
theorem at_any (t : ByteArray) (n : Int) (w : World) (hz : t.size ≤ 1048576) : Calls Tryd.prog 6 #[.string t, .int .i64 n] w fun e w' => e = .returned (.int .i64 (plc t.size n : Nat)) ∧ w = w' := by
  have h1 : -((t.size : Int) + 1) < n.tmod ((t.size : Int) + 1) := Int.lt_tmod_of_pos n (by omega)
  have h2 : n.tmod ((t.size : Int) + 1) < (t.size : Int) + 1 := Int.tmod_lt_of_pos n (by omega)
  obtain ⟨q, hq⟩ : ∃ q, n.tmod ((t.size : Int) + 1) = q := ⟨_, rfl⟩
  have HP : Hid ((plc t.size n : Int) = (q + t.size + 1) % ((t.size : Int) + 1)) := by
    show _ = _
    unfold plc
    rw [hq]
    have := Int.emod_nonneg (q + (t.size : Int) + 1) (show (t.size : Int) + 1 ≠ 0 by omega)
    omega
  rw [hq] at h1 h2
  go_enter Tryd.func6, Tryd.ntmps6
  go_wp2_with fail
  go_ret
  exact ⟨by rw [HP.out]; rfl, rfl⟩

def LA (s : ByteArray) (k : Nat) (w : World) (e : Ending) (w' : World) : Prop :=
  ∃ (num frm : Nat) (txt : ByteArray) (ok : Bool), e = .returned (.tuple #[.agg #[.int .i64 num, .int .i64 frm, .string txt], .bool ok]) ∧
    (ok = true → Vld s.data.toList → ∃ j c e, At s.data.toList j k c frm ∧ Fin s.data.toList k e ∧ num = c + 1 ∧ txt = s.extract frm e) ∧ Below w.heap.size w w'
/-- the line that is built -/
def Ln (w wr : World) (num fr : Nat) : Prop :=
  Below w.heap.size w wr ∧ w.heap.size + 2 ≤ wr.heap.size ∧
  wr.cell? ⟨w.heap.size, 0, none⟩ = some (.int .i64 0) ∧ wr.cell? ⟨w.heap.size, 1, none⟩ = some (.int .i64 0) ∧ wr.cell? ⟨w.heap.size, 2, none⟩ = some (.string ⟨#[]⟩) ∧
  wr.cell? ⟨w.heap.size + 1, 0, none⟩ = some (.int .i64 (num : Nat)) ∧ wr.cell? ⟨w.heap.size + 1, 1, none⟩ = some (.int .i64 (fr : Nat)) ∧ wr.cell? ⟨w.heap.size + 1, 2, none⟩ = some (.string ⟨#[]⟩) ∧
  wr.frozen? ⟨w.heap.size, 0, none⟩ = false ∧ wr.frozen? ⟨w.heap.size, 1, none⟩ = false ∧ wr.frozen? ⟨w.heap.size, 2, none⟩ = false ∧
  wr.frozen? ⟨w.heap.size + 1, 0, none⟩ = false ∧ wr.frozen? ⟨w.heap.size + 1, 1, none⟩ = false ∧ wr.frozen? ⟨w.heap.size + 1, 2, none⟩ = false
theorem Ln.up {w wr : World} {num fr : Nat} (h : Ln w wr num fr) (a b : Int) (num' fr' : Nat) (ha : a = (num' : Int)) (hb : b = (fr' : Int)) :
    Ln w (((wr.setCell ⟨w.heap.size + 1, 0, none⟩ (.int .i64 a)).setCell ⟨w.heap.size + 1, 1, none⟩ (.int .i64 b)).setCell ⟨w.heap.size + 1, 2, none⟩ (.string ⟨#[]⟩)) num' fr' := by
  subst ha; subst hb
  obtain ⟨h1, h2, a0, a1, a2, b0, b1, b2, f0, f1, f2, g0, g1, g2⟩ := h
  refine ⟨bset ?_ (bset ?_ (bset ?_ h1)), by simpa using h2, ?_, ?_, ?_, ?_, ?_, ?_, ?_, ?_, ?_, ?_, ?_, ?_⟩
  all_goals first | (show w.heap.size ≤ w.heap.size + 1; omega) | go_simp

set_option maxRecDepth 100000 in
set_option maxHeartbeats 3200000 in
theorem lineAt_any (s : ByteArray) (k : Nat) (w : World) (hz : s.size ≤ 1048576) (hk : k ≤ s.size) : Calls Tryd.prog 7 #[.string s, .int .i64 k] w (LA s k w) := by
  have hsz : s.data.toList.length = s.size := by rw [Array.length_toList]; rfl
  have HZ := Lib.hid hsz
  clear hsz
  go_enter Tryd.func7, Tryd.ntmps7
  go_upto_block 0 with (fail)
  go_cut [7] (fun s7 wx => ∃ (i num fr : Nat), s7 = .int .i64 (i : Nat) ∧ k ≤ i ∧ i ≤ s.size ∧ fr ≤ i ∧ Ln w wx num fr ∧ Hid (Vld s.data.toList → ∃ j c, At s.data.toList j i c fr ∧ num = c + 1))
  case first =>
    go_wp2_with fail
    go_loopg [7] s.size (fun g s7 wr => ∃ (i num fr : Nat), i + g = s.size ∧ s7 = .int .i64 (i : Nat) ∧ fr ≤ i ∧ num ≤ i + 1 ∧ Ln w wr num fr ∧ Hid (Vld s.data.toList → ∃ j c, At s.data.toList j i c fr ∧ num = c + 1 ∧ NB s.data.toList i))
    case atStart =>
      refine ⟨0, 1, 0, by omega, rfl, by omega, by omega, ⟨?_, by simp, by go_simp, by go_simp, by go_simp, by go_simp, by go_simp, by go_simp, by go_simp, by go_simp, by go_simp, by go_simp, by go_simp, by go_simp⟩, fun _ => ⟨0, 0, .start, rfl, fun q => by omega⟩⟩
      refine balloc ?_ (balloc (Nat.le_refl _) (Below.refl _ _))
      simp
    case round =>
      obtain ⟨i, num, fr, hig, rfl, hfr, hnum, hL, HV⟩ := hrel
      have HG := Lib.hid hig
      have LL := Lib.hid hL
      have his : i ≤ s.size := by omega
      obtain ⟨l1, l2, a0, a1, a2, b0, b1, b2, f0, f1, f2, g0, g1, g2⟩ := hL
      clear hig
      by_cases hlt : i < k
      · have hne : s.data.toList.drop i ≠ [] := fun q => by have := congrArg List.length q; rw [List.length_drop, HZ.out] at this; simp at this; omega
        have hwl := wid_le _ hne
        have hll := lng_le (s.data.toList.drop i)
        rw [List.length_drop, HZ.out] at hwl hll
        have X := Lib.hid (fun W : World => long_any (s.extract i s.size) W (by rw [ByteArray.size_extract]; omega))
        have Y := Lib.hid (fun W : World => point_any (s.extract i s.size) W (by rw [ByteArray.size_extract]; omega))
        unfold Pt at Y
        rw [ext_drop] at X Y
        obtain ⟨p, m, hpm, _⟩ := point_bd (s.data.toList.drop i)
        have hwm : Hid (wid (s.data.toList.drop i) = max 1 m) := by show _ = _; unfold wid; rw [hpm]; simp
        rw [hpm] at Y
        have HS1 := Lib.hid (fun (hv : Vld s.data.toList) (hl : 0 < lng (s.data.toList.drop i)) (j c : Nat) (q : At s.data.toList j i c fr) (nb : NB s.data.toList i) => step_end q nb hv (by rw [HZ.out]; omega) hl)
        have HS2 := Lib.hid (fun (hv : Vld s.data.toList) (hl : lng (s.data.toList.drop i) = 0) (j c : Nat) (q : At s.data.toList j i c fr) => step_on q hv (by rw [HZ.out]; omega) hl)
        obtain ⟨q, hq⟩ : ∃ q, q = lng (s.data.toList.drop i) := ⟨_, rfl⟩
        obtain ⟨d, hd⟩ : ∃ d, d = wid (s.data.toList.drop i) := ⟨_, rfl⟩
        rw [← hq] at X HS1 HS2 hll
        rw [← hd] at HS2 hwl hwm
        clear hq hd hpm hne
        by_cases hq0 : q = 0
        · subst hq0
          have hmx : Hid (max (1 : Int) (m : Int) = (d : Int)) := by show _ = _; rw [hwm.out]; omega
          have hmx2 : (if (1 : Int) < (m : Int) then (m : Int) else 1) = (d : Int) := by rw [hwm.out]; split <;> omega
          clear HS1
          go_wp2_with fail
          refine (X.out _).mono ?_
          rintro e w' ⟨rfl, rfl⟩
          go_wp2_with fail
          refine (Y.out _).mono ?_
          rintro e w' ⟨rfl, rfl⟩
          go_wp2_with fail
          have hg := HG.out
          go_roundg (gk - d)
          case measure => omega
          case rel =>
            refine ⟨i + d, num, fr, by omega, ?_, by omega, by omega, LL.out, fun hv => ?_⟩
            · first | go_num | (congr 1; have := hmx.out; omega) | (congr 1; omega)
            · obtain ⟨j, c, h1, h2, h3⟩ := HV.out hv
              obtain ⟨p', n', _, _, _, h4, h5⟩ := HS2.out hv (by first | rfl | trivial) j c h1
              exact ⟨j + 1, c, h4, h2, h5⟩
        · have hq1 : 1 ≤ q := by omega
          clear HS2 hq0 Y
          go_wp2_with fail
          refine (X.out _).mono ?_
          rintro e w' ⟨rfl, rfl⟩
          go_wp2_with fail
          have hg := HG.out
          go_roundg (gk - q)
          case measure => omega
          case rel =>
            refine ⟨i + q, num + 1, i + q, by omega, by go_num, by omega, by omega, LL.out.up _ _ _ _ (by omega) (by omega), fun hv => ?_⟩
            obtain ⟨j, c, h1, h2, h3⟩ := HV.out hv
            obtain ⟨j', h4, h5⟩ := HS1.out hv (by omega) j c h1 h3
            exact ⟨j', c + 1, h4, by omega, h5⟩
      · have hge : k ≤ i := by omega
        clear hlt
        go_wp2_with fail
        go_meet
        refine ⟨i, num, fr, rfl, hge, his, hfr, LL.out, fun hv => ?_⟩
        obtain ⟨j, c, h1, h2, h3⟩ := HV.out hv
        exact ⟨j, c, h1, h2⟩
  case rest =>
    obtain ⟨i, num, fr, rfl, hki, his, hfr, hL, HV⟩ := hcut
    have LL := Lib.hid hL
    obtain ⟨l1, l2, a0, a1, a2, b0, b1, b2, f0, f1, f2, g0, g1, g2⟩ := hL
    by_cases hik : i = k
    · subst hik
      have HV0 := Lib.hid HV.out
      go_wp2_with fail
      go_loopg [7] s.size (fun g s7 wr => ∃ (i2 : Nat), i2 + g = s.size + i ∧ s7 = .int .i64 (i2 : Nat) ∧ i ≤ i2 ∧ i2 ≤ s.size ∧ Ln w wr num fr ∧ Hid (Vld s.data.toList → ∃ j c, At s.data.toList j i2 c fr) ∧ Hid (∀ e, Vld s.data.toList → Fin s.data.toList i2 e → Fin s.data.toList i e))
      case atStart => exact ⟨i, by omega, rfl, by omega, his, LL.out, fun hv => (HV.out hv).elim fun j q => q.elim fun c q => ⟨j, c, q.1⟩, fun _ _ h => h⟩
      case round =>
        clear LL HV l1 l2 a0 a1 a2 b0 b1 b2 f0 f1 f2 g0 g1 g2
        obtain ⟨i2, hig, rfl, hi1, hi2, hL, HV, HF⟩ := hrel
        have HG := Lib.hid hig
        have LL := Lib.hid hL
        obtain ⟨l1, l2, a0, a1, a2, b0, b1, b2, f0, f1, f2, g0, g1, g2⟩ := hL
        clear hig
        by_cases hlt : i2 < s.size
        · have hne : s.data.toList.drop i2 ≠ [] := fun q => by have := congrArg List.length q; rw [List.length_drop, HZ.out] at this; simp at this; omega
          have hwl := wid_le _ hne
          have hll := lng_le (s.data.toList.drop i2)
          rw [List.length_drop, HZ.out] at hwl hll
          have X := Lib.hid (fun W : World => long_any (s.extract i2 s.size) W (by rw [ByteArray.size_extract]; omega))
          have Y := Lib.hid (fun W : World => point_any (s.extract i2 s.size) W (by rw [ByteArray.size_extract]; omega))
          unfold Pt at Y
          rw [ext_drop] at X Y
          obtain ⟨p, m, hpm, _⟩ := point_bd (s.data.toList.drop i2)
          have hwm : Hid (wid (s.data.toList.drop i2) = max 1 m) := by show _ = _; unfold wid; rw [hpm]; simp
          rw [hpm] at Y
          have HS1 := Lib.hid (fun (hv : Vld s.data.toList) (hl : 0 < lng (s.data.toList.drop i2)) (j c : Nat) (q : At s.data.toList j i2 c fr) => stop_of q hv (by rw [HZ.out]; omega) hl)
          have HS2 := Lib.hid (fun (hv : Vld s.data.toList) (hl : lng (s.data.toList.drop i2) = 0) (j c : Nat) (q : At s.data.toList j i2 c fr) => step_on q hv (by rw [HZ.out]; omega) hl)
          obtain ⟨q, hq⟩ : ∃ q, q = lng (s.data.toList.drop i2) := ⟨_, rfl⟩
          obtain ⟨d, hd⟩ : ∃ d, d = wid (s.data.toList.drop i2) := ⟨_, rfl⟩
          rw [← hq] at X HS1 HS2 hll
          rw [← hd] at HS2 hwl hwm
          clear hq hd hpm hne
          by_cases hq0 : q = 0
          · subst hq0
            have hmx : Hid (max (1 : Int) (m : Int) = (d : Int)) := by show _ = _; rw [hwm.out]; omega
            have hmx2 : (if (1 : Int) < (m : Int) then (m : Int) else 1) = (d : Int) := by rw [hwm.out]; split <;> omega
            clear HS1
            go_wp2_with fail
            refine (X.out _).mono ?_
            rintro e w' ⟨rfl, rfl⟩
            go_wp2_with fail
            refine (Y.out _).mono ?_
            rintro e w' ⟨rfl, rfl⟩
            go_wp2_with fail
            have hg := HG.out
            go_roundg (gk - d)
            case measure => omega
            case rel =>
              refine ⟨i2 + d, by omega, ?_, by omega, by omega, LL.out, fun hv => ?_, fun e hv h => ?_⟩
              · first | go_num | (congr 1; have := hmx.out; omega) | (congr 1; omega)
              · obtain ⟨j, c, h1⟩ := HV.out hv
                obtain ⟨p', n', _, _, _, h4, _⟩ := HS2.out hv (by first | rfl | trivial) j c h1
                exact ⟨j + 1, c, h4⟩
              · obtain ⟨j, c, h1⟩ := HV.out hv
                obtain ⟨p', n', h2, h3, h4, _⟩ := HS2.out hv (by first | rfl | trivial) j c h1
                rw [h4] at h
                exact HF.out e hv (.go h2 h3 h)
          · have hq1 : 1 ≤ q := by omega
            have hqe : ((q : Int) == 0) = false := by rw [beq_eq_false_iff_ne]; omega
            have HE := Lib.hid (fun (hv : Vld s.data.toList) => (HV.out hv).elim fun j z => z.elim fun c z => HF.out i2 hv (HS1.out hv (by omega) j c z))
            clear HS2 hq0 Y HS1
            go_wp2_with fail
            refine (X.out _).mono ?_
            rintro e w' ⟨rfl, rfl⟩
            go_wp2_with fail
            refine bodyPost_ret (v := .tuple #[.agg #[.int .i64 num, .int .i64 fr, .string (s.extract fr i2)], .bool true]) ?_ rfl ⟨num, fr, s.extract fr i2, true, rfl, fun _ hv => ?_, ?_⟩
            · simp [results, Tryd.results7, go_sem, a0, a1, a2]
            · obtain ⟨j, c, h1, h2⟩ := HV0.out hv
              exact ⟨j, c, i2, h1, HE.out hv, h2, rfl⟩
            · refine bset ?_ (bset ?_ (bset ?_ (bset ?_ l1)))
              all_goals first | omega | (simp; done) | (simp; omega)
        · have hie : i2 = s.size := by omega
          subst hie
          have HE := Lib.hid (fun (hv : Vld s.data.toList) => HF.out s.size hv (.last HZ.out.symm))
          clear hlt
          go_wp2_with fail
          refine bodyPost_ret (v := .tuple #[.agg #[.int .i64 num, .int .i64 fr, .string (s.extract fr s.size)], .bool true]) ?_ rfl ⟨num, fr, s.extract fr s.size, true, rfl, fun _ hv => ?_, ?_⟩
          · simp [results, Tryd.results7, go_sem, a0, a1, a2]
          · obtain ⟨j, c, h1, h2⟩ := HV0.out hv
            exact ⟨j, c, s.size, h1, HE.out hv, h2, rfl⟩
          · refine bset ?_ (bset ?_ (bset ?_ (bset ?_ l1)))
            all_goals first | omega | (simp; done) | (simp; omega)
    · have hne : ((i : Int) != (k : Int)) = true := by rw [bne_iff_ne]; omega
      go_wp2_with fail
      refine bodyPost_ret (v := .tuple #[.agg #[.int .i64 num, .int .i64 fr, .string ⟨#[]⟩], .bool false]) ?_ rfl ⟨num, fr, ⟨#[]⟩, false, rfl, fun q => (by cases q), ?_⟩
      · simp [results, Tryd.results7, go_sem, a0, a1, a2]
      · refine bset ?_ (bset ?_ (bset ?_ l1))
        all_goals first | omega | (simp; done) | (simp; omega)
end Go.Proofs.YtpnigcljndjmlaaDoor.line
