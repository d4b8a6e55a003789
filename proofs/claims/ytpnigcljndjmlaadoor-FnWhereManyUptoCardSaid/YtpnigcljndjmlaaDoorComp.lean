/- The walk of computeLineAndColumn. -/
import Derived.Test.YtpnigcljndjmlaaDoorScan
import Derived.Deep.QuietTactic
import Derived.BigQuiet
namespace Go.Proofs.YtpnigcljndjmlaaDoor.line
open Go.RowKit
open kit pt

def Comp (s : ByteArray) (B off ct ft : Nat) (W : World) (e : Ending) (W' : World) : Prop :=
  ∃ ee, Fin s.data.toList off ee ∧ e = .returned (.tuple #[.int .i64 ct, .int .i64 ((off : Int) - ft), .int .i64 ft, .int .i64 ee]) ∧ Tk W' B s off ct ft ee true true ∧ W.grownBy W' (some B)
theorem Tk.begun {W : World} {B : Nat} {s : ByteArray} {o l ls le : Nat} {hs he : Bool} (h : Tk W B s o l ls le hs he) (v : Int) (x : Nat) (hv : v = (x : Int)) :
    Tk ((W.setCell ⟨B, 7, none⟩ (.bool true)).setCell ⟨B, 5, none⟩ (.int .i32 v)) B s o l x le true he := by
  subst hv
  have h1 : Tk (W.setCell ⟨B, 7, none⟩ (.bool true)) B s o l ls le true he := h.upd 7 _ (by simp)
  exact h1.upd 5 _ (by simp)
theorem Tk.ended {W : World} {B : Nat} {s : ByteArray} {o l ls le : Nat} {hs he : Bool} (h : Tk W B s o l ls le hs he) (v : Int) (x : Nat) (hv : v = (x : Int)) :
    Tk ((W.setCell ⟨B, 8, none⟩ (.bool true)).setCell ⟨B, 6, none⟩ (.int .i32 v)) B s o l ls x hs true := by
  subst hv
  have h1 : Tk (W.setCell ⟨B, 8, none⟩ (.bool true)) B s o l ls le hs true := h.upd 8 _ (by simp)
  exact h1.upd 6 _ (by simp)
theorem T_cases (P : Nat) : (T (P : Int) = true ∧ (P = 10 ∨ P = 13 ∨ P = 8232 ∨ P = 8233)) ∨ (T (P : Int) = false ∧ ((P : Int) == 10) = false ∧ ((P : Int) == 13) = false ∧ ((P : Int) == 8232) = false ∧ ((P : Int) == 8233) = false) := by
  by_cases h : P = 10 ∨ P = 13 ∨ P = 8232 ∨ P = 8233
  · exact .inl ⟨by rcases h with rfl | rfl | rfl | rfl <;> rfl, h⟩
  · right
    have e10 : ((P : Int) == 10) = false := by rw [beq_eq_false_iff_ne]; omega
    have e13 : ((P : Int) == 13) = false := by rw [beq_eq_false_iff_ne]; omega
    have e28 : ((P : Int) == 8232) = false := by rw [beq_eq_false_iff_ne]; omega
    have e29 : ((P : Int) == 8233) = false := by rw [beq_eq_false_iff_ne]; omega
    exact ⟨by unfold T; rw [e10, e13, e28, e29]; rfl, e10, e13, e28, e29⟩

set_option maxRecDepth 100000 in
set_option maxHeartbeats 3200000 in
theorem comp_any (s : ByteArray) (B off : Nat) (W : World) (k c ls le : Nat) (hs he : Bool) (jt ct ft : Nat) (hz : s.size ≤ 1048576) (hv : Vld s.data.toList) (hB : 2 ≤ B) (hT : Tabs W) (hk : Tk W B s k c ls le hs he) (hst : Stand s.data.toList k c ls le hs he)
    (ht : At s.data.toList jt off ct ft) :
    Calls Tryd.prog 17 #[.pointer (some ⟨B, 0, none⟩), .int .i64 off] W (Comp s B off ct ft W) := by
  have hsz : s.data.toList.length = s.size := by rw [Array.length_toList]; rfl
  have hoff : off ≤ s.size := by have := ht.le; omega
  have hct : ct ≤ off := ht.le.2.1
  have hft : ft ≤ off := ht.le.2.2.1
  have X := Lib.hid (scan_any s B off W k c ls le hs he jt ct ft hz hB hT hk hst ht)
  have HT := Lib.hid hT
  have HA := Lib.hid ht
  have HV := Lib.hid (ht.vld hv)
  have HZ := Lib.hid hsz
  clear hT ht hst hk hsz hv
  go_enter Tryd.func17, Tryd.ntmps17
  go_wp2_with fail
  refine X.out.mono ?_
  rintro e w1 ⟨rfl, ls1, le1, hs1, he1, hTk1, ⟨j1, f1, hA1, q1, q2⟩, hg1⟩
  obtain ⟨_, _, rfl⟩ := hA1.same HA.out
  have K1 := Lib.hid hTk1
  have G1 := Lib.hid hg1
  have Q1 := Lib.hid q1
  have Q2 := Lib.hid q2
  clear hTk1 hA1 q1 q2 hg1 X
  obtain ⟨i0, i1, i2, i3, i4, i5, i6, i7, i8, i9, i10, g3, g4, g5, g6, g7, g8⟩ := K1.out
  clear i2 i3 i10 i5 i7 g3 g4 g6 g8 i9
  go_upto_if 25 with (fail)
  go_cut [] (fun wx => Tk wx B s off ct f1 le1 true he1 ∧ W.grownBy wx (some B))
  case first =>
    cases hs1 with
    | true =>
      obtain rfl := Q1.out rfl
      go_wp2_with fail
      go_meet
      exact ⟨K1.out, G1.out⟩
    | false =>
      go_wp2_with fail
      clear i0 i1 i4 i6 i8 g5 g7
      go_loopg [9] off (fun g s9 wr => ∃ (j i c2 : Nat), i ≤ g ∧ i ≤ off ∧ s9 = .int .i32 (i : Nat) ∧ Hid (At s.data.toList j i c2 f1) ∧ Tk wr B s off ct ls1 le1 false he1 ∧ W.grownBy wr (some B))
      case atStart => exact ⟨jt, off, ct, Nat.le_refl _, Nat.le_refl _, rfl, HA, K1.out, G1.out⟩
      case round =>
        obtain ⟨j, i, c2, hig, hio, rfl, hAt, hTk, hgr⟩ := hrel
        have KK := Lib.hid hTk
        have GR := Lib.hid hgr
        by_cases hi0 : i = 0
        · subst hi0
          have hf : f1 = 0 := (hAt.out.same At.start).2.2
          subst hf
          obtain ⟨i0, i1, i2, i3, i4, i5, i6, i7, i8, i9, i10, g3, g4, g5, g6, g7, g8⟩ := hTk
          clear i2 i3 i10 i5 i7 g3 g4 g6 g8 i9 hgr
          go_wp2_with fail
          go_meet
          exact ⟨KK.out.begun _ 0 (by omega), Lib.grownBy_setB (Lib.grownBy_setB GR.out 7 _) 5 _⟩
        · obtain ⟨j3, k3, c3, f3, p, n, hik, hch, hA3, hc2, hf2⟩ := hAt.out.prev (by omega)
          subst hik
          have hn := hch.len
          have hpb := hch.bd
          obtain ⟨P, rfl⟩ : ∃ P : Nat, p = (P : Int) := ⟨p.toNat, by omega⟩
          have X := Lib.hid (fun (w' : World) (h : Tabs w') => Tryd.utf8_DecodeLastRuneInString (s.extract 0 (k3 + n)) w' (by rw [ByteArray.size_extract]; omega) h)
          rw [decLast hch, Int.toNat_natCast] at X
          have HA3 := Lib.hid hA3
          have HF2 := Lib.hid hf2
          have TB := Lib.hid (HT.out.kept hgr hB)
          have hn1 : 1 ≤ n := hn.1
          have hn4 : n ≤ 4 := hn.2.1
          obtain ⟨_, hP, _⟩ := hpb
          clear hch hn hA3 hc2 hf2 hgr hTk hi0
          go_wp2_with fail
          refine (X.out _ TB.out).mono ?_
          rintro e w2 ⟨rfl, hb2⟩
          have K2 := Lib.hid (KK.out.below hb2)
          have G2 := Lib.hid (Lib.grownBy_below GR.out hb2)
          clear X TB KK GR hb2
          rcases T_cases P with ⟨hTT, hPc⟩ | ⟨hTT, e10, e13, e28, e29⟩
          · have hf : f1 = k3 + n := by rw [HF2.out]; unfold frm; rw [if_pos hTT]
            subst hf
            clear hTT
            obtain ⟨i0, i1, i2, i3, i4, i5, i6, i7, i8, i9, i10, g3, g4, g5, g6, g7, g8⟩ := K2.out
            clear i2 i3 i10 i5 i7 g3 g4 g6 g8 i9
            rcases hPc with rfl | rfl | rfl | rfl
            all_goals
              go_wp2_with fail
              go_meet
              exact ⟨K2.out.begun _ (k3 + n) (by omega), Lib.grownBy_setB (Lib.grownBy_setB G2.out 7 _) 5 _⟩
          · have hf : Hid (f1 = f3) := by show _ = _; rw [HF2.out]; unfold frm; rw [if_neg (by rw [hTT]; simp)]
            clear hTT
            go_wp2_with fail
            go_roundg (gk - 1)
            case measure => omega
            case rel => exact ⟨j3, k3, c3, by omega, by omega, by go_num, by rw [hf.out]; exact HA3, K2.out, G2.out⟩
  case rest =>
    obtain ⟨hTk, hgr⟩ := hcut
    have K3 := Lib.hid hTk
    have G3 := Lib.hid hgr
    obtain ⟨i0, i1, i2, i3, i4, i5, i6, i7, i8, i9, i10, g3, g4, g5, g6, g7, g8⟩ := hTk
    clear i2 i3 i10 i5 i6 i8 g3 g4 g5 g7 K1 G1 Q1 hgr
    go_upto_if 72 with (fail)
    go_cut [] (fun wx => ∃ ee, Fin s.data.toList off ee ∧ Tk wx B s off ct f1 ee true true ∧ W.grownBy wx (some B))
    case first =>
      cases he1 with
      | true =>
        go_wp2_with fail
        go_meet
        exact ⟨le1, by first | exact Q2.out rfl | exact Q2.out trivial, K3.out, G3.out⟩
      | false =>
        go_wp2_with fail
        clear i0 i1 i4 i7 i9 g6 g8
        go_loopg [13] s.size (fun g s13 wr => ∃ (i : Nat), i + g = s.size + off ∧ off ≤ i ∧ i ≤ s.size ∧ s13 = .int .i32 (i : Nat) ∧ Hid (Vld (s.data.toList.drop i)) ∧ Hid (∀ e, Fin s.data.toList i e → Fin s.data.toList off e) ∧ Tk wr B s off ct f1 le1 true false ∧ W.grownBy wr (some B))
        case atStart => exact ⟨off, by omega, Nat.le_refl _, hoff, rfl, HV, fun _ h => h, K3.out, G3.out⟩
        case round =>
          obtain ⟨i, hig, hio, his, rfl, hvi, hfi, hTk, hgr⟩ := hrel
          have KK := Lib.hid hTk
          have GR := Lib.hid hgr
          have HG := Lib.hid hig
          clear hig
          by_cases hlt : i < s.size
          · obtain ⟨p, n, hch, hvn⟩ := hvi.out.next (by
              intro q
              have := congrArg List.length q
              rw [List.length_drop, HZ.out] at this
              simp at this
              omega)
            have hn := hch.len
            have hpb := hch.bd
            obtain ⟨P, rfl⟩ : ∃ P : Nat, p = (P : Int) := ⟨p.toNat, by omega⟩
            have X := Lib.hid (fun (w' : World) (h : Tabs w') => Tryd.utf8_DecodeRuneInString (s.extract i s.size) w' h)
            rw [decGo hch, Int.toNat_natCast] at X
            rw [List.drop_drop] at hvn
            have HVN := Lib.hid hvn
            have HCH := Lib.hid hch
            have TB := Lib.hid (HT.out.kept hgr hB)
            have hn1 : 1 ≤ n := hn.1
            have hn4 : n ≤ 4 := hn.2.1
            have hin : i + n ≤ s.size := by have := hn.2.2; rw [List.length_drop, HZ.out] at this; omega
            obtain ⟨_, hP, _⟩ := hpb
            clear hch hn hvn hgr hTk hvi
            go_wp2_with fail
            refine (X.out _ TB.out).mono ?_
            rintro e w2 ⟨rfl, hb2⟩
            have K2 := Lib.hid (KK.out.below hb2)
            have G2 := Lib.hid (Lib.grownBy_below GR.out hb2)
            clear X TB KK GR hb2
            rcases T_cases P with ⟨hTT, hPc⟩ | ⟨hTT, e10, e13, e28, e29⟩
            · have HF := Lib.hid (hfi.out i (.stop HCH.out hTT))
              clear hTT
              obtain ⟨i0, i1, i2, i3, i4, i5, i6, i7, i8, i9, i10, g3, g4, g5, g6, g7, g8⟩ := K2.out
              clear i2 i3 i10 i5 i6 i8 g3 g4 g5 g7
              rcases hPc with rfl | rfl | rfl | rfl
              all_goals
                go_wp2_with fail
                go_meet
                exact ⟨i, HF.out, K2.out.ended _ i (by omega), Lib.grownBy_setB (Lib.grownBy_setB G2.out 8 _) 6 _⟩
            · have HTT := Lib.hid hTT
              clear hTT
              go_wp2_with fail
              have hg := HG.out
              go_roundg (gk - n)
              case measure => omega
              case rel => exact ⟨i + n, by omega, by omega, hin, by go_num, HVN, fun e h => hfi.out e (.go HCH.out HTT.out h), K2.out, G2.out⟩
          · obtain rfl : i = s.size := by omega
            have HF := Lib.hid (hfi.out s.size (.last HZ.out.symm))
            obtain ⟨i0, i1, i2, i3, i4, i5, i6, i7, i8, i9, i10, g3, g4, g5, g6, g7, g8⟩ := hTk
            clear i2 i3 i10 i5 i6 i8 g3 g4 g5 g7 hgr
            go_wp2_with fail
            go_meet
            exact ⟨s.size, HF.out, KK.out.ended _ s.size (by omega), Lib.grownBy_setB (Lib.grownBy_setB GR.out 8 _) 6 _⟩
    case rest =>
      obtain ⟨ee, hfe, hTk, hgr⟩ := hcut
      have hee := hfe.le (by rw [HZ.out]; exact hoff)
      rw [HZ.out] at hee
      have K4 := Lib.hid hTk
      have G4 := Lib.hid hgr
      have F4 := Lib.hid hfe
      obtain ⟨i0, i1, i2, i3, i4, i5, i6, i7, i8, i9, i10, g3, g4, g5, g6, g7, g8⟩ := hTk
      clear i2 i3 i10 i8 i9 i1 i4 g3 g4 g5 g6 g7 g8 hgr hfe K3 G3 Q2
      obtain ⟨he1', he2⟩ := hee
      have z1 : IntKind.i64.wrap ((off : Int) - (f1 : Int)) = (off : Int) - (f1 : Int) := IntWalk.i64_in _ (by omega)
      have z2 : IntKind.i64.wrap (ct : Int) = (ct : Int) := IntWalk.i64_in _ (by omega)
      have z3 : IntKind.i64.wrap (f1 : Int) = (f1 : Int) := IntWalk.i64_in _ (by omega)
      have z4 : IntKind.i64.wrap (ee : Int) = (ee : Int) := IntWalk.i64_in _ (by omega)
      go_wp2_with fail
      go_quiet (fail)
      clear z1 z2 z3 z4
      go_wp2_with fail
      refine bodyPost_ret (v := .tuple #[.int .i64 ct, .int .i64 ((off : Int) - f1), .int .i64 f1, .int .i64 ee]) ?_ rfl ?_
      · simp [results, Tryd.results17, go_sem]
      · exact ⟨ee, F4.out, rfl, K4.out, ⟨G4.out.os, G4.out.tape, G4.out.output, G4.out.size, G4.out.block⟩⟩
end Go.Proofs.YtpnigcljndjmlaaDoor.line
