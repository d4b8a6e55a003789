/- The walk of spec.Percent. -/
import Derived.Test.YtbjbejkkpfgbkaaRows
import Derived.Test.YtbjbejkkpfgbkaaKit
import Derived.Test.YtbjbejkkpfgbkaaPctPlain
import Derived.WalkKit
import Derived.ProofKit
import Derived.IntWalk
import Derived.OwnWalk
import Derived.WalkSpells
import Derived.Deep.LoopGhost
import Derived.Deep.DeepCutAuto
import Derived.Deep.CutBlock
import Derived.Laws.IdiomStrings
import Derived.Laws.BytesArg
import Derived.Deep.RegionLaw
import Derived.Outline
import Derived.Lib.AppendIntMem
namespace Go.Proofs.Ytbjbejkkpfgbkaa.pct
open Go.RowKit
open kit

def ints (xs : List Int) : List Value := xs.map (Value.int .i64)
theorem ints_len (xs : List Int) : (ints xs).length = xs.length := by simp [ints]
theorem ints_get (xs : List Int) (k : Nat) (hk : k < xs.length) : (ints xs)[k]? = some (.int .i64 (xs.getD k 0)) := by simp [ints, hk]
theorem own_bytes {w wr w1 : World} {B : Nat} {v v' : Value} {o : Obj} {xs ys : List UInt8} (hB : B ≤ wr.heap.size)
    (hown : wr.ownsRow B 5 1 v xs.length (Lib.byteCells xs)) (hb : Below B w wr) (hown' : w1.ownsRow B 5 1 v' (xs.length + ys.length) (Lib.byteCells xs ++ Lib.byteCells ys)) (hg : (wr.alloc o).grownBy w1 v.ownBlock) :
    w1.ownsRow B 5 1 v' (xs ++ ys).length (Lib.byteCells (xs ++ ys)) ∧ Below B w w1 := by
  refine ⟨by rw [Lib.byteCells_append, List.length_append]; exact hown', (hb.alloc hB o).grown hg (by simp; omega) (fun j hj => (hown.lt j hj).1)⟩
/-- a row of bytes of the call's own, as a string -/
theorem own_string {W : World} {B : Nat} {v : Value} {l : List UInt8} (h : W.ownsRow B 5 1 v l.length (Lib.byteCells l)) :
    (convert 34 9 v).run Try.prog W = .ok (.string ⟨l.toArray⟩) W := by
  obtain ⟨A, c, rfl, hr⟩ := Rd.of_own h
  by_cases hl : 0 < l.length
  · obtain ⟨b, o, rfl, hb, hc⟩ := hr.2 hl
    refine run_convert_bytes_back (P := Try.prog) _ 34 9 5 ⟨b, o, none⟩ c l Try.underlying34 Try.underlying5 Try.underlying9 ?_
    intro j hj
    have hplain : (⟨b, o, none⟩ : Addr).add j = ⟨b, o + j, none⟩ := by unfold Addr.add; split <;> simp_all
    rw [hplain]
    exact hc j _ (by simp [Lib.byteCells, hj])
  · obtain rfl : l = [] := List.eq_nil_of_length_eq_zero (by omega)
    cases A with
    | none => exact run_convert_bytes_nil _ 34 5 Try.underlying34 Try.underlying5 _ _ _ Try.underlying9
    | some a => exact run_convert_bytes_back (P := Try.prog) _ 34 9 5 a c [] Try.underlying34 Try.underlying5 Try.underlying9 (fun j hj => absurd hj (by simp))
theorem dg_at (p : Nat) (hp : p < 22) : ((⟨#[48, 49, 50, 51, 52, 53, 54, 55, 56, 57, 65, 66, 67, 68, 69, 70, 97, 98, 99, 100, 101, 102]⟩ : ByteArray)[p]'hp) = digs.getD p 0 := by
  have : ∀ q : Fin 22, ((⟨#[48, 49, 50, 51, 52, 53, 54, 55, 56, 57, 65, 66, 67, 68, 69, 70, 97, 98, 99, 100, 101, 102]⟩ : ByteArray)[q.1]'q.2) = digs.getD q.1 0 := by decide
  exact this ⟨p, hp⟩
theorem c1_three (W : World) (x y z : Value) (T : TypeId) : ∀ j u, ([x, y, z] : List Value)[j]? = some u → (W.alloc (.cells #[x, y, z] T)).cell? ((⟨W.heap.size, 0, none⟩ : Addr).add j) = some u := by
  intro j u hj
  match j, hj with
  | 0, hj => simp at hj; subst hj; simp [Addr.add]
  | 1, hj => simp at hj; subst hj; simp [Addr.add]
  | 2, hj => simp at hj; subst hj; simp [Addr.add]
theorem c2_three (x y z : Int) : ∀ u ∈ ([.int .u8 x, .int .u8 y, .int .u8 z] : List Value), u.oneCell' = true := by
  intro u hu
  simp at hu
  rcases hu with rfl | rfl | rfl <;> rfl
theorem info_u8 : (Try.prog.info? 5).map (fun i => (i.zero, i.size, i.bytes)) = some (some (.int .u8 0), 1, 1) := by kernel_rfl

set_option maxRecDepth 20000 in
set_option maxHeartbeats 3200000 in
theorem percent_any (s : ByteArray) (A : Option Addr) (c : Nat) (way : List Int) (w : World) (hr : Rd w w.heap.size A way.length (ints way)) (hs : s.size ≤ 1048576) (hl : way.length ≤ 1048576) :
    Calls Try.prog 5 #[.string s, .slice A way.length c] w fun e w' => e = .returned (.string ⟨(upTo s.data.toList way s.size).toArray⟩) ∧ Below w.heap.size w w' := by
  obtain ⟨i0, hi, hz0, hz1, hz2⟩ := info_parts info_u8
  have HR := Lib.hid hr
  clear hr
  go_enter Try.func5, Try.ntmps5
  go_wp2_with fail
  go_loopg [5, 13] s.size (fun g s5 s13 wr => ∃ k, k + g = s.size ∧ s13 = .int .i64 (k : Nat) ∧ wr.ownsRow w.heap.size 5 1 s5 (upTo s.data.toList way k).length (Lib.byteCells (upTo s.data.toList way k)) ∧ Below w.heap.size w wr)
  case atStart => exact ⟨0, by omega, rfl, World.ownsRow_nil _ _ _ _, Below.refl _ _⟩
  case round =>
    obtain ⟨k, hkg, rfl, hown, hb⟩ := hrel
    have HG := Lib.hid hkg
    have hbs := hb.size
    have hkx : k ≤ s.size := by omega
    clear hkg
    have hlen := upTo_len s.data.toList way k
    by_cases hlt : k < s.size
    · have HT := Lib.hid (upTo_succ s.data.toList way k)
      obtain ⟨out, hout⟩ : ∃ out, out = upTo s.data.toList way k := ⟨_, rfl⟩
      rw [← hout] at hown hlen HT
      clear hout
      have HO := Lib.hid hown
      clear hown
      go_upto_if 18 with (fail)
      go_cut [7] (fun s7 wx => s7 = .int .i64 (nth way k) ∧ wx = wr)
      case first =>
        by_cases hw : 0 < way.length
        · have hm : k % way.length < way.length := Nat.mod_lt _ hw
          obtain ⟨b, o, u, rfl, hbB, hu, hcell⟩ := (HR.out.below hb).at_ hm
          rw [ints_get way _ hm] at hu
          obtain rfl := Option.some.inj hu
          have hn : Hid (nth way k = way.getD (k % way.length) 0) := by show nth way k = _; unfold nth; rw [if_pos hw]
          obtain ⟨d, hd⟩ : ∃ d, d = way.getD (k % way.length) 0 := ⟨_, rfl⟩
          rw [← hd] at hcell hn
          clear hu hd
          obtain ⟨j, hj⟩ : ∃ j, j = k % way.length := ⟨_, rfl⟩
          rw [← hj] at hcell hm
          have hjz : (k : Int).tmod (way.length : Int) = (j : Int) := by rw [hj, Int.tmod_eq_emod_of_nonneg (by omega)]; omega
          clear hj
          go_wp2_with fail
          go_meet
          exact ⟨by rw [hn.out], rfl⟩
        · have hn : Hid (nth way k = 0) := by show nth way k = _; unfold nth; rw [if_neg hw]
          go_wp2_with fail
          go_meet
          exact ⟨by rw [hn.out], rfl⟩
      case rest =>
        obtain ⟨rfl, rfl⟩ := hcut
        obtain ⟨n, hn⟩ : ∃ n, n = nth way k := ⟨_, rfl⟩
        rw [← hn] at HT ⊢
        clear hn
        have hch : s.data.toList.getD k 0 = s[k] := by
          rw [List.getD_eq_getElem?_getD, Array.getElem?_toList, Array.getElem?_eq_getElem hlt]; rfl
        rw [hch] at HT
        clear hch
        go_upto_region 9 with (fail)
        obtain ⟨ch, hch⟩ : ∃ ch, ch = s[k] := ⟨_, rfl⟩
        rw [← hch] at HT ⊢
        clear hch
        obtain ⟨m, hm⟩ : ∃ m, m = ch.toNat := ⟨_, rfl⟩
        have hm256 : m < 256 := by rw [hm]; exact UInt8.toNat_lt ch
        rw [← hm]
        go_cut [55] (fun s55 wx => s55 = .bool (decide (n.tmod 2 = 0) && al m) ∧ wx = wc)
        case first =>
          clear hm
          by_cases h2 : n.tmod 2 = 0
          · have e : Hid ((decide (n.tmod 2 = 0) && al m) = al m) := by show _ = _; simp [h2]
            go_wp2_with fail
            all_goals
              go_meet
              refine ⟨?_, rfl⟩
              rw [e.out]
              clear e
              refine congrArg Value.bool ?_; unfold al; rw [Bool.eq_iff_iff]; simp; omega
          · have e : Hid ((decide (n.tmod 2 = 0) && al m) = false) := by show _ = _; simp [h2]
            go_wp2_with fail
            go_meet
            exact ⟨by rw [e.out], rfl⟩
        case rest =>
          obtain ⟨rfl, rfl⟩ := hcut
          by_cases hq : (decide (n.tmod 2 = 0) && al m) = true
          · have HP : Hid (pcb n ch = [ch]) := by show _ = _; unfold pcb; rw [← hm, if_pos hq]
            rw [hq]
            clear hq
            have hown := HO.out
            have hcv : Hid (Lib.byteCells [ch] = [.int .u8 (m : Int)]) := by show _ = _; rw [hm]; rfl
            clear hm
            go_wp2_with (first
              | (at_builtin; refine wpList_append_own _ rfl _ _ 34 rfl w.heap.size 5 i0 (.int .u8 0) 1 1 Try.underlying34 hi hz0 hz1 hz2 rfl (by decide) _ _ _ rfl (hown.alloc _) ⟨wc.heap.size, 0, none⟩ 1 1 [.int .u8 (m : Int)] rfl rfl ?c1 ?c2 ?c3 ?c4 ?c5 ?_))
            case c1 =>
              intro j u hj
              match j, hj with
              | 0, hj => simp at hj; subst hj; simp [Addr.add]
            case c2 => intro u hu; simp at hu; subst hu; rfl
            case c3 => unfold maxLen; omega
            case c4 => omega
            case c5 => simp; omega
            intro v' w1 hown' hgrow _
            have R := Lib.hid (own_bytes (ys := [ch]) hbs hown hb (by rw [hcv.out]; exact hown') hgrow)
            clear hown' hgrow hown
            go_wp2
            have hg := HG.out
            go_roundg (gk - 1)
            case measure => omega
            case rel =>
              refine ⟨k + 1, by omega, by go_num, ?_, R.out.2⟩
              rw [HT.out, HP.out]; exact R.out.1
          · have HP : Hid (pcb n ch = [37, digs.getD (pl (decide (n.tmod 3 = 0)) (m / 16)) 0, digs.getD (pl (decide (n.tmod 5 = 0)) (m % 16)) 0]) := by show _ = _; unfold pcb; rw [← hm, if_neg hq]
            rw [Bool.not_eq_true] at hq
            rw [hq]
            clear hq hm
            go_upto_region 12 with (fail)
            have e1 : (m : Int) / 16 = ((m / 16 : Nat) : Int) := by omega
            have e2 : (m : Int) % 16 = ((m % 16 : Nat) : Int) := by omega
            rw [e1, e2]
            clear e1 e2
            obtain ⟨h, hh⟩ : ∃ h, h = m / 16 := ⟨_, rfl⟩
            obtain ⟨l, hl'⟩ : ∃ l, l = m % 16 := ⟨_, rfl⟩
            have hh16 : h < 16 := by omega
            have hl16 : l < 16 := by omega
            rw [← hh, ← hl'] at HP ⊢
            clear hh hl'
            go_cut [70] (fun s70 wx => s70 = .bool (decide (n.tmod 3 = 0) && decide (9 < h)) ∧ wx = wc)
            case first =>
              by_cases h2 : n.tmod 3 = 0
              · have e : Hid ((decide (n.tmod 3 = 0) && decide (9 < h)) = decide (9 < h)) := by show _ = _; simp [h2]
                go_wp2_with fail
                all_goals
                  go_meet
                  refine ⟨?_, rfl⟩
                  rw [e.out]
                  clear e
                  refine congrArg Value.bool ?_; rw [Bool.eq_iff_iff]; simp; omega
              · have e : Hid ((decide (n.tmod 3 = 0) && decide (9 < h)) = false) := by show _ = _; simp [h2]
                go_wp2_with fail
                all_goals
                  go_meet
                  exact ⟨by rw [e.out], rfl⟩
            case rest =>
              obtain ⟨rfl, rfl⟩ := hcut
              go_upto_if 70 with (fail)
              go_cut [9] (fun s9 wx => s9 = .int .u8 ((pl (decide (n.tmod 3 = 0)) h : Nat) : Int) ∧ wx = wc)
              case first =>
                by_cases hq : (decide (n.tmod 3 = 0) && decide (9 < h)) = true
                · have e : Hid (pl (decide (n.tmod 3 = 0)) h = h + 6) := by show _ = _; unfold pl; rw [if_pos hq]
                  rw [hq]
                  clear hq
                  go_wp2_with fail
                  go_meet
                  exact ⟨by rw [e.out]; simp, rfl⟩
                · have e : Hid (pl (decide (n.tmod 3 = 0)) h = h) := by show _ = _; unfold pl; rw [if_neg hq]
                  rw [Bool.not_eq_true] at hq
                  rw [hq]
                  clear hq
                  go_wp2_with fail
                  go_meet
                  exact ⟨by rw [e.out], rfl⟩
              case rest =>
                obtain ⟨rfl, rfl⟩ := hcut
                have hp22 := pl_lt (decide (n.tmod 3 = 0)) h hh16
                obtain ⟨p, hp⟩ : ∃ p, p = pl (decide (n.tmod 3 = 0)) h := ⟨_, rfl⟩
                rw [← hp] at HP hp22 ⊢
                clear hp
                go_upto_region 14 with (fail)
                go_cut [79] (fun s79 wx => s79 = .bool (decide (n.tmod 5 = 0) && decide (9 < l)) ∧ wx = wc)
                case first =>
                  by_cases h2 : n.tmod 5 = 0
                  · have e : Hid ((decide (n.tmod 5 = 0) && decide (9 < l)) = decide (9 < l)) := by show _ = _; simp [h2]
                    go_wp2_with fail
                    all_goals
                      go_meet
                      refine ⟨?_, rfl⟩
                      rw [e.out]
                      clear e
                      refine congrArg Value.bool ?_; rw [Bool.eq_iff_iff]; simp; omega
                  · have e : Hid ((decide (n.tmod 5 = 0) && decide (9 < l)) = false) := by show _ = _; simp [h2]
                    go_wp2_with fail
                    all_goals
                      go_meet
                      exact ⟨by rw [e.out], rfl⟩
                case rest =>
                  obtain ⟨rfl, rfl⟩ := hcut
                  go_upto_if 79 with (fail)
                  go_cut [10] (fun s10 wx => s10 = .int .u8 ((pl (decide (n.tmod 5 = 0)) l : Nat) : Int) ∧ wx = wc)
                  case first =>
                    by_cases hq : (decide (n.tmod 5 = 0) && decide (9 < l)) = true
                    · have e : Hid (pl (decide (n.tmod 5 = 0)) l = l + 6) := by show _ = _; unfold pl; rw [if_pos hq]
                      rw [hq]
                      clear hq
                      go_wp2_with fail
                      go_meet
                      exact ⟨by rw [e.out]; simp, rfl⟩
                    · have e : Hid (pl (decide (n.tmod 5 = 0)) l = l) := by show _ = _; unfold pl; rw [if_neg hq]
                      rw [Bool.not_eq_true] at hq
                      rw [hq]
                      clear hq
                      go_wp2_with fail
                      go_meet
                      exact ⟨by rw [e.out], rfl⟩
                  case rest =>
                    obtain ⟨rfl, rfl⟩ := hcut
                    have hr22 := pl_lt (decide (n.tmod 5 = 0)) l hl16
                    obtain ⟨r, hr⟩ : ∃ r, r = pl (decide (n.tmod 5 = 0)) l := ⟨_, rfl⟩
                    rw [← hr] at HP hr22 ⊢
                    clear hr
                    have hown := HO.out
                    have hpi : (p : Int) < 22 := by omega
                    have hri : (r : Int) < 22 := by omega
                    go_wp2_with fail
                    go_region_law (refine step_append_lies _ rfl (.tmp 82) (.tmp 87) 34 rfl w.heap.size 5 i0 (.int .u8 0) 1 1 Try.underlying34 hi hz0 hz1 hz2 rfl (by decide) u5 out.length (Lib.byteCells out) rfl (hown.drew.alloc _) ⟨wc.heap.size, 0, none⟩ 3 3 [.int .u8 37, .int .u8 (((⟨#[48, 49, 50, 51, 52, 53, 54, 55, 56, 57, 65, 66, 67, 68, 69, 70, 97, 98, 99, 100, 101, 102]⟩ : ByteArray)[p]'hp22).toNat : Nat), .int .u8 (((⟨#[48, 49, 50, 51, 52, 53, 54, 55, 56, 57, 65, 66, 67, 68, 69, 70, 97, 98, 99, 100, 101, 102]⟩ : ByteArray)[r]'hr22).toNat : Nat)] rfl rfl (c1_three _ _ _ _ _) (c2_three _ _ _) (by omega) (by unfold maxLen; omega) (by omega) (by simp; omega) _ rfl ?_; intro g cap w1 hown' hgrow _ _; have R := Lib.hid (own_bytes (ys := [37, digs.getD p 0, digs.getD r 0]) (wr := wc.drew) (w := w) hbs hown.drew hb.drew (by rw [← dg_at p hp22, ← dg_at r hr22]; exact hown') hgrow); clear hown' hgrow)
                    all_goals
                      go_wp2
                      have hg := HG.out
                      go_roundg (gk - 1)
                      case measure => omega
                      case rel =>
                        refine ⟨k + 1, by omega, by go_num, ?_, R.out.2⟩
                        rw [HT.out, HP.out]; exact R.out.1
    · have hke : k = s.size := by omega
      subst hke
      clear hlt
      have hcv := own_string hown
      go_wp2
      go_ret
      exact ⟨rfl, hb⟩
end Go.Proofs.Ytbjbejkkpfgbkaa.pct
