/- Walks of spec.Points, spec.Valid. -/
import Derived.Test.YtpnigcljndjmlaaPtWalk
namespace Go.Proofs.Ytpnigcljndjmlaa.pt
open Go.RowKit
open kit

def ints (xs : List Int) : List Value := xs.map (Value.int .i64)
theorem ints_snoc (xs : List Int) (d : Int) : ints xs ++ [.int .i64 d] = ints (xs ++ [d]) := by simp [ints]
theorem info_int : (Try.prog.info? 3).map (fun i => (i.zero, i.size, i.bytes)) = some (some (.int .i64 0), 1, 8) := by kernel_rfl
theorem own_snoc {w wr w1 : World} {B : Nat} {v v' : Value} {o : Obj} {xs : List Int} {d : Int} (hB : B ≤ wr.heap.size)
    (hown : wr.ownsRow B 3 1 v xs.length (ints xs)) (hb : Below B w wr) (hown' : w1.ownsRow B 3 1 v' (xs.length + 1) (ints xs ++ [.int .i64 d])) (hg : (wr.alloc o).grownBy w1 v.ownBlock) :
    w1.ownsRow B 3 1 v' (xs ++ [d]).length (ints (xs ++ [d])) ∧ Below B w w1 := by
  refine ⟨by rw [← ints_snoc]; simpa using hown', (hb.alloc hB o).grown hg (by simp; omega) (fun j hj => (hown.lt j hj).1)⟩
theorem c1_one (W : World) (x : Value) (T : TypeId) : ∀ j u, ([x] : List Value)[j]? = some u → (W.alloc (.cells #[x] T)).cell? ((⟨W.heap.size, 0, none⟩ : Addr).add j) = some u := by
  intro j u hj
  match j, hj with
  | 0, hj => simp at hj; subst hj; simp [Addr.add]
theorem c2_one (x : Int) : ∀ u ∈ ([.int .i64 x] : List Value), u.oneCell' = true := by
  intro u hu
  simp at hu
  subst hu
  rfl
theorem ext_drop (t : ByteArray) (n : Nat) : (t.extract n t.size).data.toList = t.data.toList.drop n := by
  have h : t.data.toList.length = t.size := by rw [Array.length_toList]; rfl
  rw [ByteArray.data_extract, Array.toList_extract]
  simp only [List.extract_eq_take_drop]
  rw [List.take_of_length_le (by rw [List.length_drop, h]; omega)]

def Pts (l : List UInt8) (w : World) (e : Ending) (w' : World) : Prop := ∃ v b, e = .returned (.tuple #[v, .bool b]) ∧ (b = true → Vld l) ∧ Below w.heap.size w w'

set_option maxHeartbeats 1600000 in
theorem points_any (s : ByteArray) (w : World) (hs : s.size ≤ 1048576) : Calls Try.prog 7 #[.string s] w (Pts s.data.toList w) := by
  obtain ⟨i0, hi, hz0, hz1, hz2⟩ := info_parts info_int
  go_enter Try.func7, Try.ntmps7
  go_wp2_with fail
  go_loopg [0, 4] s.size (fun g s0 s4 wr => ∃ (t : ByteArray) (xs : List Int), s0 = .string t ∧ t.size ≤ g ∧ Hid (Vld t.data.toList → Vld s.data.toList) ∧ wr.ownsRow w.heap.size 3 1 s4 xs.length (ints xs) ∧ xs.length + t.size ≤ s.size ∧ Below w.heap.size w wr)
  case atStart => exact ⟨s, [], rfl, Nat.le_refl _, fun h => h, World.ownsRow_nil _ _ _ _, by simp, Below.refl _ _⟩
  case round =>
    obtain ⟨t, xs, rfl, htg, HV, hown, hxt, hb⟩ := hrel
    have hbs := hb.size
    by_cases h0 : 0 < t.size
    · obtain ⟨n1, n2⟩ := str_full h0
      have X := Lib.hid (fun W : World => point_any t W (by omega))
      unfold Pt at X
      obtain ⟨p, m, hpm⟩ : ∃ p m, point t.data.toList = (p, m) := ⟨_, _, rfl⟩
      have HC := Lib.hid (fun h1 h2 => ch_of hpm h1 h2)
      rw [hpm] at X
      clear hpm
      have HO := Lib.hid hown
      clear hown
      go_wp2_with fail
      refine (X.out _).mono ?_
      rintro e w' ⟨rfl, rfl⟩
      clear n1 n2 X
      by_cases e1 : p = -1
      · obtain rfl := e1
        clear HC
        go_wp2_with fail
        go_ret2
        exact ⟨_, false, rfl, fun h => (by cases h), hb⟩
      · have e2 : (p == -1) = false := by rw [beq_eq_false_iff_ne]; exact e1
        have E1 := Lib.hid e1
        clear e1
        by_cases e3 : 55296 ≤ p ∧ p < 57344
        · obtain ⟨e3, e4⟩ := e3
          clear HC
          go_wp2_with fail
          refine (sur_yes p _ e3 e4).mono ?_
          rintro e w' ⟨rfl, rfl⟩
          go_wp2_with fail
          go_ret2
          exact ⟨_, false, rfl, fun h => (by cases h), hb⟩
        · obtain ⟨n, hmn, hch⟩ := HC.out E1.out e3
          obtain rfl := hmn
          have hl := hch.len
          have hll : t.data.toList.length = t.size := by rw [Array.length_toList]; rfl
          have hn1 : n ≤ t.size := by omega
          have hn2 : 1 ≤ n := hl.1
          have HCH := Lib.hid hch
          have E3 := Lib.hid e3
          clear hll hl hch HC e3
          have X := Lib.hid (fun W : World => sur_no p W E3.out)
          go_wp2_with fail
          refine (X.out _).mono ?_
          rintro e w' ⟨rfl, rfl⟩
          have hown := HO.out
          have hq0 : (0 : Int) ≤ (n : Int) := by omega
          have hq1 : (n : Int) ≤ (t.size : Int) := by omega
          clear X
          go_wp2_with fail
          go_region_law (refine step_append_lies _ rfl (.tmp 20) (.tmp 22) 28 rfl w.heap.size 3 i0 (.int .i64 0) 1 8 Try.underlying28 hi hz0 hz1 hz2 rfl (by decide) u4 xs.length (ints xs) rfl (hown.drew.alloc _) ⟨wr.heap.size, 0, none⟩ 1 1 [.int .i64 p] rfl rfl (c1_one _ _ _) (c2_one _) (by omega) (by unfold maxLen; omega) (by omega) (by simp; omega) _ rfl ?_; intro g cap w1 hown' hgrow _ _; have R := Lib.hid (own_snoc (wr := wr.drew) (w := w) hbs hown.drew hb.drew hown' hgrow); clear hown' hgrow)
          all_goals
            go_wp2_with fail
            go_roundg (gk - 1)
            case measure => omega
            case rel =>
              refine ⟨t.extract n t.size, xs ++ [p], rfl, ?_, fun h => HV.out (.step HCH.out (by rw [← ext_drop]; exact h)), R.out.1, ?_, R.out.2⟩
              · rw [ByteArray.size_extract]; omega
              · rw [ByteArray.size_extract, List.length_append]; simp; omega
    · obtain rfl := str_empty (s := t) (by omega)
      clear h0
      go_wp2_with fail
      go_ret2
      exact ⟨_, true, rfl, fun _ => HV.out .nil, hb⟩

theorem valid_any (s : ByteArray) (w : World) (hs : s.size ≤ 1048576) : Calls Try.prog 4 #[.string s] w fun e w' => ∃ b, e = .returned (.bool b) ∧ (b = true → Vld s.data.toList) ∧ Below w.heap.size w w' := by
  have X := Lib.hid (fun W : World => points_any s W hs)
  go_enter Try.func4, Try.ntmps4
  go_wp2_with fail
  refine (X.out _).mono ?_
  rintro e w' ⟨v, b, rfl, hv, hb⟩
  have HV := Lib.hid hv
  clear hv X
  go_wp2_with fail
  go_ret
  exact ⟨b, rfl, HV.out, hb⟩

end Go.Proofs.Ytpnigcljndjmlaa.pt
