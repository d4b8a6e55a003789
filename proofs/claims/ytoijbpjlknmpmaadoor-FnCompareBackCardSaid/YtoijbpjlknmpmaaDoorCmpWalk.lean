/- Walks of small, Sign, Compared and CompareSemver. -/
import Derived.Test.YtoijbpjlknmpmaaDoorRows
import Derived.Test.YtoijbpjlknmpmaaDoorCmpPlain
import Derived.Test.YtoijbpjlknmpmaaDoorKit
import Derived.WalkKit
import Derived.ProofKit
import Derived.IntWalk
import Derived.OwnWalk
import Derived.WalkSpells
import Derived.Deep.LoopGhost
import Derived.Deep.DeepCutAuto
import Derived.Deep.CutBlock
namespace Go.Proofs.YtoijbpjlknmpmaaDoor.cmp
open Go.RowKit
open kit

/-- numbers as cells -/
def ints (xs : List Int) : List Value := xs.map (Value.int .i64)
theorem ints_len (xs : List Int) : (ints xs).length = xs.length := by simp [ints]
theorem ints_snoc (xs : List Int) (d : Int) : ints xs ++ [.int .i64 d] = ints (xs ++ [d]) := by simp [ints]
theorem ints_get (xs : List Int) (k : Nat) (hk : k < xs.length) : (ints xs)[k]? = some (.int .i64 (xs.getD k 0)) := by simp [ints, hk]
theorem take_snoc (xs : List Int) (k : Nat) (hk : k < xs.length) : xs.take (k + 1) = xs.take k ++ [xs.getD k 0] := by
  rw [List.take_add_one, List.getElem?_eq_getElem hk]; simp [hk]
theorem info_int : (Tryd.prog.info? 3).map (fun i => (i.zero, i.size, i.bytes)) = some (some (.int .i64 0), 1, 8) := by kernel_rfl

def Gives (xs : List Int) (w : World) (e : Ending) (w' : World) : Prop := ∃ v, e = .returned v ∧ w'.ownsRow w.heap.size 3 1 v xs.length (ints xs) ∧ Below w.heap.size w w'

theorem own_snoc {w wr w1 : World} {B : Nat} {v v' : Value} {o : Obj} {xs : List Int} {d : Int} (hB : B ≤ wr.heap.size)
    (hown : wr.ownsRow B 3 1 v xs.length (ints xs)) (hb : Below B w wr) (hown' : w1.ownsRow B 3 1 v' (xs.length + 1) (ints xs ++ [.int .i64 d])) (hg : (wr.alloc o).grownBy w1 v.ownBlock) :
    w1.ownsRow B 3 1 v' (xs ++ [d]).length (ints (xs ++ [d])) ∧ Below B w w1 := by
  refine ⟨by rw [← ints_snoc]; simpa using hown', (hb.alloc hB o).grown hg (by simp; omega) (fun j hj => (hown.lt j hj).1)⟩

set_option maxHeartbeats 800000 in
theorem small_any (A : Option Addr) (c : Nat) (xs : List Int) (w : World) (hr : Rd w w.heap.size A xs.length (ints xs)) (hl : xs.length * 8 ≤ 140737488351232) :
    Calls Tryd.prog 12 #[.slice A xs.length c] w (Gives (xs.map sm) w) := by
  obtain ⟨i0, hi, hz0, hz1, hz2⟩ := info_parts info_int
  have HR := Lib.hid hr
  clear hr
  go_enter Tryd.func12, Tryd.ntmps12
  go_wp2_with fail
  go_loopg [3, 8] xs.length (fun g s3 s8 wr => ∃ k, k + g = xs.length ∧ s8 = .int .i64 (k : Nat) ∧ wr.ownsRow w.heap.size 3 1 s3 ((xs.take k).map sm).length (ints ((xs.take k).map sm)) ∧ Below w.heap.size w wr)
  case atStart => exact ⟨0, by omega, rfl, World.ownsRow_nil _ _ _ _, Below.refl _ _⟩
  case round =>
    obtain ⟨k, hkg, rfl, hown, hb⟩ := hrel
    have HG := Lib.hid hkg
    have hbs := hb.size
    have hkx : k ≤ xs.length := by omega
    clear hkg
    have hlen : ((xs.take k).map sm).length ≤ k := by simp; omega
    by_cases hlt : k < xs.length
    · obtain ⟨b, o, u, rfl, hbB, hu, hcell⟩ := (HR.out.below hb).at_ hlt
      rw [ints_get xs k hlt] at hu
      obtain rfl := Option.some.inj hu
      have HT := Lib.hid (take_snoc xs k hlt)
      obtain ⟨d, hd⟩ : ∃ d, d = xs.getD k 0 := ⟨_, rfl⟩
      rw [← hd] at hcell HT
      clear hu hd
      obtain ⟨out, hout⟩ : ∃ out, out = (xs.take k).map sm := ⟨_, rfl⟩
      rw [← hout] at hown hlen
      have HO := Lib.hid hout
      clear hout
      have h1 : -1000000 < d.tmod 1000000 := Int.lt_tmod_of_pos d (by omega)
      have h2 : d.tmod 1000000 < 1000000 := Int.tmod_lt_of_pos d (by omega)
      go_wp2_with (first
        | (at_builtin; refine wpList_append_own _ rfl _ _ 27 rfl w.heap.size 3 i0 (.int .i64 0) 1 8 Tryd.underlying27 hi hz0 hz1 hz2 rfl (by decide) _ _ _ rfl (hown.alloc _) ⟨wr.heap.size, 0, none⟩ 1 1 [.int .i64 ((d.tmod 1000000 + 1000000) % 1000000)] rfl rfl ?c1 ?c2 ?c3 ?c4 ?c5 ?_))
      case c1 =>
        intro j u hj
        match j, hj with
        | 0, hj => simp at hj; subst hj; simp [Addr.add]
      case c2 => intro u hu; simp at hu; subst hu; rfl
      case c3 => unfold maxLen; omega
      case c4 => omega
      case c5 => simp; omega
      intro v' w1 hown' hgrow _
      have R := Lib.hid (own_snoc (d := sm d) hbs hown hb (by rw [show sm d = d.tmod 1000000 % 1000000 from by unfold sm; simp]; exact hown') hgrow)
      clear hown' hgrow hown
      go_wp2
      have hg := HG.out
      go_roundg (gk - 1)
      case measure => omega
      case rel =>
        refine ⟨k + 1, by omega, by go_num, ?_, R.out.2⟩
        rw [HT.out, List.map_append, ← HO.out]; exact R.out.1
    · have hke : k = xs.length := by omega
      subst hke
      rw [List.take_length] at hown
      clear hlt
      go_wp2
      go_ret
      exact ⟨_, rfl, hown, hb⟩

theorem sign_any (n : Int) (w : World) : Calls Tryd.prog 13 #[.int .i64 n] w fun e w' => e = .returned (.int .i64 (sgn n)) ∧ w = w' := by
  have D : Hid (sgn n = if 0 < n then 1 else if n < 0 then -1 else 0) := rfl
  rcases Int.lt_trichotomy n 0 with h | h | h
  · go_enter Tryd.func13, Tryd.ntmps13
    by_cases h1 : -1 < n
    · omega
    · go_wp2
      all_goals
        go_ret
        refine ⟨?_, rfl⟩
        rw [D.out, if_neg (by omega), if_pos h]
        first | rfl | (congr 2; simp; omega)
  · subst h
    go_enter Tryd.func13, Tryd.ntmps13
    go_wp2
    go_ret
    exact ⟨rfl, rfl⟩
  · go_enter Tryd.func13, Tryd.ntmps13
    by_cases h1 : n < 1
    · omega
    · go_wp2
      all_goals
        go_ret
        refine ⟨?_, rfl⟩
        rw [D.out, if_pos h]
        first | rfl | (congr 2; simp; omega)

set_option maxHeartbeats 800000 in
theorem compared_any (A A' : Option Addr) (c c' : Nat) (xs ys : List Int) (w : World) (hr : Rd w w.heap.size A xs.length (ints xs)) (hr' : Rd w w.heap.size A' ys.length (ints ys))
    (hl : xs.length * 8 ≤ 140737488351232) (hl' : ys.length * 8 ≤ 140737488351232) :
    Calls Tryd.prog 15 #[.slice A xs.length c, .slice A' ys.length c'] w fun e w' => e = .returned (.int .i64 (sgn (dif xs ys))) ∧ w = w' := by
  have HR := Lib.hid hr
  have HR' := Lib.hid hr'
  clear hr hr'
  by_cases hxy : xs.length < ys.length
  all_goals
    go_enter Tryd.func15, Tryd.ntmps15
    go_wp2_with fail
    go_loopg [13] (max xs.length ys.length) (fun g s13 wr => ∃ k, k + g = max xs.length ys.length ∧ s13 = .int .i64 (k : Nat) ∧ wr = w ∧ Hid (dif xs ys = dif (xs.drop k) (ys.drop k)))
    case atStart => exact ⟨0, by omega, rfl, rfl, rfl⟩
    case round =>
      obtain ⟨k, hkg, rfl, rfl, HD⟩ := hrel
      have HG := Lib.hid hkg
      have hkm : k ≤ max xs.length ys.length := by omega
      clear hkg
      by_cases hlt : k < max xs.length ys.length
      · have hst := dif_drop xs ys k hlt
        have HS := Lib.hid hst
        clear hst
        obtain ⟨x, hx⟩ : ∃ x, x = xs.getD k 0 := ⟨_, rfl⟩
        obtain ⟨y, hy⟩ : ∃ y, y = ys.getD k 0 := ⟨_, rfl⟩
        rw [← hx, ← hy] at HS
        rcases Nat.lt_or_ge k xs.length with kx | kx <;> rcases Nat.lt_or_ge k ys.length with ky | ky
        case inr.inr => omega
        all_goals
          first
            | (obtain ⟨b, o, u, rfl, hbB, hu, hcx⟩ := HR.out.at_ kx
               rw [ints_get xs k kx, ← hx] at hu
               obtain rfl := Option.some.inj hu
               clear hu)
            | (have hx0 : x = 0 := by rw [hx]; simp [kx]
               clear hx
               subst hx0)
          first
            | (obtain ⟨b', o', u', rfl, hbB', hu', hcy⟩ := HR'.out.at_ ky
               rw [ints_get ys k ky, ← hy] at hu'
               obtain rfl := Option.some.inj hu'
               clear hu')
            | (have hy0 : y = 0 := by rw [hy]; simp [ky]
               clear hy
               subst hy0)
          try clear hx
          try clear hy
        · first | (exfalso; omega) | skip
          all_goals
            rcases Int.lt_trichotomy x y with h | h | h
            · have hb1 : (x != y) = true := by rw [bne_iff_ne]; omega
              have hb2 : (x == y) = false := by rw [beq_eq_false_iff_ne]; omega
              have E : Hid (sgn (dif xs ys) = -1) := by
                show sgn (dif xs ys) = -1
                rw [HD.out, HS.out, if_pos (by omega)]; unfold sgn; rw [if_neg (by omega), if_pos (by omega)]
              go_wp2
              go_ret
              rw [E.out]
              exact ⟨rfl, rfl⟩
            · have hb1 : (x != y) = false := by simp [h]
              have hb2 : (x == y) = true := by simp [h]
              have E : Hid (dif xs ys = dif (xs.drop (k + 1)) (ys.drop (k + 1))) := by
                show dif xs ys = _
                rw [HD.out, HS.out, if_neg (by omega)]
              clear h HD HS
              go_wp2
              have hg := HG.out
              go_roundg (gk - 1)
              case measure => omega
              case rel => exact ⟨k + 1, by omega, by go_num, rfl, E⟩
            · have hb1 : (x != y) = true := by rw [bne_iff_ne]; omega
              have hb2 : (x == y) = false := by rw [beq_eq_false_iff_ne]; omega
              have E : Hid (sgn (dif xs ys) = 1) := by
                show sgn (dif xs ys) = 1
                rw [HD.out, HS.out, if_pos (by omega)]; unfold sgn; rw [if_pos (by omega)]
              go_wp2
              go_ret
              rw [E.out]
              exact ⟨rfl, rfl⟩
        · first | (exfalso; omega) | skip
          all_goals
            rcases Int.lt_trichotomy x (0 : Int) with h | h | h
            · have hb1 : (x != (0 : Int)) = true := by rw [bne_iff_ne]; omega
              have hb2 : (x == (0 : Int)) = false := by rw [beq_eq_false_iff_ne]; omega
              have E : Hid (sgn (dif xs ys) = -1) := by
                show sgn (dif xs ys) = -1
                rw [HD.out, HS.out, if_pos (by omega)]; unfold sgn; rw [if_neg (by omega), if_pos (by omega)]
              go_wp2
              go_ret
              rw [E.out]
              exact ⟨rfl, rfl⟩
            · have hb1 : (x != (0 : Int)) = false := by simp [h]
              have hb2 : (x == (0 : Int)) = true := by simp [h]
              have E : Hid (dif xs ys = dif (xs.drop (k + 1)) (ys.drop (k + 1))) := by
                show dif xs ys = _
                rw [HD.out, HS.out, if_neg (by omega)]
              clear h HD HS
              go_wp2
              have hg := HG.out
              go_roundg (gk - 1)
              case measure => omega
              case rel => exact ⟨k + 1, by omega, by go_num, rfl, E⟩
            · have hb1 : (x != (0 : Int)) = true := by rw [bne_iff_ne]; omega
              have hb2 : (x == (0 : Int)) = false := by rw [beq_eq_false_iff_ne]; omega
              have E : Hid (sgn (dif xs ys) = 1) := by
                show sgn (dif xs ys) = 1
                rw [HD.out, HS.out, if_pos (by omega)]; unfold sgn; rw [if_pos (by omega)]
              go_wp2
              go_ret
              rw [E.out]
              exact ⟨rfl, rfl⟩
        · first | (exfalso; omega) | skip
          all_goals
            rcases Int.lt_trichotomy (0 : Int) y with h | h | h
            · have hb1 : ((0 : Int) != y) = true := by rw [bne_iff_ne]; omega
              have hb2 : ((0 : Int) == y) = false := by rw [beq_eq_false_iff_ne]; omega
              have E : Hid (sgn (dif xs ys) = -1) := by
                show sgn (dif xs ys) = -1
                rw [HD.out, HS.out, if_pos (by omega)]; unfold sgn; rw [if_neg (by omega), if_pos (by omega)]
              go_wp2
              go_ret
              rw [E.out]
              exact ⟨rfl, rfl⟩
            · have hb1 : ((0 : Int) != y) = false := by simp [h]
              have hb2 : ((0 : Int) == y) = true := by simp [h]
              have E : Hid (dif xs ys = dif (xs.drop (k + 1)) (ys.drop (k + 1))) := by
                show dif xs ys = _
                rw [HD.out, HS.out, if_neg (by omega)]
              clear h HD HS
              go_wp2
              have hg := HG.out
              go_roundg (gk - 1)
              case measure => omega
              case rel => exact ⟨k + 1, by omega, by go_num, rfl, E⟩
            · have hb1 : ((0 : Int) != y) = true := by rw [bne_iff_ne]; omega
              have hb2 : ((0 : Int) == y) = false := by rw [beq_eq_false_iff_ne]; omega
              have E : Hid (sgn (dif xs ys) = 1) := by
                show sgn (dif xs ys) = 1
                rw [HD.out, HS.out, if_pos (by omega)]; unfold sgn; rw [if_pos (by omega)]
              go_wp2
              go_ret
              rw [E.out]
              exact ⟨rfl, rfl⟩
      · have hz := dif_end xs ys k (by omega)
        have e : dif xs ys = 0 := HD.out.trans hz
        have E := Lib.hid e
        clear e hz
        go_wp2
        go_ret
        rw [E.out]
        exact ⟨rfl, rfl⟩
theorem trim_empty (w : World) : Calls Tryd.prog 26 #[.string ⟨#[]⟩, .string ⟨#[45]⟩] w fun e w' => e = .returned (.string ⟨#[]⟩) ∧ w = w' := by
  go_enter Tryd.func26, Tryd.ntmps26
  go_wp2
  go_ret
  exact ⟨rfl, rfl⟩
theorem bel2 (w : World) (o o' : Obj) : Below w.heap.size w ((w.alloc o).alloc o') := ((Below.refl _ _).alloc (Nat.le_refl _) o).alloc (by simp) o'
theorem mem_bd {xs : List Int} (h : ∀ n ∈ xs, 0 ≤ n ∧ n ≤ 999999) (k : Nat) : 0 ≤ xs.getD k 0 ∧ xs.getD k 0 ≤ 999999 := by
  rcases Nat.lt_or_ge k xs.length with hk | hk
  · rw [show xs.getD k 0 = xs[k] from by simp [hk]]; exact h _ (List.getElem_mem hk)
  · rw [show xs.getD k 0 = 0 from by simp [hk]]; omega

set_option maxHeartbeats 3200000 in
/-- CompareSemver up to the loop over the numbers; R: what it returns: the difference where there is one; else what the rest says -/
theorem semver_empty (A A' : Option Addr) (c c' : Nat) (xs ys : List Int) (R : Int) (w : World) (hr : Rd w w.heap.size A xs.length (ints xs)) (hr' : Rd w w.heap.size A' ys.length (ints ys))
    (hl : xs.length * 8 ≤ 140737488351232) (hl' : ys.length * 8 ≤ 140737488351232) (hx : ∀ n ∈ xs, 0 ≤ n ∧ n ≤ 999999) (hy : ∀ n ∈ ys, 0 ≤ n ∧ n ≤ 999999)
    (hp : (dif xs ys ≠ 0 → R = dif xs ys) ∧ (dif xs ys = 0 → R = 0)) :
    Calls Tryd.prog 20 #[.agg #[.slice A xs.length c, .string ⟨#[]⟩], .agg #[.slice A' ys.length c', .string ⟨#[]⟩]] w fun e w' => e = .returned (.int .i64 R) ∧ Below w.heap.size w w' := by
  have HR := Lib.hid hr
  have HR' := Lib.hid hr'
  have HX := Lib.hid hx
  have HY := Lib.hid hy
  have HP := Lib.hid hp
  clear hr hr' hx hy hp
  by_cases hxy : xs.length < ys.length
  all_goals
    go_enter Tryd.func20, Tryd.ntmps20
    go_upto_block 0 with (fail)
    go_cut [8] (fun s8 wx => wx = ((w.alloc (Obj.cells #[.slice A xs.length c, .string ⟨#[]⟩] 44)).alloc (Obj.cells #[.slice A' ys.length c', .string ⟨#[]⟩] 44)) ∧ Hid (dif xs ys = 0))
    case first =>
      go_wp2_with fail
      go_loopg [8] (max xs.length ys.length) (fun g s8 wr => ∃ k, k + g = max xs.length ys.length ∧ s8 = .int .i64 (k : Nat) ∧ wr = ((w.alloc (Obj.cells #[.slice A xs.length c, .string ⟨#[]⟩] 44)).alloc (Obj.cells #[.slice A' ys.length c', .string ⟨#[]⟩] 44)) ∧ Hid (dif xs ys = dif (xs.drop k) (ys.drop k)))
      case atStart => exact ⟨0, by omega, rfl, rfl, rfl⟩
      case round =>
        obtain ⟨k, hkg, rfl, rfl, HD⟩ := hrel
        have HG := Lib.hid hkg
        have hkm : k ≤ max xs.length ys.length := by omega
        clear hkg
        by_cases hlt : k < max xs.length ys.length
        · have hst := dif_drop xs ys k hlt
          have HS := Lib.hid hst
          clear hst
          have bx := mem_bd HX.out k
          have yb := mem_bd HY.out k
          obtain ⟨x, hx⟩ : ∃ x, x = xs.getD k 0 := ⟨_, rfl⟩
          obtain ⟨y, hy⟩ : ∃ y, y = ys.getD k 0 := ⟨_, rfl⟩
          rw [← hx, ← hy] at HS
          rw [← hx] at bx
          rw [← hy] at yb
          rcases Nat.lt_or_ge k xs.length with kx | kx <;> rcases Nat.lt_or_ge k ys.length with ky | ky
          case inr.inr => omega
          all_goals
            first
              | (obtain ⟨b, o, u, rfl, hbB, hu, hcx⟩ := HR.out.at_ kx
                 rw [ints_get xs k kx, ← hx] at hu
                 obtain rfl := Option.some.inj hu
                 clear hu
                 have q1 : b < w.heap.size + 1 := by omega)
              | (have hx0 : x = 0 := by rw [hx]; simp [kx]
                 clear hx
                 subst hx0)
            first
              | (obtain ⟨b', o', u', rfl, hbB', hu', hcy⟩ := HR'.out.at_ ky
                 rw [ints_get ys k ky, ← hy] at hu'
                 obtain rfl := Option.some.inj hu'
                 clear hu'
                 have q2 : b' < w.heap.size + 1 := by omega)
              | (have hy0 : y = 0 := by rw [hy]; simp [ky]
                 clear hy
                 subst hy0)
            try clear hx
            try clear hy
          · first | (exfalso; omega) | skip
            all_goals
              by_cases h : x = y
              · have hb1 : (x != y) = false := by simp [h]
                have hb2 : (x == y) = true := by simp [h]
                have E : Hid (dif xs ys = dif (xs.drop (k + 1)) (ys.drop (k + 1))) := by
                  show dif xs ys = _
                  rw [HD.out, HS.out, if_neg (by omega)]
                clear h HD HS
                go_wp2
                have hg := HG.out
                go_roundg (gk - 1)
                case measure => omega
                case rel => exact ⟨k + 1, by omega, by go_num, rfl, E⟩
              · have hb1 : (x != y) = true := by rw [bne_iff_ne]; omega
                have hb2 : (x == y) = false := by rw [beq_eq_false_iff_ne]; omega
                have E : Hid (dif xs ys = x - y) := by
                  show dif xs ys = x - y
                  rw [HD.out, HS.out, if_pos (by omega)]
                have hne : dif xs ys ≠ 0 := by rw [E.out]; omega
                have F := Lib.hid (HP.out.1 hne)
                clear hne
                go_wp2
                go_ret
                refine ⟨?_, bel2 w _ _⟩
                rw [F.out, E.out]
                try simp
          · first | (exfalso; omega) | skip
            all_goals
              by_cases h : x = (0 : Int)
              · have hb1 : (x != (0 : Int)) = false := by simp [h]
                have hb2 : (x == (0 : Int)) = true := by simp [h]
                have E : Hid (dif xs ys = dif (xs.drop (k + 1)) (ys.drop (k + 1))) := by
                  show dif xs ys = _
                  rw [HD.out, HS.out, if_neg (by omega)]
                clear h HD HS
                go_wp2
                have hg := HG.out
                go_roundg (gk - 1)
                case measure => omega
                case rel => exact ⟨k + 1, by omega, by go_num, rfl, E⟩
              · have hb1 : (x != (0 : Int)) = true := by rw [bne_iff_ne]; omega
                have hb2 : (x == (0 : Int)) = false := by rw [beq_eq_false_iff_ne]; omega
                have E : Hid (dif xs ys = x - (0 : Int)) := by
                  show dif xs ys = x - (0 : Int)
                  rw [HD.out, HS.out, if_pos (by omega)]
                have hne : dif xs ys ≠ 0 := by rw [E.out]; omega
                have F := Lib.hid (HP.out.1 hne)
                clear hne
                go_wp2
                go_ret
                refine ⟨?_, bel2 w _ _⟩
                rw [F.out, E.out]
                try simp
          · first | (exfalso; omega) | skip
            all_goals
              by_cases h : (0 : Int) = y
              · have hb1 : ((0 : Int) != y) = false := by simp [h]
                have hb2 : ((0 : Int) == y) = true := by simp [h]
                have E : Hid (dif xs ys = dif (xs.drop (k + 1)) (ys.drop (k + 1))) := by
                  show dif xs ys = _
                  rw [HD.out, HS.out, if_neg (by omega)]
                clear h HD HS
                go_wp2
                have hg := HG.out
                go_roundg (gk - 1)
                case measure => omega
                case rel => exact ⟨k + 1, by omega, by go_num, rfl, E⟩
              · have hb1 : ((0 : Int) != y) = true := by rw [bne_iff_ne]; omega
                have hb2 : ((0 : Int) == y) = false := by rw [beq_eq_false_iff_ne]; omega
                have E : Hid (dif xs ys = (0 : Int) - y) := by
                  show dif xs ys = (0 : Int) - y
                  rw [HD.out, HS.out, if_pos (by omega)]
                have hne : dif xs ys ≠ 0 := by rw [E.out]; omega
                have F := Lib.hid (HP.out.1 hne)
                clear hne
                go_wp2
                go_ret
                refine ⟨?_, bel2 w _ _⟩
                rw [F.out, E.out]
                try simp
        · have hz := dif_end xs ys k (by omega)
          have e : dif xs ys = 0 := HD.out.trans hz
          have E := Lib.hid e
          clear e hz
          go_wp2
          go_meet
          exact ⟨rfl, E⟩
    case rest =>
      obtain ⟨rfl, HZ⟩ := hcut
      have F := Lib.hid (HP.out.2 HZ.out)
      clear HP HZ
      go_wp2_with (first | (go_at_call 26; refine (trim_empty _).mono ?_; rintro e w' ⟨rfl, rfl⟩))
      refine wp_loop_rounds 1 ?_
      rw [rounds_succ]
      go_wp2
      go_ret
      refine ⟨?_, bel2 w _ _⟩
      rw [F.out]
      rfl

theorem dif_R (xs ys : List Int) : (dif xs ys ≠ 0 → dif xs ys = dif xs ys) ∧ (dif xs ys = 0 → dif xs ys = 0) := ⟨fun _ => rfl, fun h => h⟩
theorem rd_keep {w w' : World} {A : Option Addr} {n : Nat} {xs : List Value} (h : Rd w w.heap.size A n xs) (hb : Below w.heap.size w w') : Rd w' w'.heap.size A n xs := (h.below hb).more hb.size

set_option maxHeartbeats 800000 in
theorem compare_empty (A A' : Option Addr) (c c' : Nat) (xs ys : List Int) (w : World) (hr : Rd w w.heap.size A xs.length (ints xs)) (hr' : Rd w w.heap.size A' ys.length (ints ys))
    (hl : xs.length * 8 ≤ 140737488351232) (hl' : ys.length * 8 ≤ 140737488351232) (hx : ∀ n ∈ xs, 0 ≤ n ∧ n ≤ 999999) (hy : ∀ n ∈ ys, 0 ≤ n ∧ n ≤ 999999) :
    Calls Tryd.prog 14 #[.agg #[.slice A xs.length c, .string ⟨#[]⟩], .agg #[.slice A' ys.length c', .string ⟨#[]⟩]] w fun e w' => e = .returned (.int .i64 (dif xs ys)) ∧ Below w.heap.size w w' := by
  have X := Lib.hid (fun (W : World) (h : Below w.heap.size w W) => semver_empty A A' c c' xs ys (dif xs ys) W (rd_keep hr h) (rd_keep hr' h) hl hl' hx hy (dif_R xs ys))
  clear hr hr' hx hy
  go_enter Tryd.func14, Tryd.ntmps14
  go_wp2_with fail
  refine (X.out _ (bel2 w _ _)).mono ?_
  rintro e w1 ⟨rfl, hb⟩
  have hW : Below w.heap.size w w1 := (bel2 w _ _).trans (hb.mono (by simp; omega))
  clear hb
  go_wp2
  go_ret
  exact ⟨rfl, hW⟩

/-- [1] against [2] -/
theorem compare_12 (w : World) (B B' : Nat) (c c' : Nat) (h : w.cell? ⟨B, 0, none⟩ = some (.int .i64 1)) (h' : w.cell? ⟨B', 0, none⟩ = some (.int .i64 2)) (hB : B < w.heap.size) (hB' : B' < w.heap.size) :
    Calls Tryd.prog 14 #[.agg #[.slice (some ⟨B, 0, none⟩) 1 c, .string ⟨#[]⟩], .agg #[.slice (some ⟨B', 0, none⟩) 1 c', .string ⟨#[]⟩]] w fun e w' => e = .returned (.int .i64 (-1)) ∧ Below w.heap.size w w' := by
  have k := compare_empty (some ⟨B, 0, none⟩) (some ⟨B', 0, none⟩) c c' [1] [2] w
    ⟨rfl, fun _ => ⟨B, 0, rfl, hB, fun j u hu => by match j, hu with | 0, hu => simp [ints] at hu; subst hu; exact h⟩⟩
    ⟨rfl, fun _ => ⟨B', 0, rfl, hB', fun j u hu => by match j, hu with | 0, hu => simp [ints] at hu; subst hu; exact h'⟩⟩ (by simp) (by simp) (by simp) (by simp)
  have e : dif [1] [2] = -1 := by simp [dif]
  rw [e] at k
  exact k
end Go.Proofs.YtoijbpjlknmpmaaDoor.cmp
