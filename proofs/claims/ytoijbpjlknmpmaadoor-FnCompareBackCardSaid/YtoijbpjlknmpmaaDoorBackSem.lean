/- CompareSemver at any two versions; Compare. -/
import Derived.Test.YtoijbpjlknmpmaaDoorBackParts
namespace Go.Proofs.YtoijbpjlknmpmaaDoor.back
open Go.RowKit
open kit cmp

theorem tl_stop (f : Nat) (a b : ByteArray) (h : a.size = 0 ∨ b.size = 0) : tl f a b = (a.size : Int) - b.size := by
  cases f with
  | zero => rfl
  | succ f => unfold tl; rw [if_pos h]
theorem tl_step (f : Nat) (a b : ByteArray) (hf : 0 < f) (h1 : ¬ a.size = 0) (h2 : ¬ b.size = 0) :
    tl f a b = if (hd a).toList = (hd b).toList then tl (f - 1) (rest a) (rest b) else hcmp (hd a) (hd b) := by
  cases f with
  | zero => omega
  | succ f => rw [tl, if_neg (by omega)]; rfl
theorem empty_of {s : ByteArray} (h : s.size = 0) : s = ⟨#[]⟩ := by
  apply ByteArray.ext
  exact Array.eq_empty_of_size_eq_zero h
theorem full_of {s : ByteArray} (h : ¬ s.size = 0) : (s.toList.isEmpty = false) ∧ (¬ s.toList = []) ∧ 0 < s.size := by
  have hl : s.toList.length = s.size := by rw [Lib.toList_data, Array.length_toList]; rfl
  refine ⟨?_, ?_, by omega⟩
  · cases hs : s.toList with
    | nil => rw [hs] at hl; exact absurd hl.symm h
    | cons a l => rfl
  · intro q; rw [q] at hl; exact h hl.symm

set_option maxRecDepth 100000 in
set_option maxHeartbeats 6400000 in
theorem semver_any (A A' : Option Addr) (c c' : Nat) (xs ys : List Int) (S T : ByteArray) (R : Int) (w : World) (hr : Rd w w.heap.size A xs.length (ints xs)) (hr' : Rd w w.heap.size A' ys.length (ints ys))
    (hl : xs.length * 8 ≤ 140737488351232) (hl' : ys.length * 8 ≤ 140737488351232) (hx : ∀ n ∈ xs, 0 ≤ n ∧ n ≤ 999999) (hy : ∀ n ∈ ys, 0 ≤ n ∧ n ≤ 999999)
    (hS : S.size ≤ 140737488351232) (hT : T.size ≤ 140737488351232) (he : Errs w) (hst : ¬ (S.size = 0 ∧ T.size = 0)) (hp : (dif xs ys ≠ 0 → R = dif xs ys) ∧ (dif xs ys = 0 → R = beh S T)) :
    Calls Tryd.prog 20 #[.agg #[.slice A xs.length c, .string S], .agg #[.slice A' ys.length c', .string T]] w fun e w' => e = .returned (.int .i64 R) ∧ Below w.heap.size w w' := by
  have HR := Lib.hid hr
  have HR' := Lib.hid hr'
  have HX := Lib.hid hx
  have HY := Lib.hid hy
  have HP := Lib.hid hp
  clear hr hr' hx hy hp
  by_cases hxy : xs.length < ys.length
  all_goals
    go_enter Tryd.func20, Tryd.ntmps20
    go_upto_block 0 with (fail)
    go_cut [8] (fun s8 wx => wx = ((w.alloc (Obj.cells #[.slice A xs.length c, .string S] 44)).alloc (Obj.cells #[.slice A' ys.length c', .string T] 44)) ∧ Hid (dif xs ys = 0))
    case first =>
      go_wp2_with fail
      go_loopg [8] (max xs.length ys.length) (fun g s8 wr => ∃ k, k + g = max xs.length ys.length ∧ s8 = .int .i64 (k : Nat) ∧ wr = ((w.alloc (Obj.cells #[.slice A xs.length c, .string S] 44)).alloc (Obj.cells #[.slice A' ys.length c', .string T] 44)) ∧ Hid (dif xs ys = dif (xs.drop k) (ys.drop k)))
      case atStart => exact ⟨0, by omega, rfl, rfl, rfl⟩
      case round =>
        obtain ⟨k, hkg, rfl, rfl, HD⟩ := hrel
        have HG := Lib.hid hkg
        have hkm : k ≤ max xs.length ys.length := by omega
        clear hkg
        by_cases hlt : k < max xs.length ys.length
        · have hst := dif_drop xs ys k hlt
          have HS := Lib.hid hst
          clear hst
          have bx := mem_bd HX.out k
          have yb := mem_bd HY.out k
          obtain ⟨x, hx⟩ : ∃ x, x = xs.getD k 0 := ⟨_, rfl⟩
          obtain ⟨y, hy⟩ : ∃ y, y = ys.getD k 0 := ⟨_, rfl⟩
          rw [← hx, ← hy] at HS
          rw [← hx] at bx
          rw [← hy] at yb
          rcases Nat.lt_or_ge k xs.length with kx | kx <;> rcases Nat.lt_or_ge k ys.length with ky | ky
          case inr.inr => omega
          all_goals
            first
              | (obtain ⟨b, o, u, rfl, hbB, hu, hcx⟩ := HR.out.at_ kx
                 rw [ints_get xs k kx, ← hx] at hu
                 obtain rfl := Option.some.inj hu
                 clear hu
                 have q1 : b < w.heap.size + 1 := by omega)
              | (have hx0 : x = 0 := by rw [hx]; simp [kx]
                 clear hx
                 subst hx0)
            first
              | (obtain ⟨b', o', u', rfl, hbB', hu', hcy⟩ := HR'.out.at_ ky
                 rw [ints_get ys k ky, ← hy] at hu'
                 obtain rfl := Option.some.inj hu'
                 clear hu'
                 have q2 : b' < w.heap.size + 1 := by omega)
              | (have hy0 : y = 0 := by rw [hy]; simp [ky]
                 clear hy
                 subst hy0)
            try clear hx
            try clear hy
          · first | (exfalso; omega) | skip
            all_goals
              by_cases h : x = y
              · have hb1 : (x != y) = false := by simp [h]
                have hb2 : (x == y) = true := by simp [h]
                have E : Hid (dif xs ys = dif (xs.drop (k + 1)) (ys.drop (k + 1))) := by
                  show dif xs ys = _
                  rw [HD.out, HS.out, if_neg (by omega)]
                clear h HD HS
                go_wp2
                have hg := HG.out
                go_roundg (gk - 1)
                case measure => omega
                case rel => exact ⟨k + 1, by omega, by go_num, rfl, E⟩
              · have hb1 : (x != y) = true := by rw [bne_iff_ne]; omega
                have hb2 : (x == y) = false := by rw [beq_eq_false_iff_ne]; omega
                have E : Hid (dif xs ys = x - y) := by
                  show dif xs ys = x - y
                  rw [HD.out, HS.out, if_pos (by omega)]
                have hne : dif xs ys ≠ 0 := by rw [E.out]; omega
                have F := Lib.hid (HP.out.1 hne)
                clear hne
                go_wp2
                go_ret
                refine ⟨?_, bel2 w _ _⟩
                rw [F.out, E.out]
                try simp
          · first | (exfalso; omega) | skip
            all_goals
              by_cases h : x = (0 : Int)
              · have hb1 : (x != (0 : Int)) = false := by simp [h]
                have hb2 : (x == (0 : Int)) = true := by simp [h]
                have E : Hid (dif xs ys = dif (xs.drop (k + 1)) (ys.drop (k + 1))) := by
                  show dif xs ys = _
                  rw [HD.out, HS.out, if_neg (by omega)]
                clear h HD HS
                go_wp2
                have hg := HG.out
                go_roundg (gk - 1)
                case measure => omega
                case rel => exact ⟨k + 1, by omega, by go_num, rfl, E⟩
              · have hb1 : (x != (0 : Int)) = true := by rw [bne_iff_ne]; omega
                have hb2 : (x == (0 : Int)) = false := by rw [beq_eq_false_iff_ne]; omega
                have E : Hid (dif xs ys = x - (0 : Int)) := by
                  show dif xs ys = x - (0 : Int)
                  rw [HD.out, HS.out, if_pos (by omega)]
                have hne : dif xs ys ≠ 0 := by rw [E.out]; omega
                have F := Lib.hid (HP.out.1 hne)
                clear hne
                go_wp2
                go_ret
                refine ⟨?_, bel2 w _ _⟩
                rw [F.out, E.out]
                try simp
          · first | (exfalso; omega) | skip
            all_goals
              by_cases h : (0 : Int) = y
              · have hb1 : ((0 : Int) != y) = false := by simp [h]
                have hb2 : ((0 : Int) == y) = true := by simp [h]
                have E : Hid (dif xs ys = dif (xs.drop (k + 1)) (ys.drop (k + 1))) := by
                  show dif xs ys = _
                  rw [HD.out, HS.out, if_neg (by omega)]
                clear h HD HS
                go_wp2
                have hg := HG.out
                go_roundg (gk - 1)
                case measure => omega
                case rel => exact ⟨k + 1, by omega, by go_num, rfl, E⟩
              · have hb1 : ((0 : Int) != y) = true := by rw [bne_iff_ne]; omega
                have hb2 : ((0 : Int) == y) = false := by rw [beq_eq_false_iff_ne]; omega
                have E : Hid (dif xs ys = (0 : Int) - y) := by
                  show dif xs ys = (0 : Int) - y
                  rw [HD.out, HS.out, if_pos (by omega)]
                have hne : dif xs ys ≠ 0 := by rw [E.out]; omega
                have F := Lib.hid (HP.out.1 hne)
                clear hne
                go_wp2
                go_ret
                refine ⟨?_, bel2 w _ _⟩
                rw [F.out, E.out]
                try simp
        · have hz := dif_end xs ys k (by omega)
          have e : dif xs ys = 0 := HD.out.trans hz
          have E := Lib.hid e
          clear e hz
          go_wp2
          go_meet
          exact ⟨rfl, E⟩
    case rest =>
      obtain ⟨rfl, HZ⟩ := hcut
      have F := Lib.hid (HP.out.2 HZ.out)
      clear HP HZ
      by_cases s0 : S.size = 0
      · have t0 : ¬ T.size = 0 := fun q => hst ⟨s0, q⟩
        obtain rfl := empty_of s0
        obtain ⟨n1, n2, n3⟩ := full_of t0
        have FB : Hid (R = (T.size : Int) - 0) := by
          show _ = _
          rw [F.out]; unfold beh; rw [if_pos (by intro q; exact t0 (q.mp rfl))]; rfl
        clear F s0 t0 hst
        go_wp2_with fail
        go_ret
        refine ⟨?_, bel2 w _ _⟩
        rw [FB.out]
        simp
      · by_cases t0 : T.size = 0
        · obtain rfl := empty_of t0
          obtain ⟨n1, n2, n3⟩ := full_of s0
          have FB : Hid (R = 0 - (S.size : Int)) := by
            show _ = _
            rw [F.out]; unfold beh; rw [if_pos (by intro q; exact s0 (q.mpr rfl))]; rfl
          clear F s0 t0 hst
          go_wp2_with fail
          go_ret
          refine ⟨?_, bel2 w _ _⟩
          rw [FB.out]
          simp
        · obtain ⟨n1, n2, n3⟩ := full_of s0
          obtain ⟨m1, m2, m3⟩ := full_of t0
          have FB : Hid (R = tl ((cut S).size + (cut T).size) (cut S) (cut T)) := by
            show _ = _
            rw [F.out]; unfold beh; rw [if_neg (by simp [s0, t0])]
          have cS := cut_size S
          have cT := cut_size T
          have XS := Lib.hid (fun W : World => Tryd.strings_TrimPrefix S ⟨#[45]⟩ W)
          have XT := Lib.hid (fun W : World => Tryd.strings_TrimPrefix T ⟨#[45]⟩ W)
          clear F s0 t0 hst
          go_wp2_with fail
          refine (XS.out _).mono ?_
          rintro e w' ⟨rfl, rfl⟩
          go_wp2_with fail
          refine (XT.out _).mono ?_
          rintro e w' ⟨rfl, rfl⟩
          go_wp2_with fail
          clear XS XT n1 n2 n3 m1 m2 m3
          have HE := Lib.hid he
          clear he
          go_loopg [11, 12] ((cut S).size + (cut T).size) (fun g s11 s12 wr => ∃ a b : ByteArray, s11 = .string a ∧ s12 = .string b ∧ a.size ≤ g ∧ Hid (R = tl g a b) ∧ a.size ≤ 140737488351232 ∧ b.size ≤ 140737488351232 ∧ Below w.heap.size w wr)
          case atStart => exact ⟨cut S, cut T, rfl, rfl, by omega, FB, by omega, by omega, bel2 w _ _⟩
          case round =>
            obtain ⟨a, b, rfl, rfl, hag, HT, ha, hb, hW⟩ := hrel
            by_cases a0 : a.size = 0
            · obtain rfl := empty_of a0
              have E : Hid (R = 0 - (b.size : Int)) := by
                show _ = _
                rw [HT.out, tl_stop gk _ b (.inl rfl)]; rfl
              clear HT a0 FB
              go_wp2_with fail
              go_ret
              refine ⟨?_, hW⟩
              rw [E.out]
              try simp
            · obtain ⟨n1, n2, n3⟩ := full_of a0
              by_cases b0 : b.size = 0
              · obtain rfl := empty_of b0
                have E : Hid (R = (a.size : Int) - 0) := by
                  show _ = _
                  rw [HT.out, tl_stop gk a _ (.inr rfl)]; rfl
                clear HT a0 b0 FB
                go_wp2_with fail
                go_ret
                refine ⟨?_, hW⟩
                rw [E.out]
                try simp
              · obtain ⟨m1, m2, m3⟩ := full_of b0
                have HS : Hid (R = if (hd a).toList = (hd b).toList then tl (gk - 1) (rest a) (rest b) else hcmp (hd a) (hd b)) := by
                  show _ = _
                  rw [HT.out, tl_step gk a b (by omega) a0 b0]
                have ra := rest_size a n3
                have rb := rest_size b m3
                have ea := hd_size a
                have eb := hd_size b
                obtain ⟨p, hp⟩ : ∃ p, p = hd a := ⟨_, rfl⟩
                obtain ⟨q, hq⟩ : ∃ q, q = hd b := ⟨_, rfl⟩
                have XA := Lib.hid (fun W : World => split_any a W ha)
                have XB := Lib.hid (fun W : World => split_any b W hb)
                rw [← hp] at HS ea XA
                rw [← hq] at HS eb XB
                clear hp hq HT a0 b0 FB
                go_wp2_with fail
                refine (XA.out _).mono ?_
                rintro e w1 ⟨rfl, hb1⟩
                go_wp2_with fail
                refine (XB.out _).mono ?_
                rintro e w2 ⟨rfl, hb2⟩
                have hW1 : Below w.heap.size w w1 := hW.trans (hb1.mono hW.size)
                have hW2 : Below w.heap.size w w2 := hW1.trans (hb2.mono hW1.size)
                clear hb1 hb2 hW1 hW XA XB n1 n2 n3 m1 m2 m3
                by_cases he : p.toList = q.toList
                · have he1 : (p.toList == q.toList) = true := by rw [he]; simp
                  have E : Hid (R = tl (gk - 1) (rest a) (rest b)) := by show _ = _; rw [HS.out, if_pos he]
                  clear he HS
                  go_wp2_with fail
                  go_roundg (gk - 1)
                  case measure => omega
                  case rel => exact ⟨rest a, rest b, rfl, rfl, by omega, E, by omega, by omega, hW2⟩
                · have he1 : (p.toList == q.toList) = false := by rw [beq_eq_false_iff_ne]; exact he
                  have E : Hid (R = hcmp p q) := by show _ = _; rw [HS.out, if_neg he]
                  clear he HS
                  have YP := Lib.hid (fun (W : World) (h : Errs W) => part_any p W (by omega) h)
                  have YQ := Lib.hid (fun (W : World) (h : Errs W) => part_any q W (by omega) h)
                  have bP := fun v => @num_bd p v
                  have bQ := fun v => @num_bd q v
                  have BP := Lib.hid bP
                  have BQ := Lib.hid bQ
                  clear bP bQ
                  unfold hcmp at E
                  cases hp : num p with
                  | none =>
                    rw [hp] at YP E
                    cases hq : num q with
                    | none =>
                      rw [hq] at YQ E
                      clear hp hq BP BQ
                      go_wp2_with fail
                      refine (YP.out _ (HE.out.keep hW2)).mono ?_
                      rintro e w3 ⟨x, rfl, _, hb3⟩
                      have hW3 : Below w.heap.size w w3 := hW2.trans (hb3.mono hW2.size)
                      clear hb3
                      go_wp2_with fail
                      refine (YQ.out _ (HE.out.keep hW3)).mono ?_
                      rintro e w4 ⟨y, rfl, _, hb4⟩
                      have hW4 : Below w.heap.size w w4 := hW3.trans (hb4.mono hW3.size)
                      clear hb4 YP YQ
                      cases hl : Op.bytesLess p.toList q.toList with
                      | true =>
                        have E' : Hid (R = -1) := by show _ = _; rw [E.out]; simp only [hl]; rfl
                        clear E
                        go_wp2_with fail
                        go_ret
                        exact ⟨by rw [E'.out]; rfl, hW4⟩
                      | false =>
                        have E' : Hid (R = 1) := by show _ = _; rw [E.out]; simp only [hl]; rfl
                        clear E
                        go_wp2_with fail
                        go_ret
                        exact ⟨by rw [E'.out]; rfl, hW4⟩
                    | some v =>
                      rw [hq] at YQ E
                      clear hp hq BP BQ
                      go_wp2_with fail
                      refine (YP.out _ (HE.out.keep hW2)).mono ?_
                      rintro e w3 ⟨x, rfl, _, hb3⟩
                      have hW3 : Below w.heap.size w w3 := hW2.trans (hb3.mono hW2.size)
                      clear hb3
                      go_wp2_with fail
                      refine (YQ.out _ (HE.out.keep hW3)).mono ?_
                      rintro e w4 ⟨y, rfl, _, hb4⟩
                      have hW4 : Below w.heap.size w w4 := hW3.trans (hb4.mono hW3.size)
                      clear hb4 YP YQ
                      have E' : Hid (R = 1) := E
                      clear E
                      go_wp2_with fail
                      go_ret
                      exact ⟨by rw [E'.out]; rfl, hW4⟩
                  | some u =>
                    rw [hp] at YP E
                    cases hq : num q with
                    | none =>
                      rw [hq] at YQ E
                      clear hp hq BP BQ
                      go_wp2_with fail
                      refine (YP.out _ (HE.out.keep hW2)).mono ?_
                      rintro e w3 ⟨x, rfl, _, hb3⟩
                      have hW3 : Below w.heap.size w w3 := hW2.trans (hb3.mono hW2.size)
                      clear hb3
                      go_wp2_with fail
                      refine (YQ.out _ (HE.out.keep hW3)).mono ?_
                      rintro e w4 ⟨y, rfl, _, hb4⟩
                      have hW4 : Below w.heap.size w w4 := hW3.trans (hb4.mono hW3.size)
                      clear hb4 YP YQ
                      have E' : Hid (R = -1) := E
                      clear E
                      go_wp2_with fail
                      go_ret
                      exact ⟨by rw [E'.out]; rfl, hW4⟩
                    | some v =>
                      have bu := BP.out u hp
                      have bv := BQ.out v hq
                      rw [hq] at YQ E
                      clear hp hq BP BQ
                      go_wp2_with fail
                      refine (YP.out _ (HE.out.keep hW2)).mono ?_
                      rintro e w3 ⟨x, rfl, hx, hb3⟩
                      obtain rfl := hx u rfl
                      clear hx
                      have hW3 : Below w.heap.size w w3 := hW2.trans (hb3.mono hW2.size)
                      clear hb3
                      go_wp2_with fail
                      refine (YQ.out _ (HE.out.keep hW3)).mono ?_
                      rintro e w4 ⟨y, rfl, hy, hb4⟩
                      obtain rfl := hy v rfl
                      clear hy
                      have hW4 : Below w.heap.size w w4 := hW3.trans (hb4.mono hW3.size)
                      clear hb4 YP YQ
                      by_cases hxy : x = y
                      · have h1 : (x != y) = false := by simp [hxy]
                        have E' : Hid (R = (p.size : Int) - q.size) := by show _ = _; rw [E.out]; simp [hxy]
                        clear E hxy
                        go_wp2_with fail
                        go_ret
                        exact ⟨by rw [E'.out]; rfl, hW4⟩
                      · have h1 : (x != y) = true := by rw [bne_iff_ne]; exact hxy
                        have E' : Hid (R = x - y) := by show _ = _; rw [E.out]; simp [hxy]
                        clear E hxy
                        go_wp2_with fail
                        go_ret
                        exact ⟨by rw [E'.out]; rfl, hW4⟩
theorem semver_all (A A' : Option Addr) (c c' : Nat) (xs ys : List Int) (S T : ByteArray) (w : World) (hr : Rd w w.heap.size A xs.length (ints xs)) (hr' : Rd w w.heap.size A' ys.length (ints ys))
    (hl : xs.length * 8 ≤ 140737488351232) (hl' : ys.length * 8 ≤ 140737488351232) (hx : ∀ n ∈ xs, 0 ≤ n ∧ n ≤ 999999) (hy : ∀ n ∈ ys, 0 ≤ n ∧ n ≤ 999999)
    (hS : S.size ≤ 140737488351232) (hT : T.size ≤ 140737488351232) (he : Errs w) :
    Calls Tryd.prog 20 #[.agg #[.slice A xs.length c, .string S], .agg #[.slice A' ys.length c', .string T]] w fun e w' => e = .returned (.int .i64 (ver xs ys S T)) ∧ Below w.heap.size w w' := by
  have hv : (dif xs ys ≠ 0 → ver xs ys S T = dif xs ys) ∧ (dif xs ys = 0 → ver xs ys S T = beh S T) :=
    ⟨fun h => by unfold ver; rw [if_pos h], fun h => by unfold ver; rw [if_neg (by simp [h])]⟩
  by_cases h : S.size = 0 ∧ T.size = 0
  · obtain rfl := empty_of h.1
    obtain rfl := empty_of h.2
    refine semver_empty A A' c c' xs ys _ w hr hr' hl hl' hx hy ⟨hv.1, fun q => ?_⟩
    rw [hv.2 q]; exact beh_self _
  · exact semver_any A A' c c' xs ys S T _ w hr hr' hl hl' hx hy hS hT he h hv

set_option maxHeartbeats 800000 in
theorem compare_all (A A' : Option Addr) (c c' : Nat) (xs ys : List Int) (S T : ByteArray) (w : World) (hr : Rd w w.heap.size A xs.length (ints xs)) (hr' : Rd w w.heap.size A' ys.length (ints ys))
    (hl : xs.length * 8 ≤ 140737488351232) (hl' : ys.length * 8 ≤ 140737488351232) (hx : ∀ n ∈ xs, 0 ≤ n ∧ n ≤ 999999) (hy : ∀ n ∈ ys, 0 ≤ n ∧ n ≤ 999999)
    (hS : S.size ≤ 140737488351232) (hT : T.size ≤ 140737488351232) (he : Errs w) :
    Calls Tryd.prog 14 #[.agg #[.slice A xs.length c, .string S], .agg #[.slice A' ys.length c', .string T]] w fun e w' => e = .returned (.int .i64 (ver xs ys S T)) ∧ Below w.heap.size w w' := by
  have X := Lib.hid (fun (W : World) (h : Below w.heap.size w W) => semver_all A A' c c' xs ys S T W (rd_keep hr h) (rd_keep hr' h) hl hl' hx hy hS hT (he.keep h))
  clear hr hr' hx hy he
  go_enter Tryd.func14, Tryd.ntmps14
  go_wp2_with fail
  refine (X.out _ (bel2 w _ _)).mono ?_
  rintro e w1 ⟨rfl, hb⟩
  have hW : Below w.heap.size w w1 := (bel2 w _ _).trans (hb.mono (by simp; omega))
  clear hb
  go_wp2
  go_ret
  exact ⟨rfl, hW⟩
end Go.Proofs.YtoijbpjlknmpmaaDoor.back
