/- laws.last: walk. -/
import Derived.Test.YtokafofckjookaaLastP
import Derived.WalkLawsBesides
import Derived.IntWalk
namespace Go.Proofs.Ytokafofckjookaa.pk
open Go.RowKit
open kit bld

def Lst (l : List (List UInt8 × List UInt8)) (w : World) (e : Ending) (w' : World) : Prop := ∃ v o, e = .returned v ∧ w'.ownsRow w.heap.size 25 2 v o.length (pcells o) ∧ Is l o ∧ o.length ≤ l.length ∧ Below w.heap.size w w'
/-- the rest of an argument slice, as the model cuts it -/
theorem cut_run (bl of n cp i : Nat) (hi : i + 1 ≤ n) (hn : n ≤ cp) : ∃ A2, (∀ W : World, (Instr.slice 22 (.slice (some ⟨bl, of, none⟩) n cp) (some (.int .i64 ((i : Int) + 1))) none none).run Try.prog W = .ok (.slice A2 (n - (i + 1)) (cp - (i + 1))) W) ∧
    (i + 1 < n → A2 = some ⟨bl, of + (i + 1) * 2, none⟩) := by
  refine ⟨if cp = i + 1 then some ⟨bl, of, none⟩ else some ((⟨bl, of, none⟩ : Addr).add ((i + 1) * 2)), fun W => ?_, fun h => ?_⟩
  · rw [run_slice_l (P := Try.prog) W 22 (some ⟨bl, of, none⟩) n cp (by kernel_rfl) .i64 ((i : Int) + 1) (by omega) (by omega)]
    have hsz : (sizeOf (Try.prog.elem 22)).run Try.prog W = .ok 2 W := by kernel_rfl
    rw [hsz]
    have e : ((i : Int) + 1).toNat = i + 1 := by omega
    simp only [Result.andThen, sliced, e, Option.map]
  · rw [if_neg (by omega)]
    show some ((⟨bl, of, none⟩ : Addr).add ((i + 1) * 2)) = _
    unfold Addr.add
    split <;> first | omega | rfl

theorem grown_of {B : Nat} {a b : World} (h : Below B a b) (hB : a.heap.size ≤ B) : a.grownBy b none := ⟨h.os, h.tape, h.output, h.size, fun k hk _ => h.block k (by omega)⟩
theorem own_not {w : World} {base : Nat} {e : TypeId} {size : Nat} {v : Value} {n : Nat} {xs : List Value} (_ : w.ownsRow base e size v n xs) : v.ownBlock = none ∨ v.ownBlock ≠ none := by
  cases v.ownBlock <;> simp
theorem cur_of {L P : List Value} {n : Nat} {z0 z1 : Value} (h : L.take n = P ++ [z0, z1]) : L = P ++ z0 :: z1 :: L.drop n := by
  have h1 := List.take_append_drop n L
  rw [h] at h1
  simpa using h1.symm
theorem src_cell {w : World} {g m : Nat} {L R : List Value} {o : List (List UInt8 × List UInt8)} {t : TypeId} (hh : w.heap[g]? = some (.cells L.toArray t (0, 0))) (hc : L = pcells o ++ R) (hm : m ≤ o.length) :
    ∀ (j : Nat) (u : Value), (pcells (o.drop m))[j]? = some u → w.cell? ((⟨g, m * 2, none⟩ : Addr).add j) = some u := by
  intro j u hu
  have hplain : (⟨g, m * 2, none⟩ : Addr).add j = ⟨g, m * 2 + j, none⟩ := by unfold Addr.add; split <;> simp_all
  have hl : (pcells (o.take m)).length = m * 2 := by rw [pcells_len, List.length_take]; omega
  have e : pcells o = pcells (o.take m) ++ pcells (o.drop m) := by rw [← pcells_append, List.take_append_drop]
  rw [hplain, Lib.cell_of_heap hh, hc, e, List.append_assoc]
  rw [List.getElem?_toArray, List.getElem?_append_right (by omega), hl, show m * 2 + j - m * 2 = j from by omega]
  have hj := (List.getElem?_eq_some_iff.1 hu).1
  rw [List.getElem?_append_left hj]
  exact hu
theorem splice_cur {L sp : List Value} {o : List (List UInt8 × List UInt8)} {m : Nat} {z0 z1 : Value} (hc : L = pcells o ++ z0 :: z1 :: sp) (hm : m ≤ o.length) :
    ∃ x0 x1, splice L (m * 2 + 2) (pcells (o.drop m)) = pcells (o.take m) ++ x0 :: x1 :: (pcells (o.drop m) ++ sp) := by
  have h := splice_put (o.take m) (o.drop m) z0 z1 sp
  rw [List.take_append_drop, List.length_take, Nat.min_eq_left hm] at h
  rw [hc]; exact h
theorem own_put {w : World} {g m cap S : Nat} {o : List (List UInt8 × List UInt8)} {k v : List UInt8} {x0 x1 : Value} {sp : List Value} (h : w.heap[g]? = some (.cells (pcells (o.take m) ++ x0 :: x1 :: (pcells (o.drop m) ++ sp)).toArray 25 (0, 0)))
    (hm : m ≤ o.length) (hS : S ≤ g) (hc : o.length + 1 ≤ cap) (hx : cap ≤ maxLen) (hz : o.length * 2 + 2 + sp.length = cap * 2) :
    ((w.setCell ⟨g, m * 2, none⟩ (.string ⟨k.toArray⟩)).setCell ⟨g, m * 2 + 1, none⟩ (.string ⟨v.toArray⟩)).ownsRow S 25 2 (.slice (some ⟨g, 0, none⟩) (o.length + 1) cap) (o.take m ++ (k, v) :: o.drop m).length (pcells (o.take m ++ (k, v) :: o.drop m)) := by
  have hl : (pcells (o.take m)).length = m * 2 := by rw [pcells_len, List.length_take]; omega
  have hl2 : (pcells (o.drop m)).length = (o.length - m) * 2 := by rw [pcells_len, List.length_drop]
  have hlen : (o.take m ++ (k, v) :: o.drop m).length = o.length + 1 := by simp; omega
  have hset := set_pair (pcells (o.take m)) (pcells (o.drop m) ++ sp) x0 x1 (.string ⟨k.toArray⟩) (.string ⟨v.toArray⟩)
  rw [hl] at hset
  have e : pcells (o.take m ++ (k, v) :: o.drop m) = pcells (o.take m) ++ .string ⟨k.toArray⟩ :: .string ⟨v.toArray⟩ :: pcells (o.drop m) := by rw [pcells_append, pcells_cons]
  refine ⟨pcells_len _, Or.inr ⟨g, cap, (pcells (o.take m) ++ .string ⟨k.toArray⟩ :: .string ⟨v.toArray⟩ :: (pcells (o.drop m) ++ sp)).toArray, by rw [hlen], hS, ?_, by rw [hlen]; exact hc, hx, ?_, ?_⟩⟩
  · rw [← hset]
    simp [World.setCell, Array.getElem?_modify, h]
  · simp only [List.size_toArray, List.length_append, List.length_cons, hl, hl2]
    omega
  · rw [hlen, e]
    have e2 : (pcells (o.take m) ++ Value.string ⟨k.toArray⟩ :: Value.string ⟨v.toArray⟩ :: (pcells (o.drop m) ++ sp)) = (pcells (o.take m) ++ Value.string ⟨k.toArray⟩ :: Value.string ⟨v.toArray⟩ :: pcells (o.drop m)) ++ sp := by simp
    rw [e2, List.take_left']
    simp only [List.length_append, List.length_cons, hl, hl2]
    omega
theorem bytesLess_lt : ∀ (x y : List UInt8), Op.bytesLess x y = decide (x < y)
  | [], [] => by simp [Op.bytesLess]
  | _ :: _, [] => by simp [Op.bytesLess]
  | [], _ :: _ => by simp [Op.bytesLess]
  | a :: x, b :: y => by
    rw [Op.bytesLess, bytesLess_lt x y]
    simp only [List.cons_lt_cons_iff]
    by_cases h1 : a < b <;> by_cases h2 : a = b <;> by_cases h3 : x < y <;> simp [h1, h2, h3]
theorem less_lt {x y : List UInt8} (h : Op.bytesLess x y = true) : x < y := by rw [bytesLess_lt] at h; exact of_decide_eq_true h
theorem less_not {x y : List UInt8} (h : Op.bytesLess x y = false) : ¬ x < y := by rw [bytesLess_lt] at h; exact of_decide_eq_false h
theorem gap_next {o : List (List UInt8 × List UInt8)} {k qk qv : List UInt8} {m : Nat} (h : Gap o k m) (hq : o[m]? = some (qk, qv)) (hl : qk < k) : Gap o k (m + 1) := by
  intro q hm
  rw [List.take_add_one, hq] at hm
  rcases List.mem_append.1 hm with h1 | h1
  · exact h q h1
  · simp at h1; subst h1; exact hl
theorem two_new (w : World) (x y : Value) (t : TypeId) : ∀ (j : Nat) (u : Value), [x, y][j]? = some u → (w.alloc (.cells #[x, y] t)).cell? ((⟨w.heap.size, 0, none⟩ : Addr).add j) = some u := by
  intro j u hj
  match j, hj with
  | 0, hj => simp at hj; subst hj; simp [Addr.add]
  | 1, hj => simp at hj; subst hj; simp [Addr.add]
theorem two_one (x y : ByteArray) : ∀ u ∈ [Value.string x, Value.string y], u.oneCell' = true := by
  intro u hu
  simp at hu
  rcases hu with rfl | rfl <;> rfl
set_option maxHeartbeats 3200000 in
set_option maxRecDepth 100000 in
theorem last_any (l : List (List UInt8 × List UInt8)) (A : Option Addr) (cp : Nat) (w : World) (hR : Rp w w.heap.size A l) (hcp : l.length ≤ cp) (hz : l.length ≤ 1048576) :
    Calls Try.prog 6 #[.slice A l.length cp] w (Lst l w) := by
  obtain ⟨i0, hi, hz0, hz1, hz2⟩ := info_parts infoPair
  have HR := Lib.hid hR
  clear hR
  go_enter Try.func6, Try.ntmps6
  go_wp2_with fail
  go_loopg [3, 4, 5, 6, 8, 9, 12] l.length (fun g s3 _ _ _ _ _ s12 wx => ∃ (i : Nat) (o : List (List UInt8 × List UInt8)), i + g = l.length ∧ s12 = .int .i64 (i : Nat) ∧ wx.ownsRow w.heap.size 25 2 s3 o.length (pcells o) ∧ Hid (Part l i o) ∧ o.length ≤ i ∧ Hid (Below w.heap.size w wx))
  case atStart => exact ⟨0, [], by omega, rfl, ⟨rfl, Or.inl ⟨rfl, rfl⟩⟩, Lib.hid (Part.zero l), by simp, Lib.hid (Below.refl _ _)⟩
  case round =>
    obtain ⟨i, o, hig, rfl, hrow, HP, hoi, HB⟩ := hrel
    cases gk with
    | zero =>
      obtain rfl : i = l.length := by omega
      have HW := Lib.hid hrow
      clear hig hrow
      go_wp2_with fail
      go_ret
      exact ⟨_, o, rfl, HW.out, HP.out.whole (Nat.le_refl _), hoi, HB.out⟩
    | succ g =>
      have hil : i < l.length := by omega
      obtain ⟨p, hp⟩ : ∃ p, l[i]? = some p := ⟨_, List.getElem?_eq_getElem hil⟩
      obtain ⟨bl, of, rfl, hbl, hcs⟩ := HR.out (by omega)
      have hbz := HB.out.size
      have c0 : wr.cell? ⟨bl, of + i * 2, none⟩ = some (.string ⟨p.1.toArray⟩) := by rw [HB.out.cell (p := ⟨bl, _, none⟩) hbl]; exact (hcs i p hp).1
      have c1 : wr.cell? ⟨bl, of + i * 2 + 1, none⟩ = some (.string ⟨p.2.toArray⟩) := by rw [HB.out.cell (p := ⟨bl, _, none⟩) hbl]; exact (hcs i p hp).2
      obtain ⟨k, v⟩ := p
      obtain ⟨A2, hcut, hA2⟩ := cut_run bl of l.length cp i (by omega) hcp
      have HA2 := Lib.hid hA2
      have HG := Lib.hid hig
      have HP1 := Lib.hid hp
      have HCS := Lib.hid hcs
      have HW := Lib.hid hrow
      have hil' : (i : Int) < (l.length : Int) := by omega
      have hbw' : bl < wr.heap.size := by omega
      clear hp hcs hig hA2 hrow
      go_wp2_with fail
      obtain ⟨wo, hwo⟩ : ∃ wo : World, wo = wr := ⟨_, rfl⟩
      subst hwo
      clear hcut c0 c1
      go_loopg [6, 8, 22] (l.length - (i + 1)) (fun g s6 _ s22 wx => ∃ j : Nat, j + g = l.length - (i + 1) ∧ s22 = .int .i64 (j : Nat) ∧ s6 = .bool (again k ((l.drop (i + 1)).take j)) ∧ Hid (Below (wo.heap.size + 1) (wo.alloc (.cells #[.string ⟨k.toArray⟩, .string ⟨v.toArray⟩] 25)) wx))
      case atStart => exact ⟨0, by omega, rfl, by simp [again], Lib.hid (Below.refl _ _)⟩
      case round =>
        obtain ⟨j, hjg, rfl, rfl, HB2⟩ := hrel
        have hb2z := HB2.out.size
        rw [World.size_alloc] at hb2z
        have hpb := (HB2.out.block wo.heap.size (by omega)).trans (MapKept.heap_alloc wo (.cells #[.string ⟨k.toArray⟩, .string ⟨v.toArray⟩] 25)).1
        have d0 : wr.cell? ⟨wo.heap.size, 0, none⟩ = some (.string ⟨k.toArray⟩) := by rw [Lib.cell_of_heap hpb]; rfl
        have d1 : wr.cell? ⟨wo.heap.size, 1, none⟩ = some (.string ⟨v.toArray⟩) := by rw [Lib.cell_of_heap hpb]; rfl
        have HPB := Lib.hid hpb
        have hpo : wo.heap.size < wr.heap.size := by omega
        clear hpb
        have HW2 := Lib.hid ((HW.out.alloc (.cells #[.string ⟨k.toArray⟩, .string ⟨v.toArray⟩] 25)).kept (grown_of HB2.out (by simp)) (own_not HW.out))
        have HBW := Lib.hid ((HB.out.alloc (o := .cells #[.string ⟨k.toArray⟩, .string ⟨v.toArray⟩] 25) hbz).trans (HB2.out.mono (by omega)))
        obtain ⟨ag, hag⟩ : ∃ ag, ag = again k ((l.drop (i + 1)).take j) := ⟨_, rfl⟩
        rw [← hag]
        have HAG := Lib.hid hag
        clear hag
        cases gk with
        | zero =>
          obtain rfl : j = l.length - (i + 1) := by omega
          rw [List.take_of_length_le (by simp)] at HAG
          clear hjg
          cases ag with
          | true =>
            have hg := HG.out
            go_wp2_with fail
            go_roundg g
            case measure => omega
            case rel => exact ⟨i + 1, o, by omega, by go_num, HW2.out, Lib.hid (HP.out.skip HP1.out HAG.out.symm), by omega, HBW⟩
          | false =>
            go_wp2_with fail
            obtain ⟨wi, hwi⟩ : ∃ wi : World, wi = wr := ⟨_, rfl⟩
            subst hwi
            clear d0 d1
            go_loopg [9] o.length (fun g s9 wx => ∃ m : Nat, m + g = o.length ∧ s9 = .int .i64 (m : Nat) ∧ Hid (Gap o k m) ∧ Hid (Below wi.heap.size wi wx))
            case atStart => exact ⟨0, by omega, rfl, Lib.hid (fun q hq => by simp at hq), Lib.hid (Below.refl _ _)⟩
            case round =>
              obtain ⟨m, hmg, rfl, HGap, HB3⟩ := hrel
              have HW3 := Lib.hid (HW2.out.kept (grown_of HB3.out (Nat.le_refl _)) (own_not HW2.out))
              have hpb := (HB3.out.block wo.heap.size hpo).trans HPB.out
              have d0 : wr.cell? ⟨wo.heap.size, 0, none⟩ = some (.string ⟨k.toArray⟩) := by rw [Lib.cell_of_heap hpb]; rfl
              have hb3z := HB3.out.size
              have hpo3 : wo.heap.size < wr.heap.size := by omega
              have HPB3 := Lib.hid hpb
              have HBW3 := Lib.hid (HBW.out.trans (HB3.out.mono (by omega)))
              obtain ⟨Ao, co, rfl, hro⟩ := Rp.of_own HW3.out
              have HRO := Lib.hid hro
              have HMG := Lib.hid hmg
              have hmo1 : m ≤ o.length := by omega
              clear hpb hro hmg
              by_cases hmo : m < o.length
              · obtain ⟨q, hq⟩ : ∃ q, o[m]? = some q := ⟨_, List.getElem?_eq_getElem hmo⟩
                obtain ⟨qk, qv⟩ := q
                obtain ⟨gb, go0, rfl, hgb, hgc⟩ := HRO.out (by omega)
                have e0 := (hgc m (qk, qv) hq).1
                have HQ := Lib.hid hq
                have hmi : (m : Int) < (o.length : Int) := by omega
                clear hq hgc
                cases hless : Op.bytesLess qk k with
                | true =>
                  go_wp2_with fail
                  go_quiet (fail)
                  have hbq : Below wr.heap.size wr (wr.drewN nq) := bdrew (Below.refl _ _)
                  generalize wr.drewN nq = wz at hbq ⊢
                  go_wp2_with fail
                  have hg := HMG.out
                  go_roundg (gk - 1)
                  case measure => omega
                  case rel => exact ⟨m + 1, by omega, by go_num, Lib.hid (gap_next HGap.out HQ.out (less_lt hless)), Lib.hid (HB3.out.trans (hbq.mono (by omega)))⟩
                | false =>
                  have HStop := Lib.hid (show ∀ q, o[m]? = some q → ¬ q.1 < k from fun q hq => by rw [HQ.out] at hq; cases hq; exact less_not hless)
                  obtain ⟨Ao, hAo⟩ : ∃ Ao, Ao = some (⟨gb, go0, none⟩ : Addr) := ⟨_, rfl⟩
                  go_wp2_with fail
                  go_quiet (fail)
                  rw [← hAo] at HW3 HW ⊢
                  have e0s := e0
                  clear e0
                  have hbq : Below wr.heap.size wr (wr.drewN nq) := bdrew (Below.refl _ _)
                  generalize wr.drewN nq = wz at hbq ⊢
                  have hzz := hbq.size
                  have HW4 := Lib.hid (HW3.out.kept (grown_of hbq (Nat.le_refl _)) (own_not HW3.out))
                  have HPB4 := Lib.hid ((hbq.block wo.heap.size hpo3).trans HPB3.out)
                  have HBW4 := Lib.hid (HBW3.out.trans (hbq.mono (by omega)))
                  have hSz := HBW4.out.size
                  clear hbq e0s
                  go_wp2_with (at_builtin; refine wpList_append_own_at _ rfl _ _ 22 rfl w.heap.size 25 i0 (.agg #[.string ⟨#[]⟩, .string ⟨#[]⟩]) 2 32 Try.underlying22 hi hz0 hz1 hz2 rfl (by decide) _ _ _ rfl (HW4.out.alloc _) ⟨wz.heap.size, 0, none⟩ 1 1 [.string ⟨#[]⟩, .string ⟨#[]⟩] rfl rfl (two_new _ _ _ _) (two_one _ _) (by unfold maxLen; omega) (by omega) (by simp; omega) ?_; intro v6 w6 hown6 hgrow6 hnil6 hloc6; go_frame)
                  obtain ⟨g6, cap6, cur6, rfl, hS6, hh6, hle6, hmax6, hcz6, htk6⟩ : ∃ g6 cap6 cur6, v6 = .slice (some ⟨g6, 0, none⟩) (o.length + 1) cap6 ∧ w.heap.size ≤ g6 ∧ w6.heap[g6]? = some (.cells cur6 25 (0, 0)) ∧ o.length + 1 ≤ cap6 ∧ cap6 ≤ maxLen ∧ cur6.size = cap6 * 2 ∧ cur6.toList.take ((o.length + 1) * 2) = pcells o ++ [.string ⟨#[]⟩, .string ⟨#[]⟩] := by
                    rcases hown6.2 with ⟨_, h0⟩ | h1
                    · omega
                    · exact h1
                  have hne : wo.heap.size ≠ g6 := by
                    rcases hloc6 with h1 | h1
                    · have h2 : some g6 = (Value.slice Ao o.length co).ownBlock := h1
                      have := (HW.out.lt g6 h2.symm).2
                      omega
                    · have h2 : some g6 = some (wz.alloc (.cells #[.string ⟨#[]⟩, .string ⟨#[]⟩] 25)).heap.size := h1
                      rw [World.size_alloc] at h2
                      simp at h2
                      omega
                  have hne0 : some wo.heap.size ≠ (Value.slice Ao o.length co).ownBlock := fun e => by
                    have := (HW.out.lt wo.heap.size e.symm).2
                    omega
                  have hg6z := hgrow6.size
                  rw [World.size_alloc] at hg6z
                  have hpb6 : w6.heap[wo.heap.size]? = some (.cells #[.string ⟨k.toArray⟩, .string ⟨v.toArray⟩] 25 (0, 0)) := by
                    rw [hgrow6.block wo.heap.size (by simp; omega) hne0, Below.heap_alloc _ _ _ (by omega)]
                    exact HPB4.out
                  have HPB6 := Lib.hid hpb6
                  have HBW6 := Lib.hid ((HBW4.out.alloc (o := .cells #[.string ⟨#[]⟩, .string ⟨#[]⟩] 25) (by omega)).grown hgrow6 (by simp; omega) (fun j hj => (HW4.out.lt j hj).1))
                  have HTK := Lib.hid htk6
                  have HCZ := Lib.hid hcz6
                  have HH6 := Lib.hid hh6
                  clear hown6 hgrow6 hnil6 hloc6 htk6 hcz6 hh6 hpb6 HPB4 HPB3 HPB HW4 hne0
                  have y1 : IntKind.i64.wrap ((m : Int) + 1) = (m : Int) + 1 := IntWalk.i64_in _ (by omega)
                  have y2 : (0 : Int) ≤ (m : Int) + 1 := by omega
                  have y3 : ((m : Int) + 1).toNat = m + 1 := by omega
                  have y4 : (m : Int) + 1 ≤ ((o.length + 1 : Nat) : Int) := by omega
                  have y5 : (m : Int) ≤ ((o.length + 1 : Nat) : Int) := by omega
                  have y6 : (m : Int) + 1 ≤ (o.length : Int) + 1 := by omega
                  have y7 : (m : Int) ≤ (o.length : Int) + 1 := by omega
                  go_wp2_with fail
                  go_still_tail 7, (by kernel_rfl)
                  change wpList _ _ _ _ _ w6.drew
                  have hh6' : w6.drew.heap[g6]? = some (.cells cur6.toList.toArray 25 (0, 0)) := by rw [Array.toArray_toList]; exact HH6.out
                  have HPB7 := Lib.hid (show w6.drew.heap[wo.heap.size]? = some (.cells #[.string ⟨k.toArray⟩, .string ⟨v.toArray⟩] 25 (0, 0)) from HPB6.out)
                  have HBW7 := Lib.hid (show Below w.heap.size w w6.drew from HBW6.out.drew)
                  have hz7 : w6.drew.heap.size = w6.heap.size := rfl
                  have hcur := cur_of HTK.out
                  have hlen6 : cur6.toList.length = cap6 * 2 := by rw [Array.length_toList]; exact HCZ.out
                  have HCU := Lib.hid (And.intro hcur hlen6)
                  generalize w6.drew = w7 at hh6' HPB7 HBW7 hz7 ⊢
                  refine wpList_copy2 rfl _ _ 22 22 rfl 25 Try.underlying22 (by kernel_rfl) _ _ _ _ _ _ rfl rfl g6 (m * 2 + 2) cur6.toList 25 hh6' (o.length - m) (pcells (o.drop m)) ?m1 ?m2 ?m3 ?m4 (pcells_one _) ?_
                  case m1 => simp only [Nat.min_def]; split <;> omega
                  case m2 => rw [pcells_len, List.length_drop]
                  case m3 =>
                    intro hpm
                    refine ⟨?_, ?_⟩
                    · rw [if_neg (by omega)]
                      congr 2
                      omega
                    · exact ⟨⟨g6, m * 2, none⟩, by rw [if_neg (by omega)], src_cell hh6' HCU.out.1 hmo1⟩
                  case m4 => rw [pcells_len, List.length_drop, hlen6]; omega
                  intro w8 H8 hg8
                  obtain ⟨x0, x1, hsp⟩ := splice_cur HCU.out.1 hmo1
                  have h8 := H8.out
                  rw [hsp] at h8
                  have hpa : (pcells (o.take m)).length = m * 2 := by rw [pcells_len, List.length_take]; omega
                  have a0 : w8.cell? ⟨g6, m * 2, none⟩ = some x0 := by rw [Lib.cell_of_heap h8, ← hpa]; simp
                  have a1 : w8.cell? ⟨g6, m * 2 + 1, none⟩ = some x1 := by rw [Lib.cell_of_heap h8, ← hpa]; simp
                  have f0 : w8.frozen? ⟨g6, m * 2, none⟩ = false := Lib.frozen_of_heap h8 _
                  have f1 : w8.frozen? ⟨g6, m * 2 + 1, none⟩ = false := Lib.frozen_of_heap h8 _
                  have hpb8 := (hg8.block wo.heap.size (by omega) (by simpa using hne)).trans HPB7.out
                  have d0 : w8.cell? ⟨wo.heap.size, 0, none⟩ = some (.string ⟨k.toArray⟩) := by rw [Lib.cell_of_heap hpb8]; rfl
                  have d1 : w8.cell? ⟨wo.heap.size, 1, none⟩ = some (.string ⟨v.toArray⟩) := by rw [Lib.cell_of_heap hpb8]; rfl
                  have HOP := Lib.hid (own_put (k := k) (v := v) (S := w.heap.size) h8 hmo1 hS6 hle6 hmax6 (by rw [List.length_drop, hlen6]; omega))
                  have HBW8 := Lib.hid (HBW7.out.grown hg8 (by omega) (fun j hj => by cases hj; exact hS6))
                  have hmi2 : (m : Int) < ((o.length + 1 : Nat) : Int) := by omega
                  have hmi3 : (m : Int) < (o.length : Int) + 1 := by omega
                  clear h8 H8 hsp hpb8 hg8 hh6' HPB7 HBW7 hcur hlen6 HCU hpa y1 y2 y3 y4 y5 y6 y7
                  go_wp2_with fail
                  all_goals
                    have hg := HG.out
                    go_roundg g
                    case measure => omega
                    case rel =>
                      refine ⟨i + 1, o.take m ++ (k, v) :: o.drop m, by omega, by go_num, ?_, Lib.hid (HP.out.put HP1.out HAG.out.symm HGap.out HStop.out), by simp; omega, Lib.hid (bset hS6 (bset hS6 HBW8.out))⟩
                      first
                      | exact HOP.out
                      | (have hcm : cap6 = m + 1 := by assumption
                         rw [hcm] at HOP
                         exact HOP.out)
              · have hmi : decide ((m : Int) < (o.length : Int)) = false := decide_eq_false (by omega)
                have HStop := Lib.hid (show ∀ q, o[m]? = some q → ¬ q.1 < k from fun q hq => by rw [List.getElem?_eq_none (by omega)] at hq; cases hq)
                go_wp2_with fail
                go_quiet (fail)
                have e0s := hmi
                clear hmi
                have hbq : Below wr.heap.size wr (wr.drewN nq) := bdrew (Below.refl _ _)
                generalize wr.drewN nq = wz at hbq ⊢
                have hzz := hbq.size
                have HW4 := Lib.hid (HW3.out.kept (grown_of hbq (Nat.le_refl _)) (own_not HW3.out))
                have HPB4 := Lib.hid ((hbq.block wo.heap.size hpo3).trans HPB3.out)
                have HBW4 := Lib.hid (HBW3.out.trans (hbq.mono (by omega)))
                have hSz := HBW4.out.size
                clear hbq e0s
                go_wp2_with (at_builtin; refine wpList_append_own_at _ rfl _ _ 22 rfl w.heap.size 25 i0 (.agg #[.string ⟨#[]⟩, .string ⟨#[]⟩]) 2 32 Try.underlying22 hi hz0 hz1 hz2 rfl (by decide) _ _ _ rfl (HW4.out.alloc _) ⟨wz.heap.size, 0, none⟩ 1 1 [.string ⟨#[]⟩, .string ⟨#[]⟩] rfl rfl (two_new _ _ _ _) (two_one _ _) (by unfold maxLen; omega) (by omega) (by simp; omega) ?_; intro v6 w6 hown6 hgrow6 hnil6 hloc6; go_frame)
                obtain ⟨g6, cap6, cur6, rfl, hS6, hh6, hle6, hmax6, hcz6, htk6⟩ : ∃ g6 cap6 cur6, v6 = .slice (some ⟨g6, 0, none⟩) (o.length + 1) cap6 ∧ w.heap.size ≤ g6 ∧ w6.heap[g6]? = some (.cells cur6 25 (0, 0)) ∧ o.length + 1 ≤ cap6 ∧ cap6 ≤ maxLen ∧ cur6.size = cap6 * 2 ∧ cur6.toList.take ((o.length + 1) * 2) = pcells o ++ [.string ⟨#[]⟩, .string ⟨#[]⟩] := by
                  rcases hown6.2 with ⟨_, h0⟩ | h1
                  · omega
                  · exact h1
                have hne : wo.heap.size ≠ g6 := by
                  rcases hloc6 with h1 | h1
                  · have h2 : some g6 = (Value.slice Ao o.length co).ownBlock := h1
                    have := (HW.out.lt g6 h2.symm).2
                    omega
                  · have h2 : some g6 = some (wz.alloc (.cells #[.string ⟨#[]⟩, .string ⟨#[]⟩] 25)).heap.size := h1
                    rw [World.size_alloc] at h2
                    simp at h2
                    omega
                have hne0 : some wo.heap.size ≠ (Value.slice Ao o.length co).ownBlock := fun e => by
                  have := (HW.out.lt wo.heap.size e.symm).2
                  omega
                have hg6z := hgrow6.size
                rw [World.size_alloc] at hg6z
                have hpb6 : w6.heap[wo.heap.size]? = some (.cells #[.string ⟨k.toArray⟩, .string ⟨v.toArray⟩] 25 (0, 0)) := by
                  rw [hgrow6.block wo.heap.size (by simp; omega) hne0, Below.heap_alloc _ _ _ (by omega)]
                  exact HPB4.out
                have HPB6 := Lib.hid hpb6
                have HBW6 := Lib.hid ((HBW4.out.alloc (o := .cells #[.string ⟨#[]⟩, .string ⟨#[]⟩] 25) (by omega)).grown hgrow6 (by simp; omega) (fun j hj => (HW4.out.lt j hj).1))
                have HTK := Lib.hid htk6
                have HCZ := Lib.hid hcz6
                have HH6 := Lib.hid hh6
                clear hown6 hgrow6 hnil6 hloc6 htk6 hcz6 hh6 hpb6 HPB4 HPB3 HPB HW4 hne0
                have y1 : IntKind.i64.wrap ((m : Int) + 1) = (m : Int) + 1 := IntWalk.i64_in _ (by omega)
                have y2 : (0 : Int) ≤ (m : Int) + 1 := by omega
                have y3 : ((m : Int) + 1).toNat = m + 1 := by omega
                have y4 : (m : Int) + 1 ≤ ((o.length + 1 : Nat) : Int) := by omega
                have y5 : (m : Int) ≤ ((o.length + 1 : Nat) : Int) := by omega
                have y6 : (m : Int) + 1 ≤ (o.length : Int) + 1 := by omega
                have y7 : (m : Int) ≤ (o.length : Int) + 1 := by omega
                go_wp2_with fail
                go_still_tail 7, (by kernel_rfl)
                change wpList _ _ _ _ _ w6.drew
                have hh6' : w6.drew.heap[g6]? = some (.cells cur6.toList.toArray 25 (0, 0)) := by rw [Array.toArray_toList]; exact HH6.out
                have HPB7 := Lib.hid (show w6.drew.heap[wo.heap.size]? = some (.cells #[.string ⟨k.toArray⟩, .string ⟨v.toArray⟩] 25 (0, 0)) from HPB6.out)
                have HBW7 := Lib.hid (show Below w.heap.size w w6.drew from HBW6.out.drew)
                have hz7 : w6.drew.heap.size = w6.heap.size := rfl
                have hcur := cur_of HTK.out
                have hlen6 : cur6.toList.length = cap6 * 2 := by rw [Array.length_toList]; exact HCZ.out
                have HCU := Lib.hid (And.intro hcur hlen6)
                generalize w6.drew = w7 at hh6' HPB7 HBW7 hz7 ⊢
                refine wpList_copy2 rfl _ _ 22 22 rfl 25 Try.underlying22 (by kernel_rfl) _ _ _ _ _ _ rfl rfl g6 (m * 2 + 2) cur6.toList 25 hh6' (o.length - m) (pcells (o.drop m)) ?m1 ?m2 ?m3 ?m4 (pcells_one _) ?_
                case m1 => simp only [Nat.min_def]; split <;> omega
                case m2 => rw [pcells_len, List.length_drop]
                case m3 =>
                  intro hpm
                  refine ⟨?_, ?_⟩
                  · rw [if_neg (by omega)]
                    congr 2
                    omega
                  · exact ⟨⟨g6, m * 2, none⟩, by rw [if_neg (by omega)], src_cell hh6' HCU.out.1 hmo1⟩
                case m4 => rw [pcells_len, List.length_drop, hlen6]; omega
                intro w8 H8 hg8
                obtain ⟨x0, x1, hsp⟩ := splice_cur HCU.out.1 hmo1
                have h8 := H8.out
                rw [hsp] at h8
                have hpa : (pcells (o.take m)).length = m * 2 := by rw [pcells_len, List.length_take]; omega
                have a0 : w8.cell? ⟨g6, m * 2, none⟩ = some x0 := by rw [Lib.cell_of_heap h8, ← hpa]; simp
                have a1 : w8.cell? ⟨g6, m * 2 + 1, none⟩ = some x1 := by rw [Lib.cell_of_heap h8, ← hpa]; simp
                have f0 : w8.frozen? ⟨g6, m * 2, none⟩ = false := Lib.frozen_of_heap h8 _
                have f1 : w8.frozen? ⟨g6, m * 2 + 1, none⟩ = false := Lib.frozen_of_heap h8 _
                have hpb8 := (hg8.block wo.heap.size (by omega) (by simpa using hne)).trans HPB7.out
                have d0 : w8.cell? ⟨wo.heap.size, 0, none⟩ = some (.string ⟨k.toArray⟩) := by rw [Lib.cell_of_heap hpb8]; rfl
                have d1 : w8.cell? ⟨wo.heap.size, 1, none⟩ = some (.string ⟨v.toArray⟩) := by rw [Lib.cell_of_heap hpb8]; rfl
                have HOP := Lib.hid (own_put (k := k) (v := v) (S := w.heap.size) h8 hmo1 hS6 hle6 hmax6 (by rw [List.length_drop, hlen6]; omega))
                have HBW8 := Lib.hid (HBW7.out.grown hg8 (by omega) (fun j hj => by cases hj; exact hS6))
                have hmi2 : (m : Int) < ((o.length + 1 : Nat) : Int) := by omega
                have hmi3 : (m : Int) < (o.length : Int) + 1 := by omega
                clear h8 H8 hsp hpb8 hg8 hh6' HPB7 HBW7 hcur hlen6 HCU hpa y1 y2 y3 y4 y5 y6 y7
                go_wp2_with fail
                all_goals
                  have hg := HG.out
                  go_roundg g
                  case measure => omega
                  case rel =>
                    refine ⟨i + 1, o.take m ++ (k, v) :: o.drop m, by omega, by go_num, ?_, Lib.hid (HP.out.put HP1.out HAG.out.symm HGap.out HStop.out), by simp; omega, Lib.hid (bset hS6 (bset hS6 HBW8.out))⟩
                    first
                    | exact HOP.out
                    | (have hcm : cap6 = m + 1 := by assumption
                       rw [hcm] at HOP
                       exact HOP.out)
        | succ g2 =>
          have hjl : j < l.length - (i + 1) := by omega
          obtain rfl := HA2.out (by omega)
          obtain ⟨q, hq⟩ : ∃ q, l[i + 1 + j]? = some q := ⟨_, List.getElem?_eq_getElem (by omega)⟩
          obtain ⟨qk, qv⟩ := q
          have hcq := HCS.out (i + 1 + j) (qk, qv) hq
          rw [show of + (i + 1 + j) * 2 = of + (i + 1) * 2 + j * 2 from by omega] at hcq
          have e0 : wr.cell? ⟨bl, of + (i + 1) * 2 + j * 2, none⟩ = some (.string ⟨qk.toArray⟩) := by rw [HBW.out.cell (p := ⟨bl, _, none⟩) hbl]; exact hcq.1
          have e1 : wr.cell? ⟨bl, of + (i + 1) * 2 + j * 2 + 1, none⟩ = some (.string ⟨qv.toArray⟩) := by rw [HBW.out.cell (p := ⟨bl, _, none⟩) hbl]; exact hcq.2
          have HT := Lib.hid (show (l.drop (i + 1)).take (j + 1) = (l.drop (i + 1)).take j ++ [(qk, qv)] by rw [List.take_add_one, List.getElem?_drop, hq]; rfl)
          have HJ := Lib.hid hjg
          have hjl' : (j : Int) < ((l.length - (i + 1) : Nat) : Int) := by omega
          have hbr : bl < wr.heap.size := by omega
          clear hq hcq hjg
          cases ag with
          | true =>
            go_wp2_with fail
            have hg := HJ.out
            go_roundg g2
            case measure => omega
            case rel => exact ⟨j + 1, by omega, by go_num, by rw [HT.out, again_snoc, ← HAG.out]; rfl, Lib.hid (HB2.out.alloc (by omega) _)⟩
          | false =>
            go_wp2_with fail
            have hg := HJ.out
            go_roundg g2
            case measure => omega
            case rel => exact ⟨j + 1, by omega, by go_num, by rw [HT.out, again_snoc, ← HAG.out]; by_cases hq : qk = k <;> simp [hq], Lib.hid (HB2.out.alloc (by omega) _)⟩
end Go.Proofs.Ytokafofckjookaa.pk
