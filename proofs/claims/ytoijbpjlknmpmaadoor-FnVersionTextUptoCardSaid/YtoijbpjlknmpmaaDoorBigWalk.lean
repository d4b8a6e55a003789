/- Walks of spec.Big, spec.digit and times. -/
import Derived.Test.YtoijbpjlknmpmaaDoorRows
import Derived.Test.YtoijbpjlknmpmaaDoorBigPlain
import Derived.Test.YtoijbpjlknmpmaaDoorKit
import Derived.WalkKit
import Derived.ProofKit
import Derived.IntWalk
import Derived.OwnWalk
import Derived.Laws.IdiomStrings
import Derived.Deep.LoopGhost
import Derived.Deep.DeepCutAuto
import Derived.Deep.CutBlock
namespace Go.Proofs.YtoijbpjlknmpmaaDoor.big
open Go.RowKit
open kit

theorem digit_any (c : Nat) (hc : c < 256) (w : World) :
    Calls Tryd.prog 16 #[.int .u8 (c : Int)] w fun e w' => e = .returned (.int .i64 (dig c : Nat)) ∧ w = w' := by
  have parts : (48 ≤ c ∧ c ≤ 57) ∨ (97 ≤ c ∧ c ≤ 102) ∨ (65 ≤ c ∧ c ≤ 70) ∨ c < 48 ∨ (58 ≤ c ∧ c ≤ 64) ∨ (71 ≤ c ∧ c ≤ 96) ∨ 103 ≤ c := by omega
  have D : Hid (dig c = if 48 ≤ c ∧ c ≤ 57 then c - 48 else if 97 ≤ c ∧ c ≤ 102 then c - 87 else if 65 ≤ c ∧ c ≤ 70 then c - 55 else 99) := rfl
  rcases parts with ⟨h1, h2⟩ | ⟨h1, h2⟩ | ⟨h1, h2⟩ | h1 | ⟨h1, h2⟩ | ⟨h1, h2⟩ | h1
  all_goals
    go_enter Tryd.func16, Tryd.ntmps16
    go_wp2
    go_ret
    refine ⟨?_, rfl⟩
    rw [D.out]
    congr 2
    repeat (first | rw [if_pos (by omega)] | rw [if_neg (by omega)])
    try simp
    try omega

/-- digits as cells -/
def cells (xs : List Nat) : List Value := xs.map fun d : Nat => .int .u8 (d : Int)
theorem cells_len (xs : List Nat) : (cells xs).length = xs.length := by simp [cells]
theorem cells_snoc (xs : List Nat) (d : Nat) : cells xs ++ [.int .u8 (d : Int)] = cells (xs ++ [d]) := by simp [cells]

theorem Tryd.info5 : (Tryd.prog.info? 5).map (fun i => (i.zero, i.size, i.bytes)) = some (some (.int .u8 0), 1, 1) := by kernel_rfl

/-- what times hands back: a row of its own with the digits of the product -/
def Gives (xs : List Nat) (w : World) (e : Ending) (w' : World) : Prop := ∃ v, e = .returned v ∧ w'.ownsRow w.heap.size 5 1 v xs.length (cells xs) ∧ Below w.heap.size w w'

theorem cells_get (xs : List Nat) (k : Nat) (hk : k < xs.length) : (cells xs)[k]? = some (.int .u8 (xs[k] : Nat)) := by simp [cells, hk]
theorem take_snoc (xs : List Nat) (k : Nat) (hk : k < xs.length) : xs.take (k + 1) = xs.take k ++ [xs[k]] := by
  rw [List.take_add_one, List.getElem?_eq_getElem hk]; rfl

theorem own_cap {w : World} {base g n cap : Nat} {e : TypeId} {xs : List Value} (h : w.ownsRow base e 1 (.slice (some ⟨g, 0, none⟩) n cap) n xs) : n ≤ cap := by
  rcases h.2 with ⟨h0, _⟩ | ⟨g', cap', cur, hv, _, _, hnc, _⟩
  · cases h0
  · cases hv; exact hnc
theorem snoc_of (zs : List Nat) (h : 0 < zs.length) : ∃ a d, zs = a ++ [d] :=
  ⟨zs.dropLast, zs.getLast (List.ne_nil_of_length_pos h), (List.dropLast_concat_getLast _).symm⟩
/-- one more cell, as append leaves it -/
theorem own_snoc {w wr w1 : World} {B : Nat} {v v' : Value} {o : Obj} {xs : List Nat} {d : Nat} {t : Int} (hB : B ≤ wr.heap.size) (hd : t = (d : Int))
    (hown : wr.ownsRow B 5 1 v xs.length (cells xs)) (hb : Below B w wr) (hown' : w1.ownsRow B 5 1 v' (xs.length + 1) (cells xs ++ [.int .u8 t])) (hg : (wr.alloc o).grownBy w1 v.ownBlock) :
    w1.ownsRow B 5 1 v' (xs ++ [d]).length (cells (xs ++ [d])) ∧ Below B w w1 := by
  subst hd
  refine ⟨by rw [← cells_snoc]; simpa using hown', (hb.alloc hB o).grown hg (by simp; omega) (fun j hj => (hown.lt j hj).1)⟩

set_option maxHeartbeats 1600000 in
theorem times_any (A : Option Addr) (c : Nat) (xs : List Nat) (n m : Nat) (w : World) (hr : Rd w w.heap.size A xs.length (cells xs)) (hx : ∀ d ∈ xs, d < 10) (hl : xs.length ≤ 4000000) (hn : n ≤ 16) (hm : m ≤ 16) :
    Calls Tryd.prog 17 #[.slice A xs.length c, .int .i64 (n : Int), .int .i64 (m : Int)] w (Gives (times xs n m) w) := by
  obtain ⟨i0, hi, hz0, hz1, hz2⟩ := info_parts Tryd.info5
  have HR := Lib.hid hr
  have HX := Lib.hid hx
  clear hr hx
  go_enter Tryd.func17, Tryd.ntmps17
  go_wp2_with fail
  go_loopg [2, 7, 12] xs.length (fun g s2 s7 s12 wr => ∃ k, k + g = xs.length ∧ s12 = .int .i64 (k : Nat) ∧ s2 = .int .i64 ((mul n (xs.take k) m).2 : Nat) ∧ wr.ownsRow w.heap.size 5 1 s7 (mul n (xs.take k) m).1.length (cells (mul n (xs.take k) m).1) ∧ Below w.heap.size w wr)
  case atStart => exact ⟨0, by omega, rfl, rfl, World.ownsRow_nil _ _ _ _, Below.refl _ _⟩
  case round =>
    obtain ⟨k, hkg, rfl, rfl, hown, hb⟩ := hrel
    have HG := Lib.hid hkg
    have hbs := hb.size
    have hkx : k ≤ xs.length := by omega
    clear hkg
    have hlen := mul_len n (xs.take k) m
    rw [List.length_take, Nat.min_eq_left hkx] at hlen
    have hcar : (mul n (xs.take k) m).2 ≤ 16 := mul_carry n (xs.take k) m hn hm (fun d hd => HX.out d (List.mem_of_mem_take hd))
    by_cases hlt : k < xs.length
    · have hnext := mul_snoc n (xs.take k) xs[k] m
      rw [← take_snoc xs k hlt] at hnext
      have hd9 := HX.out xs[k] (List.getElem_mem hlt)
      obtain ⟨b, o, u, rfl, hbB, hu, hcell⟩ := (HR.out.below hb).at_ hlt
      rw [cells_get xs k hlt] at hu
      obtain rfl := Option.some.inj hu
      have HN := Lib.hid hnext
      clear hnext hu
      obtain ⟨d, hd⟩ : ∃ d, d = xs[k] := ⟨_, rfl⟩
      rw [← hd] at hd9 hcell HN
      obtain ⟨st, hst⟩ : ∃ st, st = mul n (xs.take k) m := ⟨_, rfl⟩
      rw [← hst] at hcar hown hlen HN ⊢
      obtain ⟨out, cr⟩ := st
      simp only at hcar hown hlen HN ⊢
      have HD := Lib.hid hd
      have HS := Lib.hid hst
      clear hd hst
      have p0 : 0 ≤ (d : Int) * (n : Int) := Int.mul_nonneg (by omega) (by omega)
      have p1 : (d : Int) * (n : Int) ≤ 144 := by have : d * n ≤ 9 * 16 := Nat.mul_le_mul (by omega) hn; rw [← Int.natCast_mul]; omega
      have hol : out.length ≤ 4000000 := by omega
      have HL := Lib.hid hlen
      clear hlen
      go_wp2_with (first
        | (at_builtin; refine wpList_append_own _ rfl _ _ 40 rfl w.heap.size 5 i0 (.int .u8 0) 1 1 Tryd.underlying40 hi hz0 hz1 hz2 rfl (by decide) _ _ _ rfl (hown.alloc _) ⟨wr.heap.size, 0, none⟩ 1 1 [.int .u8 (((cr : Int) + (d : Int) * (n : Int)) % 10)] rfl rfl ?c1 ?c2 ?c3 ?c4 ?c5 ?_))
      case c1 =>
        intro j u hj
        match j, hj with
        | 0, hj => simp at hj; subst hj; simp [Addr.add]
      case c2 => intro u hu; simp at hu; subst hu; rfl
      case c3 => unfold maxLen; omega
      case c4 => omega
      case c5 => simp; omega
      intro v' w1 hown' hgrow _
      have R := own_snoc (d := (cr + d * n) % 10) hbs (by rw [Int.natCast_emod]; simp) hown hb hown' hgrow
      clear hown' hgrow hown
      have HRR := Lib.hid R
      clear R
      go_wp2
      have hg := HG.out
      go_roundg (gk - 1)
      case measure => omega
      case rel =>
        refine ⟨k + 1, by omega, by go_num, ?_, ?_, HRR.out.2⟩
        · rw [HN.out]; simp [step]
        · rw [HN.out]; exact HRR.out.1
    · have hke : k = xs.length := by omega
      subst hke
      rw [List.take_length] at *
      have hfin : times xs n m = strip ((mul n xs m).1 ++ spill (mul n xs m).2) := rfl
      obtain ⟨st, hst⟩ : ∃ st, st = mul n xs m := ⟨_, rfl⟩
      rw [← hst] at hcar hown hlen hfin ⊢
      obtain ⟨out, cr⟩ := st
      simp only at hcar hown hlen hfin ⊢
      have HF := Lib.hid hfin
      have hol : out.length ≤ 4000000 := by omega
      clear hst hlen hfin hlt
      go_wp2
      go_loopg [2, 7] cr (fun g s2 s7 wr => ∃ ys, s2 = .int .i64 (g : Nat) ∧ g ≤ 16 ∧ ys.length ≤ 4000000 + (20 - g) ∧ Hid (ys ++ spill g = out ++ spill cr) ∧ wr.ownsRow w.heap.size 5 1 s7 ys.length (cells ys) ∧ Below w.heap.size w wr)
      case atStart => exact ⟨out, rfl, hcar, by omega, rfl, hown, hb⟩
      case round =>
        clear hown hb hbs hcar
        obtain ⟨ys, rfl, hg16, hyl, HY, hown, hb⟩ := hrel
        have hbs := hb.size
        by_cases hg0 : 0 < gk
        · have hsp := spill_eq gk hg0 (by omega)
          have HSP := Lib.hid hsp
          clear hsp
          go_wp2_with (first
            | (at_builtin; refine wpList_append_own _ rfl _ _ 40 rfl w.heap.size 5 i0 (.int .u8 0) 1 1 Tryd.underlying40 hi hz0 hz1 hz2 rfl (by decide) _ _ _ rfl (hown.alloc _) ⟨wr.heap.size, 0, none⟩ 1 1 [.int .u8 ((gk : Int) % 10)] rfl rfl ?d1 ?d2 ?d3 ?d4 ?d5 ?_))
          case d1 =>
            intro j u hj
            match j, hj with
            | 0, hj => simp at hj; subst hj; simp [Addr.add]
          case d2 => intro u hu; simp at hu; subst hu; rfl
          case d3 => unfold maxLen; omega
          case d4 => omega
          case d5 => simp; omega
          intro v' w1 hown' hgrow _
          have R := own_snoc (d := gk % 10) hbs (by rw [Int.natCast_emod]; simp) hown hb hown' hgrow
          clear hown' hgrow hown
          have HRR := Lib.hid R
          clear R
          go_wp2
          go_roundg (gk / 10)
          case measure => omega
          case rel =>
            refine ⟨ys ++ [gk % 10], by go_num, by omega, by simp; omega, ?_, HRR.out⟩
            show ys ++ [gk % 10] ++ spill (gk / 10) = _
            rw [List.append_assoc]
            have := HY.out
            rw [HSP.out] at this
            simpa using this
        · have hg1 : gk = 0 := by omega
          subst hg1
          have hfull : ys = out ++ spill cr := by have := HY; simpa [Hid, spill] using this
          have HFL := Lib.hid hfull
          clear hfull hg0
          go_wp2
          go_loopg [7] ys.length (fun g s7 wr => ∃ zs, zs.length = g ∧ g ≤ 4000100 ∧ Hid (strip zs = strip ys) ∧ wr.ownsRow w.heap.size 5 1 s7 g (cells zs) ∧ Below w.heap.size w wr)
          case atStart => exact ⟨ys, rfl, by omega, rfl, hown, hb⟩
          case round =>
            clear hown hb hbs
            obtain ⟨zs, hzl, hgl, HZ, hown, hb⟩ := hrel
            rcases Nat.eq_zero_or_pos gk with hg0 | hg0
            · subst hg0
              obtain rfl : zs = [] := List.eq_nil_of_length_eq_zero hzl
              obtain ⟨A7, c7, hv, _⟩ := Rd.of_own hown
              subst hv
              clear hzl
              go_wp2
              go_ret
              refine ⟨_, rfl, ?_, hb⟩
              rw [HF.out, ← HFL.out, ← HZ.out]
              exact hown
            · obtain ⟨ps, d, rfl⟩ := snoc_of zs (by omega)
              obtain ⟨g, rfl⟩ : ∃ g, gk = g + 1 := ⟨gk - 1, by omega⟩
              have hal : ps.length = g := by simpa using hzl
              obtain ⟨g0, cap, hv, _, hlt0⟩ := hown.form hg0
              subst hv
              have hcell := hown.cells (g := g0) rfl g (.int .u8 (d : Int)) (by simp [cells, ← hal])
              have hc1 : wr.cell? ⟨g0, g, none⟩ = some (.int .u8 (d : Int)) := by
                unfold Addr.add at hcell
                by_cases h0 : g = 0
                · subst h0; simpa using hcell
                · simpa [h0] using hcell
              have hcap : g + 1 ≤ cap := own_cap hown
              have hcap2 : g ≤ cap := by omega
              clear hcell hzl
              have HAL := Lib.hid hal
              clear hal
              by_cases hd : d = 0
              · subst hd
                go_wp2
                go_roundg g
                case measure => omega
                case rel =>
                  refine ⟨ps, HAL.out, by omega, ?_, ?_, hb⟩
                  · show strip ps = strip ys
                    rw [← HZ.out, strip_zero]
                  · exact ownsRow_pop (last := [.int .u8 0]) (by rw [cells_len, HAL.out]; simp) (by simpa [cells] using hown)
              · have hdb : ((d : Int) == 0) = false := by rw [beq_eq_false_iff_ne]; omega
                go_wp2
                go_ret
                refine ⟨_, rfl, ?_, hb⟩
                rw [HF.out, ← HFL.out, ← HZ.out, strip_keep ps d hd]
                simpa [HAL.out] using hown
/-- the letters of a text -/
def lets (s : ByteArray) : List Nat := s.data.toList.map (·.toNat)
theorem lets_len (s : ByteArray) : (lets s).length = s.size := by simp [lets]
theorem lets_get (s : ByteArray) (k : Nat) (h : k < s.size) : (lets s).getD k 0 = s[k].toNat := by
  have : k < s.data.toList.length := by simpa using h
  simp [lets, ByteArray.getElem_eq_getElem_data, h]
theorem lets_drop (s : ByteArray) : lets (s.extract 2 s.size) = (lets s).drop 2 := by
  simp [lets, ByteArray.data_extract]
  exact List.take_of_length_le (by simp)
theorem lets_snoc (s : ByteArray) (k : Nat) (h : k < s.size) : (lets s).take (k + 1) = (lets s).take k ++ [s[k].toNat] := by
  have h' : k < (lets s).length := by rw [lets_len]; exact h
  rw [take_snoc _ k h']
  have := lets_get s k h
  rw [List.getD_eq_getElem?_getD, List.getElem?_eq_getElem h'] at this
  simp at this
  rw [this]
theorem isEmpty_of (t : ByteArray) (h : 0 < t.size) : t.toList.isEmpty = false := by
  rw [ByteArray.toList_eq]
  cases hl : t.data.toList with
  | nil => have : t.size = 0 := by rw [show t.size = t.data.toList.length from by simp, hl]; rfl
           omega
  | cons _ _ => rfl
def txt (l : List Nat) : ByteArray := ⟨(l.map (·.toUInt8)).toArray⟩

theorem txt_cons (c : Nat) (l : List Nat) : txt (c :: l) = ⟨#[c.toUInt8]⟩ ++ txt l := by
  apply ByteArray.ext
  simp [txt, ByteArray.data_append]
theorem conv_one (W : World) (x : Int) (u : UInt8) (hx : x = (u.toNat : Int)) :
    (convert 39 9 (.slice (some ⟨W.heap.size, 0, none⟩) 1 1)).run Tryd.prog (W.alloc (.cells #[.int .u8 x] 5)) = .ok (.string ⟨#[u]⟩) (W.alloc (.cells #[.int .u8 x] 5)) := by
  refine run_convert_bytes_back (P := Tryd.prog) _ 39 9 5 ⟨W.heap.size, 0, none⟩ 1 [u] Tryd.underlying39 Tryd.underlying5 Tryd.underlying9 ?_
  intro j hj
  have : j = 0 := by simpa using hj
  subst this
  simp [Addr.add, hx]

def Big (l : List Nat × Bool) (w : World) (e : Ending) (w' : World) : Prop := e = .returned (.tuple #[.string (txt l.1), .bool l.2]) ∧ Below w.heap.size w w'

set_option maxHeartbeats 1600000 in
theorem big_any (s : ByteArray) (w : World) (hs : s.size ≤ 1048576) : Calls Tryd.prog 8 #[.string s] w (Big (big (lets s)) w) := by
  go_enter Tryd.func8, Tryd.ntmps8
  go_upto_region 2 with (fail)
  go_cut [18] (fun s18 wx => ∃ p : Bool, s18 = .bool p ∧ wx = w ∧ Hid (p = true ↔ 2 < s.size ∧ (lets s).getD 0 0 = 48))
  case first =>
    by_cases h2 : 2 < s.size
    · have hg := lets_get s 0 (by omega)
      have HG := Lib.hid hg
      clear hg
      by_cases h0 : s[0].toNat = 48
      · go_wp2
        go_meet
        exact ⟨true, rfl, rfl, by show _ ↔ _; rw [HG.out]; simp [h2, h0]⟩
      · have hb0 : ((s[0].toNat : Int) == 48) = false := by rw [beq_eq_false_iff_ne]; omega
        go_wp2
        go_meet
        exact ⟨false, rfl, rfl, by show _ ↔ _; rw [HG.out]; simp [h0]⟩
    · have h2' : decide ((s.size : Int) > 2) = false := by simp; omega
      go_wp2
      go_meet
      exact ⟨false, rfl, rfl, by show _ ↔ _; simp; omega⟩
  case rest =>
  obtain ⟨p, rfl, rfl, HP⟩ := hcut
  go_upto_if 18 with (fail)
  go_cut [0, 4] (fun s0 s4 wx => ∃ (t : ByteArray) (b : Nat), s0 = .string t ∧ s4 = .int .i64 (b : Int) ∧ wx = wc ∧ b ≤ 16 ∧ t.size ≤ 1048576 ∧ Hid (big (lets s) = half b (lets t)))
  case first =>
    cases p
    · have hno : ¬ (2 < (lets s).length ∧ (lets s).getD 0 0 = 48) := by rw [lets_len]; intro h; have := HP.out.2 h; cases this
      have E := Lib.hid (big_plain (lets s) hno)
      clear hno HP
      go_wp2
      go_meet
      exact ⟨s, 10, rfl, rfl, rfl, by omega, hs, E⟩
    · obtain ⟨h2, h20⟩ := HP.out.1 rfl
      have h11 : 1 < s.size := Nat.lt_trans (by decide) h2
      have h2' : 2 < (lets s).length ∧ (lets s).getD 0 0 = 48 := by rw [lets_len]; exact ⟨h2, h20⟩
      have hg := lets_get s 1 h11
      have E1 := Lib.hid (big_based (lets s) · h2')
      have E2 := Lib.hid (big_other (lets s))
      rw [hg, ← lets_drop] at E1
      rw [hg] at E2
      clear h20 h2' hg HP
      have sz : (s.extract 2 s.size).size ≤ 1048576 := by simp; omega
      by_cases c1 : s[1].toNat = 120
      · go_wp2
        go_meet
        exact ⟨_, 16, rfl, rfl, rfl, by omega, sz, E1.out 16 (by simp [c1])⟩
      · have n1 : ((s[1].toNat : Int) == 120) = false := by rw [beq_eq_false_iff_ne]; omega
        by_cases c2 : s[1].toNat = 88
        · go_wp2
          go_meet
          exact ⟨_, 16, rfl, rfl, rfl, by omega, sz, E1.out 16 (by simp [c2])⟩
        · have n2 : ((s[1].toNat : Int) == 88) = false := by rw [beq_eq_false_iff_ne]; omega
          by_cases c3 : s[1].toNat = 111
          · go_wp2
            go_meet
            exact ⟨_, 8, rfl, rfl, rfl, by omega, sz, E1.out 8 (by simp [c3])⟩
          · have n3 : ((s[1].toNat : Int) == 111) = false := by rw [beq_eq_false_iff_ne]; omega
            by_cases c4 : s[1].toNat = 79
            · go_wp2
              go_meet
              exact ⟨_, 8, rfl, rfl, rfl, by omega, sz, E1.out 8 (by simp [c4])⟩
            · have n4 : ((s[1].toNat : Int) == 79) = false := by rw [beq_eq_false_iff_ne]; omega
              by_cases c5 : s[1].toNat = 98
              · go_wp2
                go_meet
                exact ⟨_, 2, rfl, rfl, rfl, by omega, sz, E1.out 2 (by simp [c5])⟩
              · have n5 : ((s[1].toNat : Int) == 98) = false := by rw [beq_eq_false_iff_ne]; omega
                by_cases c6 : s[1].toNat = 66
                · go_wp2
                  go_meet
                  exact ⟨_, 2, rfl, rfl, rfl, by omega, sz, E1.out 2 (by simp [c6])⟩
                · have n6 : ((s[1].toNat : Int) == 66) = false := by rw [beq_eq_false_iff_ne]; omega
                  have E3 := Lib.hid (E2.out (by omega) (by omega) (by omega))
                  clear E1 E2 c1 c2 c3 c4 c5 c6
                  go_wp2
                  go_meet
                  exact ⟨s, 10, rfl, rfl, rfl, by omega, hs, E3⟩
  case rest =>
  obtain ⟨t, b, rfl, rfl, rfl, hb, ht, H⟩ := hcut
  clear HP
  go_upto_region 15 with (fail)
  go_cut [49] (fun s49 wx => ∃ q : Bool, s49 = .bool q ∧ wx = wc ∧ Hid (q = true ↔ lets t = [] ∨ (b = 10 ∧ 1 < (lets t).length ∧ (lets t).getD 0 0 = 48)))
  case first =>
    rcases Nat.eq_zero_or_pos t.size with h0 | h0
    · have hl0 : lets t = [] := List.eq_nil_of_length_eq_zero (by rw [lets_len]; exact h0)
      have ht0 : t.toList = [] := by rw [ByteArray.toList_eq]; exact List.eq_nil_of_length_eq_zero (by simpa using h0)
      have HL := Lib.hid hl0
      clear hl0 h0
      go_wp2
      go_meet
      exact ⟨true, rfl, rfl, by show _ ↔ _; simp [HL.out]⟩
    · have hE := isEmpty_of t h0
      have hE2 : ¬ t.toList = [] := by intro h; rw [h] at hE; cases hE
      have hlne : ¬ lets t = [] := by intro h; have := lets_len t; rw [h] at this; simp at this; omega
      have HLN := Lib.hid hlne
      have HLL := Lib.hid (lets_len t)
      have HLG := Lib.hid (lets_get t 0 h0)
      clear hlne
      by_cases hb10 : b = 10
      · subst hb10
        by_cases h1 : 1 < t.size
        · by_cases h48 : t[0].toNat = 48
          · go_wp2
            go_meet
            exact ⟨true, rfl, rfl, by show _ ↔ _; rw [HLL.out, HLG.out]; simp [h1, h48]⟩
          · have n48 : ((t[0].toNat : Int) == 48) = false := by rw [beq_eq_false_iff_ne]; omega
            go_wp2
            go_meet
            exact ⟨false, rfl, rfl, by show _ ↔ _; rw [HLL.out, HLG.out]; simp [HLN.out, h48]⟩
        · have h1' : decide ((t.size : Int) > 1) = false := by simp; omega
          go_wp2
          go_meet
          exact ⟨false, rfl, rfl, by show _ ↔ _; rw [HLL.out]; simp [HLN.out]; omega⟩
      · have hbb : ((b : Int) == 10) = false := by rw [beq_eq_false_iff_ne]; omega
        go_wp2
        go_meet
        exact ⟨false, rfl, rfl, by show _ ↔ _; simp [HLN.out, hb10]⟩
  case rest =>
  obtain ⟨q, rfl, rfl, HQ⟩ := hcut
  cases q
  · have HB := Lib.hid (show ¬ (lets t = [] ∨ (b = 10 ∧ 1 < (lets t).length ∧ (lets t).getD 0 0 = 48)) from fun h => by have := HQ.out.2 h; cases this)
    clear HQ
    go_wp2
    go_loopg [5, 52] t.size (fun g s5 s52 wr => ∃ k A c, k + g = t.size ∧ s52 = .int .i64 (k : Nat) ∧ s5 = .slice A (acc b ((lets t).take k)).length c ∧ Rd wr wr.heap.size A (acc b ((lets t).take k)).length (cells (acc b ((lets t).take k))) ∧ Below wc.heap.size wc wr ∧ Hid (∀ c ∈ (lets t).take k, dig c < b))
    case atStart => exact ⟨0, none, 0, by omega, rfl, rfl, Rd.nil_, Below.refl _ _, fun c hc => by simp at hc⟩
    case round =>
      obtain ⟨k, A, c, hkg, rfl, rfl, hrd, hbl, HD⟩ := hrel
      have hkt : k ≤ t.size := by omega
      have HG := Lib.hid hkg
      clear hkg
      have hal := acc_len b ((lets t).take k)
      have hadg := acc_dig b ((lets t).take k) hb HD.out
      rw [List.length_take, lets_len, Nat.min_eq_left hkt] at hal
      by_cases hlt : k < t.size
      · have hsn := lets_snoc t k hlt
        have hmem : t[k].toNat ∈ lets t := by
          have := lets_get t k hlt
          have h' : k < (lets t).length := by rw [lets_len]; exact hlt
          rw [List.getD_eq_getElem?_getD, List.getElem?_eq_getElem h'] at this
          simp at this
          rw [← this]; exact List.getElem_mem h'
        have hc256 : t[k].toNat < 256 := UInt8.toNat_lt _
        have ha := acc_snoc b ((lets t).take k) t[k].toNat
        rw [← hsn] at ha
        by_cases hdb : dig t[k].toNat < b
        · have X := Lib.hid (fun W : World => digit_any t[k].toNat hc256 W)
          have Y := Lib.hid (times_any A c (acc b ((lets t).take k)) b (dig t[k].toNat) wr hrd hadg (by omega) hb (by omega))
          have HA := Lib.hid ha
          have HS := Lib.hid hsn
          have HK := Lib.hid hrd
          clear ha hsn hadg hrd hmem hc256
          have hdb2 : ¬ ((b : Int) ≤ (dig t[k].toNat : Int)) := by omega
          obtain ⟨d, hd⟩ : ∃ d, d = dig t[k].toNat := ⟨_, rfl⟩
          rw [← hd] at X Y hdb2 hdb HA
          have HDD := Lib.hid hd
          clear hd
          go_wp2_with (first | (go_at_call 16; refine (X.out _).mono ?_; rintro e w' ⟨rfl, rfl⟩) | (go_at_call 17; refine Y.out.mono ?_; rintro e w' ⟨v, rfl, hown, hb2⟩))
          obtain ⟨A', c', hv, hrd'⟩ := Rd.of_own hown
          subst hv
          have hg := HG.out
          go_roundg (gk - 1)
          case measure => omega
          case rel =>
            refine ⟨k + 1, A', c', by omega, by go_num, by rw [HA.out], by rw [HA.out]; exact hrd', hbl.trans (hb2.mono hbl.size), ?_⟩
            show ∀ c ∈ (lets t).take (k + 1), dig c < b
            rw [HS.out]
            intro c hc
            rcases List.mem_append.1 hc with h | h
            · exact HD.out c h
            · simp at h; rw [h, ← HDD.out]; exact hdb
        · have X := Lib.hid (fun W : World => digit_any t[k].toNat hc256 W)
          have E := half_no b (lets t) _ hmem hdb
          rw [E] at H
          clear E ha hsn hadg hrd hmem hc256
          have hdb2 : (b : Int) ≤ (dig t[k].toNat : Int) := by omega
          obtain ⟨d, hd⟩ : ∃ d, d = dig t[k].toNat := ⟨_, rfl⟩
          rw [← hd] at X hdb2 hdb
          clear hd
          go_wp2_with (first | (go_at_call 16; refine (X.out _).mono ?_; rintro e w' ⟨rfl, rfl⟩))
          go_ret2
          rw [H.out]
          exact ⟨rfl, hbl⟩
      · have hke : k = t.size := by omega
        subst hke
        have htk : (lets t).take t.size = lets t := by rw [← lets_len]; exact List.take_length
        rw [htk] at hal hadg hrd HD ⊢
        have E := half_yes b (lets t) HB.out HD.out
        rw [E] at H
        clear htk E hlt
        obtain ⟨X, hX⟩ : ∃ X, X = acc b (lets t) := ⟨_, rfl⟩
        rw [← hX] at hal hadg hrd H ⊢
        clear hX
        have HDG := Lib.hid hadg
        have HRD := Lib.hid hrd
        have hXl : X.length ≤ 2100000 := by omega
        clear hadg hrd hal
        go_wp2
        go_loopg [8, 69] X.length (fun g s8 s69 wq => ∃ k, k + g = X.length ∧ s69 = .int .i64 (k : Nat) ∧ s8 = .string (txt (text (X.take k))) ∧ Below wr.heap.size wr wq)
        case atStart => exact ⟨0, by omega, rfl, rfl, Below.refl _ _⟩
        case round =>
          obtain ⟨k, hkg2, rfl, rfl, hbq⟩ := hrel
          have HG2 := Lib.hid hkg2
          have hkx : k ≤ X.length := by omega
          clear hkg2
          by_cases hlt : k < X.length
          · obtain ⟨b0, o0, u, rfl, hbB, hu, hcell⟩ := (HRD.out.below hbq).at_ hlt
            rw [cells_get X k hlt] at hu
            obtain rfl := Option.some.inj hu
            have hd9 := HDG.out X[k] (List.getElem_mem hlt)
            have HT := Lib.hid (text_snoc (X.take k) X[k])
            rw [← take_snoc X k hlt] at HT
            obtain ⟨d, hd⟩ : ∃ d, d = X[k] := ⟨_, rfl⟩
            rw [← hd] at hcell hd9 HT
            clear hd hu
            have hcv := conv_one wr (48 + (d : Int)) (d + 48).toUInt8 (by
              rw [show (d + 48).toUInt8.toNat = (d + 48) % 256 from UInt8.toNat_ofNat', Nat.mod_eq_of_lt (by omega)]; omega)
            have hs2 : (txt (text (X.take k))).size ≤ 2100000 := by
              have : (text (X.take k)).length ≤ 2100000 := by simp [text]; omega
              show ((text (X.take k)).map (·.toUInt8)).toArray.size ≤ _
              simpa using this
            go_wp2
            have hg := HG2.out
            go_roundg (gk - 1)
            case measure => omega
            case rel =>
              refine ⟨k + 1, by omega, by go_num, ?_, hbq.alloc hbq.size _⟩
              rw [HT.out, txt_cons, show (d + 48).toUInt8 = UInt8.ofNat d + 48 from by simp]
          · have hke : k = X.length := by omega
            subst hke
            rw [List.take_length]
            go_wp2
            go_ret2
            rw [H.out]
            exact ⟨rfl, hbl.trans (hbq.mono hbl.size)⟩
  · have e : half b (lets t) = ([], false) := half_bad b _ (HQ.out.1 rfl)
    rw [e] at H
    clear e HQ
    go_wp2
    go_ret2
    rw [H.out]
    exact ⟨rfl, Below.refl _ _⟩
end Go.Proofs.YtoijbpjlknmpmaaDoor.big
