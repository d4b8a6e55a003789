/- DecodeIntoArray's walk. -/
import Derived.Test.YtokafofckjookaaDecode
import Derived.StillTailTactics
import Derived.WalkSpells
namespace Go.Proofs.Ytokafofckjookaa.pk
open Go.RowKit
open kit bld

def Dec (o : List (List UInt8 × List UInt8)) (w : World) (e : Ending) (w' : World) : Prop := ∃ v, e = .returned v ∧ w'.ownsRow w.heap.size 36 2 v o.length (pcells o) ∧ Below w.heap.size w w'
theorem pack_drop {o : List (List UInt8 × List UInt8)} {i : Nat} {k v : List UInt8} (h : o[i]? = some (k, v)) : pack (o.drop i) = le4 k.length ++ (k ++ (le4 v.length ++ (v ++ pack (o.drop (i + 1))))) := by
  obtain ⟨hi, e⟩ := List.getElem?_eq_some_iff.1 h
  rw [List.drop_eq_getElem_cons hi, e, pack, one]
  simp
theorem le4_len (n : Nat) : (le4 n).length = 4 := rfl
theorem two_newA (w : World) (x y : Value) (t : TypeId) : ∀ (j : Nat) (u : Value), [x, y][j]? = some u → (w.alloc (.cells #[x, y] t)).cell? ((⟨w.heap.size, 0, none⟩ : Addr).add j) = some u := by
  intro j u hj
  match j, hj with
  | 0, hj => simp at hj; subst hj; simp [Addr.add]
  | 1, hj => simp at hj; subst hj; simp [Addr.add]
theorem two_oneA (x y : ByteArray) : ∀ u ∈ [Value.string x, Value.string y], u.oneCell' = true := by
  intro u hu
  simp at hu
  rcases hu with rfl | rfl <;> rfl

theorem own_mono {w : World} {B B' : Nat} {e : TypeId} {size : Nat} {v : Value} {n : Nat} {xs : List Value} (h : w.ownsRow B e size v n xs) (hB : B' ≤ B) : w.ownsRow B' e size v n xs := by
  refine ⟨h.1, h.2.imp id ?_⟩
  rintro ⟨g, cap, cur, h1, h2, h3⟩
  exact ⟨g, cap, cur, h1, Nat.le_trans hB h2, h3⟩
/-- what is left of the bytes -/
def Left (W : World) (B : Nat) (A : Option Addr) (xs : List UInt8) : Prop := 0 < xs.length → ∃ f, A = some ⟨B, f, none⟩ ∧ Bat W B f xs

theorem grown_of6 {a b : World} (h : Below a.heap.size a b) : a.grownBy b none := ⟨h.os, h.tape, h.output, h.size, fun k hk _ => h.block k hk⟩
theorem own_not6 {w : World} {base : Nat} {e : TypeId} {size : Nat} {v : Value} {n : Nat} {xs : List Value} (_ : w.ownsRow base e size v n xs) : v.ownBlock = none ∨ v.ownBlock ≠ none := by
  cases v.ownBlock <;> simp
theorem decode_none (w : World) : Calls Try.prog 11 #[.agg #[.string ⟨#[]⟩]] w (Dec [] w) := by
  go_enter Try.func11, Try.ntmps11
  go_wp2_with fail
  go_ret
  exact ⟨_, rfl, ⟨rfl, Or.inl ⟨rfl, rfl⟩⟩, balloc (Nat.le_refl _) (Below.refl _ _)⟩

set_option maxHeartbeats 3200000 in
set_option maxRecDepth 100000 in
theorem decode_some (o : List (List UInt8 × List UInt8)) (w : World) (h0 : 0 < o.length) (hf : Fits o) (hz : o.length ≤ 1048576) : Calls Try.prog 11 #[.agg #[.string ⟨(pack o).toArray⟩]] w (Dec o w) := by
  obtain ⟨i0, hi, hz0, hz1, hz2⟩ := info_parts infoAttr
  obtain ⟨c, W2, hcv, hlc, hbat, hb2, hs2⟩ := to_bytes (pack o) (w.alloc (.cells #[.string ⟨(pack o).toArray⟩] 32))
  rw [World.size_alloc] at hcv hbat hb2 hs2
  have hne : ¬ pack o = [] := by
    cases o with
    | nil => simp at h0
    | cons p r => simp [pack, one, le4]
  have hpl := pack_len o hf
  have hemp : (⟨(pack o).toArray⟩ : ByteArray).toList.isEmpty = false := by
    rw [Lib.toList_data]
    cases hp : pack o with
    | nil => exact absurd hp hne
    | cons _ _ => rfl
  obtain ⟨s, hs⟩ : ∃ s : ByteArray, s = ⟨(pack o).toArray⟩ := ⟨_, rfl⟩
  rw [← hs] at hcv hemp ⊢
  have HF := Lib.hid hf
  have HBat := Lib.hid hbat
  have HB2 := Lib.hid ((balloc (B := w.heap.size) (Nat.le_refl _) (Below.refl _ w)).trans (hb2.mono (Nat.le_succ _)))
  have hs2' : w.heap.size + 2 ≤ W2.heap.size := by omega
  obtain ⟨N, hN⟩ : ∃ N, N = (pack o).length := ⟨_, rfl⟩
  rw [← hN] at hcv hlc hpl
  have HN := Lib.hid hN
  clear hf hbat hne hs hN hs2 hb2
  go_enter Try.func11, Try.ntmps11
  go_wp2_with fail
  go_loopg [2, 3, 4, 5, 6, 7] o.length (fun g s2 s3 _ _ _ _ wx => ∃ (i : Nat) (A : Option Addr) (n cc : Nat), i + g = o.length ∧ s3 = .slice A n cc ∧ n ≤ cc ∧ n ≤ N ∧ Hid (n = (pack (o.drop i)).length) ∧ Hid (Left wx (w.heap.size + 1) A (pack (o.drop i))) ∧
      wx.ownsRow (w.heap.size + 2) 36 2 s2 (o.take i).length (pcells (o.take i)) ∧ Hid (Below (w.heap.size + 2) W2 wx))
  case atStart => exact ⟨0, _, N, c, by omega, rfl, hlc, Nat.le_refl _, HN, Lib.hid (fun _ => ⟨0, rfl, HBat.out⟩), ⟨rfl, Or.inl ⟨rfl, rfl⟩⟩, Lib.hid (Below.refl _ _)⟩
  case round =>
    obtain ⟨i, A, n, cc, hig, rfl, hnc, hnN, Hn, HL, hrow, HB⟩ := hrel
    have hbz := HB.out.size
    cases gk with
    | zero =>
      obtain rfl : i = o.length := by omega
      have hn0 := Hn.out
      rw [List.drop_of_length_le (Nat.le_refl _)] at hn0
      obtain rfl : n = 0 := hn0
      rw [List.take_length] at hrow
      have HW := Lib.hid hrow
      clear hrow hig
      go_wp2_with fail
      go_ret
      exact ⟨_, rfl, own_mono HW.out (by omega), HB2.out.trans (HB.out.mono (by omega))⟩
    | succ g =>
      have hil : i < o.length := by omega
      obtain ⟨⟨k, v⟩, hp⟩ : ∃ p, o[i]? = some p := ⟨_, List.getElem?_eq_getElem hil⟩
      have hpk := pack_drop hp
      have hkv := HF.out (k, v) (List.mem_of_getElem? hp)
      have hk1 : k.length ≤ 1048576 := hkv.1
      have hv1 : v.length ≤ 1048576 := hkv.2
      have hlen := Hn.out
      have HL0 := HL.out
      rw [hpk] at hlen HL0
      simp only [List.length_append, le4_len] at hlen
      obtain ⟨f, rfl, hbt⟩ := HL0 (by simp only [List.length_append, le4_len]; omega)
      obtain ⟨R, hR⟩ : ∃ R, R = pack (o.drop (i + 1)) := ⟨_, rfl⟩
      rw [← hR] at hlen hbt
      have b1 := Lib.hid hbt.left
      have b2 := Lib.hid hbt.right.left
      have b3 := Lib.hid hbt.right.right.left
      have b4 := Lib.hid hbt.right.right.right.left
      have b5 := Lib.hid hbt.right.right.right.right
      obtain ⟨A4, n4, hA4⟩ := cut_lh (w.heap.size + 1) f n cc k.length (by omega) hnc
      obtain ⟨A5, n5, hA5⟩ := cut_l (w.heap.size + 1) f n cc k.length (by omega) hnc
      obtain rfl := hA5 (by omega)
      obtain ⟨n1, hn1⟩ : ∃ n1, n1 = n - (4 + k.length) := ⟨_, rfl⟩
      obtain ⟨c1, hc1⟩ : ∃ c1, c1 = cc - (4 + k.length) := ⟨_, rfl⟩
      rw [← hn1, ← hc1] at n5
      obtain ⟨A6, n6, hA6⟩ := cut_lh (w.heap.size + 1) (f + (4 + k.length)) n1 c1 v.length (by omega) (by omega)
      obtain ⟨A7, n7, hA7⟩ := cut_l (w.heap.size + 1) (f + (4 + k.length)) n1 c1 v.length (by omega) (by omega)
      have hc4' : (4 : Int) ≤ (c1 : Int) := by omega
      have hc0' : ¬ c1 = 0 := by omega
      have H1 := Lib.hid (And.intro hn1 hc1)
      have HA4 := Lib.hid hA4
      have HA6 := Lib.hid hA6
      have HA7 := Lib.hid hA7
      have HLen := Lib.hid hlen
      have HRR := Lib.hid hR
      have HG := Lib.hid hig
      have HP := Lib.hid hp
      have HW := Lib.hid hrow
      have hn8 : 8 ≤ n := by omega
      have hc4 : (4 : Int) ≤ (cc : Int) := by omega
      have hc0 : ¬ cc = 0 := by omega
      have hn4 : (0 : Int) < (n : Int) := by omega
      clear hpk hkv hlen HL0 hbt hR hA4 hA5 hA6 hA7 hig hp hrow Hn HL hn1 hc1
      go_wp2_with fail
      go_still_tail 3, (by kernel_rfl)
      change wpList _ _ _ _ _ wr.drew
      have X1 := Lib.hid (u32_at (w.heap.size + 1) f 4 cc k.length wr.drew (by omega) (by omega) b1.out)
      have hbd : Below wr.heap.size wr wr.drew := (Below.refl _ _).drew
      generalize wr.drew = w3 at X1 hbd ⊢
      go_wp2_with fail
      refine X1.out.mono ?_
      rintro e w4 ⟨rfl, hb4⟩
      have hbk := hbd.trans (hb4.mono hbd.size)
      have HBK := Lib.hid hbk
      have hc1 := conv_at w4 A4 (w.heap.size + 1) (f + 4) (cc - 4) k HA4.out (b2.out.keep hbk (by omega))
      clear X1 hb4 hbd hbk
      go_wp2_with fail
      go_still_tail 3, (by kernel_rfl)
      change wpList _ _ _ _ _ w4.drew
      have hbd : Below wr.heap.size wr w4.drew := HBK.out.drew
      have X2 := Lib.hid (u32_at (w.heap.size + 1) (f + (4 + k.length)) 4 c1 v.length w4.drew (by omega) (by omega) (by
        have := b3.out.keep hbd (by omega)
        rw [le4_len] at this
        rw [show f + (4 + k.length) = f + 4 + k.length from by omega]
        exact this))
      clear hc1
      generalize w4.drew = w5 at X2 hbd ⊢
      go_wp2_with fail
      refine X2.out.mono ?_
      rintro e w6 ⟨rfl, hb6⟩
      have hbk := hbd.trans (hb6.mono hbd.size)
      have hc2 := conv_at w6 A6 (w.heap.size + 1) (f + (4 + k.length) + 4) (c1 - 4) v HA6.out (by
        have := b4.out.keep hbk (by omega)
        rw [le4_len, le4_len] at this
        rw [show f + (4 + k.length) + 4 = f + 4 + k.length + 4 from by omega]
        exact this)
      have HBK2 := Lib.hid hbk
      have h6z := hbk.size
      have hrow6 := HW.out.kept (grown_of6 hbk) (own_not6 HW.out)
      clear X2 hb6 hbd hbk
      go_wp2_with (at_builtin; refine wpList_append_own _ rfl _ _ 34 rfl (w.heap.size + 2) 36 i0 (.agg #[.string ⟨#[]⟩, .string ⟨#[]⟩]) 2 32 Try.underlying34 hi hz0 hz1 hz2 rfl (by decide) _ _ _ rfl (hrow6.alloc _) ⟨w6.heap.size, 0, none⟩ 1 1 [.string ⟨k.toArray⟩, .string ⟨v.toArray⟩] rfl rfl (two_newA _ _ _ _) (two_oneA _ _) (by rw [List.length_take]; unfold maxLen; omega) (by rw [List.length_take]; omega) (by simp; omega) ?_; intro v7 w7 hown7 hg7 hnil7; go_frame)
      have hg := HG.out
      have h1 := H1.out
      have hlen := HLen.out
      go_roundg g
      case measure => omega
      case rel =>
        have ht : o.take (i + 1) = o.take i ++ [(k, v)] := by rw [List.take_add_one, HP.out]; rfl
        have hb7 : Below (w.heap.size + 2) wr w7 := ((HBK2.out.mono (by omega)).alloc (by omega) _).grown hg7 (by simp; omega) (fun j hj => (hrow6.lt j hj).1)
        refine ⟨i + 1, A7, _, _, by omega, rfl, by omega, by omega, Lib.hid ?_, Lib.hid ?_, ?_, Lib.hid (HB.out.trans hb7)⟩
        · rw [← HRR.out]; omega
        · rw [← HRR.out]
          intro hR0
          have := b5.out.keep hb7 (by omega)
          rw [le4_len, le4_len] at this
          refine ⟨_, HA7.out (by omega), ?_⟩
          rw [show f + (4 + k.length) + (4 + v.length) = f + 4 + k.length + 4 + v.length from by omega]
          exact this
        · rw [ht, pcells_append, List.length_append]
          exact hown7
/-- what was packed comes back -/
theorem decode_any (o : List (List UInt8 × List UInt8)) (w : World) (hf : Fits o) (hz : o.length ≤ 1048576) : Calls Try.prog 11 #[.agg #[.string ⟨(pack o).toArray⟩]] w (Dec o w) := by
  by_cases h0 : 0 < o.length
  · exact decode_some o w h0 hf hz
  · obtain rfl : o = [] := List.eq_nil_of_length_eq_zero (by omega)
    exact decode_none w
end Go.Proofs.Ytokafofckjookaa.pk
