/- The walk of scanTo. -/
import Derived.Test.YtpnigcljndjmlaaDoorTrack
namespace Go.Proofs.YtpnigcljndjmlaaDoor.line
open Go.RowKit
open kit pt

theorem Tabs.kept {W W' : World} {B : Nat} (h : Tabs W) (hg : W.grownBy W' (some B)) (hB : 2 ≤ B) : Tabs W' := by
  obtain ⟨h1, h2⟩ := h
  have e : ∀ g i u, g < 2 → W.cell? ⟨g, i, none⟩ = some u → W'.cell? ⟨g, i, none⟩ = some u := fun g i u hgb hu => hg.cell hu (by intro q; injection q with q; simp at q; omega)
  exact ⟨fun c hc => e _ _ _ (by decide) (h1 c hc), fun i hi => ⟨e _ _ _ (by decide) (h2 i hi).1, e _ _ _ (by decide) (h2 i hi).2⟩⟩
theorem Tabs.below {W W' : World} (h : Tabs W) (hb : Below W.heap.size W W') : Tabs W' := by
  obtain ⟨h1, h2⟩ := h
  have e : ∀ g i u, W.cell? ⟨g, i, none⟩ = some u → W'.cell? ⟨g, i, none⟩ = some u := fun g i u hu => (hb.cell (p := ⟨g, i, none⟩) (World.block_lt_of_cell? W _ hu)).trans hu
  exact ⟨fun c hc => e _ _ _ (h1 c hc), fun i hi => ⟨e _ _ _ (h2 i hi).1, e _ _ _ (h2 i hi).2⟩⟩

theorem Tk.line {W : World} {B : Nat} {s : ByteArray} {o l ls le : Nat} {hs he : Bool} (h : Tk W B s o l ls le hs he) (v : Int) (x : Nat) (hv : v = (x : Int)) :
    Tk (((W.setCell ⟨B, 7, none⟩ (.bool true)).setCell ⟨B, 8, none⟩ (.bool false)).setCell ⟨B, 5, none⟩ (.int .i32 v)) B s o l x le true false := by
  subst hv
  have h1 : Tk (W.setCell ⟨B, 7, none⟩ (.bool true)) B s o l ls le true he := h.upd 7 _ (by simp)
  have h2 : Tk ((W.setCell ⟨B, 7, none⟩ (.bool true)).setCell ⟨B, 8, none⟩ (.bool false)) B s o l ls le true false := h1.upd 8 _ (by simp)
  exact h2.upd 5 _ (by simp)
theorem Tk.up {W : World} {B : Nat} {s : ByteArray} {o l ls le : Nat} {hs he : Bool} (h : Tk W B s o l ls le hs he) (v : Int) (x : Nat) (hv : v = (x : Int)) : Tk (W.setCell ⟨B, 4, none⟩ (.int .i32 v)) B s o x ls le hs he := by
  subst hv
  exact h.upd 4 _ (by simp)
theorem Tk.off {W : World} {B : Nat} {s : ByteArray} {o l ls le : Nat} {hs he : Bool} (h : Tk W B s o l ls le hs he) (v : Int) (x : Nat) (hv : v = (x : Int)) : Tk (W.setCell ⟨B, 3, none⟩ (.int .i32 v)) B s x l ls le hs he := by
  subst hv
  exact h.upd 3 _ (by simp)
theorem grown3 {a W : World} {B : Nat} (h : a.grownBy W (some B)) (i j k : Nat) (x y z : Value) : a.grownBy (((W.setCell ⟨B, i, none⟩ x).setCell ⟨B, j, none⟩ y).setCell ⟨B, k, none⟩ z) (some B) :=
  Lib.grownBy_setB (Lib.grownBy_setB (Lib.grownBy_setB h i x) j y) k z
theorem ch_small {l : List UInt8} {p : Int} {n : Nat} (h : Ch l p n) (hp : p < 128) : n = 1 := by
  cases h with
  | one c r h => rfl
  | two c b r h1 h2 hb => rw [ct_iff] at hb; omega
  | three c b d r h1 h2 hb hd h3 h4 => omega
  | four c b d e r h1 h2 hb hd he h3 h4 => omega
theorem getD_at (s : ByteArray) (k : Nat) (h : k < s.size) : s.data.toList.getD k 0 = s[k]'h := by
  rw [List.getD_eq_getElem?_getD, Array.getElem?_toList, Array.getElem?_eq_getElem h]; rfl
/-- a line ends: one more -/
theorem stand_up {L : List UInt8} {j k c f n le x c' : Nat} {p : Int} (h : At L j k c f) (hc : Ch (L.drop k) p n) (ht : T p = true) (hx : x = k + n) (hc' : c' = cnt L k p c) : Stand L (k + n) c' x le true false := by
  subst hx; subst hc'
  refine ⟨j + 1, k + n, ?_, fun _ => rfl, fun q => by cases q⟩
  have := At.step h hc
  rw [show frm (k + n) p f = k + n from if_pos ht] at this
  exact this
theorem stand_on {L : List UInt8} {j k c f n ls le : Nat} {hs he : Bool} {p : Int} (h : At L j k c f) (hc : Ch (L.drop k) p n) (ht : T p = false) (h1 : hs = true → ls = f) (h2 : he = true → Fin L k le) : Stand L (k + n) c ls le hs he := by
  refine ⟨j + 1, f, ?_, h1, fun q => (h2 q).forth hc ht⟩
  have := At.step h hc
  rw [show frm (k + n) p f = f from if_neg (by rw [ht]; simp), show cnt L k p c = c from by
    unfold cnt
    have h10 : p ≠ 10 := fun q => by subst q; cases ht
    rw [if_neg h10, if_neg (by rw [ht]; simp)]] at this
  exact this

def Scanned (s : ByteArray) (B off ct : Nat) (W : World) (e : Ending) (W' : World) : Prop :=
  e = .returned (.tuple #[]) ∧ ∃ ls le hs he, Tk W' B s off ct ls le hs he ∧ Stand s.data.toList off ct ls le hs he ∧ W.grownBy W' (some B)

set_option maxRecDepth 100000 in
set_option maxHeartbeats 3200000 in
theorem scan_fwd (s : ByteArray) (B off : Nat) (W : World) (k c ls le : Nat) (hs he : Bool) (jt ct ft : Nat) (hz : s.size ≤ 1048576) (hB : 2 ≤ B) (hT : Tabs W) (hk : Tk W B s k c ls le hs he) (hst : Stand s.data.toList k c ls le hs he)
    (ht : At s.data.toList jt off ct ft) (hlt : k < off) :
    Calls Tryd.prog 18 #[.pointer (some ⟨B, 0, none⟩), .int .i32 off] W (Scanned s B off ct W) := by
  have hsz : s.data.toList.length = s.size := by rw [Array.length_toList]; rfl
  have hoff : off ≤ s.size := by have := ht.le; omega
  have HT := Lib.hid hT
  have HA := Lib.hid ht
  have KK := Lib.hid hk
  have ST := Lib.hid hst
  obtain ⟨k0, c0, _, _, c3, _⟩ := hk
  clear hT ht hst hsz
  have hlt' : (k : Int) < (off : Int) := by omega
  go_enter Tryd.func18, Tryd.ntmps18
  go_wp2_with fail
  clear c0 c3 hlt'
  go_loopg [5] (off - k) (fun g s5 wr => ∃ (k2 c2 ls2 le2 : Nat) (hs2 he2 : Bool), k2 + g = off ∧ s5 = .int .i32 (k2 : Nat) ∧ k2 < off ∧ Tk wr B s k c2 ls2 le2 hs2 he2 ∧ Stand s.data.toList k2 c2 ls2 le2 hs2 he2 ∧ W.grownBy wr (some B))
  case atStart => exact ⟨k, c, ls, le, hs, he, by omega, rfl, hlt, KK.out, ST.out, World.grownBy.refl _ _⟩
  case round =>
    clear KK ST k0
    obtain ⟨k2, c2, ls2, le2, hs2, he2, hkg, rfl, hk2, hTk, ⟨j2, f2, hAt, hls, hle⟩, hgr⟩ := hrel
    obtain ⟨p, n, hch, hkn⟩ := hAt.next HA.out hk2
    have hn := hch.len
    have hpb := hch.bd
    obtain ⟨P, rfl⟩ : ∃ P : Nat, p = (P : Int) := ⟨p.toNat, by omega⟩
    have X := Lib.hid (fun (w' : World) (h : Tabs w') => Tryd.utf8_DecodeRuneInString (s.extract k2 s.size) w' h)
    rw [decGo hch, Int.toNat_natCast] at X
    have HG := Lib.hid hkg
    have HAT := Lib.hid hAt
    have HCH := Lib.hid hch
    have HLS := Lib.hid hls
    have HLE := Lib.hid hle
    have KK := Lib.hid hTk
    have TB := Lib.hid (HT.out.kept hgr hB)
    have GR := Lib.hid hgr
    have hn1 : 1 ≤ n := hn.1
    have hn4 : n ≤ 4 := hn.2.1
    obtain ⟨_, hP, _⟩ := hpb
    have hc2 : c2 ≤ k2 := hAt.le.2.1
    clear hkg hAt hch hls hle hTk hgr hn
    go_wp2_with fail
    refine (X.out _ TB.out).mono ?_
    rintro e w1 ⟨rfl, hb1⟩
    have K1 := Lib.hid (KK.out.below hb1)
    have G1 := Lib.hid (Lib.grownBy_below GR.out hb1)
    clear X TB KK GR hb1
    go_upto_block 2 with (fail)
    go_cut [] (fun wx => ∃ (c3 ls3 le3 : Nat) (hs3 he3 : Bool), Tk wx B s k c3 ls3 le3 hs3 he3 ∧ Stand s.data.toList (k2 + n) c3 ls3 le3 hs3 he3 ∧ W.grownBy wx (some B))
    case first =>
      obtain ⟨i0, i1, i2, i3, i4, i5, i6, i7, i8, i9, i10, g3, g4, g5, g6, g7, g8⟩ := K1.out
      clear i2 i3 i10
      by_cases h10 : P = 10
      · subst h10
        obtain rfl : n = 1 := ch_small HCH.out (by omega)
        by_cases hk0 : k2 = 0
        · subst hk0
          go_wp2_with fail
          go_meet
          exact ⟨c2 + 1, 0 + 1, le2, true, false, (K1.out.line _ (0 + 1) (by omega)).up _ (c2 + 1) (by omega), stand_up HAT.out HCH.out rfl rfl (by unfold cnt; simp), Lib.grownBy_setB (grown3 G1.out 7 8 5 _ _ _) 4 _⟩
        · obtain ⟨m, rfl⟩ : ∃ m, k2 = m + 1 := ⟨k2 - 1, by omega⟩
          have hm : m < s.size := by omega
          obtain ⟨b, hb⟩ : ∃ b, (s[m]'hm).toNat = b := ⟨_, rfl⟩
          have hgd : Hid ((s.data.toList.getD (m + 1 - 1) 0).toNat = b) := by show _ = _; rw [Nat.add_sub_cancel, getD_at s m hm]; exact hb
          have hne : (((m : Int) + 1 + 1) == 1) = false := by rw [beq_eq_false_iff_ne]; omega
          clear hk0
          by_cases h13 : b = 13
          · have hb13 : ((b : Int) != 13) = false := by rw [h13]; rfl
            have hcn : Hid (cnt s.data.toList (m + 1) ((10 : Nat) : Int) c2 = c2) := by show _ = _; unfold cnt; rw [if_pos (by rfl), if_neg (by rw [hgd.out]; omega)]
            clear h13
            go_wp2_with fail
            go_meet
            exact ⟨c2, m + 1 + 1, le2, true, false, K1.out.line _ (m + 1 + 1) (by omega), stand_up HAT.out HCH.out rfl rfl hcn.out.symm, grown3 G1.out 7 8 5 _ _ _⟩
          · have hb13 : ((b : Int) != 13) = true := by rw [bne_iff_ne]; omega
            have hcn : Hid (cnt s.data.toList (m + 1) ((10 : Nat) : Int) c2 = c2 + 1) := by show _ = _; unfold cnt; rw [if_pos (by rfl), if_pos (by rw [hgd.out]; omega)]
            clear h13
            go_wp2_with fail
            go_meet
            exact ⟨c2 + 1, m + 1 + 1, le2, true, false, (K1.out.line _ (m + 1 + 1) (by omega)).up _ (c2 + 1) (by omega), stand_up HAT.out HCH.out rfl rfl hcn.out.symm, Lib.grownBy_setB (grown3 G1.out 7 8 5 _ _ _) 4 _⟩
      · have e10 : ((P : Int) == 10) = false := by rw [beq_eq_false_iff_ne]; omega
        by_cases hT3 : P = 13 ∨ P = 8232 ∨ P = 8233
        · have hTT : Hid (T (P : Int) = true) := by show _ = _; rcases hT3 with rfl | rfl | rfl <;> rfl
          have hcn : Hid (cnt s.data.toList k2 (P : Int) c2 = c2 + 1) := by show _ = _; unfold cnt; rw [if_neg (by omega), if_pos hTT.out]
          clear h10
          rcases hT3 with rfl | rfl | rfl
          all_goals
            go_wp2_with fail
            go_meet
            exact ⟨c2 + 1, k2 + n, le2, true, false, (K1.out.line _ (k2 + n) (by omega)).up _ (c2 + 1) (by omega), stand_up HAT.out HCH.out hTT.out rfl hcn.out.symm, Lib.grownBy_setB (grown3 G1.out 7 8 5 _ _ _) 4 _⟩
        · have e13 : ((P : Int) == 13) = false := by rw [beq_eq_false_iff_ne]; omega
          have e28 : ((P : Int) == 8232) = false := by rw [beq_eq_false_iff_ne]; omega
          have e29 : ((P : Int) == 8233) = false := by rw [beq_eq_false_iff_ne]; omega
          have hTT : Hid (T (P : Int) = false) := by show _ = _; unfold T; rw [e10, e13, e28, e29]; rfl
          clear h10 hT3
          go_wp2_with fail
          go_meet
          exact ⟨c2, ls2, le2, hs2, he2, K1.out, stand_on HAT.out HCH.out hTT.out HLS.out HLE.out, G1.out⟩
    case rest =>
      obtain ⟨c3, ls3, le3, hs3, he3, hTk3, hSt3, hgr3⟩ := hcut
      have K3 := Lib.hid hTk3
      have S3 := Lib.hid hSt3
      have G3 := Lib.hid hgr3
      obtain ⟨i0, _, _, _, i4, _, _, _, _, _, _, g3, _⟩ := hTk3
      clear hSt3 hgr3 K1 G1
      by_cases hend : k2 + n = off
      · have hx : (off : Int) ≤ (k2 : Int) + (n : Int) := by omega
        go_wp2_with fail
        go_end0
        obtain ⟨j3, f3, hA3, q1, q2⟩ := S3.out
        rw [hend] at hA3 q2
        obtain ⟨_, rfl, _⟩ := hA3.same HA.out
        exact ⟨rfl, ls3, le3, hs3, he3, K3.out.off _ off (by omega), ⟨j3, f3, hA3, q1, q2⟩, Lib.grownBy_setB G3.out 3 _⟩
      · have hx : (k2 : Int) + (n : Int) < (off : Int) := by omega
        go_wp2_with fail
        have hg := HG.out
        go_roundg (gk - n)
        case measure => omega
        case rel => exact ⟨k2 + n, c3, ls3, le3, hs3, he3, by omega, by go_num, by omega, K3.out, S3.out, G3.out⟩

theorem Tk.fine {W : World} {B : Nat} {s : ByteArray} {o l ls le : Nat} {hs he : Bool} (h : Tk W B s o l ls le hs he) (v : Int) (x : Nat) (hv : v = (x : Int)) :
    Tk (((W.setCell ⟨B, 7, none⟩ (.bool false)).setCell ⟨B, 8, none⟩ (.bool true)).setCell ⟨B, 6, none⟩ (.int .i32 v)) B s o l ls x false true := by
  subst hv
  have h1 : Tk (W.setCell ⟨B, 7, none⟩ (.bool false)) B s o l ls le false he := h.upd 7 _ (by simp)
  have h2 : Tk ((W.setCell ⟨B, 7, none⟩ (.bool false)).setCell ⟨B, 8, none⟩ (.bool true)) B s o l ls le false true := h1.upd 8 _ (by simp)
  exact h2.upd 6 _ (by simp)
theorem stand_at {L : List UInt8} {j k c f n ls x : Nat} {p : Int} (h : At L j k c f) (hc : Ch (L.drop k) p n) (ht : T p = true) (hx : x = k) : Stand L k c ls x false true := by
  subst hx
  exact ⟨j, f, h, fun q => (by cases q), fun _ => .stop hc ht⟩

set_option maxRecDepth 100000 in
set_option maxHeartbeats 3200000 in
theorem scan_bwd (s : ByteArray) (B off : Nat) (W : World) (k c ls le : Nat) (hs he : Bool) (jt ct ft : Nat) (hz : s.size ≤ 1048576) (hB : 2 ≤ B) (hT : Tabs W) (hk : Tk W B s k c ls le hs he) (hst : Stand s.data.toList k c ls le hs he)
    (ht : At s.data.toList jt off ct ft) (hlt : off < k) :
    Calls Tryd.prog 18 #[.pointer (some ⟨B, 0, none⟩), .int .i32 off] W (Scanned s B off ct W) := by
  have hsz : s.data.toList.length = s.size := by rw [Array.length_toList]; rfl
  have hks : k ≤ s.size := by obtain ⟨j, f, hA, _⟩ := hst; have := hA.le; omega
  have HT := Lib.hid hT
  have HA := Lib.hid ht
  have KK := Lib.hid hk
  have ST := Lib.hid hst
  obtain ⟨k0, c0, _, _, c3, _⟩ := hk
  clear hT ht hst hsz
  have hlt' : (off : Int) < (k : Int) := by omega
  have hdk : decide (k < off) = false := by rw [decide_eq_false_iff_not]; omega
  go_enter Tryd.func18, Tryd.ntmps18
  go_wp2_with fail
  clear c0 c3 hlt' hdk
  go_loopg [5] (k - off) (fun g s5 wr => ∃ (k2 c2 ls2 le2 : Nat) (hs2 he2 : Bool), off + g = k2 ∧ s5 = .int .i32 (k2 : Nat) ∧ off < k2 ∧ k2 ≤ s.size ∧ Tk wr B s k c2 ls2 le2 hs2 he2 ∧ Stand s.data.toList k2 c2 ls2 le2 hs2 he2 ∧ W.grownBy wr (some B))
  case atStart => exact ⟨k, c, ls, le, hs, he, by omega, rfl, hlt, hks, KK.out, ST.out, World.grownBy.refl _ _⟩
  case round =>
    clear KK ST k0
    obtain ⟨k2, c2, ls2, le2, hs2, he2, hkg, rfl, hk2, hk2s, hTk, ⟨j2, f2, hAt, hls, hle⟩, hgr⟩ := hrel
    obtain ⟨j3, k3, c3, f3, p, n, rfl, hch, hA3, hc2, hf2⟩ := hAt.prev (by omega)
    have hok : off ≤ k3 := At.prev_ge HA.out hk2 hch rfl j3 c3 f3 hA3
    have hn := hch.len
    have hpb := hch.bd
    obtain ⟨P, rfl⟩ : ∃ P : Nat, p = (P : Int) := ⟨p.toNat, by omega⟩
    have X := Lib.hid (fun (w' : World) (h : Tabs w') => Tryd.utf8_DecodeLastRuneInString (s.extract 0 (k3 + n)) w' (by rw [ByteArray.size_extract]; omega) h)
    rw [decLast hch, Int.toNat_natCast] at X
    have HG := Lib.hid hkg
    have HAT := Lib.hid hA3
    have HCH := Lib.hid hch
    have HC2 := Lib.hid hc2
    have HF2 := Lib.hid hf2
    have HLS := Lib.hid hls
    have HLE := Lib.hid hle
    have KK := Lib.hid hTk
    have TB := Lib.hid (HT.out.kept hgr hB)
    have GR := Lib.hid hgr
    have hn1 : 1 ≤ n := hn.1
    have hn4 : n ≤ 4 := hn.2.1
    obtain ⟨_, hP, _⟩ := hpb
    have hc2b : c2 ≤ k3 + n := hAt.le.2.1
    have hc3b : c3 ≤ k3 := hA3.le.2.1
    clear hkg hAt hch hls hle hTk hgr hn hA3 hc2 hf2
    go_wp2_with fail
    refine (X.out _ TB.out).mono ?_
    rintro e w1 ⟨rfl, hb1⟩
    have K1 := Lib.hid (KK.out.below hb1)
    have G1 := Lib.hid (Lib.grownBy_below GR.out hb1)
    clear X TB KK GR hb1
    go_upto_block 5 with (fail)
    go_cut [] (fun wx => ∃ (ls3 le3 : Nat) (hs3 he3 : Bool), Tk wx B s k c3 ls3 le3 hs3 he3 ∧ Stand s.data.toList k3 c3 ls3 le3 hs3 he3 ∧ W.grownBy wx (some B))
    case first =>
      obtain ⟨i0, i1, i2, i3, i4, i5, i6, i7, i8, i9, i10, g3, g4, g5, g6, g7, g8⟩ := K1.out
      clear i2 i3 i10
      by_cases h10 : P = 10
      · subst h10
        obtain rfl : n = 1 := ch_small HCH.out (by omega)
        by_cases hk0 : k3 = 0
        · subst hk0
          have hcc : c2 = c3 + 1 := by rw [HC2.out]; unfold cnt; simp
          subst hcc
          go_wp2_with fail
          go_meet
          exact ⟨ls2, 0, false, true, (K1.out.fine _ 0 (by omega)).up _ c3 (by omega), stand_at HAT.out HCH.out rfl rfl, Lib.grownBy_setB (grown3 G1.out 7 8 6 _ _ _) 4 _⟩
        · obtain ⟨m, rfl⟩ : ∃ m, k3 = m + 1 := ⟨k3 - 1, by omega⟩
          have hm : m < s.size := by omega
          obtain ⟨b, hb⟩ : ∃ b, (s[m]'hm).toNat = b := ⟨_, rfl⟩
          have hgd : Hid ((s.data.toList.getD (m + 1 - 1) 0).toNat = b) := by show _ = _; rw [Nat.add_sub_cancel, getD_at s m hm]; exact hb
          have hne : (((m : Int) + 1) == 0) = false := by rw [beq_eq_false_iff_ne]; omega
          clear hk0
          by_cases h13 : b = 13
          · have hb13 : ((b : Int) != 13) = false := by rw [h13]; rfl
            have hcc : c2 = c3 := by rw [HC2.out]; unfold cnt; rw [if_pos (by rfl), if_neg (by rw [hgd.out]; omega)]
            subst hcc
            clear h13
            go_wp2_with fail
            go_meet
            exact ⟨ls2, m + 1, false, true, K1.out.fine _ (m + 1) (by omega), stand_at HAT.out HCH.out rfl rfl, grown3 G1.out 7 8 6 _ _ _⟩
          · have hb13 : ((b : Int) != 13) = true := by rw [bne_iff_ne]; omega
            have hcc : c2 = c3 + 1 := by rw [HC2.out]; unfold cnt; rw [if_pos (by rfl), if_pos (by rw [hgd.out]; omega)]
            subst hcc
            clear h13
            go_wp2_with fail
            go_meet
            exact ⟨ls2, m + 1, false, true, (K1.out.fine _ (m + 1) (by omega)).up _ c3 (by omega), stand_at HAT.out HCH.out rfl rfl, Lib.grownBy_setB (grown3 G1.out 7 8 6 _ _ _) 4 _⟩
      · have e10 : ((P : Int) == 10) = false := by rw [beq_eq_false_iff_ne]; omega
        by_cases hT3 : P = 13 ∨ P = 8232 ∨ P = 8233
        · have hTT : Hid (T (P : Int) = true) := by show _ = _; rcases hT3 with rfl | rfl | rfl <;> rfl
          have hcc : c2 = c3 + 1 := by rw [HC2.out]; unfold cnt; rw [if_neg (by omega), if_pos hTT.out]
          subst hcc
          clear h10
          rcases hT3 with rfl | rfl | rfl
          all_goals
            go_wp2_with fail
            go_meet
            exact ⟨ls2, k3, false, true, (K1.out.fine _ k3 (by omega)).up _ c3 (by omega), stand_at HAT.out HCH.out hTT.out rfl, Lib.grownBy_setB (grown3 G1.out 7 8 6 _ _ _) 4 _⟩
        · have e13 : ((P : Int) == 13) = false := by rw [beq_eq_false_iff_ne]; omega
          have e28 : ((P : Int) == 8232) = false := by rw [beq_eq_false_iff_ne]; omega
          have e29 : ((P : Int) == 8233) = false := by rw [beq_eq_false_iff_ne]; omega
          have hTT : Hid (T (P : Int) = false) := by show _ = _; unfold T; rw [e10, e13, e28, e29]; rfl
          have hcc : c2 = c3 := by rw [HC2.out]; unfold cnt; rw [if_neg (by omega), if_neg (by rw [hTT.out]; simp)]
          have hff : Hid (f2 = f3) := by show _ = _; rw [HF2.out]; unfold frm; rw [if_neg (by rw [hTT.out]; simp)]
          subst hcc
          clear h10 hT3
          go_wp2_with fail
          go_meet
          exact ⟨ls2, le2, hs2, he2, K1.out, ⟨j3, f3, HAT.out, fun q => (HLS.out q).trans hff.out, fun q => (HLE.out q).back HCH.out hTT.out⟩, G1.out⟩
    case rest =>
      obtain ⟨ls3, le3, hs3, he3, hTk3, hSt3, hgr3⟩ := hcut
      have K3 := Lib.hid hTk3
      have S3 := Lib.hid hSt3
      have G3 := Lib.hid hgr3
      obtain ⟨i0, _, _, _, i4, _, _, _, _, _, _, g3, _⟩ := hTk3
      clear hSt3 hgr3 K1 G1
      by_cases hend : k3 = off
      · subst hend
        go_wp2_with fail
        go_end0
        obtain ⟨j4, f4, hA4, q1, q2⟩ := S3.out
        obtain ⟨_, hcc, _⟩ := hA4.same HA.out
        have K4 := K3.out
        rw [hcc] at K4 hA4
        exact ⟨rfl, ls3, le3, hs3, he3, K4.off _ k3 (by omega), ⟨j4, f4, hA4, q1, q2⟩, Lib.grownBy_setB G3.out 3 _⟩
      · have hx : (off : Int) < (k3 : Int) := by omega
        go_wp2_with fail
        have hg := HG.out
        go_roundg (gk - n)
        case measure => omega
        case rel => exact ⟨k3, c3, ls3, le3, hs3, he3, by omega, by go_num, by omega, by omega, K3.out, S3.out, G3.out⟩

set_option maxRecDepth 100000 in
theorem scan_same (s : ByteArray) (B : Nat) (W : World) (k c ls le : Nat) (hs he : Bool) (_hz : k ≤ 1048576) (hk : Tk W B s k c ls le hs he) (hst : Stand s.data.toList k c ls le hs he) :
    Calls Tryd.prog 18 #[.pointer (some ⟨B, 0, none⟩), .int .i32 k] W (Scanned s B k c W) := by
  have KK := Lib.hid hk
  have ST := Lib.hid hst
  obtain ⟨k0, c0, _, _, c3, _⟩ := hk
  clear hst
  go_enter Tryd.func18, Tryd.ntmps18
  go_wp2_with fail
  go_end0
  exact ⟨rfl, ls, le, hs, he, KK.out, ST.out, World.grownBy.refl _ _⟩

theorem scan_any (s : ByteArray) (B off : Nat) (W : World) (k c ls le : Nat) (hs he : Bool) (jt ct ft : Nat) (hz : s.size ≤ 1048576) (hB : 2 ≤ B) (hT : Tabs W) (hk : Tk W B s k c ls le hs he) (hst : Stand s.data.toList k c ls le hs he)
    (ht : At s.data.toList jt off ct ft) :
    Calls Tryd.prog 18 #[.pointer (some ⟨B, 0, none⟩), .int .i32 off] W (Scanned s B off ct W) := by
  rcases Nat.lt_trichotomy k off with h | h | h
  · exact scan_fwd s B off W k c ls le hs he jt ct ft hz hB hT hk hst ht h
  · subst h
    obtain ⟨j, f, hA, q⟩ := hst
    have hsz : s.data.toList.length = s.size := by rw [Array.length_toList]; rfl
    have hkz := hA.le
    obtain ⟨_, rfl, _⟩ := hA.same ht
    exact scan_same s B W k c ls le hs he (by omega) hk ⟨j, f, hA, q⟩
  · exact scan_bwd s B off W k c ls le hs he jt ct ft hz hB hT hk hst ht h
end Go.Proofs.YtpnigcljndjmlaaDoor.line
