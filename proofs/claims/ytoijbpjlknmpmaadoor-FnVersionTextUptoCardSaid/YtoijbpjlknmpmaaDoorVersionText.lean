/- The walks of Decimal and FnVersionText. -/
import Derived.Test.YtoijbpjlknmpmaaDoorVer
import Derived.Test.YtoijbpjlknmpmaaDoorBigWalk
import Derived.Deep.RegionWith
import Derived.Deep.RegionHeld3
import Derived.Outline
namespace Go.Proofs.YtoijbpjlknmpmaaDoor.fnVersionText
open Go.RowKit
open kit cmp ver

theorem conv_at (x : Int) (u : UInt8) (hx : x = (u.toNat : Int)) (W : World) (b : Nat) (h : W.cell? ⟨b, 0, none⟩ = some (.int .u8 x)) :
    (convert 39 9 (.slice (some ⟨b, 0, none⟩) 1 1)).run Tryd.prog W = .ok (.string ⟨#[u]⟩) W := by
  refine run_convert_bytes_back (P := Tryd.prog) _ 39 9 5 ⟨b, 0, none⟩ 1 [u] Tryd.underlying39 Tryd.underlying5 Tryd.underlying9 ?_
  intro j hj
  have : j = 0 := by simpa using hj
  subst this
  simpa [Addr.add, ← hx] using h
theorem dig_nat (d : Nat) (hd : d < 10) : (48 : Int) + (d : Int) = ((UInt8.ofNat (48 + d)).toNat : Int) := by
  rw [show (UInt8.ofNat (48 + d)).toNat = (48 + d) % 256 from UInt8.toNat_ofNat', Nat.mod_eq_of_lt (by omega)]; omega
theorem dec_len (n : Nat) (h : n ≤ 9223372036854775807) : (Lib.decDigits n).length ≤ 21 := by
  have := Lib.itoa_length_le (n : Int) (by omega) (by omega)
  rwa [Lib.itoa_nonneg] at this

def DecOk (n : Nat) (w : World) (e : Ending) (w' : World) : Prop := e = .returned (.string ⟨(Lib.decDigits n).toArray⟩) ∧ Below w.heap.size w w'

set_option maxHeartbeats 3200000 in
theorem dec_any (k : Nat) : ∀ (n : Nat) (w : World), n ≤ k → n ≤ 9223372036854775807 → Calls Tryd.prog 11 #[.int .i64 (n : Int)] w (DecOk n w) := by
  induction k with
  | zero =>
    intro n w hk hn
    obtain rfl : n = 0 := by omega
    have hcv := conv_at 48 48 (by decide)
    go_enter Tryd.func11, Tryd.ntmps11
    go_wp2_with fail
    go_ret
    refine ⟨?_, (Below.refl _ _).alloc (Nat.le_refl _) _⟩
    rw [Lib.decDigits_one (by omega)]
    rfl
  | succ k ih =>
    intro n w hk hn
    by_cases h10 : n < 10
    · have E := Lib.hid (Lib.decDigits_one h10)
      have hcv := conv_at _ _ (dig_nat n h10)
      obtain ⟨u, hu⟩ : ∃ u, u = UInt8.ofNat (48 + n) := ⟨_, rfl⟩
      rw [← hu] at E hcv
      clear hu
      go_enter Tryd.func11, Tryd.ntmps11
      go_wp2_with fail
      go_ret
      refine ⟨?_, (Below.refl _ _).alloc (Nat.le_refl _) _⟩
      rw [E.out]
      rfl
    · have E : Hid (Lib.decDigits n = Lib.decDigits (n / 10) ++ [UInt8.ofNat (48 + n % 10)]) := by
        show Lib.decDigits n = _
        rw [Lib.decDigits, dif_neg h10]
      have hcv := conv_at _ _ (dig_nat (n % 10) (by omega))
      have X := Lib.hid (fun W : World => ih (n / 10) W (by omega) (by omega))
      have hl := dec_len (n / 10) (by omega)
      clear ih
      obtain ⟨u, hu⟩ : ∃ u, u = UInt8.ofNat (48 + n % 10) := ⟨_, rfl⟩
      rw [← hu] at E hcv
      clear hu
      obtain ⟨q, hq⟩ : ∃ q, q = n / 10 := ⟨_, rfl⟩
      obtain ⟨d, hd⟩ : ∃ d, d = n % 10 := ⟨_, rfl⟩
      rw [← hq] at E X hl
      rw [← hd] at hcv
      have r1 : (n : Int) / 10 = (q : Int) := by omega
      have r2 : (n : Int) % 10 = (d : Int) := by omega
      have r3 : (n : Int).tdiv 10 = (q : Int) := by rw [Int.tdiv_eq_ediv_of_nonneg (by omega)]; exact r1
      have r4 : (n : Int).tmod 10 = (d : Int) := by rw [Int.tmod_eq_emod_of_nonneg (by omega)]; exact r2
      have hd9 : d ≤ 9 := by omega
      have w1 : IntKind.i64.wrap (q : Int) = (q : Int) := IntWalk.i64_in _ (by omega)
      have w2 : IntKind.u8.wrap (d : Int) = (d : Int) := IntWalk.u8_in _ (by omega)
      have w3 : IntKind.u8.wrap (48 + (d : Int)) = 48 + (d : Int) := IntWalk.u8_in _ (by omega)
      have hlz : (⟨(Lib.decDigits q).toArray⟩ : ByteArray).size ≤ 21 := by show (Lib.decDigits q).toArray.size ≤ 21; simpa using hl
      clear hq hd
      go_enter Tryd.func11, Tryd.ntmps11
      go_wp2_with fail
      go_region_with (first
        | (go_at_call 11; refine (X.out _).mono ?_; rintro e w' ⟨rfl, hb⟩; obtain ⟨hc, hf⟩ := bcell hb))
      all_goals
        go_wp2_with fail
        go_ret
        refine ⟨?_, ?_⟩
        · refine congrArg Ending.returned (congrArg Value.string ?_)
          rw [E.out]
          simp [ByteArray.ext_iff]
        · first
            | exact ((Below.refl _ _).drew.trans hb).alloc (by have := hb.size; simpa using this) _
            | (refine ((Below.refl _ _).alloc (Nat.le_refl _) _).drew.trans (hb.mono ?_); simp)

theorem bsz (l : List UInt8) : (⟨l.toArray⟩ : ByteArray).size = l.length := by show l.toArray.size = _; simp
theorem jn12 : jn [1, 2] = [49, 46, 50] := by
  have h1 : Lib.itoa 1 = [49] := by
    rw [show (1 : Int) = ((1 : Nat) : Int) from rfl, Lib.itoa_nonneg, Lib.decDigits_one (by omega)]; rfl
  have h2 : Lib.itoa 2 = [50] := by
    rw [show (2 : Int) = ((2 : Nat) : Int) from rfl, Lib.itoa_nonneg, Lib.decDigits_one (by omega)]; rfl
  unfold jn
  simp only [List.foldl_cons, List.foldl_nil, h1, h2]
  rfl
theorem vt12 (W : World) (ht : Tab W) (T : TypeId) : Calls Tryd.prog 10 #[.agg #[.slice (some ⟨W.heap.size, 0, none⟩) 2 2, .string ⟨#[45, 97]⟩]] (W.alloc (.cells #[.int .i64 1, .int .i64 2] T)) fun e w' => e = .returned (.string ⟨#[49, 46, 50, 45, 97]⟩) ∧ Below W.heap.size W w' := by
  have hA : Below W.heap.size W (W.alloc (.cells #[.int .i64 1, .int .i64 2] T)) := (Below.refl _ _).alloc (Nat.le_refl _) _
  have hr : Rd (W.alloc (.cells #[.int .i64 1, .int .i64 2] T)) (W.alloc (.cells #[.int .i64 1, .int .i64 2] T)).heap.size (some ⟨W.heap.size, 0, none⟩) [1, 2].length (ints [1, 2]) := by
    refine ⟨rfl, fun _ => ⟨W.heap.size, 0, rfl, by simp, fun j u hu => ?_⟩⟩
    have hj : j < 2 := (List.getElem?_eq_some_iff.1 hu).1
    rcases j with _ | _ | j
    · obtain rfl := Option.some.inj hu
      go_simp
    · obtain rfl := Option.some.inj hu
      go_simp
    · omega
  refine (versionText_any (some ⟨W.heap.size, 0, none⟩) 2 [1, 2] ⟨#[45, 97]⟩ _ hr (by decide) (by decide) (by intro n hn; unfold Fit; simp at hn; omega) (ht.below hA (tab_lt ht))).mono ?_
  rintro e w' ⟨rfl, hb⟩
  rw [jn12]
  exact ⟨rfl, hA.trans (hb.mono hA.size)⟩
set_option maxHeartbeats 3200000 in
theorem walk (A : Option Addr) (c : Nat) (ns : List Int) (s : ByteArray) (w : World) (hr : Rd w w.heap.size A ns.length (ints ns)) (hf : ∀ n ∈ ns, Fit n) (hl : ns.length + s.size ≤ 1048576) (ht : Tab w) :
    Calls Tryd.prog 4 #[.agg #[.slice A ns.length c, .string s]] w fun e w' => e = .returned (.bool true) ∧ Below w.heap.size w w' := by
  have X := Lib.hid (fun (W : World) (h : Below w.heap.size w W) => versionText_any A c ns s W (rd_keep hr h) (by omega) (by omega) hf (ht.below h (tab_lt ht)))
  have hg0 := tab_lt ht
  have HR := Lib.hid hr
  have HF := Lib.hid hf
  have HT := Lib.hid ht
  clear hr hf ht
  go_enter Tryd.func4, Tryd.ntmps4
  go_wp2_with fail
  obtain ⟨W0, hW0⟩ : ∃ W0, W0 = w.alloc (Obj.cells #[.slice A ns.length c, .string s] 29) := ⟨_, rfl⟩
  rw [← hW0]
  have hz0 : W0.heap.size = w.heap.size + 1 := by rw [hW0]; simp
  have hB0 : Below w.heap.size w W0 := by rw [hW0]; exact (Below.refl _ _).alloc (Nat.le_refl _) _
  have hc0 : W0.cell? ⟨w.heap.size, 0, none⟩ = some (.slice A ns.length c) := by rw [hW0]; go_simp
  have hc1 : W0.cell? ⟨w.heap.size, 1, none⟩ = some (.string s) := by rw [hW0]; go_simp
  clear hW0
  have HZ := Lib.hid hz0
  clear hz0
  go_loopg [3, 9] ns.length (fun g s3 s9 wr => ∃ k, k + g = ns.length ∧ s9 = .int .i64 (k : Nat) ∧ s3 = .string ⟨(jn (ns.take k)).toArray⟩ ∧ Below (w.heap.size + 1) W0 wr)
  case atStart =>
    have hz := HZ.out
    exact ⟨0, by omega, rfl, rfl, Below.refl _ _⟩
  case round =>
    obtain ⟨k, hkg, rfl, rfl, hb⟩ := hrel
    have HG := Lib.hid hkg
    have hkx : k ≤ ns.length := by omega
    clear hkg
    have hbs : w.heap.size + 1 ≤ wr.heap.size := by have := hb.size; rw [HZ.out] at this; exact this
    have hbw : Below w.heap.size w wr := hB0.trans (hb.mono (by omega))
    have hjl := jn_len (ns.take k) (fun n hn => HF.out n (List.mem_of_mem_take hn))
    rw [List.length_take, Nat.min_eq_left hkx] at hjl
    by_cases hlt : k < ns.length
    · obtain ⟨b, o, u, rfl, hbB, hu, hcell⟩ := (HR.out.below hbw).at_ hlt
      rw [ints_get ns k hlt] at hu
      obtain rfl := Option.some.inj hu
      have hfd := mem_fit HF.out k
      have hsn := jn_snoc (ns.take k) (ns.getD k 0)
      rw [← take_snoc ns k hlt] at hsn
      obtain ⟨d, hd⟩ : ∃ d, d = ns.getD k 0 := ⟨_, rfl⟩
      rw [← hd] at hcell hfd hsn
      clear hd hu
      have hil := Lib.itoa_length_le d hfd.1 hfd.2
      by_cases hd0 : d < 0
      · clear hsn
        go_wp2_with fail
        go_ret
        exact ⟨rfl, hbw⟩
      · obtain ⟨m, rfl⟩ : ∃ m : Nat, d = (m : Int) := ⟨d.toNat, by omega⟩
        rw [Lib.itoa_nonneg] at hsn hil
        have hfm : m ≤ 9223372036854775807 := by have := hfd.2; omega
        clear hfd hd0
        have HS0 := Lib.hid hsn
        clear hsn
        have XD := Lib.hid (fun W : World => dec_any m m W (Nat.le_refl _) hfm)
        obtain ⟨D, hD⟩ : ∃ D : ByteArray, D = ⟨(Lib.decDigits m).toArray⟩ := ⟨_, rfl⟩
        have hDz : D.size ≤ 21 := by rw [hD, bsz]; exact hil
        obtain ⟨J, hJ⟩ : ∃ J : ByteArray, J = ⟨(jn (ns.take k)).toArray⟩ := ⟨_, rfl⟩
        have hJz : J.size ≤ 22 * k := by rw [hJ, bsz]; exact hjl
        rw [← hJ]
        have HD := Lib.hid hD
        have HJ := Lib.hid hJ
        clear hD hJ
        rcases Nat.eq_zero_or_pos k with hk0 | hk0
        · have HS : Hid (jn (ns.take (k + 1)) = (jn (ns.take k)) ++ Lib.decDigits m) := by
            show _ = _
            rw [HS0.out, hk0]; rfl
          clear HS0
          subst hk0
          rw [Nat.add_zero] at hcell
          go_wp2_with fail
          refine (XD.out _).mono ?_
          rintro e w1 ⟨rfl, hb1⟩
          rw [← HD.out]
          have hB3 : Below (w.heap.size + 1) W0 w1 := hb.trans (hb1.mono (by omega))
          clear hb1 XD
          go_wp2
          have hg := HG.out
          go_roundg (gk - 1)
          case measure => omega
          case rel =>
            refine ⟨0 + 1, by omega, by go_num, ?_, hB3⟩
            rw [HS.out, HD.out, HJ.out]
            refine congrArg Value.string ?_
            simp [ByteArray.ext_iff]
        · have HS : Hid (jn (ns.take (k + 1)) = (jn (ns.take k) ++ [46]) ++ Lib.decDigits m) := by
            have hne := jn_ne (ns.take k) (by intro h; have := congrArg List.length h; rw [List.length_take, List.length_nil] at this; omega)
            show _ = _
            rw [HS0.out]
            have : (jn (ns.take k)).isEmpty = false := by simp [hne]
            rw [this]; rfl
          clear HS0
          have hJ1 : (J ++ (⟨#[46]⟩ : ByteArray)).size = J.size + 1 := by rw [ByteArray.size_append]; rfl
          go_wp2_with fail
          refine (XD.out _).mono ?_
          rintro e w1 ⟨rfl, hb1⟩
          rw [← HD.out]
          have hB3 : Below (w.heap.size + 1) W0 w1 := hb.trans (hb1.mono (by omega))
          clear hb1 XD
          go_wp2
          have hg := HG.out
          go_roundg (gk - 1)
          case measure => omega
          case rel =>
            refine ⟨k + 1, by omega, by go_num, ?_, hB3⟩
            rw [HS.out, HD.out, HJ.out]
            refine congrArg Value.string ?_
            simp [ByteArray.ext_iff]
    · have hke : k = ns.length := by omega
      subst hke
      rw [List.take_length] at hjl ⊢
      have hcr0 : wr.cell? ⟨w.heap.size, 0, none⟩ = some (.slice A ns.length c) := (hb.cell (by show w.heap.size < w.heap.size + 1; omega)).trans hc0
      have hcr1 : wr.cell? ⟨w.heap.size, 1, none⟩ = some (.string s) := (hb.cell (by show w.heap.size < w.heap.size + 1; omega)).trans hc1
      obtain ⟨J, hJ⟩ : ∃ J : ByteArray, J = ⟨(jn ns).toArray⟩ := ⟨_, rfl⟩
      have hJz : J.size ≤ 22 * ns.length := by rw [hJ, bsz]; exact hjl
      rw [← hJ]
      have hJs : (⟨(jn ns ++ s.data.toList).toArray⟩ : ByteArray) = J ++ s := by rw [hJ]; simp [ByteArray.ext_iff]
      rw [hJs] at X
      have hJn : (J ++ s).size ≤ 23068672 + 1048576 := by rw [ByteArray.size_append]; omega
      clear hlt hc0 hc1 hjl hJ hJs
      go_wp2_with fail
      have hbs1 : w.heap.size < wr.heap.size := hbs
      have HR0 := Lib.hid hcr1
      go_region_with (first
        | (go_at_call_of 10 (Value.agg #[Value.slice A ns.length c, Value.string s]); refine (X.out _ ?_).mono ?_; exact Below.drew hbw; rintro e w1 ⟨rfl, hb1⟩; have hq0 : w1.cell? ⟨w.heap.size, 1, none⟩ = some (.string s) := (hb1.cell (p := ⟨w.heap.size, 1, none⟩) (by simpa using hbs1)).trans (by simpa using HR0.out); have hs1 := hb1.size; have hx1 : Below w.heap.size w w1 := (Below.drew hbw).trans (hb1.mono (by simp; omega)); clear hb1)
        | (go_at_call 10; refine (vt12 _ (HT.out.below hx1 hg0) _).mono ?_; rintro e w2 ⟨rfl, hb2⟩; have hx2 : Below w.heap.size w w2 := hx1.trans (hb2.mono hx1.size); clear hb2))
      all_goals
        go_wp2_with fail
        go_ret
        exact ⟨rfl, by assumption⟩
#print axioms walk
end Go.Proofs.YtoijbpjlknmpmaaDoor.fnVersionText
