/- FnWhereLong's walk: a range within a line keeps its length. -/
import Derived.Test.YtpnigcljndjmlaaDoorPlaces
namespace Go.Proofs.YtpnigcljndjmlaaDoor.fnWhereLong
open Go.RowKit
open kit pt line

set_option maxRecDepth 100000 in
set_option maxHeartbeats 3200000 in
theorem walk (t : ByteArray) (n m : Int) (w : World) (hz : t.size ≤ 1048576) (hL : Tabs w ∧ 2 ≤ w.heap.size) :
    Calls Tryd.prog 4 #[.string t, .int .i64 n, .int .i64 m] w fun e w' => e = .returned (.bool true) ∧ Below w.heap.size w w' := by
  have hkl := plc_le t.size n
  have A0 := Lib.hid (fun W : World => at_any t n W hz)
  obtain ⟨k, hk⟩ : ∃ k, k = plc t.size n := ⟨_, rfl⟩
  rw [← hk] at A0 hkl
  clear hk
  have HL := Lib.hid hL
  clear hL
  go_enter Tryd.func4, Tryd.ntmps4
  go_wp2_with fail
  refine (A0.out _).mono ?_
  rintro e w' ⟨rfl, rfl⟩
  go_wp2_with fail
  refine (lineAt_any t k _ hz hkl).mono ?_
  rintro e w1 ⟨num, fr, txt, ok, rfl, hok, hb1⟩
  have HB1 := Lib.hid hb1
  have HO := Lib.hid hok
  clear hb1 hok
  go_wp2_with fail
  refine (valid_any t _ hz).mono ?_
  rintro e w2 ⟨vb, rfl, hvb, hb2⟩
  have hx2 : Below w1.heap.size w1 w2 := ((Below.refl _ _).alloc (Nat.le_refl _) _).trans (hb2.mono (by simp))
  have HB2 := Lib.hid (HB1.out.trans (hx2.mono HB1.out.size))
  have q0 : w2.cell? ⟨w1.heap.size, 0, none⟩ = some (.int .i64 num) := (hb2.cell (p := ⟨w1.heap.size, 0, none⟩) (by simp)).trans (by go_simp)
  have q1 : w2.cell? ⟨w1.heap.size, 1, none⟩ = some (.int .i64 fr) := (hb2.cell (p := ⟨w1.heap.size, 1, none⟩) (by simp)).trans (by go_simp)
  have q2 : w2.cell? ⟨w1.heap.size, 2, none⟩ = some (.string txt) := (hb2.cell (p := ⟨w1.heap.size, 2, none⟩) (by simp)).trans (by go_simp)
  have hs1 : w1.heap.size + 1 ≤ w2.heap.size := by have := hb2.size; simpa using this
  have hs2 : w.heap.size ≤ w2.heap.size := HB2.out.size
  have HV := Lib.hid hvb
  clear hb2 hvb hx2
  cases vb with
  | false =>
    go_wp2_with fail
    go_ret
    exact ⟨rfl, HB2.out⟩
  | true =>
    cases ok with
    | false =>
      go_wp2_with fail
      go_ret
      exact ⟨rfl, HB2.out⟩
    | true =>
      have hV : Vld t.data.toList := HV.out (by first | rfl | trivial)
      obtain ⟨j, c, e, hAt, hFin, hnum, htx⟩ := HO.out (by first | rfl | trivial) hV
      have HVV := Lib.hid hV
      have HAt := Lib.hid hAt
      have HFin := Lib.hid hFin
      have HT2 := Lib.hid (HL.out.1.below HB2.out)
      have h22 : 2 ≤ w2.heap.size := Nat.le_trans HL.out.2 hs2
      have HX := Lib.hid htx
      clear hV hAt hFin HV HO htx
      have hFl := HFin.out.le (by have := HAt.out.le.1; exact this)
      have hsz : t.data.toList.length = t.size := by rw [Array.length_toList]; rfl
      have htz : txt.size = e - fr := by rw [HX.out, ByteArray.size_extract]; have := hFl.2; omega
      have hke : k ≤ e := hFl.1
      have hez : e ≤ t.size := by have := hFl.2; omega
      have hfk : fr ≤ k := HAt.out.le.2.2.1
      have hkt : k - fr ≤ txt.size := by omega
      have hkt2 : (k : Int) - (fr : Int) ≤ (txt.size : Int) := by omega
      clear hFl hsz
      go_wp2_with fail
      refine (at_any (txt.extract (k - fr) (e - fr)) m _ (by rw [ByteArray.size_extract]; omega)).mono ?_
      have hll := plc_le (txt.extract (k - fr) (e - fr)).size m
      have hll2 : (txt.extract (k - fr) (e - fr)).size ≤ 1048576 := by rw [ByteArray.size_extract]; omega
      obtain ⟨lo, hlo⟩ : ∃ lo, lo = plc (txt.extract (k - fr) (e - fr)).size m := ⟨_, rfl⟩
      rw [← hlo] at hll ⊢
      have hlo2 : lo ≤ 1048576 := by omega
      clear hlo hll hll2
      rintro e' w' ⟨rfl, rfl⟩
      go_wp2_with fail
      refine (where_any t _ 1 [(k, lo)] _ hz HVV.out (by simp; omega) (HT2.out.below ((Below.refl _ _).alloc (Nat.le_refl _) _)) ?_ (by simp) ?_).mono ?_
      · intro _
        refine ⟨_, _, rfl, by simp, fun i r hr => ?_⟩
        have hi : i = 0 := by have := (List.getElem?_eq_some_iff.1 hr).1; simp at this; exact this
        subst hi
        simp at hr
        subst hr
        exact ⟨by go_simp, by go_simp⟩
      · intro r hr
        simp at hr
        subst hr
        exact ⟨hlo2, j, c, fr, HAt.out⟩
      · intro e3 w3 h3
        obtain ⟨g, cap, j', c', f', z, rfl, hg, hgl, h4, h5, p0, p1, p2, p3, hb3⟩ := places_one h3
        obtain ⟨_, rfl, rfl⟩ := HAt.out.same h4
        obtain rfl := HFin.out.det h5
        rw [← HX.out] at p3
        have hx3 : Below w2.heap.size w2 w3 := ((Below.refl _ _).alloc (Nat.le_refl _) _).trans (hb3.mono (by simp))
        have HB3 := Lib.hid (HB2.out.trans (hx3.mono HB2.out.size))
        have r0 := (hx3.cell (p := ⟨w1.heap.size, 0, none⟩) (by simp; omega)).trans q0
        have r1 := (hx3.cell (p := ⟨w1.heap.size, 1, none⟩) (by simp; omega)).trans q1
        have r2 := (hx3.cell (p := ⟨w1.heap.size, 2, none⟩) (by simp; omega)).trans q2
        subst hnum
        simp only [Int.natCast_add, Int.natCast_one] at r0
        have p2' : w3.cell? ⟨g, 2, none⟩ = some (.int .i64 (lo : Nat)) := p2
        clear h3 h4 h5 hb3 hx3 q0 q1 q2 p2
        go_wp2_with fail
        go_quiet (fail)
        go_wp2_with fail
        go_ret
        exact ⟨rfl, bdrew HB3.out⟩
end Go.Proofs.YtpnigcljndjmlaaDoor.fnWhereLong
