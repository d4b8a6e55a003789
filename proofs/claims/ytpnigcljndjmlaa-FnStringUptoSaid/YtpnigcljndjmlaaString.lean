/- The walks of QuoteForJSON, Quote and FnString. -/
import Derived.Test.YtpnigcljndjmlaaQuote
import Derived.Test.YtpnigcljndjmlaaRangeStr
import Derived.Laws.BytesArg
import Derived.Laws.IdiomStrings
import Derived.Lib.AppendIntMem
namespace Go.Proofs.Ytpnigcljndjmlaa.fnString
open Go.RowKit
open kit pt body

/-- a row of bytes of the call's own, as a string -/
theorem own_string {W : World} {B : Nat} {v : Value} {l : List UInt8} (h : W.ownsRow B 5 1 v l.length (Lib.byteCells l)) :
    (convert 31 9 v).run Try.prog W = .ok (.string ⟨l.toArray⟩) W := by
  obtain ⟨A, c, rfl, hr⟩ := Rd.of_own h
  by_cases hl : 0 < l.length
  · obtain ⟨b, o, rfl, hb, hc⟩ := hr.2 hl
    refine run_convert_bytes_back (P := Try.prog) _ 31 9 5 ⟨b, o, none⟩ c l Try.underlying31 Try.underlying5 Try.underlying9 ?_
    intro j hj
    have hplain : (⟨b, o, none⟩ : Addr).add j = ⟨b, o + j, none⟩ := by unfold Addr.add; split <;> simp_all
    rw [hplain]
    exact hc j _ (by simp [Lib.byteCells, hj])
  · obtain rfl : l = [] := List.eq_nil_of_length_eq_zero (by omega)
    cases A with
    | none => exact run_convert_bytes_nil _ 31 5 Try.underlying31 Try.underlying5 _ _ _ Try.underlying9
    | some a => exact run_convert_bytes_back (P := Try.prog) _ 31 9 5 a c [] Try.underlying31 Try.underlying5 Try.underlying9 (fun j hj => absurd hj (by simp))
theorem json_any (s : ByteArray) (a : Bool) (w : World) (hs : s.size ≤ 1048576) (hv : Vld s.data.toList) :
    Calls Try.prog 8 #[.string s, .bool a] w (Quoted s w) := by
  have X := Lib.hid (quote_any s a w hs hv)
  clear hv
  go_enter Try.func8, Try.ntmps8
  go_wp2_with fail
  refine X.out.mono ?_
  rintro e w' ⟨v, out, rfl, h1, h2, h3, h4⟩
  have H := Lib.hid (And.intro h1 (And.intro h2 (And.intro h3 h4)))
  clear h1 h2 h3 h4 X
  go_wp2_with fail
  go_ret
  exact ⟨v, out, rfl, H.out.1, H.out.2.1, H.out.2.2.1, H.out.2.2.2⟩
/-- what Quote gives -/
def qs (out : List UInt8) : ByteArray := ⟨([34] ++ out ++ [34]).toArray⟩
theorem qs_size (out : List UInt8) : (qs out).size = out.length + 2 := by
  show ([34] ++ out ++ [34] : List UInt8).toArray.size = _
  simp
def Qt (s : ByteArray) (w : World) (e : Ending) (w' : World) : Prop := ∃ out, e = .returned (.string (qs out)) ∧ Body out ∧ out.length ≤ 12 * s.size ∧ Below w.heap.size w w'
theorem quoteText_any (s : ByteArray) (a : Bool) (w : World) (hs : s.size ≤ 1048576) (hv : Vld s.data.toList) :
    Calls Try.prog 5 #[.string s, .bool a] w (Qt s w) := by
  have X := Lib.hid (json_any s a w hs hv)
  clear hv
  go_enter Try.func5, Try.ntmps5
  go_wp2_with fail
  refine X.out.mono ?_
  rintro e w' ⟨v, out, rfl, h1, h2, h3, h4⟩
  have hcv := own_string h1
  have H := Lib.hid (And.intro h2 (And.intro h3 h4))
  clear h1 h2 h3 h4 X
  have hcv : (convert 31 9 v).run Try.prog w' = .ok (.string (qs out)) w' := hcv
  go_wp2_with fail
  go_ret
  exact ⟨out, rfl, H.out.1, H.out.2.1, H.out.2.2⟩

theorem ba_ext {a b : ByteArray} (h : a.data.toList = b.data.toList) : a = b := by
  apply ByteArray.ext
  exact Array.ext' h
theorem tail_of (f q b : ByteArray) : (f ++ q ++ b).extract f.size (f ++ q ++ b).size = q ++ b := by
  have hl : ∀ x : ByteArray, x.data.toList.length = x.size := fun x => by rw [Array.length_toList]; rfl
  apply ba_ext
  rw [ext_drop]
  simp only [ByteArray.data_append, Array.toList_append]
  rw [List.append_assoc, List.drop_left' (hl f)]
theorem qs_list (out : List UInt8) (b : ByteArray) : (qs out ++ b).data.toList = 34 :: (out ++ 34 :: b.data.toList) := by
  rw [ByteArray.data_append, Array.toList_append]
  show ([34] ++ out ++ [34] : List UInt8).toArray.toList ++ _ = _
  simp

set_option maxHeartbeats 1600000 in
theorem walk {p1 p2 p3 : Prop} (f s b : ByteArray) (a : Bool) (_h1 : p1) (_h2 : p2) (_h3 : p3) (h : f.size + s.size + b.size ≤ 1048576) (w : World) :
    Calls Try.prog 3 #[.string f, .string s, .string b, .bool a] w fun e w' => e = .returned (.bool true) ∧ Below w.heap.size w w' := by
  have hs : s.size ≤ 1048576 := by omega
  have V := Lib.hid (valid_any s w hs)
  go_enter Try.func3, Try.ntmps3
  go_wp2_with fail
  refine V.out.mono ?_
  rintro e w1 ⟨v, rfl, hv, hb1⟩
  have HV := Lib.hid hv
  clear hv V
  cases v with
  | false =>
    go_wp2_with fail
    go_ret
    exact ⟨rfl, hb1⟩
  | true =>
    have X := Lib.hid (fun W : World => quoteText_any s a W hs (HV.out rfl))
    go_wp2_with fail
    refine (X.out _).mono ?_
    rintro e w2 ⟨out, rfl, ho, hol, hb2⟩
    have hq := qs_size out
    have hqz : (qs out).size ≤ 12582914 := by omega
    have hq2 : 2 ≤ (qs out).size := by omega
    have hW2 : Below w.heap.size w w2 := hb1.trans (hb2.mono hb1.size)
    have Y := Lib.hid (fun W : World => stringRange_any (f ++ qs out ++ b) (qs out ++ b) (f.size : Int) f.size out b.data.toList W rfl (by rw [ByteArray.size_append, ByteArray.size_append]; omega) (tail_of _ _ _) (by rw [ByteArray.size_append, ByteArray.size_append]; omega) (qs_list _ _) ho)
    rw [← hq] at Y
    obtain ⟨q, hqq⟩ : ∃ q, q = qs out := ⟨_, rfl⟩
    rw [← hqq] at Y hqz hq2 ⊢
    clear hqq hq ho hol hb1 hb2 X HV
    have z1 : ¬ 9223372036854775807 < f.size + q.size := by omega
    have z2 : ¬ 9223372036854775807 < f.size + q.size + b.size := by omega
    go_wp2_with fail
    refine (Y.out _).mono ?_
    rintro e w3 ⟨rfl, hb3⟩
    have hW3 : Below w.heap.size w w3 := hW2.trans (hb3.mono hW2.size)
    clear hb3 Y hW2
    go_wp2_with fail
    go_ret
    refine ⟨?_, ?_⟩
    · simp
      omega
    · refine balloc ?_ hW3
      have := hW3.size
      omega
end Go.Proofs.Ytpnigcljndjmlaa.fnString
