/- A data URL, in plain terms. -/
import Derived.Lib.Bytealg
import Derived.Lib.Strings
namespace Go.Proofs.Ytbjbejkkpfgbkaa.url
open Go

theorem ib_skip (a : List UInt8) (c : UInt8) (r : List UInt8) (h : ∀ b ∈ a, b ≠ c) : Lib.indexByte (a ++ c :: r) c = (a.length : Int) := by
  induction a with
  | nil => simp [Lib.indexByte]
  | cons x a ih =>
    have hx : (x == c) = false := by simpa using h x (by simp)
    have := ih (fun b hb => h b (by simp [hb]))
    rw [List.cons_append, Lib.indexByte, hx, this]
    have h2 : ((a.length : Int) == -1) = false := by simp
    simp [h2]
theorem ib_none (a : List UInt8) (c : UInt8) (h : ∀ b ∈ a, b ≠ c) : Lib.indexByte a c = -1 := by
  induction a with
  | nil => rfl
  | cons x a ih =>
    have hx : (x == c) = false := by simpa using h x (by simp)
    rw [Lib.indexByte, hx, ih (fun b hb => h b (by simp [hb]))]
    rfl
def dat : ByteArray := ⟨#[100, 97, 116, 97, 58]⟩
def com : ByteArray := ⟨#[44]⟩
theorem ba_ext {a b : ByteArray} (h : a.data.toList = b.data.toList) : a = b := by
  apply ByteArray.ext
  exact Array.ext' h
theorem toL (a b : ByteArray) : (a ++ b).data.toList = a.data.toList ++ b.data.toList := by rw [ByteArray.data_append, Array.toList_append]
theorem lenL (a : ByteArray) : a.data.toList.length = a.size := by rw [Array.length_toList]; rfl
theorem size3 (m P : ByteArray) : (((dat ++ m) ++ com) ++ P).size = 5 + m.size + 1 + P.size := by
  rw [ByteArray.size_append, ByteArray.size_append, ByteArray.size_append]; rfl
theorem list3 (m P : ByteArray) : (((dat ++ m) ++ com) ++ P).data.toList = [100, 97, 116, 97, 58] ++ m.data.toList ++ 44 :: P.data.toList := by
  rw [toL, toL, toL]; simp [dat, com]
theorem pre (m P : ByteArray) : Lib.hasPrefix (((dat ++ m) ++ com) ++ P).data.toList [100, 97, 116, 97, 58] = true := by
  rw [list3]; simp [Lib.hasPrefix]
theorem idx (m P : ByteArray) (h : ∀ b ∈ m.data.toList, b ≠ 44) : Lib.indexByte (((dat ++ m) ++ com) ++ P).data.toList 44 = ((5 + m.size : Nat) : Int) := by
  rw [list3, ib_skip]
  · rw [List.length_append, lenL]; rfl
  · intro b hb
    rcases List.mem_append.1 hb with hb | hb
    · have : ∀ b ∈ ([100, 97, 116, 97, 58] : List UInt8), b ≠ 44 := by decide
      exact this b hb
    · exact h b hb
theorem exL (u : ByteArray) (a b : Nat) : (u.extract a b).data.toList = (u.data.toList.take b).drop a := by
  rw [ByteArray.data_extract, Array.toList_extract]
  simp [List.drop_take]
theorem mime (m P : ByteArray) : (((dat ++ m) ++ com) ++ P).extract 5 (5 + m.size) = m := by
  apply ba_ext
  rw [exL, list3, List.append_assoc, ← lenL m, List.take_append, List.drop_append]
  simp
theorem data (m P : ByteArray) : (((dat ++ m) ++ com) ++ P).extract (5 + m.size + 1) (((dat ++ m) ++ com) ++ P).size = P := by
  apply ba_ext
  rw [exL, size3, list3]
  rw [List.take_of_length_le (by simp; omega)]
  rw [show ([100, 97, 116, 97, 58] ++ m.data.toList ++ 44 :: P.data.toList : List UInt8) = ([100, 97, 116, 97, 58] ++ m.data.toList ++ [44]) ++ P.data.toList from by simp]
  rw [List.drop_left' (by simp; omega)]
end Go.Proofs.Ytbjbejkkpfgbkaa.url
