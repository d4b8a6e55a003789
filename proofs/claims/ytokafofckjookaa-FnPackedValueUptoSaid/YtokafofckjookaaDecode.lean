/- DecodeIntoArray's walk: what was packed comes back. -/
import Derived.Test.YtokafofckjookaaLastP
import Derived.Test.YtokafofckjookaaEncode
import Derived.Lib.ConvBytes
import Derived.Laws.BytesArg
import Derived.Laws.IdiomStrings
import Derived.IntWalk
namespace Go.Proofs.Ytokafofckjookaa.pk
open Go.RowKit
open kit bld

/-- bytes lie at a place -/
def Bat (W : World) (b o : Nat) (xs : List UInt8) : Prop := ∀ (j : Nat) (x : UInt8), xs[j]? = some x → W.cell? ⟨b, o + j, none⟩ = some (.int .u8 x.toNat)
theorem Bat.left {W : World} {b o : Nat} {xs ys : List UInt8} (h : Bat W b o (xs ++ ys)) : Bat W b o xs := fun j x hx => h j x (by
  have hj := (List.getElem?_eq_some_iff.1 hx).1
  rw [List.getElem?_append_left hj]; exact hx)
theorem Bat.right {W : World} {b o : Nat} {xs ys : List UInt8} (h : Bat W b o (xs ++ ys)) : Bat W b (o + xs.length) ys := fun j x hx => by
  have := h (xs.length + j) x (by rw [List.getElem?_append_right (by omega), show xs.length + j - xs.length = j from by omega]; exact hx)
  rw [← Nat.add_assoc] at this
  exact this
theorem Bat.keep {W W' : World} {B b o : Nat} {xs : List UInt8} (h : Bat W b o xs) (hb : Below B W W') (hB : b < B) : Bat W' b o xs := fun j x hx => by
  rw [hb.cell (p := ⟨b, _, none⟩) hB]; exact h j x hx
theorem u32_at (b o n c m : Nat) (W : World) (hn : 4 ≤ n) (hm : m < 4294967296) (h : Bat W b o (le4 m)) :
    Calls Try.prog 14 #[.agg #[], .slice (some ⟨b, o, none⟩) n c] W fun e w' => e = .returned (.int .u32 (m : Nat)) ∧ Below W.heap.size W w' := by
  refine (Try.binary_LE_Uint32 b o n c (UInt8.ofNat m) (UInt8.ofNat (m / 256)) (UInt8.ofNat (m / 65536)) (UInt8.ofNat (m / 16777216)) W hn (h 0 _ rfl) (h 1 _ rfl) (h 2 _ rfl) (h 3 _ rfl)).mono ?_
  rintro e w' ⟨rfl, hb⟩
  rw [leNat4, nat4_le4 m hm]
  exact ⟨rfl, hb⟩
theorem sizeB (W : World) : (sizeOf (Try.prog.elem 40)).run Try.prog W = .ok 1 W := by kernel_rfl
theorem add_plain (b o j : Nat) : (⟨b, o, none⟩ : Addr).add j = ⟨b, o + j, none⟩ := by unfold Addr.add; split <;> simp_all
theorem cut_lh (b o n c m : Nat) (h1 : 4 + m ≤ n) (h2 : n ≤ c) : ∃ A, (∀ W : World, (Instr.slice 40 (.slice (some ⟨b, o, none⟩) n c) (some (.int .i64 4)) (some (.int .u32 (4 + (m : Int)))) none).run Try.prog W = .ok (.slice A m (c - 4)) W) ∧ (0 < m → A = some ⟨b, o + 4, none⟩) := by
  refine ⟨if c = 4 then some ⟨b, o, none⟩ else some ⟨b, o + 4, none⟩, fun W => ?_, fun h => by rw [if_neg (by omega)]⟩
  rw [run_slice_lh (P := Try.prog) W 40 (some ⟨b, o, none⟩) n c (by kernel_rfl) .i64 .u32 4 (4 + (m : Int)) (by omega) (by omega) (by omega), sizeB]
  have e : (4 + (m : Int)).toNat = 4 + m := by omega
  have e2 : (4 : Int).toNat = 4 := rfl
  simp only [Result.andThen, sliced, e, e2, Option.map, Nat.mul_one, add_plain]
  rw [show 4 + m - 4 = m from by omega]
theorem cut_l (b o n c m : Nat) (h1 : 4 + m ≤ n) (h2 : n ≤ c) : ∃ A, (∀ W : World, (Instr.slice 40 (.slice (some ⟨b, o, none⟩) n c) (some (.int .u32 (4 + (m : Int)))) none none).run Try.prog W = .ok (.slice A (n - (4 + m)) (c - (4 + m))) W) ∧ (4 + m < n → A = some ⟨b, o + (4 + m), none⟩) := by
  refine ⟨if c = 4 + m then some ⟨b, o, none⟩ else some ⟨b, o + (4 + m), none⟩, fun W => ?_, fun h => by rw [if_neg (by omega)]⟩
  rw [run_slice_l (P := Try.prog) W 40 (some ⟨b, o, none⟩) n c (by kernel_rfl) .u32 (4 + (m : Int)) (by omega) (by omega), sizeB]
  have e : (4 + (m : Int)).toNat = 4 + m := by omega
  simp only [Result.andThen, sliced, e, Option.map, Nat.mul_one, add_plain]
theorem conv_at (W : World) (A : Option Addr) (b o c : Nat) (l : List UInt8) (hA : 0 < l.length → A = some ⟨b, o, none⟩) (h : Bat W b o l) : (convert 40 9 (.slice A l.length c)).run Try.prog W = .ok (.string ⟨l.toArray⟩) W := by
  by_cases h0 : 0 < l.length
  · rw [hA h0]
    refine run_convert_bytes_back (P := Try.prog) _ 40 9 5 ⟨b, o, none⟩ c l Try.underlying40 Try.underlying5 Try.underlying9 ?_
    intro j hj
    rw [add_plain]
    exact h j _ (List.getElem?_eq_getElem hj)
  · obtain rfl : l = [] := List.eq_nil_of_length_eq_zero (by omega)
    cases A with
    | none => exact run_convert_bytes_nil _ 40 5 Try.underlying40 Try.underlying5 _ _ _ Try.underlying9
    | some a => exact run_convert_bytes_back (P := Try.prog) _ 40 9 5 a c [] Try.underlying40 Try.underlying5 Try.underlying9 (fun j hj => absurd hj (by simp))
/-- a text as bytes -/
theorem to_bytes (l : List UInt8) (W : World) : ∃ c W', (convert 9 40 (.string ⟨l.toArray⟩)).run Try.prog W = .ok (.slice (some ⟨W.heap.size, 0, none⟩) l.length c) W' ∧ l.length ≤ c ∧ Bat W' W.heap.size 0 l ∧ Below W.heap.size W W' ∧ W'.heap.size = W.heap.size + 1 := by
  have hz : (⟨l.toArray⟩ : ByteArray).size = l.length := by show l.toArray.size = _; simp
  refine ⟨_, _, by rw [← hz]; exact Lib.run_convert_string_bytes (P := Try.prog) W 9 40 5 ⟨l.toArray⟩ Try.underlying9 Try.underlying40 Try.underlying5, ?_, ?_, ?_, Lib.bytesWorld_size _ _ _⟩
  · rw [hz]; exact grownCap_ge _ _ _ _
  · intro j x hx
    have hj := (List.getElem?_eq_some_iff.1 hx).1
    rw [Nat.zero_add, Lib.bytesWorld_cell _ _ _ _ (by rw [hz]; exact hj)]
    have : (⟨l.toArray⟩ : ByteArray).data.toList.getD j 0 = x := by simp [hx]
    rw [this]
  · refine ⟨rfl, rfl, rfl, by rw [Lib.bytesWorld_size]; omega, fun k hk => Lib.bytesWorld_at_old _ _ _ _ hk⟩
end Go.Proofs.Ytokafofckjookaa.pk
