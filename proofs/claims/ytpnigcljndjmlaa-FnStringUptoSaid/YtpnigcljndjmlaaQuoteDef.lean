/- Small lemmas for the walk of internalQuote. -/
import Derived.Test.YtpnigcljndjmlaaQuoteParts
import Derived.Test.YtpnigcljndjmlaaPtVld
import Derived.Laws.RangeString
import Derived.Lib.AppendStr
import Derived.Lib.UnsafeStr
import Derived.Lib.QuoteBits
import Derived.Deep.RegionHeld3
import Derived.Deep.DeepMust
namespace Go.Proofs.Ytpnigcljndjmlaa.body
open Go.RowKit
open kit pt wtf

theorem info_u8 : (Try.prog.info? 5).map (fun i => (i.zero, i.size, i.bytes)) = some (some (.int .u8 0), 1, 1) := by kernel_rfl
theorem own_bytes {w wr w1 : World} {B : Nat} {v v' : Value} {o : Obj} {xs ys : List UInt8} (hB : B ≤ wr.heap.size)
    (hown : wr.ownsRow B 5 1 v xs.length (Lib.byteCells xs)) (hb : Below B w wr) (hown' : w1.ownsRow B 5 1 v' (xs.length + ys.length) (Lib.byteCells xs ++ Lib.byteCells ys)) (hg : (wr.alloc o).grownBy w1 v.ownBlock) :
    w1.ownsRow B 5 1 v' (xs ++ ys).length (Lib.byteCells (xs ++ ys)) ∧ Below B w w1 := by
  refine ⟨by rw [Lib.byteCells_append, List.length_append]; exact hown', (hb.alloc hB o).grown hg (by simp; omega) (fun j hj => (hown.lt j hj).1)⟩
theorem own_drew {w wr w1 : World} {B : Nat} {v v' : Value} {o : Obj} {xs ys : List UInt8} (hB : B ≤ wr.heap.size)
    (hown : wr.ownsRow B 5 1 v xs.length (Lib.byteCells xs)) (hb : Below B w wr) (hown' : w1.ownsRow B 5 1 v' (xs.length + ys.length) (Lib.byteCells xs ++ Lib.byteCells ys)) (hg : ((wr.alloc o).drew).grownBy w1 v.ownBlock) :
    w1.ownsRow B 5 1 v' (xs ++ ys).length (Lib.byteCells (xs ++ ys)) ∧ Below B w w1 := by
  refine ⟨by rw [Lib.byteCells_append, List.length_append]; exact hown', ((hb.alloc hB o).drew).grown hg (by simp; omega) (fun j hj => (hown.lt j hj).1)⟩
theorem own_str {w wr w1 : World} {B : Nat} {v v' : Value} {xs ys : List UInt8} (hB : B ≤ wr.heap.size)
    (hown : wr.ownsRow B 5 1 v xs.length (Lib.byteCells xs)) (hb : Below B w wr) (hown' : w1.ownsRow B 5 1 v' (xs.length + ys.length) (Lib.byteCells xs ++ Lib.byteCells ys)) (hg : wr.grownBy w1 v.ownBlock) :
    w1.ownsRow B 5 1 v' (xs ++ ys).length (Lib.byteCells (xs ++ ys)) ∧ Below B w w1 := by
  refine ⟨by rw [Lib.byteCells_append, List.length_append]; exact hown', hb.grown hg hB (fun j hj => (hown.lt j hj).1)⟩
theorem own_two {w wr w1 : World} {B : Nat} {v v' : Value} {xs : List UInt8} (c : UInt8) (hB : B ≤ wr.heap.size)
    (hown : wr.ownsRow B 5 1 v xs.length (Lib.byteCells xs)) (hb : Below B w wr) (hown' : w1.ownsRow B 5 1 v' (xs.length + (⟨#[92, c]⟩ : ByteArray).size) (Lib.byteCells xs ++ Lib.strCells ⟨#[92, c]⟩)) (hg : wr.grownBy w1 v.ownBlock) :
    w1.ownsRow B 5 1 v' (xs ++ [92, c]).length (Lib.byteCells (xs ++ [92, c])) ∧ Below B w w1 := own_str (ys := [92, c]) hB hown hb hown' hg
theorem ch_small {l : List UInt8} {p : Int} {n : Nat} (h : Ch l p n) (hp : p < 128) : n = 1 := by
  cases h with
  | one c r h => rfl
  | two c b r h1 h2 hb => rw [ct_iff] at hb; omega
  | three c b d r h1 h2 hb hd h3 h4 => omega
  | four c b d e r h1 h2 hb hd he h3 h4 => omega
theorem hx_at (x : Nat) (hx : x < 16) : ((⟨#[48, 49, 50, 51, 52, 53, 54, 55, 56, 57, 65, 66, 67, 68, 69, 70]⟩ : ByteArray)[x]'hx) = hex.getD x 0 := by
  have : ∀ q : Fin 16, ((⟨#[48, 49, 50, 51, 52, 53, 54, 55, 56, 57, 65, 66, 67, 68, 69, 70]⟩ : ByteArray)[q.1]'q.2) = hex.getD q.1 0 := by decide
  exact this ⟨x, hx⟩
theorem c2_six (a b c d e f : Int) : ∀ u ∈ ([.int .u8 a, .int .u8 b, .int .u8 c, .int .u8 d, .int .u8 e, .int .u8 f] : List Value), u.oneCell' = true := by
  intro u hu
  simp at hu
  rcases hu with rfl | rfl | rfl | rfl | rfl | rfl <;> rfl
theorem c2_twelve (a b c d e f a' b' c' d' e' f' : Int) : ∀ u ∈ ([.int .u8 a, .int .u8 b, .int .u8 c, .int .u8 d, .int .u8 e, .int .u8 f, .int .u8 a', .int .u8 b', .int .u8 c', .int .u8 d', .int .u8 e', .int .u8 f'] : List Value), u.oneCell' = true := by
  intro u hu
  simp at hu
  rcases hu with rfl | rfl | rfl | rfl | rfl | rfl | rfl | rfl | rfl | rfl | rfl | rfl <;> rfl
theorem and1023 (x q : Nat) (h : x < 2147483648) : ∃ A : Nat, A < 1024 ∧ bits .and .i32 ((x : Int) / (q : Int)) 1023 = (A : Int) := by
  have e : (x : Int) / (q : Int) = ((x / q : Nat) : Int) := (Int.natCast_ediv x q).symm
  have hq : x / q < 2147483648 := Nat.lt_of_le_of_lt (Nat.div_le_self x q) h
  refine ⟨x / q % 1024, Nat.mod_lt _ (by omega), ?_⟩
  rw [e]
  show IntKind.i32.wrap ((BitVec.ofInt 32 ((x / q : Nat) : Int) &&& BitVec.ofInt 32 ((1023 : Nat) : Int)).toNat : Int) = _
  rw [BitVec.toNat_and, ofInt_u32 (x / q) (by omega), ofInt_u32 1023 (by omega), show x / q &&& 1023 = x / q % 1024 from Nat.and_two_pow_sub_one_eq_mod (x / q) 10]
  exact Lib.wrap_i32_small _ (by omega)
theorem c2_byte (x : Int) : ∀ u ∈ ([.int .u8 x] : List Value), u.oneCell' = true := by
  intro u hu
  simp at hu
  subst hu
  rfl
theorem take_drop_add (l : List UInt8) (i n : Nat) : (l.take (i + n)).drop i = (l.drop i).take n := by
  rw [List.drop_take]; congr 1; omega
theorem take_drop_split (l : List UInt8) (i j m : Nat) (h : i ≤ j) : (l.take (j + m)).drop i = (l.take j).drop i ++ (l.drop j).take m := by
  rw [List.take_add, List.drop_append]
  by_cases hl : j ≤ l.length
  · rw [List.length_take, Nat.min_eq_left hl, Nat.sub_eq_zero_of_le h]; rfl
  · have e : l.drop j = [] := List.drop_of_length_le (by omega)
    rw [e]; simp
theorem str_cells (s : ByteArray) (i j : Nat) : Lib.strCells (s.extract i j) = Lib.byteCells ((s.data.toList.take j).drop i) := by
  unfold Lib.strCells Lib.byteCells
  rw [ByteArray.data_extract, Array.toList_extract]
  simp [List.drop_take]
theorem seg_len (s : ByteArray) (i j : Nat) (h : i ≤ j) (hj : j ≤ s.size) : ((s.data.toList.take j).drop i).length = j - i := by
  have hl : s.data.toList.length = s.size := by rw [Array.length_toList]; rfl
  rw [List.length_drop, List.length_take, hl]; omega
theorem ct_bare (b : UInt8) (h : ct b = true) : b.toNat ≠ 34 ∧ b.toNat ≠ 92 := by rw [ct_iff] at h; omega
theorem ch_bare {l : List UInt8} {p : Int} {n : Nat} {a : Bool} (h : Ch l p n) (hc : canP p a = true) : Bare (l.take n) := by
  cases h with
  | one c r h =>
    intro x hx
    simp at hx
    rw [hx]
    unfold canP at hc
    by_cases h1 : (c.toNat : Int) ≤ 126
    · rw [if_pos h1] at hc
      simp at hc
      omega
    · omega
  | two c b r h1 h2 hb =>
    intro x hx
    simp at hx
    rcases hx with rfl | rfl
    · omega
    · exact ct_bare _ hb
  | three c b d r h1 h2 hb hd _ _ =>
    intro x hx
    simp at hx
    rcases hx with rfl | rfl | rfl
    · omega
    · exact ct_bare _ hb
    · exact ct_bare _ hd
  | four c b d e r h1 h2 hb hd he _ _ =>
    intro x hx
    simp at hx
    rcases hx with rfl | rfl | rfl | rfl
    · omega
    · exact ct_bare _ hb
    · exact ct_bare _ hd
    · exact ct_bare _ he
def Quoted (s : ByteArray) (w : World) (e : Ending) (w' : World) : Prop :=
  ∃ v out, e = .returned v ∧ w'.ownsRow w.heap.size 5 1 v ([34] ++ out ++ [34]).length (Lib.byteCells ([34] ++ out ++ [34])) ∧ Body out ∧ out.length ≤ 12 * s.size ∧ Below w.heap.size w w'
theorem below_iter (w : World) (s : ByteArray) (pos : Nat) : Below w.heap.size w (w.iter s pos) := (Below.refl _ _).alloc (Nat.le_refl _) _

end Go.Proofs.Ytpnigcljndjmlaa.body
