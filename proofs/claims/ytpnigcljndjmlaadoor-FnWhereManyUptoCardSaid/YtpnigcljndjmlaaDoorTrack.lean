/- The walk of scanTo. -/
import Derived.Test.YtpnigcljndjmlaaDoorRows
import Derived.Test.YtpnigcljndjmlaaDoorKit
import Derived.Test.YtpnigcljndjmlaaDoorLine
import Derived.Test.YtpnigcljndjmlaaDoorShelf
import Derived.WalkKit
import Derived.ProofKit
import Derived.IntWalk
import Derived.OwnWalk
import Derived.WalkSpells
import Derived.Deep.LoopGhost
import Derived.Deep.DeepCutAuto
import Derived.Deep.CutBlock
import Derived.Lib.BufferOwn
import Derived.Outline
namespace Go.Proofs.YtpnigcljndjmlaaDoor.line
open Go.RowKit
open kit pt

/-- the tracker's cells -/
def Tk (W : World) (B : Nat) (s : ByteArray) (o l ls le : Nat) (hs he : Bool) : Prop :=
  B < W.heap.size ∧ W.cell? ⟨B, 0, none⟩ = some (.string s) ∧ W.cell? ⟨B, 1, none⟩ = some (.string ⟨#[]⟩) ∧ W.cell? ⟨B, 2, none⟩ = some (.string ⟨#[]⟩) ∧
  W.cell? ⟨B, 3, none⟩ = some (.int .i32 o) ∧ W.cell? ⟨B, 4, none⟩ = some (.int .i32 l) ∧ W.cell? ⟨B, 5, none⟩ = some (.int .i32 ls) ∧ W.cell? ⟨B, 6, none⟩ = some (.int .i32 le) ∧
  W.cell? ⟨B, 7, none⟩ = some (.bool hs) ∧ W.cell? ⟨B, 8, none⟩ = some (.bool he) ∧ W.cell? ⟨B, 9, none⟩ = some (.bool true) ∧
  W.frozen? ⟨B, 3, none⟩ = false ∧ W.frozen? ⟨B, 4, none⟩ = false ∧ W.frozen? ⟨B, 5, none⟩ = false ∧ W.frozen? ⟨B, 6, none⟩ = false ∧ W.frozen? ⟨B, 7, none⟩ = false ∧ W.frozen? ⟨B, 8, none⟩ = false
theorem Tk.below {W W' : World} {B : Nat} {s : ByteArray} {o l ls le : Nat} {hs he : Bool} (h : Tk W B s o l ls le hs he) (hb : Below W.heap.size W W') : Tk W' B s o l ls le hs he := by
  obtain ⟨h0, c0, c1, c2, c3, c4, c5, c6, c7, c8, c9, f3, f4, f5, f6, f7, f8⟩ := h
  have e : ∀ i, W'.cell? ⟨B, i, none⟩ = W.cell? ⟨B, i, none⟩ := fun i => hb.cell (p := ⟨B, i, none⟩) h0
  have e' : ∀ i, W'.frozen? ⟨B, i, none⟩ = W.frozen? ⟨B, i, none⟩ := fun i => hb.frozen (p := ⟨B, i, none⟩) h0
  exact ⟨Nat.lt_of_lt_of_le h0 hb.size, (e _).trans c0, (e _).trans c1, (e _).trans c2, (e _).trans c3, (e _).trans c4, (e _).trans c5, (e _).trans c6, (e _).trans c7, (e _).trans c8, (e _).trans c9,
    (e' _).trans f3, (e' _).trans f4, (e' _).trans f5, (e' _).trans f6, (e' _).trans f7, (e' _).trans f8⟩
theorem Tk.kept {W W' : World} {B : Nat} {s : ByteArray} {o l ls le : Nat} {hs he : Bool} {row : Option Nat} (h : Tk W B s o l ls le hs he) (hg : W.grownBy W' row) (hr : row ≠ some B) : Tk W' B s o l ls le hs he := by
  obtain ⟨h0, c0, c1, c2, c3, c4, c5, c6, c7, c8, c9, f3, f4, f5, f6, f7, f8⟩ := h
  have hb : W'.heap[B]? = W.heap[B]? := hg.block B h0 (fun q => hr q.symm)
  have e : ∀ i, W'.cell? ⟨B, i, none⟩ = W.cell? ⟨B, i, none⟩ := fun i => World.cell?_of_block (w := W) hb
  have e' : ∀ i, W'.frozen? ⟨B, i, none⟩ = W.frozen? ⟨B, i, none⟩ := fun i => World.frozen?_of_block (w := W) hb
  exact ⟨Nat.lt_of_lt_of_le h0 hg.size, (e _).trans c0, (e _).trans c1, (e _).trans c2, (e _).trans c3, (e _).trans c4, (e _).trans c5, (e _).trans c6, (e _).trans c7, (e _).trans c8, (e _).trans c9,
    (e' _).trans f3, (e' _).trans f4, (e' _).trans f5, (e' _).trans f6, (e' _).trans f7, (e' _).trans f8⟩
theorem Tk.upd {W : World} {B : Nat} {s : ByteArray} {o l ls le o' l' ls' le' : Nat} {hs he hs' he' : Bool} (h : Tk W B s o l ls le hs he) (i : Nat) (v : Value)
    (hi : (i = 3 ∧ v = .int .i32 o' ∧ l' = l ∧ ls' = ls ∧ le' = le ∧ hs' = hs ∧ he' = he) ∨ (i = 4 ∧ o' = o ∧ v = .int .i32 l' ∧ ls' = ls ∧ le' = le ∧ hs' = hs ∧ he' = he) ∨
      (i = 5 ∧ o' = o ∧ l' = l ∧ v = .int .i32 ls' ∧ le' = le ∧ hs' = hs ∧ he' = he) ∨ (i = 6 ∧ o' = o ∧ l' = l ∧ ls' = ls ∧ v = .int .i32 le' ∧ hs' = hs ∧ he' = he) ∨
      (i = 7 ∧ o' = o ∧ l' = l ∧ ls' = ls ∧ le' = le ∧ v = .bool hs' ∧ he' = he) ∨ (i = 8 ∧ o' = o ∧ l' = l ∧ ls' = ls ∧ le' = le ∧ hs' = hs ∧ v = .bool he')) :
    Tk (W.setCell ⟨B, i, none⟩ v) B s o' l' ls' le' hs' he' := by
  obtain ⟨h0, c0, c1, c2, c3, c4, c5, c6, c7, c8, c9, f3, f4, f5, f6, f7, f8⟩ := h
  have ne : ∀ a, a ≠ i → ∀ u, W.cell? ⟨B, a, none⟩ = some u → (W.setCell ⟨B, i, none⟩ v).cell? ⟨B, a, none⟩ = some u := fun a ha u hu => by
    rw [World.cell?_setCell_other]
    · exact hu
    · intro q; injection q; omega
  have fr : ∀ a, W.frozen? ⟨B, a, none⟩ = false → (W.setCell ⟨B, i, none⟩ v).frozen? ⟨B, a, none⟩ = false := fun a ha => (World.frozen?_setCell _ _ _ _).trans ha
  have hz : (W.setCell ⟨B, i, none⟩ v).heap.size = W.heap.size := by simp
  rcases hi with ⟨rfl, rfl, rfl, rfl, rfl, rfl, rfl⟩ | ⟨rfl, rfl, rfl, rfl, rfl, rfl, rfl⟩ | ⟨rfl, rfl, rfl, rfl, rfl, rfl, rfl⟩ | ⟨rfl, rfl, rfl, rfl, rfl, rfl, rfl⟩ | ⟨rfl, rfl, rfl, rfl, rfl, rfl, rfl⟩ | ⟨rfl, rfl, rfl, rfl, rfl, rfl, rfl⟩
  · exact ⟨by omega, ne 0 (by omega) _ c0, ne 1 (by omega) _ c1, ne 2 (by omega) _ c2, World.cell?_setCell_same _ _ _ c3, ne 4 (by omega) _ c4, ne 5 (by omega) _ c5, ne 6 (by omega) _ c6, ne 7 (by omega) _ c7, ne 8 (by omega) _ c8, ne 9 (by omega) _ c9, fr _ f3, fr _ f4, fr _ f5, fr _ f6, fr _ f7, fr _ f8⟩
  · exact ⟨by omega, ne 0 (by omega) _ c0, ne 1 (by omega) _ c1, ne 2 (by omega) _ c2, ne 3 (by omega) _ c3, World.cell?_setCell_same _ _ _ c4, ne 5 (by omega) _ c5, ne 6 (by omega) _ c6, ne 7 (by omega) _ c7, ne 8 (by omega) _ c8, ne 9 (by omega) _ c9, fr _ f3, fr _ f4, fr _ f5, fr _ f6, fr _ f7, fr _ f8⟩
  · exact ⟨by omega, ne 0 (by omega) _ c0, ne 1 (by omega) _ c1, ne 2 (by omega) _ c2, ne 3 (by omega) _ c3, ne 4 (by omega) _ c4, World.cell?_setCell_same _ _ _ c5, ne 6 (by omega) _ c6, ne 7 (by omega) _ c7, ne 8 (by omega) _ c8, ne 9 (by omega) _ c9, fr _ f3, fr _ f4, fr _ f5, fr _ f6, fr _ f7, fr _ f8⟩
  · exact ⟨by omega, ne 0 (by omega) _ c0, ne 1 (by omega) _ c1, ne 2 (by omega) _ c2, ne 3 (by omega) _ c3, ne 4 (by omega) _ c4, ne 5 (by omega) _ c5, World.cell?_setCell_same _ _ _ c6, ne 7 (by omega) _ c7, ne 8 (by omega) _ c8, ne 9 (by omega) _ c9, fr _ f3, fr _ f4, fr _ f5, fr _ f6, fr _ f7, fr _ f8⟩
  · exact ⟨by omega, ne 0 (by omega) _ c0, ne 1 (by omega) _ c1, ne 2 (by omega) _ c2, ne 3 (by omega) _ c3, ne 4 (by omega) _ c4, ne 5 (by omega) _ c5, ne 6 (by omega) _ c6, World.cell?_setCell_same _ _ _ c7, ne 8 (by omega) _ c8, ne 9 (by omega) _ c9, fr _ f3, fr _ f4, fr _ f5, fr _ f6, fr _ f7, fr _ f8⟩
  · exact ⟨by omega, ne 0 (by omega) _ c0, ne 1 (by omega) _ c1, ne 2 (by omega) _ c2, ne 3 (by omega) _ c3, ne 4 (by omega) _ c4, ne 5 (by omega) _ c5, ne 6 (by omega) _ c6, ne 7 (by omega) _ c7, World.cell?_setCell_same _ _ _ c8, ne 9 (by omega) _ c9, fr _ f3, fr _ f4, fr _ f5, fr _ f6, fr _ f7, fr _ f8⟩

theorem ext_drop (t : ByteArray) (n : Nat) : (t.extract n t.size).data.toList = t.data.toList.drop n := by
  have h : t.data.toList.length = t.size := by rw [Array.length_toList]; rfl
  rw [ByteArray.data_extract, Array.toList_extract]
  simp only [List.extract_eq_take_drop]
  rw [List.take_of_length_le (by rw [List.length_drop, h]; omega)]
theorem ext_take (t : ByteArray) (n : Nat) : (t.extract 0 n).data.toList = t.data.toList.take n := by
  rw [ByteArray.data_extract, Array.toList_extract]
  simp
theorem decGo {s : ByteArray} {k : Nat} {p : Int} {n : Nat} (h : Ch (s.data.toList.drop k) p n) : Lib.decodeGo (s.extract k s.size) = (p.toNat, n) := by
  have e := ext_drop s k
  have hn := h.len
  rw [← e] at h hn
  have hz : (s.extract k s.size).data.toList.length = (s.extract k s.size).size := by rw [Array.length_toList]; rfl
  unfold Lib.decodeGo
  rw [if_neg (by omega)]
  have h2 := Lib.decodeL_drop (s.extract k s.size) 0
  rw [List.drop_zero, dec_ch h] at h2
  exact h2.symm
theorem decLast {s : ByteArray} {k : Nat} {p : Int} {n : Nat} (h : Ch (s.data.toList.drop k) p n) : Lib.decodeLastL (s.extract 0 (k + n)).data.toList = (p.toNat, n) := by
  rw [ext_take]; exact decLast_ch h
/-- what the utf8 package's two tables hold, kept -/
def Tabs (w : World) : Prop := Lib.Utf8Tabs 0 1 w
/-- how the tracker stands at a place -/
def Stand (L : List UInt8) (k c ls le : Nat) (hs he : Bool) : Prop := ∃ j f, At L j k c f ∧ (hs = true → ls = f) ∧ (he = true → Fin L k le)
end Go.Proofs.YtpnigcljndjmlaaDoor.line
