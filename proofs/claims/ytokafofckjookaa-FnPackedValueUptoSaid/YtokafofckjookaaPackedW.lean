/- impl.Packed: walk. -/
import Derived.Test.YtokafofckjookaaDecodeW
import Derived.Test.YtokafofckjookaaPacked
namespace Go.Proofs.Ytokafofckjookaa.pk
open Go.RowKit
open kit bld

theorem nodup_sub {α : Type} [DecidableEq α] : ∀ (o l : List α), o.Nodup → (∀ x ∈ o, x ∈ l) → o.length ≤ l.length
  | [], l, _, _ => by simp
  | a :: o, l, hn, hs => by
    have h1 := List.nodup_cons.1 hn
    have ha := hs a List.mem_cons_self
    have h2 := nodup_sub o (l.erase a) h1.2 (fun x hx => (List.mem_erase_of_ne (by rintro rfl; exact h1.1 hx)).2 (hs x (List.mem_cons_of_mem _ hx)))
    rw [List.length_erase_of_mem ha] at h2
    have : 0 < l.length := List.length_pos_of_mem ha
    rw [List.length_cons]
    omega
theorem Is.len {l o : List (List UInt8 × List UInt8)} (h : Is l o) : o.length ≤ l.length := nodup_sub o l h.1.nodup (fun p hp => look_mem ((h.2 p.1 p.2).1 hp))

theorem two_at (w : World) (o : Obj) (x y : Value) (t : TypeId) : ∀ (j : Nat) (u : Value), [x, y][j]? = some u → ((w.alloc o).alloc (.cells #[x, y] t)).cell? ((⟨w.heap.size + 1, 0, none⟩ : Addr).add j) = some u := by
  have h := two_newA (w.alloc o) x y t
  rw [World.size_alloc] at h
  exact h

def Pks (l : List (List UInt8 × List UInt8)) (w : World) (e : Ending) (w' : World) : Prop := ∃ v o, e = .returned v ∧ w'.ownsRow w.heap.size 25 2 v o.length (pcells o) ∧ Is l o ∧ Below w.heap.size w w'

set_option maxHeartbeats 1600000 in
set_option maxRecDepth 100000 in
theorem packs_any (l : List (List UInt8 × List UInt8)) (A : Option Addr) (cp : Nat) (w : World) (hR : Rp w w.heap.size A l) (hf : Fits l) (hz : l.length ≤ 1048576) :
    Calls Try.prog 8 #[.slice A l.length cp] w (Pks l w) := by
  obtain ⟨i0, hi, hz0, hz1, hz2⟩ := info_parts infoPair
  have X1 := Lib.hid (packed_any l A cp w hR hf hz)
  have HF := Lib.hid hf
  clear hR hf
  go_enter Try.func8, Try.ntmps8
  go_wp2_with fail
  refine X1.out.mono ?_
  rintro e w1 ⟨o, hI, rfl, hb1⟩
  have hol := hI.len
  have X2 := Lib.hid (decode_any o w1 (hI.fits HF.out) (by omega))
  have HI := Lib.hid hI
  have HB1 := Lib.hid hb1
  clear X1 hI hb1
  go_wp2_with fail
  refine X2.out.mono ?_
  rintro e w2 ⟨v2, rfl, h2, hb2⟩
  obtain ⟨A2, c2, rfl, r2⟩ := Rp.of_own h2
  have HR2 := Lib.hid r2
  have HB2 := Lib.hid (HB1.out.trans (hb2.mono HB1.out.size))
  clear X2 h2 hb2 r2
  go_wp2_with fail
  go_loopg [3, 5, 10] o.length (fun g s3 _ s10 wx => ∃ i : Nat, i + g = o.length ∧ s10 = .int .i64 (i : Nat) ∧ wx.ownsRow w2.heap.size 25 2 s3 (o.take i).length (pcells (o.take i)) ∧ Hid (Below w2.heap.size w2 wx))
  case atStart => exact ⟨0, by omega, rfl, ⟨rfl, Or.inl ⟨rfl, rfl⟩⟩, Lib.hid (Below.refl _ _)⟩
  case round =>
    obtain ⟨i, hig, rfl, hrow, HB⟩ := hrel
    have hbz := HB.out.size
    cases gk with
    | zero =>
      obtain rfl : i = o.length := by omega
      rw [List.take_length] at hrow
      have HW := Lib.hid hrow
      clear hrow hig
      go_wp2_with fail
      go_ret
      exact ⟨_, o, rfl, own_mono HW.out HB2.out.size, HI.out, HB2.out.trans (HB.out.mono HB2.out.size)⟩
    | succ g =>
      have hil : i < o.length := by omega
      obtain ⟨⟨k, v⟩, hp⟩ : ∃ p, o[i]? = some p := ⟨_, List.getElem?_eq_getElem hil⟩
      obtain ⟨bl, of, rfl, hbl, hcs⟩ := HR2.out.keep HB.out (by omega)
      have c0 := (hcs i _ hp).1
      have c1 := (hcs i _ hp).2
      have HT := Lib.hid (show o.take (i + 1) = o.take i ++ [(k, v)] by rw [List.take_add_one, hp]; rfl)
      have HG := Lib.hid hig
      have hil' : (i : Int) < (o.length : Int) := by omega
      have hbr : bl < wr.heap.size := by omega
      have hrow' := hrow.alloc (.cells #[.string ⟨k.toArray⟩, .string ⟨v.toArray⟩] 36)
      clear hp hcs hig
      go_wp2_with (at_builtin; refine wpList_append_own _ rfl _ _ 22 rfl w2.heap.size 25 i0 (.agg #[.string ⟨#[]⟩, .string ⟨#[]⟩]) 2 32 Try.underlying22 hi hz0 hz1 hz2 rfl (by decide) _ _ _ rfl (hrow'.alloc _) ⟨wr.heap.size + 1, 0, none⟩ 1 1 [.string ⟨k.toArray⟩, .string ⟨v.toArray⟩] rfl rfl (two_at _ _ _ _ _) (two_oneA _ _) (by rw [List.length_take]; unfold maxLen; omega) (by rw [List.length_take]; omega) (by simp; omega) ?_; intro v7 w7 hown7 hg7 hnil7; go_frame)
      have hg := HG.out
      go_roundg g
      case measure => omega
      case rel =>
        refine ⟨i + 1, by omega, by go_num, ?_, Lib.hid ?_⟩
        · rw [HT.out, pcells_append, List.length_append]
          exact hown7
        · exact (((HB.out.alloc hbz _).alloc (by simp; omega) _)).grown hg7 (by simp; omega) (fun j hj => (hrow'.lt j hj).1)
end Go.Proofs.Ytokafofckjookaa.pk
