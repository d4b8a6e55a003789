/- impl.packed, impl.SamePacked: walks. -/
import Derived.Test.YtokafofckjookaaEncode
namespace Go.Proofs.Ytokafofckjookaa.pk
open Go.RowKit Go.Maps Go.Sort
open kit bld

/-- a slice of pairs: below block B its cells hold l -/
def Rp (w : World) (B : Nat) (A : Option Addr) (l : List (List UInt8 × List UInt8)) : Prop :=
  0 < l.length → ∃ b o, A = some ⟨b, o, none⟩ ∧ b < B ∧ ∀ (i : Nat) (p : List UInt8 × List UInt8), l[i]? = some p → w.cell? ⟨b, o + i * 2, none⟩ = some (.string ⟨p.1.toArray⟩) ∧ w.cell? ⟨b, o + i * 2 + 1, none⟩ = some (.string ⟨p.2.toArray⟩)
theorem Rp.keep {w w' : World} {B : Nat} {A : Option Addr} {l : List (List UInt8 × List UInt8)} (h : Rp w B A l) (hb : Below B w w') : Rp w' B A l := fun hn => by
  obtain ⟨b, o, e, hB, hc⟩ := h hn
  refine ⟨b, o, e, hB, fun i p hp => ?_⟩
  rw [hb.cell (p := ⟨b, _, none⟩) hB, hb.cell (p := ⟨b, _, none⟩) hB]
  exact hc i p hp
theorem Rp.more {w : World} {B B' : Nat} {A : Option Addr} {l : List (List UInt8 × List UInt8)} (h : Rp w B A l) (hB : B ≤ B') : Rp w B' A l := fun hn => by
  obtain ⟨b, o, e, hb, hc⟩ := h hn
  exact ⟨b, o, e, by omega, hc⟩
theorem encode_any (l : List (List UInt8 × List UInt8)) (b n : Nat) (D : DataW Unit) (w : World) (hown : w.ownsMap Try.prog 9 (plainElem Try.prog 9) b n D) (hr : Rep D l) (hn : n ≤ 1048576) (hf : Fits l) :
    Calls Try.prog 13 #[.map (some b)] w (Enc l w) := by
  by_cases h0 : Maps.size D = 0
  · exact encode_none l b n D w hown hr h0
  · exact encode_some l b n D w hown hr (by omega) hn hf
theorem key_str (k : List UInt8) (h : k.length ≤ 1048576) : keyOf Try.prog 9 (.string ⟨k.toArray⟩) = some (.string k) := by
  have := Go.WideMaps.keyOf_string_mk (P := Try.prog) Try.underlying9 (s := ⟨k.toArray⟩) (by show k.toArray.size ≤ _; unfold maxLen; simp; omega)
  simpa using this
theorem elem_str (k : List UInt8) (h : k.length ≤ 1048576) : plainElem (H := Unit) Try.prog 9 (.string ⟨k.toArray⟩) = some (.lit (.string k), []) := by
  have := plainElem_string (H := Unit) (P := Try.prog) Try.underlying9 (s := ⟨k.toArray⟩) (by show k.toArray.size ≤ _; unfold maxLen; simp; omega)
  simpa using this

set_option maxHeartbeats 1600000 in
set_option maxRecDepth 100000 in
theorem packed_any (l : List (List UInt8 × List UInt8)) (A : Option Addr) (cp : Nat) (w : World) (hR : Rp w w.heap.size A l) (hf : Fits l) (hz : l.length ≤ 1048576) :
    Calls Try.prog 10 #[.slice A l.length cp] w (Enc l w) := by
  have hmm := @run_makeMap Try.prog
  have HR := Lib.hid hR
  have HF := Lib.hid hf
  clear hR hf
  go_enter Try.func10, Try.ntmps10
  go_wp2_with fail
  go_loopg [9] l.length (fun g s9 wx => ∃ (i : Nat) (D : DataW Unit), i + g = l.length ∧ s9 = .int .i64 (i : Nat) ∧ Hid (wx.ownsMap Try.prog 9 (plainElem Try.prog 9) (w.heap.size + 1) i D) ∧ Hid (Rep D (l.take i)) ∧ Hid (Below (w.heap.size + 1) (w.alloc (.cells #[.string ⟨#[]⟩] 32)) wx))
  case atStart =>
    refine ⟨0, .map [], by omega, rfl, Lib.hid ?_, Lib.hid Rep.nil, Lib.hid (balloc (by simp) (Below.refl _ _))⟩
    have := World.ownsMap_made (w.alloc (.cells #[.string ⟨#[]⟩] 32)) Try.prog 9 (plainElem (H := Unit) Try.prog 9)
    rw [World.size_alloc] at this
    exact this
  case round =>
    obtain ⟨i, D, hig, rfl, HO, HRep, HB⟩ := hrel
    have hbz := HB.out.size
    rw [World.size_alloc] at hbz
    have hol := HO.out.lt
    clear hmm
    cases gk with
    | zero =>
      obtain rfl : i = l.length := by omega
      rw [List.take_length] at HRep
      have X := Lib.hid (encode_any l (w.heap.size + 1) l.length D wr HO.out HRep.out hz HF.out)
      clear hig
      go_wp2_with fail
      refine X.out.mono ?_
      rintro e w7 ⟨o, ho, rfl, hb7⟩
      have hW := (balloc (B := w.heap.size) (o := .cells #[.string ⟨#[]⟩] 32) (Nat.le_refl _) (Below.refl _ w)).trans ((HB.out.mono (Nat.le_succ _)).trans (hb7.mono (by omega)))
      have hc := (hb7.block w.heap.size (by omega)).trans ((HB.out.block w.heap.size (by omega)).trans (MapKept.heap_alloc w (.cells #[.string ⟨#[]⟩] 32)).1)
      have c0 : w7.cell? ⟨w.heap.size, 0, none⟩ = some (.string ⟨#[]⟩) := by rw [Lib.cell_of_heap hc]; rfl
      have f0 : w7.frozen? ⟨w.heap.size, 0, none⟩ = false := Lib.frozen_of_heap hc 0
      have HW := Lib.hid hW
      have HOo := Lib.hid ho
      clear hW hc hb7 X HB ho
      go_wp2_with fail
      refine bodyPost_ret (v := .agg #[.string ⟨(pack o).toArray⟩]) ?_ rfl ⟨o, HOo.out, rfl, ?_⟩
      · simp [results, Try.results10, go_sem, c0]
      · exact bset (Nat.le_refl _) HW.out
    | succ g =>
      have hil : i < l.length := by omega
      obtain ⟨p, hp⟩ : ∃ p, l[i]? = some p := ⟨_, List.getElem?_eq_getElem hil⟩
      obtain ⟨bl, of, rfl, hbl, hcs⟩ := HR.out (by omega)
      have hbw : Below w.heap.size w wr := (balloc (B := w.heap.size) (Nat.le_refl _) (Below.refl _ w)).trans (HB.out.mono (Nat.le_succ _))
      have c0 : wr.cell? ⟨bl, of + i * 2, none⟩ = some (.string ⟨p.1.toArray⟩) := by rw [hbw.cell (p := ⟨bl, _, none⟩) hbl]; exact (hcs i p hp).1
      have c1 : wr.cell? ⟨bl, of + i * 2 + 1, none⟩ = some (.string ⟨p.2.toArray⟩) := by rw [hbw.cell (p := ⟨bl, _, none⟩) hbl]; exact (hcs i p hp).2
      obtain ⟨k, v⟩ := p
      have hpf := HF.out (k, v) (List.mem_of_getElem? hp)
      have ht : l.take (i + 1) = l.take i ++ [(k, v)] := by rw [List.take_add_one, hp]; rfl
      have HT := Lib.hid ht
      have HG := Lib.hid hig
      have hil' : (i : Int) < (l.length : Int) := by omega
      have hown := HO.out.alloc (.cells #[.string ⟨k.toArray⟩, .string ⟨v.toArray⟩] 25)
      have hbw' : bl < wr.heap.size := by omega
      clear hp hcs hbw ht hig
      go_wp2_with (at_mapUpdate; refine wpList_mapUpdate_own _ rfl _ _ _ 37 rfl 9 9 lawK Try.underlying37 _ (w.heap.size + 1) i _ rfl hown (by unfold maxLen; omega) _ _ _ rfl rfl (key_str k hpf.1) _ [] (elem_str v hpf.2) ?_; intro w1 hown1 hgrow1)
      have H1 := Lib.hid hown1
      have hg := HG.out
      go_roundg g
      case measure => omega
      case rel =>
        refine ⟨i + 1, _, by omega, by go_num, H1, Lib.hid ?_, Lib.hid ?_⟩
        · rw [HT.out]; exact HRep.out.put HO.out.isMap (k, v)
        · exact (HB.out.alloc (by omega) _).grown hgrow1 (by simp; omega) (fun j hj => by cases hj; omega)
end Go.Proofs.Ytokafofckjookaa.pk
