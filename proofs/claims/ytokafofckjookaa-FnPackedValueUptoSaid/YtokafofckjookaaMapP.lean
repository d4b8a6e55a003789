/- DecodeIntoMap, impl.PackedValue: walks. -/
import Derived.Test.YtokafofckjookaaDecodeW
import Derived.Test.YtokafofckjookaaPackedW
namespace Go.Proofs.Ytokafofckjookaa.pk
open Go.RowKit Go.Maps Go.Sort
open kit bld

theorem run_makeHint (n : Nat) (w : World) : (Instr.makeMap 37 (some (.int .i64 (n : Nat)))).run Try.prog w = .ok (.map (some w.heap.size)) (w.alloc (.map #[] 0)) := by
  simp [Instr.makeMap, asInt, asIntOf]
/-- what DecodeIntoMap gives -/
def IsMp (o : List (List UInt8 × List UInt8)) (mv : Value) (w' : World) : Prop := (o = [] ∧ mv = .map none) ∨ ∃ b n D, mv = .map (some b) ∧ w'.ownsMap Try.prog 9 (plainElem Try.prog 9) b n D ∧ Rep D o
def DMp (o : List (List UInt8 × List UInt8)) (w : World) (e : Ending) (w' : World) : Prop := ∃ mv, e = .returned mv ∧ IsMp o mv w' ∧ Below w.heap.size w w'

set_option maxHeartbeats 1600000 in
set_option maxRecDepth 100000 in
theorem dmap_any (o : List (List UInt8 × List UInt8)) (w : World) (hf : Fits o) (hz : o.length ≤ 1048576) : Calls Try.prog 12 #[.agg #[.string ⟨(pack o).toArray⟩]] w (DMp o w) := by
  have X1 := Lib.hid (fun W : World => decode_any o W hf hz)
  have HF := Lib.hid hf
  clear hf
  obtain ⟨s, hs⟩ : ∃ s : ByteArray, s = ⟨(pack o).toArray⟩ := ⟨_, rfl⟩
  rw [← hs] at X1 ⊢
  clear hs
  go_enter Try.func12, Try.ntmps12
  go_wp2_with fail
  refine (X1.out _).mono ?_
  rintro e w2 ⟨v2, rfl, h2, hb2⟩
  obtain ⟨A2, c2, rfl, r2⟩ := Rp.of_own h2
  have HR2 := Lib.hid r2
  have HB2 := Lib.hid ((balloc (B := w.heap.size) (o := .cells #[.string s] 32) (Nat.le_refl _) (Below.refl _ w)).trans (hb2.mono (by simp)))
  clear X1 h2 hb2 r2
  by_cases h0 : o.length = 0
  · have h0' : ¬ (0 : Int) < (o.length : Int) := by omega
    have H0 := Lib.hid (List.eq_nil_of_length_eq_zero h0)
    clear h0
    go_wp2_with fail
    go_ret
    exact ⟨_, rfl, Or.inl ⟨H0.out, rfl⟩, HB2.out⟩
  · have h0' : (0 : Int) < (o.length : Int) := by omega
    have h0d : decide (0 < o.length) = true := decide_eq_true (by omega)
    have hmk := run_makeHint o.length w2
    go_wp2_with fail
    clear hmk
    go_loopg [5, 16] o.length (fun g _ s16 wx => ∃ (i : Nat) (D : DataW Unit), i + g = o.length ∧ s16 = .int .i64 (i : Nat) ∧ Hid (wx.ownsMap Try.prog 9 (plainElem Try.prog 9) w2.heap.size i D) ∧ Hid (Rep D (o.take i)) ∧ Hid (Below w2.heap.size w2 wx))
    case atStart => exact ⟨0, .map [], by omega, rfl, Lib.hid (World.ownsMap_made _ _ _ _), Lib.hid Rep.nil, Lib.hid (balloc (Nat.le_refl _) (Below.refl _ _))⟩
    case round =>
      obtain ⟨i, D, hig, rfl, HO, HRep, HB⟩ := hrel
      have hol := HO.out.lt
      cases gk with
      | zero =>
        obtain rfl : i = o.length := by omega
        rw [List.take_length] at HRep
        clear hig
        go_wp2_with fail
        go_ret
        exact ⟨_, rfl, Or.inr ⟨_, _, D, rfl, HO.out, HRep.out⟩, HB2.out.trans (HB.out.mono HB2.out.size)⟩
      | succ g =>
        have hil : i < o.length := by omega
        obtain ⟨⟨k, v⟩, hp⟩ : ∃ p, o[i]? = some p := ⟨_, List.getElem?_eq_getElem hil⟩
        obtain ⟨bl, of, rfl, hbl, hcs⟩ := HR2.out.keep HB.out (by omega)
        have c0 := (hcs i _ hp).1
        have c1 := (hcs i _ hp).2
        have hpf := HF.out (k, v) (List.mem_of_getElem? hp)
        have HT := Lib.hid (show o.take (i + 1) = o.take i ++ [(k, v)] by rw [List.take_add_one, hp]; rfl)
        have HG := Lib.hid hig
        have hil' : (i : Int) < (o.length : Int) := by omega
        have hbr : bl < wr.heap.size := by omega
        have hown := HO.out.alloc (.cells #[.string ⟨k.toArray⟩, .string ⟨v.toArray⟩] 36)
        clear hp hcs hig
        go_wp2_with (at_mapUpdate; refine wpList_mapUpdate_own _ rfl _ _ _ 37 rfl 9 9 lawK Try.underlying37 _ w2.heap.size i _ rfl hown (by unfold maxLen; omega) _ _ _ rfl rfl (key_str k hpf.1) _ [] (elem_str v hpf.2) ?_; intro w1 hown1 hgrow1)
        have H1 := Lib.hid hown1
        have hg := HG.out
        go_roundg g
        case measure => omega
        case rel =>
          refine ⟨i + 1, _, by omega, by go_num, H1, Lib.hid ?_, Lib.hid ?_⟩
          · rw [HT.out]; exact HRep.out.put HO.out.isMap (k, v)
          · exact (HB.out.alloc (by omega) _).grown hgrow1 (by simp; omega) (fun j hj => by cases hj; exact Nat.le_refl _)

theorem ok_run {o : List (List UInt8 × List UInt8)} {mv : Value} {w : World} (h : IsMp o mv w) (key : List UInt8) (hk : key.length ≤ 1048576) :
    (Instr.lookup 37 mv (.string ⟨key.toArray⟩) true).run Try.prog w = .ok (.tuple #[.string ⟨((look o key).getD []).toArray⟩, .bool (look o key).isSome]) w := by
  rcases h with ⟨rfl, rfl⟩ | ⟨b, n, D, rfl, hown, hr⟩
  · rw [Maps.look_nil true lawK Try.underlying37 (zeroE w) (key_str key hk)]
    rfl
  · obtain ⟨u, ps, hrun, hu⟩ := hown.look_ok lawK Try.underlying37 (zeroE w) (plainElem_string Try.underlying9 (s := ⟨#[]⟩) (by decide)) (key_str key hk)
    rw [hr] at hu
    rw [hrun, hr.has]
    obtain ⟨s', rfl, e, _⟩ := plainElem_string_inv Try.underlying9 hu
    cases hl : look o key with
    | some v =>
      rw [hl] at e
      simp only [Prod.mk.injEq, DataW.lit.injEq, Lit.string.injEq] at e
      simp only [Option.getD_some]
      rw [e.1]
    | none =>
      rw [hl] at e
      simp only [Prod.mk.injEq, DataW.lit.injEq, Lit.string.injEq] at e
      simp only [Option.getD_none]
      have : s' = ⟨#[]⟩ := by
        apply ByteArray.ext
        exact Array.ext' e.1.symm
      rw [this]

def Pv (l : List (List UInt8 × List UInt8)) (key : List UInt8) (w : World) (e : Ending) (w' : World) : Prop := e = .returned (.tuple #[.string ⟨((look l key).getD []).toArray⟩, .bool (look l key).isSome]) ∧ Below w.heap.size w w'
set_option maxHeartbeats 1600000 in
theorem value_any (l : List (List UInt8 × List UInt8)) (A : Option Addr) (cp : Nat) (key : List UInt8) (w : World) (hR : Rp w w.heap.size A l) (hf : Fits l) (hz : l.length ≤ 1048576) (hk : key.length ≤ 1048576) :
    Calls Try.prog 9 #[.slice A l.length cp, .string ⟨key.toArray⟩] w (Pv l key w) := by
  have X1 := Lib.hid (packed_any l A cp w hR hf hz)
  have HF := Lib.hid hf
  clear hR hf
  go_enter Try.func9, Try.ntmps9
  go_wp2_with fail
  refine X1.out.mono ?_
  rintro e w1 ⟨o, hI, rfl, hb1⟩
  have hol := hI.len
  have X2 := Lib.hid (dmap_any o w1 (hI.fits HF.out) (by omega))
  have HI := Lib.hid (hI.same key)
  have HB1 := Lib.hid hb1
  clear X1 hI hb1
  go_wp2_with fail
  refine X2.out.mono ?_
  rintro e w2 ⟨mv, rfl, hm, hb2⟩
  have hrun := ok_run hm key hk
  rw [HI.out] at hrun
  have HB2 := Lib.hid (HB1.out.trans (hb2.mono HB1.out.size))
  clear X2 hm hb2
  go_wp2_with fail
  go_ret2
  exact ⟨rfl, HB2.out⟩
end Go.Proofs.Ytokafofckjookaa.pk
