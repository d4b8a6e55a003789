/- impl.SamePacked: walk. -/
import Derived.Test.YtokafofckjookaaPacked
namespace Go.Proofs.Ytokafofckjookaa.pk
open Go.RowKit Go.Maps Go.Sort
open kit bld

def Sp (l m : List (List UInt8 × List UInt8)) (w : World) (e : Ending) (w' : World) : Prop := ∃ o1 o2 v, Is l o1 ∧ Is m o2 ∧ e = .returned (.bool v) ∧ (v = true ↔ o1 = o2) ∧ Below w.heap.size w w'
theorem Fits.short {o : List (List UInt8 × List UInt8)} (h : Fits o) : Short o := fun p hp => by
  have := h p hp
  exact ⟨by omega, by omega⟩
set_option maxHeartbeats 1600000 in
theorem same_any (l m : List (List UInt8 × List UInt8)) (A A' : Option Addr) (cp cp' : Nat) (w : World) (hR : Rp w w.heap.size A l) (hR' : Rp w w.heap.size A' m) (hf : Fits l) (hf' : Fits m) (hz : l.length ≤ 1048576) (hz' : m.length ≤ 1048576) :
    Calls Try.prog 7 #[.slice A l.length cp, .slice A' m.length cp'] w (Sp l m w) := by
  have X := Lib.hid (packed_any l A cp w hR hf hz)
  have HR' := Lib.hid hR'
  have HF := Lib.hid (And.intro hf hf')
  clear hR hR' hf hf'
  go_enter Try.func7, Try.ntmps7
  go_wp2_with fail
  refine X.out.mono ?_
  rintro e w1 ⟨o1, h1, rfl, hb1⟩
  have X2 := Lib.hid (packed_any m A' cp' w1 ((HR'.out.keep hb1).more hb1.size) HF.out.2 hz')
  have H1 := Lib.hid h1
  have HB1 := Lib.hid hb1
  clear X h1 hb1
  go_wp2_with fail
  refine X2.out.mono ?_
  rintro e w2 ⟨o2, h2, rfl, hb2⟩
  have hb := Lib.hid (HB1.out.trans (hb2.mono HB1.out.size))
  have H2 := Lib.hid h2
  clear X2 h2 hb2
  go_wp2_with fail
  · have hp : pack o1 = pack o2 := by assumption
    have he := pack_inj o1 o2 (H1.out.fits HF.out.1).short (H2.out.fits HF.out.2).short hp
    go_ret
    exact ⟨o1, o2, true, H1.out, H2.out, rfl, ⟨fun _ => he, fun _ => rfl⟩, hb.out⟩
  · have hp : ¬ pack o1 = pack o2 := by assumption
    go_ret
    exact ⟨o1, o2, false, H1.out, H2.out, rfl, ⟨(fun h => by cases h), (fun h => absurd (by rw [h]) hp)⟩, hb.out⟩
end Go.Proofs.Ytokafofckjookaa.pk
