/- For every list of pairs and every text, of bulk at most 1048576 in all: FnPackedValue returns true, and its arguments read behind the call as they read before. -/
import Derived.Test.YtokafofckjookaaPackedValue
import Derived.Test.YtokafofckjookaaOpensP
import Derived.WalkKit
import Derived.ProofKit
import Derived.OpenShut
import Derived.JoinedCond
import Derived.ChangeOld
import Derived.Below
import Derived.ShutString
import Derived.SliceStrings
import Derived.Lib.SmallJoins
namespace Go.Proofs.Ytokafofckjookaa.fnPackedValue
open Go.ChangeShapes Go.WideShapes Go.ChangeAt Go.RowKit Go.Joins
open Go.ChangeMaps (open_string shut_string)
set_option linter.unusedVariables false

theorem own : ownKnob Try.prog.godebug = none := by kernel_rfl
theorem laidOut : laidOutB Try.prog = true := by kernel_rfl

theorem contract (H : Type) (enc : TypeId × Value → H) (W : World) (base : Nat) (args : Array Value) (ds gs : List (DataW H)) (before : List MemPlace)
    (hval : ∀ (j : Nat) t v, Try.f5.params[j]? = some t → args[j]? = some v → Value.okWide Try.prog W .any base t v)
    (hW : DataW.Whole enc Try.prog Try.f5.params.toList Rows.fnPackedValueSpec.vars false W args.toList ds gs before) (hk : Rows.uptoSmall H (ds ++ gs) = true) :
    Calls Try.prog 5 args W fun e W' => ∃ v, e = .returned v ∧ Rows.fnPackedValueSpec.post enc Try.prog Try.f5 false true false false W args v W' := by
  have hW' := hW
  obtain ⟨p, q, hA0, hV, rfl, hfz, hnd⟩ := hW
  have hA : DataW.TrodAll enc Try.prog W 0 (fun _ => true) true Try.f5.params.toList args.toList ds p := hA0
  rw [Try.params5] at hA hval
  obtain ⟨v0, vs0, d0, ds0, p0, q0, hargs, rfl, rfl, h0, r0⟩ := trodAll_cons hA
  obtain ⟨v1, vs1, d1, ds1, p1, q1, rfl, rfl, rfl, h1, r1⟩ := trodAll_cons r0
  obtain ⟨rfl, rfl, rfl⟩ := trodAll_nil r1
  obtain rfl : args = #[v0, v1] := by cases args; simp_all
  obtain ⟨rfl, rfl⟩ := trodVars_none hV
  have k0 := h0
  have lt0 : ∀ x ∈ p0, x.block < W.heap.size := by obtain ⟨m, hm⟩ := k0; exact DataW.trod_lt m _ _ _ hm
  have k1 := h1
  have lt1 : ∀ x ∈ p1, x.block < W.heap.size := by obtain ⟨m, hm⟩ := k1; exact DataW.trod_lt m _ _ _ hm
  have hb0 : Rows.uptoBulkAll (([d0, d1] : List (DataW H))) ≤ 1048576 := by
    have h := of_decide_eq_true hk; simpa only [List.append_nil] using h
  simp only [Rows.uptoBulkAll] at hb0
  obtain ⟨A0, c0, l0, rfl, q0⟩ := opens.open_pairs_arg (hval 0 22 v0 rfl rfl) h0
  obtain ⟨a1, rfl, rfl, rfl, w1⟩ := open_string Try.underlying9 (hval 1 9 v1 rfl rfl) h1
  clear hA0
  try simp only [Rows.uptoBulk] at hb0
  have e1 : a1.data.toList.length = a1.size := by rw [Array.length_toList]; rfl
  have hsz : a1.size ≤ 1048576 := by omega
  refine (walk A0 c0 l0 a1 W (q0 (by omega)) hsz).mono fun e W' ⟨he, bel⟩ => ?_
  subst he
  exact ⟨_, rfl, _, _, _, [], _, [], hW', trodAll_mk1 (shut_bool Try.underlying4 _), (trodAll_cons_mk (Below.trod laidOut (by kernel_rfl) (of_decide_eq_true (by kernel_rfl)) k0 bel lt0) (trodAll_cons_mk (Below.trod laidOut (by kernel_rfl) (of_decide_eq_true (by kernel_rfl)) k1 bel lt1) trodAll_mk0)), rfl, bel.frame _, fun h => by cases h⟩

set_option maxRecDepth 100000 in
theorem lifted (os : Os) (started : os.Started) (H : Type) (enc : TypeId × Value → H) (F : Stop.Interp) :
    ReturnsInHanded {} Try.checked os 5 .any ((Rows.OpenSpec.upto Rows.fnPackedValueSpec).pre6 enc Try.prog Try.f5 Rows.fnPackedValueUptoRow.domain false) (((Rows.OpenSpec.upto Rows.fnPackedValueSpec).at F).post enc Try.prog Try.f5 false true false false) := by
  refine returnsInHanded_of_cond (C := Try.checked) (s := Rows.OpenSpec.upto Rows.fnPackedValueSpec) (k := Rows.uptoSmall) rfl own started (by kernel_rfl) Try.func5
    (OpenSpec.witness (enc := enc) (C := Try.checked) (s := Rows.OpenSpec.upto Rows.fnPackedValueSpec) (k := Rows.uptoSmall) rfl false ⟨#[], #[.slice none 0 0, .string .empty], []⟩ 8 (by kernel_rfl) (by kernel_rfl) (by kernel_rfl)
      (x := ([.nil, .lit (.string [])], [], [])) (by kernel_rfl) rfl (by kernel_rfl)) ?_
  intro W base args ds gs before hval hW _ hk _
  exact contract H enc W base args ds gs before hval hW hk

theorem proved : Rows.FnPackedValueUptoSaid :=
  OpenClaim.holds_of_cond 5 Try.f5 rfl rfl rfl rfl rfl rfl rfl ⟨rfl, rfl, rfl, rfl, rfl⟩ rfl rfl rfl rfl rfl (by kernel_rfl) Try.func5 (by kernel_rfl)
    (of_decide_eq_true (by kernel_rfl)) (by unfold Func.isWrapper; first | (rw [if_pos (by decide +kernel)]; kernel_rfl) | (rw [if_neg (by decide +kernel)]; exact ⟨rfl, rfl⟩))
    (fun os started H enc _ F => lifted os started H enc F)
#print axioms proved
end Go.Proofs.Ytokafofckjookaa.fnPackedValue
