/- FnWhereMany: places that are asked together are told as each by itself. -/
import Derived.Test.YtpnigcljndjmlaaDoorCards
import Derived.Test.YtpnigcljndjmlaaDoorTie
import Derived.Test.YtpnigcljndjmlaaDoorWhereMany
import Derived.WalkKit
import Derived.ProofKit
import Derived.OpenShut
import Derived.JoinedCond
import Derived.ChangeOld
import Derived.Below
import Derived.ShutString
import Derived.SliceStrings
import Derived.Lib.SmallJoins
import Derived.Deep.DeepHandedRow
import Derived.Deep.DeepWitnessRowRef
import Derived.Lib.LaidIn
import Derived.Lib.LaidTab
import Derived.SizedLaws
import Derived.Test.YtpnigcljndjmlaaDoorOpensW
import Derived.Test.YtpnigcljndjmlaaDoorLaidW
namespace Go.Proofs.YtpnigcljndjmlaaDoor.fnWhereMany
open Go.ChangeShapes Go.WideShapes Go.ChangeAt Go.RowKit Go.Joins Go.Lib
open Go.ChangeMaps (open_string shut_string)
set_option linter.unusedVariables false

theorem own : ownKnob Tryd.prog.godebug = none := by kernel_rfl
theorem laidOut : laidOutB Tryd.prog = true := by kernel_rfl

set_option maxRecDepth 100000 in
theorem contract (H : Type) (enc : TypeId × Value → H) (W : World) (base : Nat) (args : Array Value) (ds gs : List (DataW H)) (before : List MemPlace)
    (hval : ∀ (j : Nat) t v, Tryd.f5.params[j]? = some t → args[j]? = some v → Value.okWide Tryd.prog W .any base t v)
    (hW : DataW.Whole enc Tryd.prog Tryd.f5.params.toList Rows.fnWhereManySpec.vars false W args.toList ds gs before) (hk : Rows.uptoSmall H (ds ++ gs) = true)
    (hsz0 : (DataW.weightsEach Tryd.prog (Tryd.f5.params.toList ++ (Rows.OpenSpec.upto Rows.fnWhereManySpec).bare.plain.varTypes Tryd.prog) (ds ++ gs)).all (· ≤ reachBytes) = true) (hL : laidMetH Tryd.prog Rows.fnWhereManyUptoRow.laid W) (hshape : W.ShapedOpen Tryd.prog) :
    Calls Tryd.prog 5 args W fun e W' => ∃ v, e = .returned v ∧ Rows.fnWhereManySpec.post enc Tryd.prog Tryd.f5 false true false false W args v W' := by
  have hW' := hW
  obtain ⟨p, q, hA0, hV, rfl, hfz, hnd⟩ := hW
  have hA : DataW.TrodAll enc Tryd.prog W 0 (fun _ => true) true Tryd.f5.params.toList args.toList ds p := hA0
  rw [Tryd.params5] at hA hval hsz0
  obtain ⟨v0, vs0, d0, ds0, p0, q0, hargs, rfl, rfl, h0, r0⟩ := trodAll_cons hA
  obtain ⟨v1, vs1, d1, ds1, p1, q1, rfl, rfl, rfl, h1, r1⟩ := trodAll_cons r0
  obtain ⟨rfl, rfl, rfl⟩ := trodAll_nil r1
  obtain rfl : args = #[v0, v1] := by cases args; simp_all
  obtain ⟨rfl, rfl⟩ := trodVars_none hV
  have k0 := h0
  have lt0 : ∀ x ∈ p0, x.block < W.heap.size := by obtain ⟨m, hm⟩ := k0; exact DataW.trod_lt m _ _ _ hm
  have k1 := h1
  have lt1 : ∀ x ∈ p1, x.block < W.heap.size := by obtain ⟨m, hm⟩ := k1; exact DataW.trod_lt m _ _ _ hm
  have hb0 : Rows.uptoBulkAll (([d0, d1] : List (DataW H))) ≤ 1048576 := by
    have h := of_decide_eq_true hk; simpa only [List.append_nil] using h
  simp only [Rows.uptoBulkAll] at hb0
  obtain ⟨a0, rfl, rfl, rfl, w0⟩ := open_string Tryd.underlying9 (hval 0 9 v0 rfl rfl) h0
  have hv1 : Value.okWide Tryd.prog W .any base 37 v1 := hval 1 37 v1 rfl rfl
  have wt1 := fun (es sp : List (DataW H)) (e : d1 = .slice es sp) => sized_slice hsz0 (j := 1) (t := 37) (e := 3) rfl (by rw [e]; rfl) Tryd.underlying37
  obtain ⟨A1, c1, xs1, rfl, w1, x1, hb2⟩ := opens.open_ints_arg hv1 h1 wt1
  have hbk1 := hb2
  clear hA0
  try simp only [Rows.uptoBulk] at hb0
  have e0 : a0.data.toList.length = a0.size := by rw [Array.length_toList]; rfl
  have hsz : a0.size + xs1.length ≤ 1048576 := by omega
  have hlaid := laidw.tabs_met hL (by kernel_rfl) (by simp [Rows.fnWhereManyUptoRow]) (by simp [Rows.fnWhereManyUptoRow])
  refine (walk a0 A1 c1 xs1 W w1 hsz hlaid).mono fun e W' ⟨he, bel⟩ => ?_
  subst he
  exact ⟨_, rfl, _, _, _, [], _, [], hW', trodAll_mk1 (shut_bool Tryd.underlying4 _), (trodAll_cons_mk (Below.trod laidOut (by kernel_rfl) (of_decide_eq_true (by kernel_rfl)) k0 bel lt0) (trodAll_cons_mk (Below.trod laidOut (by kernel_rfl) (of_decide_eq_true (by kernel_rfl)) k1 bel lt1) trodAll_mk0)), rfl, bel.frame _, fun h => by cases h⟩

/-- a world for the witness: the settled one, the listed variables holding what their initialisers lay -/
noncomputable def laidWorld (os : Os) : World :=
  let N := (World.settled Tryd.prog os).heap.size
  let w0 := World.holding Tryd.prog os ⟨#[], #[], []⟩
  let put (h : Array Obj) (g : Nat) (cs : Array Value) : Array Obj := h.modify g fun
    | .cells _ t frozen => .cells cs t frozen
    | o => o
  let h0 := put w0.heap 1 #[.int .u8 128, .int .u8 191, .int .u8 160, .int .u8 191, .int .u8 128, .int .u8 159, .int .u8 144, .int .u8 191, .int .u8 128, .int .u8 143, .int .u8 0, .int .u8 0, .int .u8 0, .int .u8 0, .int .u8 0, .int .u8 0, .int .u8 0, .int .u8 0, .int .u8 0, .int .u8 0, .int .u8 0, .int .u8 0, .int .u8 0, .int .u8 0, .int .u8 0, .int .u8 0, .int .u8 0, .int .u8 0, .int .u8 0, .int .u8 0, .int .u8 0, .int .u8 0]
  let h1 := put h0 0 ((List.range 256).map fun c => Value.int .u8 (firstT c)).toArray
  { w0 with heap := h1 }
set_option maxRecDepth 1000000 in
theorem laid_met (os : Os) (args : Array Value) : laidMet Tryd.prog Rows.fnWhereManyUptoRow.laid ((laidWorld os).forCall (fun _ _ => 0) ⟨#[], args, []⟩).memory :=
  (LaidIn.of_run [1, 0] 8 (by kernel_rfl) (by kernel_rfl) (by kernel_rfl) (by kernel_rfl)).met
theorem witness_row (os : Os) {H : Type} (enc : TypeId × Value → H) :
    (Rows.OpenSpec.upto Rows.fnWhereManySpec).preRow enc Tryd.prog Tryd.f5 Rows.fnWhereManyUptoRow.domain false Rows.fnWhereManyUptoRow.laid ((laidWorld os).forCall (fun _ _ => 0) ⟨#[], #[.string .empty, .slice none 0 0], []⟩).memory #[.string .empty, .slice none 0 0] := by
  have hw : (DataW.whole enc Tryd.prog ((laidWorld os).forCall (fun _ _ => 0) ⟨#[], #[.string .empty, .slice none 0 0], []⟩).memory Tryd.f5.params.toList Rows.fnWhereManySpec.vars false (#[.string .empty, .slice none 0 0] : Array Value).toList 8).map (fun x => (x.1, x.2.1)) =
      some ([.lit (.string []), .nil], []) := by kernel_rfl
  obtain ⟨⟨x1, x2, x3⟩, hx, hx1⟩ := Option.map_eq_some_iff.1 hw
  simp only [Prod.mk.injEq] at hx1
  obtain ⟨rfl, rfl⟩ := hx1
  exact OpenSpec.preRow_of_cond 8 hx (by kernel_rfl) (fun k hk => by cases hk; kernel_rfl) (by kernel_rfl) (laid_met os _)

set_option maxRecDepth 100000 in
set_option maxHeartbeats 2000000 in
theorem lifted (os : Os) (started : os.Started) (H : Type) (enc : TypeId × Value → H) (F : Stop.Interp) :
    ReturnsInHanded {} Tryd.checked os 5 .any ((Rows.OpenSpec.upto Rows.fnWhereManySpec).preRow enc Tryd.prog Tryd.f5 Rows.fnWhereManyUptoRow.domain false Rows.fnWhereManyUptoRow.laid) (((Rows.OpenSpec.upto Rows.fnWhereManySpec).at F).post enc Tryd.prog Tryd.f5 false true false false) := by
  refine returnsInHanded_of_row (C := Tryd.checked) (s := Rows.OpenSpec.upto Rows.fnWhereManySpec) own started (by kernel_rfl) Tryd.func5
    (witness_row_atRef (enc := enc) (C := Tryd.checked) false (laidWorld os) #[.string .empty, .slice none 0 0] rfl (by kernel_rfl) (by kernel_rfl) (by kernel_rfl) (witness_row os enc)) ?_
  intro W base args ds gs before hval hW _ hcond hsz hL hshape _
  exact contract H enc W base args ds gs before hval hW (hcond _ rfl) hsz hL hshape

theorem said : Rows.FnWhereManyUptoSaid :=
  OpenClaim.holds_of_cond 5 Tryd.f5 rfl rfl rfl rfl rfl rfl rfl ⟨rfl, rfl, rfl, rfl, rfl⟩ rfl rfl rfl rfl rfl (by kernel_rfl) Tryd.func5 (by kernel_rfl)
    (of_decide_eq_true (by kernel_rfl)) (by unfold Func.isWrapper; first | (rw [if_pos (by decide +kernel)]; kernel_rfl) | (rw [if_neg (by decide +kernel)]; exact ⟨rfl, rfl⟩))
    (fun os started H enc _ F => by rw [OpenClaim.pre_eq_preRow]; exact lifted os started H enc F)

theorem plain (f : FuncId) (fn : Func) (hf : Tryd.pinned.checked.prog.funcNamed "milepeg/laws.FnWhereMany" = some f) (hfn : Tryd.pinned.checked.prog.funcs[f]? = some fn) :
    false = Tryd.pinned.checked.prog.looks [] ∧ ∀ (j : Nat) t, fn.params[j]? = some t → Tryd.pinned.checked.prog.wantsStandIn t = false := by
  obtain rfl : f = 5 := Option.some.inj ((show Tryd.prog.funcNamed "milepeg/laws.FnWhereMany" = some 5 by kernel_rfl).symm.trans hf) |>.symm
  obtain rfl : fn = Tryd.f5 := (Option.some.inj (Tryd.func5.symm.trans hfn)).symm
  refine ⟨by kernel_rfl, fun j t ht => ?_⟩
  rw [Tryd.params5] at ht
  have hm : t = 9 ∨ t = 37 := by simpa using Array.mem_of_getElem? ht
  rcases hm with rfl | rfl
  · exact (show Tryd.prog.wantsStandIn 9 = false by kernel_rfl)
  · exact (show Tryd.prog.wantsStandIn 37 = false by kernel_rfl)

theorem card : Rows.FnWhereManyUptoCardSaid :=
  Claim7.holds_tied_plain_at .later [] _ _ _ _ said (fun _ h => by cases h) (by kernel_rfl) (fun _ h => by cases h) fnWhereManyUpto_row_tie rfl ⟨rfl, rfl⟩ (by kernel_rfl) rfl plain (by kernel_rfl)
#print axioms card
end Go.Proofs.YtpnigcljndjmlaaDoor.fnWhereMany
