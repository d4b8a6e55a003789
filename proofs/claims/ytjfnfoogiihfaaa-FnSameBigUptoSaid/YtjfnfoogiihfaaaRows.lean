/-
  No cell of these rows narrows 'for every input' (looked for: loops, veiled, ifaces, maps, wideKeys, modest, calm, conditions, laid).
  DERIVED. THE GIVEN ROWS OF THIS SEAT. 4 by the template 'for every input the law returns true; each argument reads behind the call as it read before'; 0 by the template 'total and deterministic' (their statements: YtjfnfoogiihfaaaTotals.lean).
  GIVEN WITH THE SEED: the statements are not yours to turn. If you find one false, say at which input.
  Laid BY PROGRAM, IN A SANDBOX (cutbox-rows.mjs): the forced cells as the released guide's own fill.sh prints them over the translation 9ba41a4e1f8d8468… (all of the seat's roots in one cut). By AI agents, Wed Nov 11 2026. No macro, syntax, notation, axiom, sorry.
-/
import Derived.Test.YtjfnfoogiihfaaaChecked
import GoSem.Claim
import GoSem.ClaimJoined
import GoSem.ClaimMapViews
import Derived.JoinedTies
import Derived.KernelRfl
namespace Go.Proofs.Ytjfnfoogiihfaaa
/- THE CELL 'sum', in the pinned program and in every row, IS THE sha256 OF THE DUMP (.gsa) THAT YtjfnfoogiihfaaaProg.lean LOADS. Nothing in Lean hashes anything: it is a label: what it is worth is what the hold of that sum in a sandbox is worth. -/
noncomputable def Try.pinned : Pinned := { name := "ytjfnfoogiihfaaa", sum := "9ba41a4e1f8d84680f0d298e521f9e667ba0de2030d33748b929bd0af0efa484", checked := Try.checked }
namespace Rows
def none {H : Type} : Left H := { results := [], args := [] }

/-- 'laws.FnTextFor': WHATEVER THE INPUT: true; the input reads as it did. -/
def fnTextForSpec : ChangeSpec := { name := "fnTextFor", fn := fun _ => fun
  | [d1, d2, d3] => { results := [.lit (.bool true)], args := [d1, d2, d3] }
  | _ => none }
def fnTextForRow : OpenClaim := { program := "ytjfnfoogiihfaaa", sum := "9ba41a4e1f8d84680f0d298e521f9e667ba0de2030d33748b929bd0af0efa484", func := "milepeg/laws.FnTextFor", spec := "fnTextFor", apart := false }
def FnTextForSaid : Prop := fnTextForRow.holds Try.pinned (OpenSpec.ofChange fnTextForSpec)

/-- ITS FALSE NEIGHBOUR: 'it returns false'. Refute it at one input. -/
def fnTextForWrong : ChangeSpec := { name := "fnTextFor", fn := fun _ => fun
  | [d1, d2, d3] => { results := [.lit (.bool false)], args := [d1, d2, d3] }
  | _ => none }
def FnTextForWrongFalsely : Prop := fnTextForRow.holds Try.pinned (OpenSpec.ofChange fnTextForWrong)

/-- 'laws.FnSameBig': WHATEVER THE INPUT: true; the input reads as it did. -/
def fnSameBigSpec : ChangeSpec := { name := "fnSameBig", fn := fun _ => fun
  | [d1, d2] => { results := [.lit (.bool true)], args := [d1, d2] }
  | _ => none }
def fnSameBigRow : OpenClaim := { program := "ytjfnfoogiihfaaa", sum := "9ba41a4e1f8d84680f0d298e521f9e667ba0de2030d33748b929bd0af0efa484", func := "milepeg/laws.FnSameBig", spec := "fnSameBig", apart := false }
def FnSameBigSaid : Prop := fnSameBigRow.holds Try.pinned (OpenSpec.ofChange fnSameBigSpec)

/-- ITS FALSE NEIGHBOUR: 'it returns false'. Refute it at one input. -/
def fnSameBigWrong : ChangeSpec := { name := "fnSameBig", fn := fun _ => fun
  | [d1, d2] => { results := [.lit (.bool false)], args := [d1, d2] }
  | _ => none }
def FnSameBigWrongFalsely : Prop := fnSameBigRow.holds Try.pinned (OpenSpec.ofChange fnSameBigWrong)

/-- 'laws.FnNumber': WHATEVER THE INPUT: true; the input reads as it did. -/
def fnNumberSpec : ChangeSpec := { name := "fnNumber", fn := fun _ => fun
  | [d1, d2, d3] => { results := [.lit (.bool true)], args := [d1, d2, d3] }
  | _ => none }
def fnNumberRow : OpenClaim := { program := "ytjfnfoogiihfaaa", sum := "9ba41a4e1f8d84680f0d298e521f9e667ba0de2030d33748b929bd0af0efa484", func := "milepeg/laws.FnNumber", spec := "fnNumber", apart := false }
def FnNumberSaid : Prop := fnNumberRow.holds Try.pinned (OpenSpec.ofChange fnNumberSpec)

/-- ITS FALSE NEIGHBOUR: 'it returns false'. Refute it at one input. -/
def fnNumberWrong : ChangeSpec := { name := "fnNumber", fn := fun _ => fun
  | [d1, d2, d3] => { results := [.lit (.bool false)], args := [d1, d2, d3] }
  | _ => none }
def FnNumberWrongFalsely : Prop := fnNumberRow.holds Try.pinned (OpenSpec.ofChange fnNumberWrong)

/-- 'laws.FnExpanded': WHATEVER THE INPUT: true; the input reads as it did. -/
def fnExpandedSpec : ChangeSpec := { name := "fnExpanded", fn := fun _ => fun
  | [d1, d2, d3, d4] => { results := [.lit (.bool true)], args := [d1, d2, d3, d4] }
  | _ => none }
def fnExpandedRow : OpenClaim := { program := "ytjfnfoogiihfaaa", sum := "9ba41a4e1f8d84680f0d298e521f9e667ba0de2030d33748b929bd0af0efa484", func := "milepeg/laws.FnExpanded", spec := "fnExpanded", unfollowed := true, recurses := true, apart := false }
def FnExpandedSaid : Prop := fnExpandedRow.holds Try.pinned (OpenSpec.ofChange fnExpandedSpec)

/-- ITS FALSE NEIGHBOUR: 'it returns false'. Refute it at one input. -/
def fnExpandedWrong : ChangeSpec := { name := "fnExpanded", fn := fun _ => fun
  | [d1, d2, d3, d4] => { results := [.lit (.bool false)], args := [d1, d2, d3, d4] }
  | _ => none }
def FnExpandedWrongFalsely : Prop := fnExpandedRow.holds Try.pinned (OpenSpec.ofChange fnExpandedWrong)

/- THE SECOND FORM. 'bulk': how many values and letters a reading holds, each counted each time it is reached (what is shared counts as often as it is met; a slice's spare places count too). A statement '..UptoSaid' is the law's where the arguments, and the package variables that the reading takes, are together of bulk at most 1048576: NARROWER than '..Said'. Prove '..Said' where nothing that the law and all that it calls make is longer than what came in: it says more and counts as full. Else prove '..UptoSaid'. A law counts once. -/
mutual
def uptoBulk {H : Type} : DataW H → Nat
  | .lit (.string bytes) => bytes.length + 1
  | .lit _ => 1
  | .nil => 1
  | .ptr d => uptoBulk d + 1
  | .slice elems spare => uptoBulkAll elems + uptoBulkAll spare + 1
  | .agg parts => uptoBulkAll parts + 1
  | .iface _ d => uptoBulk d + 1
  | .map entries => uptoBulkEntries entries + 1
  | .held _ => 1
def uptoBulkAll {H : Type} : List (DataW H) → Nat
  | [] => 0
  | d :: r => uptoBulk d + uptoBulkAll r
def uptoBulkEntries {H : Type} : List (Lit × DataW H) → Nat
  | [] => 0
  | x :: r => uptoBulkEntry x + uptoBulkEntries r
def uptoBulkEntry {H : Type} : Lit × DataW H → Nat
  | (.string bytes, d) => bytes.length + uptoBulk d + 1
  | (_, d) => uptoBulk d + 1
 end
def uptoSmall : (H : Type) → List (DataW H) → Bool := fun _ ds => decide (uptoBulkAll ds ≤ 1048576)
def OpenSpec.upto (s : _root_.Go.ChangeSpec) : _root_.Go.OpenSpec := { _root_.Go.OpenSpec.ofChange s with cond := some uptoSmall }

/-- 'laws.FnTextFor', WHERE WHAT IT READS IS OF BULK AT MOST 1048576: true; the input reads as it did. -/
def fnTextForUptoRow : OpenClaim := { program := "ytjfnfoogiihfaaa", sum := "9ba41a4e1f8d84680f0d298e521f9e667ba0de2030d33748b929bd0af0efa484", func := "milepeg/laws.FnTextFor", spec := "fnTextFor", apart := false, narrowed := true }
def FnTextForUptoSaid : Prop := fnTextForUptoRow.holds Try.pinned (OpenSpec.upto fnTextForSpec)

/-- 'laws.FnSameBig', WHERE WHAT IT READS IS OF BULK AT MOST 1048576: true; the input reads as it did. -/
def fnSameBigUptoRow : OpenClaim := { program := "ytjfnfoogiihfaaa", sum := "9ba41a4e1f8d84680f0d298e521f9e667ba0de2030d33748b929bd0af0efa484", func := "milepeg/laws.FnSameBig", spec := "fnSameBig", apart := false, narrowed := true }
def FnSameBigUptoSaid : Prop := fnSameBigUptoRow.holds Try.pinned (OpenSpec.upto fnSameBigSpec)

/-- 'laws.FnNumber', WHERE WHAT IT READS IS OF BULK AT MOST 1048576: true; the input reads as it did. -/
def fnNumberUptoRow : OpenClaim := { program := "ytjfnfoogiihfaaa", sum := "9ba41a4e1f8d84680f0d298e521f9e667ba0de2030d33748b929bd0af0efa484", func := "milepeg/laws.FnNumber", spec := "fnNumber", apart := false, narrowed := true }
def FnNumberUptoSaid : Prop := fnNumberUptoRow.holds Try.pinned (OpenSpec.upto fnNumberSpec)

/-- 'laws.FnExpanded', WHERE WHAT IT READS IS OF BULK AT MOST 1048576: true; the input reads as it did. -/
def fnExpandedUptoRow : OpenClaim := { program := "ytjfnfoogiihfaaa", sum := "9ba41a4e1f8d84680f0d298e521f9e667ba0de2030d33748b929bd0af0efa484", func := "milepeg/laws.FnExpanded", spec := "fnExpanded", unfollowed := true, recurses := true, apart := false, narrowed := true }
def FnExpandedUptoSaid : Prop := fnExpandedUptoRow.holds Try.pinned (OpenSpec.upto fnExpandedSpec)

end Rows
end Go.Proofs.Ytjfnfoogiihfaaa
