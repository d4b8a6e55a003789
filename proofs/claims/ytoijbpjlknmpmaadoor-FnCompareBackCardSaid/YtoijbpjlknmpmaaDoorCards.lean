/-
  DERIVED. GIVEN WITH THE SEED: THE CARDS: each row of YtoijbpjlknmpmaaDoorRows.lean that lists a variable, with what it lists TIED to the program's text (the seventh form; the later family's looks); each row that meets fmt, with fmt's text TOLD by the authors' own Lean function (tested against real Go, not proved from fmt's source: count such statements apart). THE CARD IS WHAT COUNTS. Prove the row's statement (the work); the ties are given (YtoijbpjlknmpmaaDoorTie.lean); close each card by the builder's one call (the guide's Derived/Test/ToyasCard.lean, 'card_holds'). Laid BY PROGRAM, IN A SANDBOX (cutbox-door.mjs). By AI agents, Wed Nov 11 2026. No macro, syntax, notation, axiom, sorry.
-/
import Derived.Test.YtoijbpjlknmpmaaDoorRows
import GoSem.ClaimSeven
namespace Go.Proofs.YtoijbpjlknmpmaaDoor
namespace Rows

/-- THE TIED CARD OF 'laws.FnSameBigKnown'. -/
def fnSameBigKnownCard : Claim7 := { stood := { row := fnSameBigKnownRow, standIns := [], harness := (true, "a689534cd9a717c6426d37d6589d7f57bcb7c78910778833d5af082c60e7fecc"), looks := true }, kinds := [], alts := [], laidByText := true, laidKinds := [.data, .data, .data], laidTests := true, laidLooks := .later }
def FnSameBigKnownCardSaid : Prop := Claim7.holds Tryd.pinned (.plain (OpenSpec.ofChange fnSameBigKnownSpec)) fnSameBigKnownCard

/-- THE TIED CARD OF 'laws.FnVersionText'. -/
def fnVersionTextCard : Claim7 := { stood := { row := fnVersionTextRow, standIns := [], harness := (true, "a689534cd9a717c6426d37d6589d7f57bcb7c78910778833d5af082c60e7fecc"), looks := true }, kinds := [], alts := [], laidByText := true, laidKinds := [.data, .data, .data], laidTests := true, laidLooks := .later }
def FnVersionTextCardSaid : Prop := Claim7.holds Tryd.pinned (.plain (OpenSpec.ofChange fnVersionTextSpec)) fnVersionTextCard

/-- THE TIED CARD OF 'laws.FnCompareBack'. -/
def fnCompareBackCard : Claim7 := { stood := { row := fnCompareBackRow, standIns := [], harness := (true, "a689534cd9a717c6426d37d6589d7f57bcb7c78910778833d5af082c60e7fecc"), looks := true }, kinds := [], alts := [], laidByText := true, laidKinds := [.data, .data, .data, .sentinel, .sentinel], laidTests := true, laidLooks := .later }
def FnCompareBackCardSaid : Prop := Claim7.holds Tryd.pinned (.plain (OpenSpec.ofChange fnCompareBackSpec)) fnCompareBackCard

/-- THE TIED CARD OF 'laws.FnCompareMore'. -/
def fnCompareMoreCard : Claim7 := { stood := { row := fnCompareMoreRow, standIns := [], harness := (true, "a689534cd9a717c6426d37d6589d7f57bcb7c78910778833d5af082c60e7fecc"), looks := true }, kinds := [], alts := [], laidByText := true, laidKinds := [.data, .data, .data, .sentinel, .sentinel], laidTests := true, laidLooks := .later }
def FnCompareMoreCardSaid : Prop := Claim7.holds Tryd.pinned (.plain (OpenSpec.ofChange fnCompareMoreSpec)) fnCompareMoreCard

/-- THE TIED CARD OF 'laws.FnCompare'. -/
def fnCompareCard : Claim7 := { stood := { row := fnCompareRow, standIns := [], harness := (true, "a689534cd9a717c6426d37d6589d7f57bcb7c78910778833d5af082c60e7fecc"), looks := true }, kinds := [], alts := [], laidByText := true, laidKinds := [.data, .data, .data, .sentinel, .sentinel], laidTests := true, laidLooks := .later }
def FnCompareCardSaid : Prop := Claim7.holds Tryd.pinned (.plain (OpenSpec.ofChange fnCompareSpec)) fnCompareCard

/-- THE SECOND FORM's CARD OF 'laws.FnSameBigKnown'. -/
def fnSameBigKnownUptoCard : Claim7 := { stood := { row := fnSameBigKnownUptoRow, standIns := [], harness := (true, "a689534cd9a717c6426d37d6589d7f57bcb7c78910778833d5af082c60e7fecc"), looks := true }, kinds := [], alts := [], laidByText := true, laidKinds := [.data, .data, .data], laidTests := true, laidLooks := .later }
def FnSameBigKnownUptoCardSaid : Prop := Claim7.holds Tryd.pinned (.plain (OpenSpec.upto fnSameBigKnownSpec)) fnSameBigKnownUptoCard

/-- THE SECOND FORM's CARD OF 'laws.FnVersionText'. -/
def fnVersionTextUptoCard : Claim7 := { stood := { row := fnVersionTextUptoRow, standIns := [], harness := (true, "a689534cd9a717c6426d37d6589d7f57bcb7c78910778833d5af082c60e7fecc"), looks := true }, kinds := [], alts := [], laidByText := true, laidKinds := [.data, .data, .data], laidTests := true, laidLooks := .later }
def FnVersionTextUptoCardSaid : Prop := Claim7.holds Tryd.pinned (.plain (OpenSpec.upto fnVersionTextSpec)) fnVersionTextUptoCard

/-- THE SECOND FORM's CARD OF 'laws.FnCompareBack'. -/
def fnCompareBackUptoCard : Claim7 := { stood := { row := fnCompareBackUptoRow, standIns := [], harness := (true, "a689534cd9a717c6426d37d6589d7f57bcb7c78910778833d5af082c60e7fecc"), looks := true }, kinds := [], alts := [], laidByText := true, laidKinds := [.data, .data, .data, .sentinel, .sentinel], laidTests := true, laidLooks := .later }
def FnCompareBackUptoCardSaid : Prop := Claim7.holds Tryd.pinned (.plain (OpenSpec.upto fnCompareBackSpec)) fnCompareBackUptoCard

/-- THE SECOND FORM's CARD OF 'laws.FnCompareMore'. -/
def fnCompareMoreUptoCard : Claim7 := { stood := { row := fnCompareMoreUptoRow, standIns := [], harness := (true, "a689534cd9a717c6426d37d6589d7f57bcb7c78910778833d5af082c60e7fecc"), looks := true }, kinds := [], alts := [], laidByText := true, laidKinds := [.data, .data, .data, .sentinel, .sentinel], laidTests := true, laidLooks := .later }
def FnCompareMoreUptoCardSaid : Prop := Claim7.holds Tryd.pinned (.plain (OpenSpec.upto fnCompareMoreSpec)) fnCompareMoreUptoCard

/-- THE SECOND FORM's CARD OF 'laws.FnCompare'. -/
def fnCompareUptoCard : Claim7 := { stood := { row := fnCompareUptoRow, standIns := [], harness := (true, "a689534cd9a717c6426d37d6589d7f57bcb7c78910778833d5af082c60e7fecc"), looks := true }, kinds := [], alts := [], laidByText := true, laidKinds := [.data, .data, .data, .sentinel, .sentinel], laidTests := true, laidLooks := .later }
def FnCompareUptoCardSaid : Prop := Claim7.holds Tryd.pinned (.plain (OpenSpec.upto fnCompareSpec)) fnCompareUptoCard
end Rows
end Go.Proofs.YtoijbpjlknmpmaaDoor
