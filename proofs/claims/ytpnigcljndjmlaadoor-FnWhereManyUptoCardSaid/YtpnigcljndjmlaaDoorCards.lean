/-
  DERIVED. GIVEN WITH THE SEED: THE CARDS: each row of YtpnigcljndjmlaaDoorRows.lean that lists a variable, with what it lists TIED to the program's text (the seventh form; the later family's looks); each row that meets fmt, with fmt's text TOLD by the authors' own Lean function (tested against real Go, not proved from fmt's source: count such statements apart). THE CARD IS WHAT COUNTS. Prove the row's statement (the work); the ties are given (YtpnigcljndjmlaaDoorTie.lean); close each card by the builder's one call (the guide's Derived/Test/ToyasCard.lean, 'card_holds'). Laid BY PROGRAM, IN A SANDBOX (cutbox-door.mjs). By AI agents, Wed Nov 11 2026. No macro, syntax, notation, axiom, sorry.
-/
import Derived.Test.YtpnigcljndjmlaaDoorRows
import GoSem.ClaimSeven
namespace Go.Proofs.YtpnigcljndjmlaaDoor
namespace Rows

/-- THE TIED CARD OF 'laws.FnWhere'. -/
def fnWhereCard : Claim7 := { stood := { row := fnWhereRow, standIns := [], harness := (true, "51e78ae6af606b3ff29806b6d100af07953ed77896292989b53259186c6a542d"), looks := false }, kinds := [], alts := [], laidByText := true, laidKinds := [.data, .pinned], laidTests := true, laidLooks := .later }
def FnWhereCardSaid : Prop := Claim7.holds Tryd.pinned (.plain (OpenSpec.ofChange fnWhereSpec)) fnWhereCard

/-- THE TIED CARD OF 'laws.FnWhereLong'. -/
def fnWhereLongCard : Claim7 := { stood := { row := fnWhereLongRow, standIns := [], harness := (true, "51e78ae6af606b3ff29806b6d100af07953ed77896292989b53259186c6a542d"), looks := false }, kinds := [], alts := [], laidByText := true, laidKinds := [.data, .pinned], laidTests := true, laidLooks := .later }
def FnWhereLongCardSaid : Prop := Claim7.holds Tryd.pinned (.plain (OpenSpec.ofChange fnWhereLongSpec)) fnWhereLongCard

/-- THE TIED CARD OF 'laws.FnWhereMany'. -/
def fnWhereManyCard : Claim7 := { stood := { row := fnWhereManyRow, standIns := [], harness := (true, "51e78ae6af606b3ff29806b6d100af07953ed77896292989b53259186c6a542d"), looks := false }, kinds := [], alts := [], laidByText := true, laidKinds := [.data, .pinned], laidTests := true, laidLooks := .later }
def FnWhereManyCardSaid : Prop := Claim7.holds Tryd.pinned (.plain (OpenSpec.ofChange fnWhereManySpec)) fnWhereManyCard

/-- THE SECOND FORM's CARD OF 'laws.FnWhere'. -/
def fnWhereUptoCard : Claim7 := { stood := { row := fnWhereUptoRow, standIns := [], harness := (true, "51e78ae6af606b3ff29806b6d100af07953ed77896292989b53259186c6a542d"), looks := false }, kinds := [], alts := [], laidByText := true, laidKinds := [.data, .pinned], laidTests := true, laidLooks := .later }
def FnWhereUptoCardSaid : Prop := Claim7.holds Tryd.pinned (.plain (OpenSpec.upto fnWhereSpec)) fnWhereUptoCard

/-- THE SECOND FORM's CARD OF 'laws.FnWhereLong'. -/
def fnWhereLongUptoCard : Claim7 := { stood := { row := fnWhereLongUptoRow, standIns := [], harness := (true, "51e78ae6af606b3ff29806b6d100af07953ed77896292989b53259186c6a542d"), looks := false }, kinds := [], alts := [], laidByText := true, laidKinds := [.data, .pinned], laidTests := true, laidLooks := .later }
def FnWhereLongUptoCardSaid : Prop := Claim7.holds Tryd.pinned (.plain (OpenSpec.upto fnWhereLongSpec)) fnWhereLongUptoCard

/-- THE SECOND FORM's CARD OF 'laws.FnWhereMany'. -/
def fnWhereManyUptoCard : Claim7 := { stood := { row := fnWhereManyUptoRow, standIns := [], harness := (true, "51e78ae6af606b3ff29806b6d100af07953ed77896292989b53259186c6a542d"), looks := false }, kinds := [], alts := [], laidByText := true, laidKinds := [.data, .pinned], laidTests := true, laidLooks := .later }
def FnWhereManyUptoCardSaid : Prop := Claim7.holds Tryd.pinned (.plain (OpenSpec.upto fnWhereManySpec)) fnWhereManyUptoCard
end Rows
end Go.Proofs.YtpnigcljndjmlaaDoor
