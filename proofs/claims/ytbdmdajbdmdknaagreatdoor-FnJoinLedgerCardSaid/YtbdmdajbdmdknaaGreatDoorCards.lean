/-
  DERIVED. GIVEN WITH THE SEED: THE CARDS: each row of YtbdmdajbdmdknaaGreatDoorRows.lean that lists a variable, with what it lists TIED to the program's text (the seventh form; the later family's looks); each row that meets fmt, with fmt's text TOLD by the authors' own Lean function (tested against real Go, not proved from fmt's source: count such statements apart). THE CARD IS WHAT COUNTS. Prove the row's statement (the work); the ties are given (YtbdmdajbdmdknaaGreatDoorTie.lean); close each card by the builder's one call (the guide's Derived/Test/ToyasCard.lean, 'card_holds'). Laid BY PROGRAM, IN A SANDBOX (cutbox-door.mjs). By AI agents, Wed Nov 11 2026. No macro, syntax, notation, axiom, sorry.
-/
import Derived.Test.YtbdmdajbdmdknaaGreatDoorRows
import GoSem.ClaimSeven
namespace Go.Proofs.YtbdmdajbdmdknaaGreatDoor
namespace Rows

/-- THE TIED CARD OF 'laws.FnHeadCodedWrong'. -/
def fnHeadCodedWrongCard : Claim7 := { stood := { row := fnHeadCodedWrongRow, standIns := [], harness := (true, "ee3efa9e0a75da9df704d553e60c0775e662f087eb8ed798a61587044d508d29"), looks := true }, kinds := [], alts := [], laidByText := true, laidKinds := [.data, .data, .data, .data, .sentinel, .sentinel, .pinned], laidTests := true, laidLooks := .later }
def FnHeadCodedWrongCardSaid : Prop := Claim7.holds Tryz.pinned (.plain (OpenSpec.ofChange fnHeadCodedWrongSpec)) fnHeadCodedWrongCard

/-- THE TIED CARD OF 'laws.FnJoinNested'. -/
def fnJoinNestedCard : Claim7 := { stood := { row := fnJoinNestedRow, standIns := [], harness := (true, "ee3efa9e0a75da9df704d553e60c0775e662f087eb8ed798a61587044d508d29"), looks := true }, kinds := [], alts := [], laidByText := true, laidKinds := [.data, .data, .data, .sentinel, .sentinel, .sentinel], laidTests := true, laidLooks := .later }
def FnJoinNestedCardSaid : Prop := Claim7.holds Tryz.pinned (.plain (OpenSpec.ofChange fnJoinNestedSpec)) fnJoinNestedCard

/-- THE TIED CARD OF 'laws.FnJoinLedger'. -/
def fnJoinLedgerCard : Claim7 := { stood := { row := fnJoinLedgerRow, standIns := [], harness := (true, "ee3efa9e0a75da9df704d553e60c0775e662f087eb8ed798a61587044d508d29"), looks := true }, kinds := [], alts := [], laidByText := true, laidKinds := [.data, .data, .data, .sentinel, .sentinel, .sentinel], laidTests := true, laidLooks := .later }
def FnJoinLedgerCardSaid : Prop := Claim7.holds Tryz.pinned (.plain (OpenSpec.ofChange fnJoinLedgerSpec)) fnJoinLedgerCard

/-- THE SECOND FORM's CARD OF 'laws.FnHeadCodedWrong'. -/
def fnHeadCodedWrongUptoCard : Claim7 := { stood := { row := fnHeadCodedWrongUptoRow, standIns := [], harness := (true, "ee3efa9e0a75da9df704d553e60c0775e662f087eb8ed798a61587044d508d29"), looks := true }, kinds := [], alts := [], laidByText := true, laidKinds := [.data, .data, .data, .data, .sentinel, .sentinel, .pinned], laidTests := true, laidLooks := .later }
def FnHeadCodedWrongUptoCardSaid : Prop := Claim7.holds Tryz.pinned (.plain (OpenSpec.upto fnHeadCodedWrongSpec)) fnHeadCodedWrongUptoCard

/-- THE SECOND FORM's CARD OF 'laws.FnJoinNested'. -/
def fnJoinNestedUptoCard : Claim7 := { stood := { row := fnJoinNestedUptoRow, standIns := [], harness := (true, "ee3efa9e0a75da9df704d553e60c0775e662f087eb8ed798a61587044d508d29"), looks := true }, kinds := [], alts := [], laidByText := true, laidKinds := [.data, .data, .data, .sentinel, .sentinel, .sentinel], laidTests := true, laidLooks := .later }
def FnJoinNestedUptoCardSaid : Prop := Claim7.holds Tryz.pinned (.plain (OpenSpec.upto fnJoinNestedSpec)) fnJoinNestedUptoCard

/-- THE SECOND FORM's CARD OF 'laws.FnJoinLedger'. -/
def fnJoinLedgerUptoCard : Claim7 := { stood := { row := fnJoinLedgerUptoRow, standIns := [], harness := (true, "ee3efa9e0a75da9df704d553e60c0775e662f087eb8ed798a61587044d508d29"), looks := true }, kinds := [], alts := [], laidByText := true, laidKinds := [.data, .data, .data, .sentinel, .sentinel, .sentinel], laidTests := true, laidLooks := .later }
def FnJoinLedgerUptoCardSaid : Prop := Claim7.holds Tryz.pinned (.plain (OpenSpec.upto fnJoinLedgerSpec)) fnJoinLedgerUptoCard
end Rows
end Go.Proofs.YtbdmdajbdmdknaaGreatDoor
