/-
  DERIVED. GIVEN WITH THE SEED: THE CARDS: each row of YtbdmdajbdmdknaaDoorRows.lean that lists a variable, with what it lists TIED to the program's text (the seventh form; the later family's looks); each row that meets fmt, with fmt's text TOLD by the authors' own Lean function (tested against real Go, not proved from fmt's source: count such statements apart). THE CARD IS WHAT COUNTS. Prove the row's statement (the work); the ties are given (YtbdmdajbdmdknaaDoorTie.lean); close each card by the builder's one call (the guide's Derived/Test/ToyasCard.lean, 'card_holds'). Laid BY PROGRAM, IN A SANDBOX (cutbox-door.mjs). By AI agents, Wed Nov 11 2026. No macro, syntax, notation, axiom, sorry.
-/
import Derived.Test.YtbdmdajbdmdknaaDoorRows
import GoSem.ClaimSeven
namespace Go.Proofs.YtbdmdajbdmdknaaDoor
namespace Rows

/-- THE TIED CARD OF 'laws.FnHeadNested'. -/
def fnHeadNestedCard : Claim7 := { stood := { row := fnHeadNestedRow, standIns := [], harness := (true, "96a594210664cd59c7eda516f91bd8f43c7b6c2516552a3ec36f717ec9978ee6"), looks := true }, kinds := [], alts := [], laidByText := true, laidKinds := [.data, .data, .data, .data, .sentinel, .sentinel, .pinned], laidTests := true, laidLooks := .later }
def FnHeadNestedCardSaid : Prop := Claim7.holds Tryd.pinned (.plain (OpenSpec.ofChange fnHeadNestedSpec)) fnHeadNestedCard

/-- THE TIED CARD OF 'laws.FnHeadAsked'. -/
def fnHeadAskedCard : Claim7 := { stood := { row := fnHeadAskedRow, standIns := [], harness := (true, "96a594210664cd59c7eda516f91bd8f43c7b6c2516552a3ec36f717ec9978ee6"), looks := true }, kinds := [], alts := [], laidByText := true, laidKinds := [.data, .data, .data, .data, .sentinel, .sentinel, .pinned], laidTests := true, laidLooks := .later }
def FnHeadAskedCardSaid : Prop := Claim7.holds Tryd.pinned (.plain (OpenSpec.ofChange fnHeadAskedSpec)) fnHeadAskedCard

/-- THE TIED CARD OF 'laws.FnHeadTexts'. -/
def fnHeadTextsCard : Claim7 := { stood := { row := fnHeadTextsRow, standIns := [], harness := (true, "96a594210664cd59c7eda516f91bd8f43c7b6c2516552a3ec36f717ec9978ee6"), looks := true }, kinds := [], alts := [], laidByText := true, laidKinds := [.data, .data, .data, .data, .sentinel, .sentinel, .pinned], laidTests := true, laidLooks := .later }
def FnHeadTextsCardSaid : Prop := Claim7.holds Tryd.pinned (.plain (OpenSpec.ofChange fnHeadTextsSpec)) fnHeadTextsCard

/-- THE TIED CARD OF 'laws.FnHeadName'. -/
def fnHeadNameCard : Claim7 := { stood := { row := fnHeadNameRow, standIns := [], harness := (true, "96a594210664cd59c7eda516f91bd8f43c7b6c2516552a3ec36f717ec9978ee6"), looks := true }, kinds := [], alts := [], laidByText := true, laidKinds := [.data, .data, .data, .data, .sentinel, .sentinel, .pinned], laidTests := true, laidLooks := .later }
def FnHeadNameCardSaid : Prop := Claim7.holds Tryd.pinned (.plain (OpenSpec.ofChange fnHeadNameSpec)) fnHeadNameCard

/-- THE SECOND FORM's CARD OF 'laws.FnHeadNested'. -/
def fnHeadNestedUptoCard : Claim7 := { stood := { row := fnHeadNestedUptoRow, standIns := [], harness := (true, "96a594210664cd59c7eda516f91bd8f43c7b6c2516552a3ec36f717ec9978ee6"), looks := true }, kinds := [], alts := [], laidByText := true, laidKinds := [.data, .data, .data, .data, .sentinel, .sentinel, .pinned], laidTests := true, laidLooks := .later }
def FnHeadNestedUptoCardSaid : Prop := Claim7.holds Tryd.pinned (.plain (OpenSpec.upto fnHeadNestedSpec)) fnHeadNestedUptoCard

/-- THE SECOND FORM's CARD OF 'laws.FnHeadAsked'. -/
def fnHeadAskedUptoCard : Claim7 := { stood := { row := fnHeadAskedUptoRow, standIns := [], harness := (true, "96a594210664cd59c7eda516f91bd8f43c7b6c2516552a3ec36f717ec9978ee6"), looks := true }, kinds := [], alts := [], laidByText := true, laidKinds := [.data, .data, .data, .data, .sentinel, .sentinel, .pinned], laidTests := true, laidLooks := .later }
def FnHeadAskedUptoCardSaid : Prop := Claim7.holds Tryd.pinned (.plain (OpenSpec.upto fnHeadAskedSpec)) fnHeadAskedUptoCard

/-- THE SECOND FORM's CARD OF 'laws.FnHeadTexts'. -/
def fnHeadTextsUptoCard : Claim7 := { stood := { row := fnHeadTextsUptoRow, standIns := [], harness := (true, "96a594210664cd59c7eda516f91bd8f43c7b6c2516552a3ec36f717ec9978ee6"), looks := true }, kinds := [], alts := [], laidByText := true, laidKinds := [.data, .data, .data, .data, .sentinel, .sentinel, .pinned], laidTests := true, laidLooks := .later }
def FnHeadTextsUptoCardSaid : Prop := Claim7.holds Tryd.pinned (.plain (OpenSpec.upto fnHeadTextsSpec)) fnHeadTextsUptoCard

/-- THE SECOND FORM's CARD OF 'laws.FnHeadName'. -/
def fnHeadNameUptoCard : Claim7 := { stood := { row := fnHeadNameUptoRow, standIns := [], harness := (true, "96a594210664cd59c7eda516f91bd8f43c7b6c2516552a3ec36f717ec9978ee6"), looks := true }, kinds := [], alts := [], laidByText := true, laidKinds := [.data, .data, .data, .data, .sentinel, .sentinel, .pinned], laidTests := true, laidLooks := .later }
def FnHeadNameUptoCardSaid : Prop := Claim7.holds Tryd.pinned (.plain (OpenSpec.upto fnHeadNameSpec)) fnHeadNameUptoCard
end Rows
end Go.Proofs.YtbdmdajbdmdknaaDoor
