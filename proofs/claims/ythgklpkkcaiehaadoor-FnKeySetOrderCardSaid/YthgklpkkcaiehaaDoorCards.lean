/-
  DERIVED. GIVEN WITH THE SEED: THE CARDS: each row of YthgklpkkcaiehaaDoorRows.lean that lists a variable, with what it lists TIED to the program's text (the seventh form; the later family's looks); each row that meets fmt, with fmt's text TOLD by the authors' own Lean function (tested against real Go, not proved from fmt's source: count such statements apart). THE CARD IS WHAT COUNTS. Prove the row's statement (the work); the ties are given (YthgklpkkcaiehaaDoorTie.lean); close each card by the builder's one call (the guide's Derived/Test/ToyasCard.lean, 'card_holds'). Laid BY PROGRAM, IN A SANDBOX (cutbox-door.mjs). By AI agents, Wed Nov 11 2026. No macro, syntax, notation, axiom, sorry.
-/
import Derived.Test.YthgklpkkcaiehaaDoorRows
import GoSem.ClaimSeven
namespace Go.Proofs.YthgklpkkcaiehaaDoor
namespace Rows

/-- THE TIED CARD OF 'laws.FnKeyFieldLast'. -/
def fnKeyFieldLastCard : Claim7 := { stood := { row := fnKeyFieldLastRow, standIns := [], harness := (true, "dda692b18bdb0bb097273c6981aeddaf31619b4d7bf513e86f47ac7423b20f5d"), looks := true }, kinds := [], alts := [], laidByText := true, laidKinds := [.sentinel], laidTests := true, laidLooks := .later }
def FnKeyFieldLastCardSaid : Prop := Claim7.holds Tryd.pinned (.plain (OpenSpec.ofChange fnKeyFieldLastSpec)) fnKeyFieldLastCard

/-- THE TIED CARD OF 'laws.FnKeySetBack'. -/
def fnKeySetBackCard : Claim7 := { stood := { row := fnKeySetBackRow, standIns := [], harness := (true, "dda692b18bdb0bb097273c6981aeddaf31619b4d7bf513e86f47ac7423b20f5d"), looks := true }, kinds := [], alts := [], laidByText := true, laidKinds := [.sentinel], laidTests := true, laidLooks := .later }
def FnKeySetBackCardSaid : Prop := Claim7.holds Tryd.pinned (.plain (OpenSpec.ofChange fnKeySetBackSpec)) fnKeySetBackCard

/-- THE TIED CARD OF 'laws.FnKeySetOrder'. -/
def fnKeySetOrderCard : Claim7 := { stood := { row := fnKeySetOrderRow, standIns := [], harness := (true, "dda692b18bdb0bb097273c6981aeddaf31619b4d7bf513e86f47ac7423b20f5d"), looks := true }, kinds := [], alts := [], laidByText := true, laidKinds := [.sentinel], laidTests := true, laidLooks := .later }
def FnKeySetOrderCardSaid : Prop := Claim7.holds Tryd.pinned (.plain (OpenSpec.ofChange fnKeySetOrderSpec)) fnKeySetOrderCard

/-- THE SECOND FORM's CARD OF 'laws.FnKeyFieldLast'. -/
def fnKeyFieldLastUptoCard : Claim7 := { stood := { row := fnKeyFieldLastUptoRow, standIns := [], harness := (true, "dda692b18bdb0bb097273c6981aeddaf31619b4d7bf513e86f47ac7423b20f5d"), looks := true }, kinds := [], alts := [], laidByText := true, laidKinds := [.sentinel], laidTests := true, laidLooks := .later }
def FnKeyFieldLastUptoCardSaid : Prop := Claim7.holds Tryd.pinned (.plain (OpenSpec.upto fnKeyFieldLastSpec)) fnKeyFieldLastUptoCard

/-- THE SECOND FORM's CARD OF 'laws.FnKeySetBack'. -/
def fnKeySetBackUptoCard : Claim7 := { stood := { row := fnKeySetBackUptoRow, standIns := [], harness := (true, "dda692b18bdb0bb097273c6981aeddaf31619b4d7bf513e86f47ac7423b20f5d"), looks := true }, kinds := [], alts := [], laidByText := true, laidKinds := [.sentinel], laidTests := true, laidLooks := .later }
def FnKeySetBackUptoCardSaid : Prop := Claim7.holds Tryd.pinned (.plain (OpenSpec.upto fnKeySetBackSpec)) fnKeySetBackUptoCard

/-- THE SECOND FORM's CARD OF 'laws.FnKeySetOrder'. -/
def fnKeySetOrderUptoCard : Claim7 := { stood := { row := fnKeySetOrderUptoRow, standIns := [], harness := (true, "dda692b18bdb0bb097273c6981aeddaf31619b4d7bf513e86f47ac7423b20f5d"), looks := true }, kinds := [], alts := [], laidByText := true, laidKinds := [.sentinel], laidTests := true, laidLooks := .later }
def FnKeySetOrderUptoCardSaid : Prop := Claim7.holds Tryd.pinned (.plain (OpenSpec.upto fnKeySetOrderSpec)) fnKeySetOrderUptoCard
end Rows
end Go.Proofs.YthgklpkkcaiehaaDoor
