/-
  DERIVED. GIVEN WITH THE SEED: THE CARDS: each row of YtmibnnmampfalaaDoorRows.lean that lists a variable, with what it lists TIED to the program's text (the seventh form; the later family's looks); each row that meets fmt, with fmt's text TOLD by the authors' own Lean function (tested against real Go, not proved from fmt's source: count such statements apart). THE CARD IS WHAT COUNTS. Prove the row's statement (the work); the ties are given (YtmibnnmampfalaaDoorTie.lean); close each card by the builder's one call (the guide's Derived/Test/ToyasCard.lean, 'card_holds'). Laid BY PROGRAM, IN A SANDBOX (cutbox-door.mjs). By AI agents, Wed Nov 11 2026. No macro, syntax, notation, axiom, sorry.
-/
import Derived.Test.YtmibnnmampfalaaDoorRows
import GoSem.ClaimSeven
namespace Go.Proofs.YtmibnnmampfalaaDoor
namespace Rows

/-- THE TIED CARD OF 'laws.FnPartTorn'. -/
def fnPartTornCard : Claim7 := { stood := { row := fnPartTornRow, standIns := [], harness := (true, "ca34eff81cb4a9f5dda62fbadf01b4fddcc01fe32bb3afea021226e6f8ea1772"), looks := false }, kinds := [], alts := [], laidByText := true, laidKinds := [.sentinel], laidTests := true, laidLooks := .later }
def FnPartTornCardSaid : Prop := Claim7.holds Tryd.pinned (.plain (OpenSpec.ofChange fnPartTornSpec)) fnPartTornCard

/-- THE TIED CARD OF 'laws.FnJoinDetached'. -/
def fnJoinDetachedCard : Claim7 := { stood := { row := fnJoinDetachedRow, standIns := [], harness := (true, "ca34eff81cb4a9f5dda62fbadf01b4fddcc01fe32bb3afea021226e6f8ea1772"), looks := false }, kinds := [], alts := [], laidByText := true, laidKinds := [.sentinel], laidTests := true, laidLooks := .later }
def FnJoinDetachedCardSaid : Prop := Claim7.holds Tryd.pinned (.plain (OpenSpec.ofChange fnJoinDetachedSpec)) fnJoinDetachedCard

/-- THE SECOND FORM's CARD OF 'laws.FnPartTorn'. -/
def fnPartTornUptoCard : Claim7 := { stood := { row := fnPartTornUptoRow, standIns := [], harness := (true, "ca34eff81cb4a9f5dda62fbadf01b4fddcc01fe32bb3afea021226e6f8ea1772"), looks := false }, kinds := [], alts := [], laidByText := true, laidKinds := [.sentinel], laidTests := true, laidLooks := .later }
def FnPartTornUptoCardSaid : Prop := Claim7.holds Tryd.pinned (.plain (OpenSpec.upto fnPartTornSpec)) fnPartTornUptoCard

/-- THE SECOND FORM's CARD OF 'laws.FnJoinDetached'. -/
def fnJoinDetachedUptoCard : Claim7 := { stood := { row := fnJoinDetachedUptoRow, standIns := [], harness := (true, "ca34eff81cb4a9f5dda62fbadf01b4fddcc01fe32bb3afea021226e6f8ea1772"), looks := false }, kinds := [], alts := [], laidByText := true, laidKinds := [.sentinel], laidTests := true, laidLooks := .later }
def FnJoinDetachedUptoCardSaid : Prop := Claim7.holds Tryd.pinned (.plain (OpenSpec.upto fnJoinDetachedSpec)) fnJoinDetachedUptoCard
end Rows
end Go.Proofs.YtmibnnmampfalaaDoor
