/-
  No cell of these rows narrows 'for every input' (looked for: loops, veiled, ifaces, maps, wideKeys, modest, calm, conditions, laid).
  DERIVED. THE GIVEN ROWS OF THIS SEAT. 10 by the template 'for every input the law returns true; each argument reads behind the call as it read before'; 0 by the template 'total and deterministic' (their statements: YtmibnnmampfalaaTotals.lean).
  GIVEN WITH THE SEED: the statements are not yours to turn. If you find one false, say at which input.
  Laid BY PROGRAM, IN A SANDBOX (cutbox-rows.mjs): the forced cells as the released guide's own fill.sh prints them over the translation 9584703770bce3de… (all of the seat's roots in one cut). By AI agents, Wed Nov 11 2026. No macro, syntax, notation, axiom, sorry.
-/
import Derived.Test.YtmibnnmampfalaaChecked
import GoSem.Claim
import GoSem.ClaimJoined
import GoSem.ClaimMapViews
import Derived.JoinedTies
import Derived.KernelRfl
namespace Go.Proofs.Ytmibnnmampfalaa
/- THE CELL 'sum', in the pinned program and in every row, IS THE sha256 OF THE DUMP (.gsa) THAT YtmibnnmampfalaaProg.lean LOADS. Nothing in Lean hashes anything: it is a label: what it is worth is what the hold of that sum in a sandbox is worth. -/
noncomputable def Try.pinned : Pinned := { name := "ytmibnnmampfalaa", sum := "9584703770bce3de110a343ecb9503cb5fa69c1c1271b62d223c3278a46c8b1d", checked := Try.checked }
namespace Rows
def none {H : Type} : Left H := { results := [], args := [] }

/-- 'laws.FnPartAgain': WHATEVER THE INPUT: true; the input reads as it did. -/
def fnPartAgainSpec : ChangeSpec := { name := "fnPartAgain", fn := fun _ => fun
  | [d] => { results := [.lit (.bool true)], args := [d] }
  | _ => none }
def fnPartAgainRow : OpenClaim := { program := "ytmibnnmampfalaa", sum := "9584703770bce3de110a343ecb9503cb5fa69c1c1271b62d223c3278a46c8b1d", func := "pub-bullarium/laws.FnPartAgain", spec := "fnPartAgain", unfollowed := true, recurses := true, apart := false }
def FnPartAgainSaid : Prop := fnPartAgainRow.holds Try.pinned (OpenSpec.ofChange fnPartAgainSpec)

/-- ITS FALSE NEIGHBOUR: 'it returns false'. Refute it at one input. -/
def fnPartAgainWrong : ChangeSpec := { name := "fnPartAgain", fn := fun _ => fun
  | [d] => { results := [.lit (.bool false)], args := [d] }
  | _ => none }
def FnPartAgainWrongFalsely : Prop := fnPartAgainRow.holds Try.pinned (OpenSpec.ofChange fnPartAgainWrong)

/-- 'laws.FnPartLetters': WHATEVER THE INPUT: true; the input reads as it did. -/
def fnPartLettersSpec : ChangeSpec := { name := "fnPartLetters", fn := fun _ => fun
  | [d] => { results := [.lit (.bool true)], args := [d] }
  | _ => none }
def fnPartLettersRow : OpenClaim := { program := "ytmibnnmampfalaa", sum := "9584703770bce3de110a343ecb9503cb5fa69c1c1271b62d223c3278a46c8b1d", func := "pub-bullarium/laws.FnPartLetters", spec := "fnPartLetters", unfollowed := true, recurses := true, apart := false }
def FnPartLettersSaid : Prop := fnPartLettersRow.holds Try.pinned (OpenSpec.ofChange fnPartLettersSpec)

/-- ITS FALSE NEIGHBOUR: 'it returns false'. Refute it at one input. -/
def fnPartLettersWrong : ChangeSpec := { name := "fnPartLetters", fn := fun _ => fun
  | [d] => { results := [.lit (.bool false)], args := [d] }
  | _ => none }
def FnPartLettersWrongFalsely : Prop := fnPartLettersRow.holds Try.pinned (OpenSpec.ofChange fnPartLettersWrong)

/-- 'laws.FnPartForeign': WHATEVER THE INPUT: true; the input reads as it did. -/
def fnPartForeignSpec : ChangeSpec := { name := "fnPartForeign", fn := fun _ => fun
  | [d1, d2, d3] => { results := [.lit (.bool true)], args := [d1, d2, d3] }
  | _ => none }
def fnPartForeignRow : OpenClaim := { program := "ytmibnnmampfalaa", sum := "9584703770bce3de110a343ecb9503cb5fa69c1c1271b62d223c3278a46c8b1d", func := "pub-bullarium/laws.FnPartForeign", spec := "fnPartForeign", unfollowed := true, recurses := true, apart := false }
def FnPartForeignSaid : Prop := fnPartForeignRow.holds Try.pinned (OpenSpec.ofChange fnPartForeignSpec)

/-- ITS FALSE NEIGHBOUR: 'it returns false'. Refute it at one input. -/
def fnPartForeignWrong : ChangeSpec := { name := "fnPartForeign", fn := fun _ => fun
  | [d1, d2, d3] => { results := [.lit (.bool false)], args := [d1, d2, d3] }
  | _ => none }
def FnPartForeignWrongFalsely : Prop := fnPartForeignRow.holds Try.pinned (OpenSpec.ofChange fnPartForeignWrong)

/-- 'laws.FnPartSafe': WHATEVER THE INPUT: true; the input reads as it did. -/
def fnPartSafeSpec : ChangeSpec := { name := "fnPartSafe", fn := fun _ => fun
  | [d] => { results := [.lit (.bool true)], args := [d] }
  | _ => none }
def fnPartSafeRow : OpenClaim := { program := "ytmibnnmampfalaa", sum := "9584703770bce3de110a343ecb9503cb5fa69c1c1271b62d223c3278a46c8b1d", func := "pub-bullarium/laws.FnPartSafe", spec := "fnPartSafe", unfollowed := true, recurses := true, apart := false }
def FnPartSafeSaid : Prop := fnPartSafeRow.holds Try.pinned (OpenSpec.ofChange fnPartSafeSpec)

/-- ITS FALSE NEIGHBOUR: 'it returns false'. Refute it at one input. -/
def fnPartSafeWrong : ChangeSpec := { name := "fnPartSafe", fn := fun _ => fun
  | [d] => { results := [.lit (.bool false)], args := [d] }
  | _ => none }
def FnPartSafeWrongFalsely : Prop := fnPartSafeRow.holds Try.pinned (OpenSpec.ofChange fnPartSafeWrong)

/-- 'laws.FnPartSafeJoined': WHATEVER THE INPUT: true; the input reads as it did. -/
def fnPartSafeJoinedSpec : ChangeSpec := { name := "fnPartSafeJoined", fn := fun _ => fun
  | [d1, d2] => { results := [.lit (.bool true)], args := [d1, d2] }
  | _ => none }
def fnPartSafeJoinedRow : OpenClaim := { program := "ytmibnnmampfalaa", sum := "9584703770bce3de110a343ecb9503cb5fa69c1c1271b62d223c3278a46c8b1d", func := "pub-bullarium/laws.FnPartSafeJoined", spec := "fnPartSafeJoined", unfollowed := true, recurses := true, apart := false }
def FnPartSafeJoinedSaid : Prop := fnPartSafeJoinedRow.holds Try.pinned (OpenSpec.ofChange fnPartSafeJoinedSpec)

/-- ITS FALSE NEIGHBOUR: 'it returns false'. Refute it at one input. -/
def fnPartSafeJoinedWrong : ChangeSpec := { name := "fnPartSafeJoined", fn := fun _ => fun
  | [d1, d2] => { results := [.lit (.bool false)], args := [d1, d2] }
  | _ => none }
def FnPartSafeJoinedWrongFalsely : Prop := fnPartSafeJoinedRow.holds Try.pinned (OpenSpec.ofChange fnPartSafeJoinedWrong)

/-- 'laws.FnPartApart': WHATEVER THE INPUT: true; the input reads as it did. -/
def fnPartApartSpec : ChangeSpec := { name := "fnPartApart", fn := fun _ => fun
  | [d1, d2, d3] => { results := [.lit (.bool true)], args := [d1, d2, d3] }
  | _ => none }
def fnPartApartRow : OpenClaim := { program := "ytmibnnmampfalaa", sum := "9584703770bce3de110a343ecb9503cb5fa69c1c1271b62d223c3278a46c8b1d", func := "pub-bullarium/laws.FnPartApart", spec := "fnPartApart", unfollowed := true, recurses := true, apart := false }
def FnPartApartSaid : Prop := fnPartApartRow.holds Try.pinned (OpenSpec.ofChange fnPartApartSpec)

/-- ITS FALSE NEIGHBOUR: 'it returns false'. Refute it at one input. -/
def fnPartApartWrong : ChangeSpec := { name := "fnPartApart", fn := fun _ => fun
  | [d1, d2, d3] => { results := [.lit (.bool false)], args := [d1, d2, d3] }
  | _ => none }
def FnPartApartWrongFalsely : Prop := fnPartApartRow.holds Try.pinned (OpenSpec.ofChange fnPartApartWrong)

/-- 'laws.FnPartNumber': WHATEVER THE INPUT: true; the input reads as it did. -/
def fnPartNumberSpec : ChangeSpec := { name := "fnPartNumber", fn := fun _ => fun
  | [d] => { results := [.lit (.bool true)], args := [d] }
  | _ => none }
def fnPartNumberRow : OpenClaim := { program := "ytmibnnmampfalaa", sum := "9584703770bce3de110a343ecb9503cb5fa69c1c1271b62d223c3278a46c8b1d", func := "pub-bullarium/laws.FnPartNumber", spec := "fnPartNumber", unfollowed := true, recurses := true, named := ["encoding/binary.BigEndian"], apart := false }
def FnPartNumberSaid : Prop := fnPartNumberRow.holds Try.pinned (OpenSpec.ofChange fnPartNumberSpec)

/-- ITS FALSE NEIGHBOUR: 'it returns false'. Refute it at one input. -/
def fnPartNumberWrong : ChangeSpec := { name := "fnPartNumber", fn := fun _ => fun
  | [d] => { results := [.lit (.bool false)], args := [d] }
  | _ => none }
def FnPartNumberWrongFalsely : Prop := fnPartNumberRow.holds Try.pinned (OpenSpec.ofChange fnPartNumberWrong)

/-- 'laws.FnPartJoined': WHATEVER THE INPUT: true; the input reads as it did. -/
def fnPartJoinedSpec : ChangeSpec := { name := "fnPartJoined", fn := fun _ => fun
  | [d1, d2, d3, d4, d5] => { results := [.lit (.bool true)], args := [d1, d2, d3, d4, d5] }
  | _ => none }
def fnPartJoinedRow : OpenClaim := { program := "ytmibnnmampfalaa", sum := "9584703770bce3de110a343ecb9503cb5fa69c1c1271b62d223c3278a46c8b1d", func := "pub-bullarium/laws.FnPartJoined", spec := "fnPartJoined", unfollowed := true, recurses := true, apart := false }
def FnPartJoinedSaid : Prop := fnPartJoinedRow.holds Try.pinned (OpenSpec.ofChange fnPartJoinedSpec)

/-- ITS FALSE NEIGHBOUR: 'it returns false'. Refute it at one input. -/
def fnPartJoinedWrong : ChangeSpec := { name := "fnPartJoined", fn := fun _ => fun
  | [d1, d2, d3, d4, d5] => { results := [.lit (.bool false)], args := [d1, d2, d3, d4, d5] }
  | _ => none }
def FnPartJoinedWrongFalsely : Prop := fnPartJoinedRow.holds Try.pinned (OpenSpec.ofChange fnPartJoinedWrong)

/-- 'laws.FnClaimList': WHATEVER THE INPUT: true; the input reads as it did. -/
def fnClaimListSpec : ChangeSpec := { name := "fnClaimList", fn := fun _ => fun
  | [d] => { results := [.lit (.bool true)], args := [d] }
  | _ => none }
def fnClaimListRow : OpenClaim := { program := "ytmibnnmampfalaa", sum := "9584703770bce3de110a343ecb9503cb5fa69c1c1271b62d223c3278a46c8b1d", func := "pub-bullarium/laws.FnClaimList", spec := "fnClaimList", apart := false }
def FnClaimListSaid : Prop := fnClaimListRow.holds Try.pinned (OpenSpec.ofChange fnClaimListSpec)

/-- ITS FALSE NEIGHBOUR: 'it returns false'. Refute it at one input. -/
def fnClaimListWrong : ChangeSpec := { name := "fnClaimList", fn := fun _ => fun
  | [d] => { results := [.lit (.bool false)], args := [d] }
  | _ => none }
def FnClaimListWrongFalsely : Prop := fnClaimListRow.holds Try.pinned (OpenSpec.ofChange fnClaimListWrong)

/-- 'laws.FnKeyOps': WHATEVER THE INPUT: true; the input reads as it did. -/
def fnKeyOpsSpec : ChangeSpec := { name := "fnKeyOps", fn := fun _ => fun
  | [d] => { results := [.lit (.bool true)], args := [d] }
  | _ => none }
def fnKeyOpsRow : OpenClaim := { program := "ytmibnnmampfalaa", sum := "9584703770bce3de110a343ecb9503cb5fa69c1c1271b62d223c3278a46c8b1d", func := "pub-bullarium/laws.FnKeyOps", spec := "fnKeyOps", unfollowed := true, recurses := true, apart := false }
def FnKeyOpsSaid : Prop := fnKeyOpsRow.holds Try.pinned (OpenSpec.ofChange fnKeyOpsSpec)

/-- ITS FALSE NEIGHBOUR: 'it returns false'. Refute it at one input. -/
def fnKeyOpsWrong : ChangeSpec := { name := "fnKeyOps", fn := fun _ => fun
  | [d] => { results := [.lit (.bool false)], args := [d] }
  | _ => none }
def FnKeyOpsWrongFalsely : Prop := fnKeyOpsRow.holds Try.pinned (OpenSpec.ofChange fnKeyOpsWrong)

/- THE SECOND FORM. 'bulk': how many values and letters a reading holds, each counted each time it is reached (what is shared counts as often as it is met; a slice's spare places count too). A statement '..UptoSaid' is the law's where the arguments, and the package variables that the reading takes, are together of bulk at most 1048576: NARROWER than '..Said'. Prove '..Said' where nothing that the law and all that it calls make is longer than what came in: it says more and counts as full. Else prove '..UptoSaid'. A law counts once. -/
mutual
def uptoBulk {H : Type} : DataW H → Nat
  | .lit (.string bytes) => bytes.length + 1
  | .lit _ => 1
  | .nil => 1
  | .ptr d => uptoBulk d + 1
  | .slice elems spare => uptoBulkAll elems + uptoBulkAll spare + 1
  | .agg parts => uptoBulkAll parts + 1
  | .iface _ d => uptoBulk d + 1
  | .map entries => uptoBulkEntries entries + 1
  | .held _ => 1
def uptoBulkAll {H : Type} : List (DataW H) → Nat
  | [] => 0
  | d :: r => uptoBulk d + uptoBulkAll r
def uptoBulkEntries {H : Type} : List (Lit × DataW H) → Nat
  | [] => 0
  | x :: r => uptoBulkEntry x + uptoBulkEntries r
def uptoBulkEntry {H : Type} : Lit × DataW H → Nat
  | (.string bytes, d) => bytes.length + uptoBulk d + 1
  | (_, d) => uptoBulk d + 1
 end
def uptoSmall : (H : Type) → List (DataW H) → Bool := fun _ ds => decide (uptoBulkAll ds ≤ 1048576)
def OpenSpec.upto (s : _root_.Go.ChangeSpec) : _root_.Go.OpenSpec := { _root_.Go.OpenSpec.ofChange s with cond := some uptoSmall }

/-- 'laws.FnPartAgain', WHERE WHAT IT READS IS OF BULK AT MOST 1048576: true; the input reads as it did. -/
def fnPartAgainUptoRow : OpenClaim := { program := "ytmibnnmampfalaa", sum := "9584703770bce3de110a343ecb9503cb5fa69c1c1271b62d223c3278a46c8b1d", func := "pub-bullarium/laws.FnPartAgain", spec := "fnPartAgain", unfollowed := true, recurses := true, apart := false, narrowed := true }
def FnPartAgainUptoSaid : Prop := fnPartAgainUptoRow.holds Try.pinned (OpenSpec.upto fnPartAgainSpec)

/-- 'laws.FnPartLetters', WHERE WHAT IT READS IS OF BULK AT MOST 1048576: true; the input reads as it did. -/
def fnPartLettersUptoRow : OpenClaim := { program := "ytmibnnmampfalaa", sum := "9584703770bce3de110a343ecb9503cb5fa69c1c1271b62d223c3278a46c8b1d", func := "pub-bullarium/laws.FnPartLetters", spec := "fnPartLetters", unfollowed := true, recurses := true, apart := false, narrowed := true }
def FnPartLettersUptoSaid : Prop := fnPartLettersUptoRow.holds Try.pinned (OpenSpec.upto fnPartLettersSpec)

/-- 'laws.FnPartForeign', WHERE WHAT IT READS IS OF BULK AT MOST 1048576: true; the input reads as it did. -/
def fnPartForeignUptoRow : OpenClaim := { program := "ytmibnnmampfalaa", sum := "9584703770bce3de110a343ecb9503cb5fa69c1c1271b62d223c3278a46c8b1d", func := "pub-bullarium/laws.FnPartForeign", spec := "fnPartForeign", unfollowed := true, recurses := true, apart := false, narrowed := true }
def FnPartForeignUptoSaid : Prop := fnPartForeignUptoRow.holds Try.pinned (OpenSpec.upto fnPartForeignSpec)

/-- 'laws.FnPartSafe', WHERE WHAT IT READS IS OF BULK AT MOST 1048576: true; the input reads as it did. -/
def fnPartSafeUptoRow : OpenClaim := { program := "ytmibnnmampfalaa", sum := "9584703770bce3de110a343ecb9503cb5fa69c1c1271b62d223c3278a46c8b1d", func := "pub-bullarium/laws.FnPartSafe", spec := "fnPartSafe", unfollowed := true, recurses := true, apart := false, narrowed := true }
def FnPartSafeUptoSaid : Prop := fnPartSafeUptoRow.holds Try.pinned (OpenSpec.upto fnPartSafeSpec)

/-- 'laws.FnPartSafeJoined', WHERE WHAT IT READS IS OF BULK AT MOST 1048576: true; the input reads as it did. -/
def fnPartSafeJoinedUptoRow : OpenClaim := { program := "ytmibnnmampfalaa", sum := "9584703770bce3de110a343ecb9503cb5fa69c1c1271b62d223c3278a46c8b1d", func := "pub-bullarium/laws.FnPartSafeJoined", spec := "fnPartSafeJoined", unfollowed := true, recurses := true, apart := false, narrowed := true }
def FnPartSafeJoinedUptoSaid : Prop := fnPartSafeJoinedUptoRow.holds Try.pinned (OpenSpec.upto fnPartSafeJoinedSpec)

/-- 'laws.FnPartApart', WHERE WHAT IT READS IS OF BULK AT MOST 1048576: true; the input reads as it did. -/
def fnPartApartUptoRow : OpenClaim := { program := "ytmibnnmampfalaa", sum := "9584703770bce3de110a343ecb9503cb5fa69c1c1271b62d223c3278a46c8b1d", func := "pub-bullarium/laws.FnPartApart", spec := "fnPartApart", unfollowed := true, recurses := true, apart := false, narrowed := true }
def FnPartApartUptoSaid : Prop := fnPartApartUptoRow.holds Try.pinned (OpenSpec.upto fnPartApartSpec)

/-- 'laws.FnPartNumber', WHERE WHAT IT READS IS OF BULK AT MOST 1048576: true; the input reads as it did. -/
def fnPartNumberUptoRow : OpenClaim := { program := "ytmibnnmampfalaa", sum := "9584703770bce3de110a343ecb9503cb5fa69c1c1271b62d223c3278a46c8b1d", func := "pub-bullarium/laws.FnPartNumber", spec := "fnPartNumber", unfollowed := true, recurses := true, named := ["encoding/binary.BigEndian"], apart := false, narrowed := true }
def FnPartNumberUptoSaid : Prop := fnPartNumberUptoRow.holds Try.pinned (OpenSpec.upto fnPartNumberSpec)

/-- 'laws.FnPartJoined', WHERE WHAT IT READS IS OF BULK AT MOST 1048576: true; the input reads as it did. -/
def fnPartJoinedUptoRow : OpenClaim := { program := "ytmibnnmampfalaa", sum := "9584703770bce3de110a343ecb9503cb5fa69c1c1271b62d223c3278a46c8b1d", func := "pub-bullarium/laws.FnPartJoined", spec := "fnPartJoined", unfollowed := true, recurses := true, apart := false, narrowed := true }
def FnPartJoinedUptoSaid : Prop := fnPartJoinedUptoRow.holds Try.pinned (OpenSpec.upto fnPartJoinedSpec)

/-- 'laws.FnClaimList', WHERE WHAT IT READS IS OF BULK AT MOST 1048576: true; the input reads as it did. -/
def fnClaimListUptoRow : OpenClaim := { program := "ytmibnnmampfalaa", sum := "9584703770bce3de110a343ecb9503cb5fa69c1c1271b62d223c3278a46c8b1d", func := "pub-bullarium/laws.FnClaimList", spec := "fnClaimList", apart := false, narrowed := true }
def FnClaimListUptoSaid : Prop := fnClaimListUptoRow.holds Try.pinned (OpenSpec.upto fnClaimListSpec)

/-- 'laws.FnKeyOps', WHERE WHAT IT READS IS OF BULK AT MOST 1048576: true; the input reads as it did. -/
def fnKeyOpsUptoRow : OpenClaim := { program := "ytmibnnmampfalaa", sum := "9584703770bce3de110a343ecb9503cb5fa69c1c1271b62d223c3278a46c8b1d", func := "pub-bullarium/laws.FnKeyOps", spec := "fnKeyOps", unfollowed := true, recurses := true, apart := false, narrowed := true }
def FnKeyOpsUptoSaid : Prop := fnKeyOpsUptoRow.holds Try.pinned (OpenSpec.upto fnKeyOpsSpec)

end Rows
end Go.Proofs.Ytmibnnmampfalaa
