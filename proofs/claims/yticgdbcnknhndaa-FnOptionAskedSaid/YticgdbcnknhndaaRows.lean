/-
  No cell of these rows narrows 'for every input' (looked for: loops, veiled, ifaces, maps, wideKeys, modest, calm, conditions, laid).
  DERIVED. THE GIVEN ROWS OF THIS SEAT. 12 by the template 'for every input the law returns true; each argument reads behind the call as it read before'; 0 by the template 'total and deterministic' (their statements: YticgdbcnknhndaaTotals.lean).
  GIVEN WITH THE SEED: the statements are not yours to turn. If you find one false, say at which input.
  Laid BY PROGRAM, IN A SANDBOX (cutbox-rows.mjs): the forced cells as the released guide's own fill.sh prints them over the translation ff485f8f49f09d59… (all of the seat's roots in one cut). By AI agents, Wed Nov 11 2026. No macro, syntax, notation, axiom, sorry.
-/
import Derived.Test.YticgdbcnknhndaaChecked
import GoSem.Claim
import GoSem.ClaimJoined
import GoSem.ClaimMapViews
import Derived.JoinedTies
import Derived.KernelRfl
namespace Go.Proofs.Yticgdbcnknhndaa
/- THE CELL 'sum', in the pinned program and in every row, IS THE sha256 OF THE DUMP (.gsa) THAT YticgdbcnknhndaaProg.lean LOADS. Nothing in Lean hashes anything: it is a label: what it is worth is what the hold of that sum in a sandbox is worth. -/
noncomputable def Try.pinned : Pinned := { name := "yticgdbcnknhndaa", sum := "ff485f8f49f09d59b22d0eaa4b5dbc4246279d16d5448b7f3d22e1db4a6714c0", checked := Try.checked }
namespace Rows
def none {H : Type} : Left H := { results := [], args := [] }

/-- 'laws.FnOptionAsked': WHATEVER THE INPUT: true; the input reads as it did. -/
def fnOptionAskedSpec : ChangeSpec := { name := "fnOptionAsked", fn := fun _ => fun
  | [d] => { results := [.lit (.bool true)], args := [d] }
  | _ => none }
def fnOptionAskedRow : OpenClaim := { program := "yticgdbcnknhndaa", sum := "ff485f8f49f09d59b22d0eaa4b5dbc4246279d16d5448b7f3d22e1db4a6714c0", func := "pub-bullarium/laws.FnOptionAsked", spec := "fnOptionAsked", apart := false }
def FnOptionAskedSaid : Prop := fnOptionAskedRow.holds Try.pinned (OpenSpec.ofChange fnOptionAskedSpec)

/-- ITS FALSE NEIGHBOUR: 'it returns false'. Refute it at one input. -/
def fnOptionAskedWrong : ChangeSpec := { name := "fnOptionAsked", fn := fun _ => fun
  | [d] => { results := [.lit (.bool false)], args := [d] }
  | _ => none }
def FnOptionAskedWrongFalsely : Prop := fnOptionAskedRow.holds Try.pinned (OpenSpec.ofChange fnOptionAskedWrong)

/-- 'laws.FnOptionJoined': WHATEVER THE INPUT: true; the input reads as it did. -/
def fnOptionJoinedSpec : ChangeSpec := { name := "fnOptionJoined", fn := fun _ => fun
  | [d1, d2, d3] => { results := [.lit (.bool true)], args := [d1, d2, d3] }
  | _ => none }
def fnOptionJoinedRow : OpenClaim := { program := "yticgdbcnknhndaa", sum := "ff485f8f49f09d59b22d0eaa4b5dbc4246279d16d5448b7f3d22e1db4a6714c0", func := "pub-bullarium/laws.FnOptionJoined", spec := "fnOptionJoined", apart := false }
def FnOptionJoinedSaid : Prop := fnOptionJoinedRow.holds Try.pinned (OpenSpec.ofChange fnOptionJoinedSpec)

/-- ITS FALSE NEIGHBOUR: 'it returns false'. Refute it at one input. -/
def fnOptionJoinedWrong : ChangeSpec := { name := "fnOptionJoined", fn := fun _ => fun
  | [d1, d2, d3] => { results := [.lit (.bool false)], args := [d1, d2, d3] }
  | _ => none }
def FnOptionJoinedWrongFalsely : Prop := fnOptionJoinedRow.holds Try.pinned (OpenSpec.ofChange fnOptionJoinedWrong)

/-- 'laws.FnWrapPadApart': WHATEVER THE INPUT: true; the input reads as it did. -/
def fnWrapPadApartSpec : ChangeSpec := { name := "fnWrapPadApart", fn := fun _ => fun
  | [d1, d2, d3] => { results := [.lit (.bool true)], args := [d1, d2, d3] }
  | _ => none }
def fnWrapPadApartRow : OpenClaim := { program := "yticgdbcnknhndaa", sum := "ff485f8f49f09d59b22d0eaa4b5dbc4246279d16d5448b7f3d22e1db4a6714c0", func := "pub-bullarium/laws.FnWrapPadApart", spec := "fnWrapPadApart", apart := false }
def FnWrapPadApartSaid : Prop := fnWrapPadApartRow.holds Try.pinned (OpenSpec.ofChange fnWrapPadApartSpec)

/-- ITS FALSE NEIGHBOUR: 'it returns false'. Refute it at one input. -/
def fnWrapPadApartWrong : ChangeSpec := { name := "fnWrapPadApart", fn := fun _ => fun
  | [d1, d2, d3] => { results := [.lit (.bool false)], args := [d1, d2, d3] }
  | _ => none }
def FnWrapPadApartWrongFalsely : Prop := fnWrapPadApartRow.holds Try.pinned (OpenSpec.ofChange fnWrapPadApartWrong)

/-- 'laws.FnWrapApart': WHATEVER THE INPUT: true; the input reads as it did. -/
def fnWrapApartSpec : ChangeSpec := { name := "fnWrapApart", fn := fun _ => fun
  | [d1, d2, d3, d4] => { results := [.lit (.bool true)], args := [d1, d2, d3, d4] }
  | _ => none }
def fnWrapApartRow : OpenClaim := { program := "yticgdbcnknhndaa", sum := "ff485f8f49f09d59b22d0eaa4b5dbc4246279d16d5448b7f3d22e1db4a6714c0", func := "pub-bullarium/laws.FnWrapApart", spec := "fnWrapApart", unfollowed := true, recurses := true, named := ["encoding/binary.BigEndian"], apart := false }
def FnWrapApartSaid : Prop := fnWrapApartRow.holds Try.pinned (OpenSpec.ofChange fnWrapApartSpec)

/-- ITS FALSE NEIGHBOUR: 'it returns false'. Refute it at one input. -/
def fnWrapApartWrong : ChangeSpec := { name := "fnWrapApart", fn := fun _ => fun
  | [d1, d2, d3, d4] => { results := [.lit (.bool false)], args := [d1, d2, d3, d4] }
  | _ => none }
def FnWrapApartWrongFalsely : Prop := fnWrapApartRow.holds Try.pinned (OpenSpec.ofChange fnWrapApartWrong)

/-- 'laws.FnWrapSecrets': WHATEVER THE INPUT: true; the input reads as it did. -/
def fnWrapSecretsSpec : ChangeSpec := { name := "fnWrapSecrets", fn := fun _ => fun
  | [d1, d2] => { results := [.lit (.bool true)], args := [d1, d2] }
  | _ => none }
def fnWrapSecretsRow : OpenClaim := { program := "yticgdbcnknhndaa", sum := "ff485f8f49f09d59b22d0eaa4b5dbc4246279d16d5448b7f3d22e1db4a6714c0", func := "pub-bullarium/laws.FnWrapSecrets", spec := "fnWrapSecrets", unfollowed := true, recurses := true, named := ["encoding/binary.BigEndian"], apart := false }
def FnWrapSecretsSaid : Prop := fnWrapSecretsRow.holds Try.pinned (OpenSpec.ofChange fnWrapSecretsSpec)

/-- ITS FALSE NEIGHBOUR: 'it returns false'. Refute it at one input. -/
def fnWrapSecretsWrong : ChangeSpec := { name := "fnWrapSecrets", fn := fun _ => fun
  | [d1, d2] => { results := [.lit (.bool false)], args := [d1, d2] }
  | _ => none }
def FnWrapSecretsWrongFalsely : Prop := fnWrapSecretsRow.holds Try.pinned (OpenSpec.ofChange fnWrapSecretsWrong)

/-- 'laws.FnWrapBack': WHATEVER THE INPUT: true; the input reads as it did. -/
def fnWrapBackSpec : ChangeSpec := { name := "fnWrapBack", fn := fun _ => fun
  | [d1, d2] => { results := [.lit (.bool true)], args := [d1, d2] }
  | _ => none }
def fnWrapBackRow : OpenClaim := { program := "yticgdbcnknhndaa", sum := "ff485f8f49f09d59b22d0eaa4b5dbc4246279d16d5448b7f3d22e1db4a6714c0", func := "pub-bullarium/laws.FnWrapBack", spec := "fnWrapBack", inPlace := ["crypto/internal/constanttime.boolToUint8"], unfollowed := true, recurses := true, named := ["encoding/binary.BigEndian"], apart := false }
def FnWrapBackSaid : Prop := fnWrapBackRow.holds Try.pinned (OpenSpec.ofChange fnWrapBackSpec)

/-- ITS FALSE NEIGHBOUR: 'it returns false'. Refute it at one input. -/
def fnWrapBackWrong : ChangeSpec := { name := "fnWrapBack", fn := fun _ => fun
  | [d1, d2] => { results := [.lit (.bool false)], args := [d1, d2] }
  | _ => none }
def FnWrapBackWrongFalsely : Prop := fnWrapBackRow.holds Try.pinned (OpenSpec.ofChange fnWrapBackWrong)

/-- 'laws.FnWrapMixed': WHATEVER THE INPUT: true; the input reads as it did. -/
def fnWrapMixedSpec : ChangeSpec := { name := "fnWrapMixed", fn := fun _ => fun
  | [d1, d2, d3] => { results := [.lit (.bool true)], args := [d1, d2, d3] }
  | _ => none }
def fnWrapMixedRow : OpenClaim := { program := "yticgdbcnknhndaa", sum := "ff485f8f49f09d59b22d0eaa4b5dbc4246279d16d5448b7f3d22e1db4a6714c0", func := "pub-bullarium/laws.FnWrapMixed", spec := "fnWrapMixed", inPlace := ["crypto/internal/constanttime.boolToUint8"], unfollowed := true, recurses := true, named := ["encoding/binary.BigEndian"], apart := false }
def FnWrapMixedSaid : Prop := fnWrapMixedRow.holds Try.pinned (OpenSpec.ofChange fnWrapMixedSpec)

/-- ITS FALSE NEIGHBOUR: 'it returns false'. Refute it at one input. -/
def fnWrapMixedWrong : ChangeSpec := { name := "fnWrapMixed", fn := fun _ => fun
  | [d1, d2, d3] => { results := [.lit (.bool false)], args := [d1, d2, d3] }
  | _ => none }
def FnWrapMixedWrongFalsely : Prop := fnWrapMixedRow.holds Try.pinned (OpenSpec.ofChange fnWrapMixedWrong)

/-- 'laws.FnWrapRoad': WHATEVER THE INPUT: true; the input reads as it did. -/
def fnWrapRoadSpec : ChangeSpec := { name := "fnWrapRoad", fn := fun _ => fun
  | [d1, d2] => { results := [.lit (.bool true)], args := [d1, d2] }
  | _ => none }
def fnWrapRoadRow : OpenClaim := { program := "yticgdbcnknhndaa", sum := "ff485f8f49f09d59b22d0eaa4b5dbc4246279d16d5448b7f3d22e1db4a6714c0", func := "pub-bullarium/laws.FnWrapRoad", spec := "fnWrapRoad", inPlace := ["crypto/internal/constanttime.boolToUint8"], unfollowed := true, recurses := true, named := ["encoding/binary.BigEndian"], apart := false }
def FnWrapRoadSaid : Prop := fnWrapRoadRow.holds Try.pinned (OpenSpec.ofChange fnWrapRoadSpec)

/-- ITS FALSE NEIGHBOUR: 'it returns false'. Refute it at one input. -/
def fnWrapRoadWrong : ChangeSpec := { name := "fnWrapRoad", fn := fun _ => fun
  | [d1, d2] => { results := [.lit (.bool false)], args := [d1, d2] }
  | _ => none }
def FnWrapRoadWrongFalsely : Prop := fnWrapRoadRow.holds Try.pinned (OpenSpec.ofChange fnWrapRoadWrong)

/-- 'laws.FnWrapTwice': WHATEVER THE INPUT: true; the input reads as it did. -/
def fnWrapTwiceSpec : ChangeSpec := { name := "fnWrapTwice", fn := fun _ => fun
  | [d1, d2, d3] => { results := [.lit (.bool true)], args := [d1, d2, d3] }
  | _ => none }
def fnWrapTwiceRow : OpenClaim := { program := "yticgdbcnknhndaa", sum := "ff485f8f49f09d59b22d0eaa4b5dbc4246279d16d5448b7f3d22e1db4a6714c0", func := "pub-bullarium/laws.FnWrapTwice", spec := "fnWrapTwice", inPlace := ["crypto/internal/constanttime.boolToUint8"], unfollowed := true, recurses := true, named := ["encoding/binary.BigEndian"], apart := false }
def FnWrapTwiceSaid : Prop := fnWrapTwiceRow.holds Try.pinned (OpenSpec.ofChange fnWrapTwiceSpec)

/-- ITS FALSE NEIGHBOUR: 'it returns false'. Refute it at one input. -/
def fnWrapTwiceWrong : ChangeSpec := { name := "fnWrapTwice", fn := fun _ => fun
  | [d1, d2, d3] => { results := [.lit (.bool false)], args := [d1, d2, d3] }
  | _ => none }
def FnWrapTwiceWrongFalsely : Prop := fnWrapTwiceRow.holds Try.pinned (OpenSpec.ofChange fnWrapTwiceWrong)

/-- 'laws.FnWrapAny': WHATEVER THE INPUT: true; the input reads as it did. -/
def fnWrapAnySpec : ChangeSpec := { name := "fnWrapAny", fn := fun _ => fun
  | [d1, d2] => { results := [.lit (.bool true)], args := [d1, d2] }
  | _ => none }
def fnWrapAnyRow : OpenClaim := { program := "yticgdbcnknhndaa", sum := "ff485f8f49f09d59b22d0eaa4b5dbc4246279d16d5448b7f3d22e1db4a6714c0", func := "pub-bullarium/laws.FnWrapAny", spec := "fnWrapAny", inPlace := ["crypto/internal/constanttime.boolToUint8"], unfollowed := true, recurses := true, named := ["encoding/binary.BigEndian"], apart := false }
def FnWrapAnySaid : Prop := fnWrapAnyRow.holds Try.pinned (OpenSpec.ofChange fnWrapAnySpec)

/-- ITS FALSE NEIGHBOUR: 'it returns false'. Refute it at one input. -/
def fnWrapAnyWrong : ChangeSpec := { name := "fnWrapAny", fn := fun _ => fun
  | [d1, d2] => { results := [.lit (.bool false)], args := [d1, d2] }
  | _ => none }
def FnWrapAnyWrongFalsely : Prop := fnWrapAnyRow.holds Try.pinned (OpenSpec.ofChange fnWrapAnyWrong)

/-- 'laws.FnJoinParties': WHATEVER THE INPUT: true; the input reads as it did. -/
def fnJoinPartiesSpec : ChangeSpec := { name := "fnJoinParties", fn := fun _ => fun
  | [d1, d2, d3] => { results := [.lit (.bool true)], args := [d1, d2, d3] }
  | _ => none }
def fnJoinPartiesRow : OpenClaim := { program := "yticgdbcnknhndaa", sum := "ff485f8f49f09d59b22d0eaa4b5dbc4246279d16d5448b7f3d22e1db4a6714c0", func := "pub-bullarium/laws.FnJoinParties", spec := "fnJoinParties", inPlace := ["crypto/internal/constanttime.boolToUint8"], unfollowed := true, recurses := true, named := ["encoding/binary.BigEndian"], apart := false }
def FnJoinPartiesSaid : Prop := fnJoinPartiesRow.holds Try.pinned (OpenSpec.ofChange fnJoinPartiesSpec)

/-- ITS FALSE NEIGHBOUR: 'it returns false'. Refute it at one input. -/
def fnJoinPartiesWrong : ChangeSpec := { name := "fnJoinParties", fn := fun _ => fun
  | [d1, d2, d3] => { results := [.lit (.bool false)], args := [d1, d2, d3] }
  | _ => none }
def FnJoinPartiesWrongFalsely : Prop := fnJoinPartiesRow.holds Try.pinned (OpenSpec.ofChange fnJoinPartiesWrong)

/-- 'laws.FnJoinAgreed': WHATEVER THE INPUT: true; the input reads as it did. -/
def fnJoinAgreedSpec : ChangeSpec := { name := "fnJoinAgreed", fn := fun _ => fun
  | [d1, d2, d3, d4, d5, d6] => { results := [.lit (.bool true)], args := [d1, d2, d3, d4, d5, d6] }
  | _ => none }
def fnJoinAgreedRow : OpenClaim := { program := "yticgdbcnknhndaa", sum := "ff485f8f49f09d59b22d0eaa4b5dbc4246279d16d5448b7f3d22e1db4a6714c0", func := "pub-bullarium/laws.FnJoinAgreed", spec := "fnJoinAgreed", inPlace := ["crypto/internal/constanttime.boolToUint8"], unfollowed := true, recurses := true, named := ["encoding/binary.BigEndian"], apart := false }
def FnJoinAgreedSaid : Prop := fnJoinAgreedRow.holds Try.pinned (OpenSpec.ofChange fnJoinAgreedSpec)

/-- ITS FALSE NEIGHBOUR: 'it returns false'. Refute it at one input. -/
def fnJoinAgreedWrong : ChangeSpec := { name := "fnJoinAgreed", fn := fun _ => fun
  | [d1, d2, d3, d4, d5, d6] => { results := [.lit (.bool false)], args := [d1, d2, d3, d4, d5, d6] }
  | _ => none }
def FnJoinAgreedWrongFalsely : Prop := fnJoinAgreedRow.holds Try.pinned (OpenSpec.ofChange fnJoinAgreedWrong)

/- THE SECOND FORM. 'bulk': how many values and letters a reading holds, each counted each time it is reached (what is shared counts as often as it is met; a slice's spare places count too). A statement '..UptoSaid' is the law's where the arguments, and the package variables that the reading takes, are together of bulk at most 1048576: NARROWER than '..Said'. Prove '..Said' where nothing that the law and all that it calls make is longer than what came in: it says more and counts as full. Else prove '..UptoSaid'. A law counts once. -/
mutual
def uptoBulk {H : Type} : DataW H → Nat
  | .lit (.string bytes) => bytes.length + 1
  | .lit _ => 1
  | .nil => 1
  | .ptr d => uptoBulk d + 1
  | .slice elems spare => uptoBulkAll elems + uptoBulkAll spare + 1
  | .agg parts => uptoBulkAll parts + 1
  | .iface _ d => uptoBulk d + 1
  | .map entries => uptoBulkEntries entries + 1
  | .held _ => 1
def uptoBulkAll {H : Type} : List (DataW H) → Nat
  | [] => 0
  | d :: r => uptoBulk d + uptoBulkAll r
def uptoBulkEntries {H : Type} : List (Lit × DataW H) → Nat
  | [] => 0
  | x :: r => uptoBulkEntry x + uptoBulkEntries r
def uptoBulkEntry {H : Type} : Lit × DataW H → Nat
  | (.string bytes, d) => bytes.length + uptoBulk d + 1
  | (_, d) => uptoBulk d + 1
 end
def uptoSmall : (H : Type) → List (DataW H) → Bool := fun _ ds => decide (uptoBulkAll ds ≤ 1048576)
def OpenSpec.upto (s : _root_.Go.ChangeSpec) : _root_.Go.OpenSpec := { _root_.Go.OpenSpec.ofChange s with cond := some uptoSmall }

/-- 'laws.FnOptionAsked', WHERE WHAT IT READS IS OF BULK AT MOST 1048576: true; the input reads as it did. -/
def fnOptionAskedUptoRow : OpenClaim := { program := "yticgdbcnknhndaa", sum := "ff485f8f49f09d59b22d0eaa4b5dbc4246279d16d5448b7f3d22e1db4a6714c0", func := "pub-bullarium/laws.FnOptionAsked", spec := "fnOptionAsked", apart := false, narrowed := true }
def FnOptionAskedUptoSaid : Prop := fnOptionAskedUptoRow.holds Try.pinned (OpenSpec.upto fnOptionAskedSpec)

/-- 'laws.FnOptionJoined', WHERE WHAT IT READS IS OF BULK AT MOST 1048576: true; the input reads as it did. -/
def fnOptionJoinedUptoRow : OpenClaim := { program := "yticgdbcnknhndaa", sum := "ff485f8f49f09d59b22d0eaa4b5dbc4246279d16d5448b7f3d22e1db4a6714c0", func := "pub-bullarium/laws.FnOptionJoined", spec := "fnOptionJoined", apart := false, narrowed := true }
def FnOptionJoinedUptoSaid : Prop := fnOptionJoinedUptoRow.holds Try.pinned (OpenSpec.upto fnOptionJoinedSpec)

/-- 'laws.FnWrapPadApart', WHERE WHAT IT READS IS OF BULK AT MOST 1048576: true; the input reads as it did. -/
def fnWrapPadApartUptoRow : OpenClaim := { program := "yticgdbcnknhndaa", sum := "ff485f8f49f09d59b22d0eaa4b5dbc4246279d16d5448b7f3d22e1db4a6714c0", func := "pub-bullarium/laws.FnWrapPadApart", spec := "fnWrapPadApart", apart := false, narrowed := true }
def FnWrapPadApartUptoSaid : Prop := fnWrapPadApartUptoRow.holds Try.pinned (OpenSpec.upto fnWrapPadApartSpec)

/-- 'laws.FnWrapApart', WHERE WHAT IT READS IS OF BULK AT MOST 1048576: true; the input reads as it did. -/
def fnWrapApartUptoRow : OpenClaim := { program := "yticgdbcnknhndaa", sum := "ff485f8f49f09d59b22d0eaa4b5dbc4246279d16d5448b7f3d22e1db4a6714c0", func := "pub-bullarium/laws.FnWrapApart", spec := "fnWrapApart", unfollowed := true, recurses := true, named := ["encoding/binary.BigEndian"], apart := false, narrowed := true }
def FnWrapApartUptoSaid : Prop := fnWrapApartUptoRow.holds Try.pinned (OpenSpec.upto fnWrapApartSpec)

/-- 'laws.FnWrapSecrets', WHERE WHAT IT READS IS OF BULK AT MOST 1048576: true; the input reads as it did. -/
def fnWrapSecretsUptoRow : OpenClaim := { program := "yticgdbcnknhndaa", sum := "ff485f8f49f09d59b22d0eaa4b5dbc4246279d16d5448b7f3d22e1db4a6714c0", func := "pub-bullarium/laws.FnWrapSecrets", spec := "fnWrapSecrets", unfollowed := true, recurses := true, named := ["encoding/binary.BigEndian"], apart := false, narrowed := true }
def FnWrapSecretsUptoSaid : Prop := fnWrapSecretsUptoRow.holds Try.pinned (OpenSpec.upto fnWrapSecretsSpec)

/-- 'laws.FnWrapBack', WHERE WHAT IT READS IS OF BULK AT MOST 1048576: true; the input reads as it did. -/
def fnWrapBackUptoRow : OpenClaim := { program := "yticgdbcnknhndaa", sum := "ff485f8f49f09d59b22d0eaa4b5dbc4246279d16d5448b7f3d22e1db4a6714c0", func := "pub-bullarium/laws.FnWrapBack", spec := "fnWrapBack", inPlace := ["crypto/internal/constanttime.boolToUint8"], unfollowed := true, recurses := true, named := ["encoding/binary.BigEndian"], apart := false, narrowed := true }
def FnWrapBackUptoSaid : Prop := fnWrapBackUptoRow.holds Try.pinned (OpenSpec.upto fnWrapBackSpec)

/-- 'laws.FnWrapMixed', WHERE WHAT IT READS IS OF BULK AT MOST 1048576: true; the input reads as it did. -/
def fnWrapMixedUptoRow : OpenClaim := { program := "yticgdbcnknhndaa", sum := "ff485f8f49f09d59b22d0eaa4b5dbc4246279d16d5448b7f3d22e1db4a6714c0", func := "pub-bullarium/laws.FnWrapMixed", spec := "fnWrapMixed", inPlace := ["crypto/internal/constanttime.boolToUint8"], unfollowed := true, recurses := true, named := ["encoding/binary.BigEndian"], apart := false, narrowed := true }
def FnWrapMixedUptoSaid : Prop := fnWrapMixedUptoRow.holds Try.pinned (OpenSpec.upto fnWrapMixedSpec)

/-- 'laws.FnWrapRoad', WHERE WHAT IT READS IS OF BULK AT MOST 1048576: true; the input reads as it did. -/
def fnWrapRoadUptoRow : OpenClaim := { program := "yticgdbcnknhndaa", sum := "ff485f8f49f09d59b22d0eaa4b5dbc4246279d16d5448b7f3d22e1db4a6714c0", func := "pub-bullarium/laws.FnWrapRoad", spec := "fnWrapRoad", inPlace := ["crypto/internal/constanttime.boolToUint8"], unfollowed := true, recurses := true, named := ["encoding/binary.BigEndian"], apart := false, narrowed := true }
def FnWrapRoadUptoSaid : Prop := fnWrapRoadUptoRow.holds Try.pinned (OpenSpec.upto fnWrapRoadSpec)

/-- 'laws.FnWrapTwice', WHERE WHAT IT READS IS OF BULK AT MOST 1048576: true; the input reads as it did. -/
def fnWrapTwiceUptoRow : OpenClaim := { program := "yticgdbcnknhndaa", sum := "ff485f8f49f09d59b22d0eaa4b5dbc4246279d16d5448b7f3d22e1db4a6714c0", func := "pub-bullarium/laws.FnWrapTwice", spec := "fnWrapTwice", inPlace := ["crypto/internal/constanttime.boolToUint8"], unfollowed := true, recurses := true, named := ["encoding/binary.BigEndian"], apart := false, narrowed := true }
def FnWrapTwiceUptoSaid : Prop := fnWrapTwiceUptoRow.holds Try.pinned (OpenSpec.upto fnWrapTwiceSpec)

/-- 'laws.FnWrapAny', WHERE WHAT IT READS IS OF BULK AT MOST 1048576: true; the input reads as it did. -/
def fnWrapAnyUptoRow : OpenClaim := { program := "yticgdbcnknhndaa", sum := "ff485f8f49f09d59b22d0eaa4b5dbc4246279d16d5448b7f3d22e1db4a6714c0", func := "pub-bullarium/laws.FnWrapAny", spec := "fnWrapAny", inPlace := ["crypto/internal/constanttime.boolToUint8"], unfollowed := true, recurses := true, named := ["encoding/binary.BigEndian"], apart := false, narrowed := true }
def FnWrapAnyUptoSaid : Prop := fnWrapAnyUptoRow.holds Try.pinned (OpenSpec.upto fnWrapAnySpec)

/-- 'laws.FnJoinParties', WHERE WHAT IT READS IS OF BULK AT MOST 1048576: true; the input reads as it did. -/
def fnJoinPartiesUptoRow : OpenClaim := { program := "yticgdbcnknhndaa", sum := "ff485f8f49f09d59b22d0eaa4b5dbc4246279d16d5448b7f3d22e1db4a6714c0", func := "pub-bullarium/laws.FnJoinParties", spec := "fnJoinParties", inPlace := ["crypto/internal/constanttime.boolToUint8"], unfollowed := true, recurses := true, named := ["encoding/binary.BigEndian"], apart := false, narrowed := true }
def FnJoinPartiesUptoSaid : Prop := fnJoinPartiesUptoRow.holds Try.pinned (OpenSpec.upto fnJoinPartiesSpec)

/-- 'laws.FnJoinAgreed', WHERE WHAT IT READS IS OF BULK AT MOST 1048576: true; the input reads as it did. -/
def fnJoinAgreedUptoRow : OpenClaim := { program := "yticgdbcnknhndaa", sum := "ff485f8f49f09d59b22d0eaa4b5dbc4246279d16d5448b7f3d22e1db4a6714c0", func := "pub-bullarium/laws.FnJoinAgreed", spec := "fnJoinAgreed", inPlace := ["crypto/internal/constanttime.boolToUint8"], unfollowed := true, recurses := true, named := ["encoding/binary.BigEndian"], apart := false, narrowed := true }
def FnJoinAgreedUptoSaid : Prop := fnJoinAgreedUptoRow.holds Try.pinned (OpenSpec.upto fnJoinAgreedSpec)

end Rows
end Go.Proofs.Yticgdbcnknhndaa
