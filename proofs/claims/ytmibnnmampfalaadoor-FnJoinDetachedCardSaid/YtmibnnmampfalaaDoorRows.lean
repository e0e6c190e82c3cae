/-
  NARROWER THAN 'FOR EVERY INPUT', by the rows' own cells (each row's printed sentence says how): FnPartTorn: laid · FnJoinDetached: laid.
  DERIVED. THE GIVEN ROWS OF THIS SEAT. 2 by the template 'for every input the law returns true; each argument reads behind the call as it read before'; 0 by the template 'total and deterministic' (their statements: YtmibnnmampfalaaDoorTotals.lean).
  GIVEN WITH THE SEED: the statements are not yours to turn. If you find one false, say at which input.
  Laid BY PROGRAM, IN A SANDBOX (cutbox-rows.mjs): the forced cells as the released guide's own fill.sh prints them over the translation c8dd262ecd7e85d3… (all of the seat's roots in one cut). By AI agents, Wed Nov 11 2026. No macro, syntax, notation, axiom, sorry.
-/
import Derived.Test.YtmibnnmampfalaaDoorChecked
import GoSem.Claim
import GoSem.ClaimJoined
import GoSem.ClaimMapViews
import Derived.JoinedTies
import Derived.KernelRfl
namespace Go.Proofs.YtmibnnmampfalaaDoor
/- THE CELL 'sum', in the pinned program and in every row, IS THE sha256 OF THE DUMP (.gsa) THAT YtmibnnmampfalaaDoorProg.lean LOADS. Nothing in Lean hashes anything: it is a label: what it is worth is what the hold of that sum in a sandbox is worth. -/
noncomputable def Tryd.pinned : Pinned := { name := "ytmibnnmampfalaadoor", sum := "c8dd262ecd7e85d3772b3b2c9b78d11515b57ed37f37b13a98d37ccc97f67ce5", checked := Tryd.checked }
namespace Rows
def none {H : Type} : Left H := { results := [], args := [] }

/- WHAT THE LISTED PACKAGE-LEVEL VARIABLES READ AS WHEN THE CALL BEGINS. Each datum BY PROGRAM (the guide's laid-datum.mjs) off the statement by which the dump's own 'gosem.cut.vars' lays the variable. In a bare row this is a premise. The card (YtmibnnmampfalaaDoorCards.lean) ties it to the program's text. -/
def laid_pub_bullarium_pub_jwx_jws_jwsbb_errInvalidNumberOfSegments {H : Type} : DataW H := .iface "*errors.errorString" (.ptr (.agg [.lit (.string [106, 119, 115, 98, 98, 58, 32, 105, 110, 118, 97, 108, 105, 100, 32, 110, 117, 109, 98, 101, 114, 32, 111, 102, 32, 115, 101, 103, 109, 101, 110, 116, 115])]))

/-- 'laws.FnPartTorn': WHATEVER THE INPUT: true; the input reads as it did. -/
def fnPartTornSpec : ChangeSpec := { name := "fnPartTorn", fn := fun _ => fun
  | [d1, d2, d3, d4] => { results := [.lit (.bool true)], args := [d1, d2, d3, d4] }
  | _ => none }
def fnPartTornRow : OpenClaim := { program := "ytmibnnmampfalaadoor", sum := "c8dd262ecd7e85d3772b3b2c9b78d11515b57ed37f37b13a98d37ccc97f67ce5", func := "pub-bullarium/laws.FnPartTorn", spec := "fnPartTorn", unfollowed := true, recurses := true, named := ["pub-bullarium/pub/jwx/jws/jwsbb.errInvalidNumberOfSegments"], apart := false, laid := [("pub-bullarium/pub/jwx/jws/jwsbb.errInvalidNumberOfSegments", laid_pub_bullarium_pub_jwx_jws_jwsbb_errInvalidNumberOfSegments)] }
def FnPartTornSaid : Prop := fnPartTornRow.holds Tryd.pinned (OpenSpec.ofChange fnPartTornSpec)

/-- ITS FALSE NEIGHBOUR: 'it returns false'. Refute it at one input. -/
def fnPartTornWrong : ChangeSpec := { name := "fnPartTorn", fn := fun _ => fun
  | [d1, d2, d3, d4] => { results := [.lit (.bool false)], args := [d1, d2, d3, d4] }
  | _ => none }
def FnPartTornWrongFalsely : Prop := fnPartTornRow.holds Tryd.pinned (OpenSpec.ofChange fnPartTornWrong)

/-- 'laws.FnJoinDetached': WHATEVER THE INPUT: true; the input reads as it did. -/
def fnJoinDetachedSpec : ChangeSpec := { name := "fnJoinDetached", fn := fun _ => fun
  | [d1, d2, d3, d4, d5, d6] => { results := [.lit (.bool true)], args := [d1, d2, d3, d4, d5, d6] }
  | _ => none }
def fnJoinDetachedRow : OpenClaim := { program := "ytmibnnmampfalaadoor", sum := "c8dd262ecd7e85d3772b3b2c9b78d11515b57ed37f37b13a98d37ccc97f67ce5", func := "pub-bullarium/laws.FnJoinDetached", spec := "fnJoinDetached", unfollowed := true, recurses := true, named := ["pub-bullarium/pub/jwx/jws/jwsbb.errInvalidNumberOfSegments"], apart := false, laid := [("pub-bullarium/pub/jwx/jws/jwsbb.errInvalidNumberOfSegments", laid_pub_bullarium_pub_jwx_jws_jwsbb_errInvalidNumberOfSegments)] }
def FnJoinDetachedSaid : Prop := fnJoinDetachedRow.holds Tryd.pinned (OpenSpec.ofChange fnJoinDetachedSpec)

/-- ITS FALSE NEIGHBOUR: 'it returns false'. Refute it at one input. -/
def fnJoinDetachedWrong : ChangeSpec := { name := "fnJoinDetached", fn := fun _ => fun
  | [d1, d2, d3, d4, d5, d6] => { results := [.lit (.bool false)], args := [d1, d2, d3, d4, d5, d6] }
  | _ => none }
def FnJoinDetachedWrongFalsely : Prop := fnJoinDetachedRow.holds Tryd.pinned (OpenSpec.ofChange fnJoinDetachedWrong)

/- THE SECOND FORM. 'bulk': how many values and letters a reading holds, each counted each time it is reached (what is shared counts as often as it is met; a slice's spare places count too). A statement '..UptoSaid' is the law's where the arguments, and the package variables that the reading takes, are together of bulk at most 1048576: NARROWER than '..Said'. Prove '..Said' where nothing that the law and all that it calls make is longer than what came in: it says more and counts as full. Else prove '..UptoSaid'. A law counts once. -/
mutual
def uptoBulk {H : Type} : DataW H → Nat
  | .lit (.string bytes) => bytes.length + 1
  | .lit _ => 1
  | .nil => 1
  | .ptr d => uptoBulk d + 1
  | .slice elems spare => uptoBulkAll elems + uptoBulkAll spare + 1
  | .agg parts => uptoBulkAll parts + 1
  | .iface _ d => uptoBulk d + 1
  | .map entries => uptoBulkEntries entries + 1
  | .held _ => 1
def uptoBulkAll {H : Type} : List (DataW H) → Nat
  | [] => 0
  | d :: r => uptoBulk d + uptoBulkAll r
def uptoBulkEntries {H : Type} : List (Lit × DataW H) → Nat
  | [] => 0
  | x :: r => uptoBulkEntry x + uptoBulkEntries r
def uptoBulkEntry {H : Type} : Lit × DataW H → Nat
  | (.string bytes, d) => bytes.length + uptoBulk d + 1
  | (_, d) => uptoBulk d + 1
 end
def uptoSmall : (H : Type) → List (DataW H) → Bool := fun _ ds => decide (uptoBulkAll ds ≤ 1048576)
def OpenSpec.upto (s : _root_.Go.ChangeSpec) : _root_.Go.OpenSpec := { _root_.Go.OpenSpec.ofChange s with cond := some uptoSmall }

/-- 'laws.FnPartTorn', WHERE WHAT IT READS IS OF BULK AT MOST 1048576: true; the input reads as it did. -/
def fnPartTornUptoRow : OpenClaim := { program := "ytmibnnmampfalaadoor", sum := "c8dd262ecd7e85d3772b3b2c9b78d11515b57ed37f37b13a98d37ccc97f67ce5", func := "pub-bullarium/laws.FnPartTorn", spec := "fnPartTorn", unfollowed := true, recurses := true, named := ["pub-bullarium/pub/jwx/jws/jwsbb.errInvalidNumberOfSegments"], apart := false, laid := [("pub-bullarium/pub/jwx/jws/jwsbb.errInvalidNumberOfSegments", laid_pub_bullarium_pub_jwx_jws_jwsbb_errInvalidNumberOfSegments)], narrowed := true }
def FnPartTornUptoSaid : Prop := fnPartTornUptoRow.holds Tryd.pinned (OpenSpec.upto fnPartTornSpec)

/-- 'laws.FnJoinDetached', WHERE WHAT IT READS IS OF BULK AT MOST 1048576: true; the input reads as it did. -/
def fnJoinDetachedUptoRow : OpenClaim := { program := "ytmibnnmampfalaadoor", sum := "c8dd262ecd7e85d3772b3b2c9b78d11515b57ed37f37b13a98d37ccc97f67ce5", func := "pub-bullarium/laws.FnJoinDetached", spec := "fnJoinDetached", unfollowed := true, recurses := true, named := ["pub-bullarium/pub/jwx/jws/jwsbb.errInvalidNumberOfSegments"], apart := false, laid := [("pub-bullarium/pub/jwx/jws/jwsbb.errInvalidNumberOfSegments", laid_pub_bullarium_pub_jwx_jws_jwsbb_errInvalidNumberOfSegments)], narrowed := true }
def FnJoinDetachedUptoSaid : Prop := fnJoinDetachedUptoRow.holds Tryd.pinned (OpenSpec.upto fnJoinDetachedSpec)

end Rows
end Go.Proofs.YtmibnnmampfalaaDoor
