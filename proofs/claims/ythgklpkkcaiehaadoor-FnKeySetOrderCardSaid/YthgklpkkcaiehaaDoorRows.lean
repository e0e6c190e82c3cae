/-
  NARROWER THAN 'FOR EVERY INPUT', by the rows' own cells (each row's printed sentence says how): FnKeyFieldLast: laid · FnKeySetBack: laid · FnKeySetOrder: laid.
  DERIVED. THE GIVEN ROWS OF THIS SEAT. 3 by the template 'for every input the law returns true; each argument reads behind the call as it read before'; 0 by the template 'total and deterministic' (their statements: YthgklpkkcaiehaaDoorTotals.lean).
  GIVEN WITH THE SEED: the statements are not yours to turn. If you find one false, say at which input.
  Laid BY PROGRAM, IN A SANDBOX (cutbox-rows.mjs): the forced cells as the released guide's own fill.sh prints them over the translation 5e0080ffda89cb17… (all of the seat's roots in one cut). By AI agents, Wed Nov 11 2026. No macro, syntax, notation, axiom, sorry.
-/
import Derived.Test.YthgklpkkcaiehaaDoorChecked
import GoSem.Claim
import GoSem.ClaimJoined
import GoSem.ClaimMapViews
import Derived.JoinedTies
import Derived.KernelRfl
namespace Go.Proofs.YthgklpkkcaiehaaDoor
/- THE CELL 'sum', in the pinned program and in every row, IS THE sha256 OF THE DUMP (.gsa) THAT YthgklpkkcaiehaaDoorProg.lean LOADS. Nothing in Lean hashes anything: it is a label: what it is worth is what the hold of that sum in a sandbox is worth. -/
noncomputable def Tryd.pinned : Pinned := { name := "ythgklpkkcaiehaadoor", sum := "5e0080ffda89cb179837fbd230223c7411074e488ea519d663dc1ef345f50c88", checked := Tryd.checked }
namespace Rows
def none {H : Type} : Left H := { results := [], args := [] }

/- WHAT THE LISTED PACKAGE-LEVEL VARIABLES READ AS WHEN THE CALL BEGINS. Each datum BY PROGRAM (the guide's laid-datum.mjs) off the statement by which the dump's own 'gosem.cut.vars' lays the variable. In a bare row this is a premise. The card (YthgklpkkcaiehaaDoorCards.lean) ties it to the program's text. -/
def laid_pub_bullarium_pub_jwx_jwa_errInvalidKeyAlgorithm {H : Type} : DataW H := .iface "*errors.errorString" (.ptr (.agg [.lit (.string [105, 110, 118, 97, 108, 105, 100, 32, 107, 101, 121, 32, 97, 108, 103, 111, 114, 105, 116, 104, 109])]))

/-- 'laws.FnKeyFieldLast': WHATEVER THE INPUT: true; the input reads as it did. -/
def fnKeyFieldLastSpec : ChangeSpec := { name := "fnKeyFieldLast", fn := fun _ => fun
  | [d1, d2] => { results := [.lit (.bool true)], args := [d1, d2] }
  | _ => none }
def fnKeyFieldLastRow : OpenClaim := { program := "ythgklpkkcaiehaadoor", sum := "5e0080ffda89cb179837fbd230223c7411074e488ea519d663dc1ef345f50c88", func := "pub-bullarium/laws.FnKeyFieldLast", spec := "fnKeyFieldLast", unfollowed := true, recurses := true, named := ["pub-bullarium/pub/jwx/jwa.errInvalidKeyAlgorithm"], apart := false, laid := [("pub-bullarium/pub/jwx/jwa.errInvalidKeyAlgorithm", laid_pub_bullarium_pub_jwx_jwa_errInvalidKeyAlgorithm)] }
def FnKeyFieldLastSaid : Prop := fnKeyFieldLastRow.holds Tryd.pinned (OpenSpec.ofChange fnKeyFieldLastSpec)

/-- ITS FALSE NEIGHBOUR: 'it returns false'. Refute it at one input. -/
def fnKeyFieldLastWrong : ChangeSpec := { name := "fnKeyFieldLast", fn := fun _ => fun
  | [d1, d2] => { results := [.lit (.bool false)], args := [d1, d2] }
  | _ => none }
def FnKeyFieldLastWrongFalsely : Prop := fnKeyFieldLastRow.holds Tryd.pinned (OpenSpec.ofChange fnKeyFieldLastWrong)

/-- 'laws.FnKeySetBack': WHATEVER THE INPUT: true; the input reads as it did. -/
def fnKeySetBackSpec : ChangeSpec := { name := "fnKeySetBack", fn := fun _ => fun
  | [d1, d2] => { results := [.lit (.bool true)], args := [d1, d2] }
  | _ => none }
def fnKeySetBackRow : OpenClaim := { program := "ythgklpkkcaiehaadoor", sum := "5e0080ffda89cb179837fbd230223c7411074e488ea519d663dc1ef345f50c88", func := "pub-bullarium/laws.FnKeySetBack", spec := "fnKeySetBack", unfollowed := true, recurses := true, named := ["pub-bullarium/pub/jwx/jwa.errInvalidKeyAlgorithm"], apart := false, laid := [("pub-bullarium/pub/jwx/jwa.errInvalidKeyAlgorithm", laid_pub_bullarium_pub_jwx_jwa_errInvalidKeyAlgorithm)] }
def FnKeySetBackSaid : Prop := fnKeySetBackRow.holds Tryd.pinned (OpenSpec.ofChange fnKeySetBackSpec)

/-- ITS FALSE NEIGHBOUR: 'it returns false'. Refute it at one input. -/
def fnKeySetBackWrong : ChangeSpec := { name := "fnKeySetBack", fn := fun _ => fun
  | [d1, d2] => { results := [.lit (.bool false)], args := [d1, d2] }
  | _ => none }
def FnKeySetBackWrongFalsely : Prop := fnKeySetBackRow.holds Tryd.pinned (OpenSpec.ofChange fnKeySetBackWrong)

/-- 'laws.FnKeySetOrder': WHATEVER THE INPUT: true; the input reads as it did. -/
def fnKeySetOrderSpec : ChangeSpec := { name := "fnKeySetOrder", fn := fun _ => fun
  | [d1, d2, d3] => { results := [.lit (.bool true)], args := [d1, d2, d3] }
  | _ => none }
def fnKeySetOrderRow : OpenClaim := { program := "ythgklpkkcaiehaadoor", sum := "5e0080ffda89cb179837fbd230223c7411074e488ea519d663dc1ef345f50c88", func := "pub-bullarium/laws.FnKeySetOrder", spec := "fnKeySetOrder", unfollowed := true, recurses := true, named := ["pub-bullarium/pub/jwx/jwa.errInvalidKeyAlgorithm"], apart := false, laid := [("pub-bullarium/pub/jwx/jwa.errInvalidKeyAlgorithm", laid_pub_bullarium_pub_jwx_jwa_errInvalidKeyAlgorithm)] }
def FnKeySetOrderSaid : Prop := fnKeySetOrderRow.holds Tryd.pinned (OpenSpec.ofChange fnKeySetOrderSpec)

/-- ITS FALSE NEIGHBOUR: 'it returns false'. Refute it at one input. -/
def fnKeySetOrderWrong : ChangeSpec := { name := "fnKeySetOrder", fn := fun _ => fun
  | [d1, d2, d3] => { results := [.lit (.bool false)], args := [d1, d2, d3] }
  | _ => none }
def FnKeySetOrderWrongFalsely : Prop := fnKeySetOrderRow.holds Tryd.pinned (OpenSpec.ofChange fnKeySetOrderWrong)

/- THE SECOND FORM. 'bulk': how many values and letters a reading holds, each counted each time it is reached (what is shared counts as often as it is met; a slice's spare places count too). A statement '..UptoSaid' is the law's where the arguments, and the package variables that the reading takes, are together of bulk at most 1048576: NARROWER than '..Said'. Prove '..Said' where nothing that the law and all that it calls make is longer than what came in: it says more and counts as full. Else prove '..UptoSaid'. A law counts once. -/
mutual
def uptoBulk {H : Type} : DataW H → Nat
  | .lit (.string bytes) => bytes.length + 1
  | .lit _ => 1
  | .nil => 1
  | .ptr d => uptoBulk d + 1
  | .slice elems spare => uptoBulkAll elems + uptoBulkAll spare + 1
  | .agg parts => uptoBulkAll parts + 1
  | .iface _ d => uptoBulk d + 1
  | .map entries => uptoBulkEntries entries + 1
  | .held _ => 1
def uptoBulkAll {H : Type} : List (DataW H) → Nat
  | [] => 0
  | d :: r => uptoBulk d + uptoBulkAll r
def uptoBulkEntries {H : Type} : List (Lit × DataW H) → Nat
  | [] => 0
  | x :: r => uptoBulkEntry x + uptoBulkEntries r
def uptoBulkEntry {H : Type} : Lit × DataW H → Nat
  | (.string bytes, d) => bytes.length + uptoBulk d + 1
  | (_, d) => uptoBulk d + 1
 end
def uptoSmall : (H : Type) → List (DataW H) → Bool := fun _ ds => decide (uptoBulkAll ds ≤ 1048576)
def OpenSpec.upto (s : _root_.Go.ChangeSpec) : _root_.Go.OpenSpec := { _root_.Go.OpenSpec.ofChange s with cond := some uptoSmall }

/-- 'laws.FnKeyFieldLast', WHERE WHAT IT READS IS OF BULK AT MOST 1048576: true; the input reads as it did. -/
def fnKeyFieldLastUptoRow : OpenClaim := { program := "ythgklpkkcaiehaadoor", sum := "5e0080ffda89cb179837fbd230223c7411074e488ea519d663dc1ef345f50c88", func := "pub-bullarium/laws.FnKeyFieldLast", spec := "fnKeyFieldLast", unfollowed := true, recurses := true, named := ["pub-bullarium/pub/jwx/jwa.errInvalidKeyAlgorithm"], apart := false, laid := [("pub-bullarium/pub/jwx/jwa.errInvalidKeyAlgorithm", laid_pub_bullarium_pub_jwx_jwa_errInvalidKeyAlgorithm)], narrowed := true }
def FnKeyFieldLastUptoSaid : Prop := fnKeyFieldLastUptoRow.holds Tryd.pinned (OpenSpec.upto fnKeyFieldLastSpec)

/-- 'laws.FnKeySetBack', WHERE WHAT IT READS IS OF BULK AT MOST 1048576: true; the input reads as it did. -/
def fnKeySetBackUptoRow : OpenClaim := { program := "ythgklpkkcaiehaadoor", sum := "5e0080ffda89cb179837fbd230223c7411074e488ea519d663dc1ef345f50c88", func := "pub-bullarium/laws.FnKeySetBack", spec := "fnKeySetBack", unfollowed := true, recurses := true, named := ["pub-bullarium/pub/jwx/jwa.errInvalidKeyAlgorithm"], apart := false, laid := [("pub-bullarium/pub/jwx/jwa.errInvalidKeyAlgorithm", laid_pub_bullarium_pub_jwx_jwa_errInvalidKeyAlgorithm)], narrowed := true }
def FnKeySetBackUptoSaid : Prop := fnKeySetBackUptoRow.holds Tryd.pinned (OpenSpec.upto fnKeySetBackSpec)

/-- 'laws.FnKeySetOrder', WHERE WHAT IT READS IS OF BULK AT MOST 1048576: true; the input reads as it did. -/
def fnKeySetOrderUptoRow : OpenClaim := { program := "ythgklpkkcaiehaadoor", sum := "5e0080ffda89cb179837fbd230223c7411074e488ea519d663dc1ef345f50c88", func := "pub-bullarium/laws.FnKeySetOrder", spec := "fnKeySetOrder", unfollowed := true, recurses := true, named := ["pub-bullarium/pub/jwx/jwa.errInvalidKeyAlgorithm"], apart := false, laid := [("pub-bullarium/pub/jwx/jwa.errInvalidKeyAlgorithm", laid_pub_bullarium_pub_jwx_jwa_errInvalidKeyAlgorithm)], narrowed := true }
def FnKeySetOrderUptoSaid : Prop := fnKeySetOrderUptoRow.holds Tryd.pinned (OpenSpec.upto fnKeySetOrderSpec)

end Rows
end Go.Proofs.YthgklpkkcaiehaaDoor
