/- What the listed variables read as, for the walk of FnJoinLedger. -/
import Derived.Test.YtbdmdajbdmdknaaGreatDoorLedL
import Derived.Test.YtbdmdajbdmdknaaGreatDoorRows
import Derived.LaidMore
import Derived.LaidLaws
import Derived.Stop.Joined
import Derived.Stop.LaidErr
namespace Go.Proofs.YtbdmdajbdmdknaaGreatDoor
open Go.RowKit Go.ChangeShapes Go.WideShapes
set_option linter.unusedVariables false
set_option linter.unusedSimpArgs false
theorem errRowL (u : TypeId) (h : Tryz.prog.typeName? 3 u = some ("*" ++ "errors.errorString")) : u = 153 :=
  typeName_ptr_named (by kernel_rfl) (by kernel_rfl) (by decide) u h
theorem err_of_laid {W : World} (h : laidMetH Tryz.prog Rows.fnJoinLedgerRow.laid W) : ∃ a, ErrAt W a ∧ SynAt W := by
  rw [MakeChecks.laidMetH_plain _ _ _ (by kernel_rfl)] at h
  have h4 := laidMet.tail (laidMet.tail (laidMet.tail (laidMet.tail h)))
  have h5 := laidMet.tail h4
  have g4 : Tryz.prog.globalNamed "strconv.ErrSyntax" = some 3 := by kernel_rfl
  have g5 : Tryz.prog.globalNamed "pub-bullarium/pub/jwx/jws/jwsbb.errInvalidNumberOfSegments" = some 2 := by kernel_rfl
  obtain ⟨a, s, hv, _⟩ := laid_sentinel (r := []) h5 g5 (show (Tryz.prog.globals[2]?).map (·.type) = some 64 by kernel_rfl) Tryz.underlying64 (fun u hu => errRowL u (hu.trans (by kernel_rfl))) Tryz.underlying153 Tryz.underlying155 rfl rfl Tryz.underlying9 (by kernel_rfl) (by kernel_rfl)
  obtain ⟨a2, s2, hv2, _⟩ := laid_sentinel h4 g4 (show (Tryz.prog.globals[3]?).map (·.type) = some 64 by kernel_rfl) Tryz.underlying64 (fun u hu => errRowL u (hu.trans (by kernel_rfl))) Tryz.underlying153 Tryz.underlying155 rfl rfl Tryz.underlying9 (by kernel_rfl) (by kernel_rfl)
  refine ⟨a, ?_, 153, a2, ?_⟩
  · have := World.var?_cell g5 hv 0
    simpa [ErrAt] using this
  · have := World.var?_cell g4 hv2 0
    simpa using this
end Go.Proofs.YtbdmdajbdmdknaaGreatDoor
