/- What the listed variable reads as, for the walks. -/
import Derived.Test.YtmibnnmampfalaaDoorSplit2
import Derived.Test.YtmibnnmampfalaaDoorRows
import Derived.LaidMore
import Derived.LaidLaws
import Derived.Stop.Joined
import Derived.Stop.LaidErr
namespace Go.Proofs.YtmibnnmampfalaaDoor
open Go.RowKit Go.ChangeShapes Go.WideShapes
set_option linter.unusedVariables false
set_option linter.unusedSimpArgs false
theorem errRow (u : TypeId) (h : Tryd.prog.typeName? 3 u = some ("*" ++ "errors.errorString")) : u = 76 :=
  typeName_ptr_named (by kernel_rfl) (by kernel_rfl) (by decide) u h
theorem err_of_laid {W : World} (h : laidMetH Tryd.prog Rows.fnPartTornRow.laid W) : ∃ a, ErrAt W a := by
  rw [MakeChecks.laidMetH_plain _ _ _ (by kernel_rfl)] at h
  have gn : Tryd.prog.globalNamed (Rows.fnPartTornRow.named.headD default) = some 0 := by kernel_rfl
  obtain ⟨a, s, hv, _⟩ := laid_sentinel (r := []) h gn (show (Tryd.prog.globals[0]?).map (·.type) = some 42 by kernel_rfl) Tryd.underlying42 (fun u hu => errRow u (hu.trans (by kernel_rfl))) Tryd.underlying76 Tryd.underlying78 rfl rfl Tryd.underlying9 (by kernel_rfl) (by kernel_rfl)
  refine ⟨a, ?_⟩
  have := World.var?_cell gn hv 0
  simpa [ErrAt] using this
end Go.Proofs.YtmibnnmampfalaaDoor
