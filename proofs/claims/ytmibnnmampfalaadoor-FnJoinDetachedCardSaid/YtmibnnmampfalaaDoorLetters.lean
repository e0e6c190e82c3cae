/- The walk of FnPartLetters. -/
import Derived.Test.YtmibnnmampfalaaDoorPart0
namespace Go.Proofs.YtmibnnmampfalaaDoor
open Go.RowKit
set_option linter.unusedVariables false
set_option linter.unusedSimpArgs false

def isUrl (a : Int) : Prop := (65 ≤ a ∧ a ≤ 90) ∨ (97 ≤ a ∧ a ≤ 122) ∨ (48 ≤ a ∧ a ≤ 57) ∨ a = 45 ∨ a = 95
def okUrl : Bool := (List.range 64).all fun i => (decide (65 ≤ gi (alpha true) i) && decide (gi (alpha true) i ≤ 90)) || (decide (97 ≤ gi (alpha true) i) && decide (gi (alpha true) i ≤ 122)) || (decide (48 ≤ gi (alpha true) i) && decide (gi (alpha true) i ≤ 57)) || gi (alpha true) i == 45 || gi (alpha true) i == 95
theorem okUrl_true : okUrl = true := by kernel_rfl
theorem alpha_url {i : Nat} (h : i < 64) : isUrl (gi (alpha true) i) := by
  have := okUrl_true
  simp only [okUrl, List.all_eq_true, List.mem_range, Bool.or_eq_true, Bool.and_eq_true, decide_eq_true_iff, beq_iff_eq] at this
  have := this i h
  unfold isUrl
  omega
theorem encF_url {l : List Int} (hb : IsB l) {x : Int} (hx : x ∈ encF (alpha true) l) : isUrl x := by
  obtain ⟨i, hi, rfl⟩ := encF_mem _ l hb x hx
  exact alpha_url hi
end Go.Proofs.YtmibnnmampfalaaDoor
