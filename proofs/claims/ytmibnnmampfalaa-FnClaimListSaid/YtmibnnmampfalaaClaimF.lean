/- The fixed example of the law about lists. -/
import Derived.Test.YtmibnnmampfalaaClaimE
namespace Go.Proofs.Ytmibnnmampfalaa
open Go.RowKit
set_option linter.unusedVariables false
set_option linter.unusedSimpArgs false

set_option maxRecDepth 10000 in
set_option maxHeartbeats 1000000 in
theorem claimAwake_calls (w : World) : Calls Try.prog 32 #[] w fun e w' => e = .returned (.bool true) ∧ Below w.heap.size w w' := by
  go_enter Try.func32, Try.ntmps32
  go_wp2_with (first
    | (go_at_call 33; go_must (refine (accepted0_calls ⟨#[97]⟩ false 0 none 0 0 _).mono ?_; rintro e w1 ⟨v1, rfl, hO1, hB1⟩; obtain ⟨A1, c1, q1, hc1, hr1, hA1⟩ := hO1.read; rw [show (strs [⟨#[97]⟩]).length = 1 from rfl] at q1 hc1; subst q1))
    | (go_at_call 35; go_must (refine (equalS_calls A1 _ 1 c1 1 1 [⟨#[97]⟩] [⟨#[97]⟩] _ (hr1.alloc _) rfl (Rd.new w1 _ (strs [⟨#[97]⟩]) _ rfl) rfl (by omega) true (by simp)).mono ?_; rintro e w2 ⟨rfl, hB2⟩)))
  go_ret
  exact ⟨rfl, below_next hB1 (below_next (below_alloc0 _ _) hB2)⟩
end Go.Proofs.Ytmibnnmampfalaa
