/- The fixed example of the laws about padding. -/
import Derived.Test.YticgdbcnknhndaaUnpad
namespace Go.Proofs.Yticgdbcnknhndaa
open Go.RowKit
set_option linter.unusedVariables false
set_option linter.unusedSimpArgs false
set_option maxRecDepth 10000 in
set_option maxHeartbeats 1000000 in
theorem padAwake_calls (w : World) : Calls Try.prog 19 #[] w fun e w' => e = .returned (.bool true) ∧ Below w.heap.size w w' := by
  have hb1 : Hid (IsB [7, 2, 2]) := hidden (by unfold IsB; decide)
  have hp : Hid (padded [7] 3 = [7, 2, 2]) := hidden (by decide)
  have hpd : Hid (padBy [7] 2 = [7, 2, 2]) := hidden (by decide)
  go_enter Try.func19, Try.ntmps19
  go_wp2_with (first
    | (go_at_call 37; go_must (refine (unpadded_calls _ 3 3 2 [7] _ (by rw [hpd.out]; exact Rd.new w _ (nums .u8 [7, 2, 2]) _ rfl) rfl (by omega) (by intro h; cases h) (by omega) (by omega) (by omega)).mono ?_; rintro e w1 ⟨rfl, hB1⟩))
    | (go_at_call 21; go_must (refine (padded_calls _ 1 1 3 [7] _ (Rd.new w1 _ (nums .u8 [7]) _ rfl) rfl (by omega) (by intro h; cases h) (by omega) (by omega) (by omega)).mono ?_; rintro e w2 ⟨v2, rfl, hO2, hB2⟩; rw [hp.out] at hO2; obtain ⟨A2, c2, q2, hc2, hr2, hA2⟩ := hO2.read; rw [show (nums .u8 [7, 2, 2]).length = 3 from rfl] at q2; subst q2))
    | (go_at_call 20; go_must (refine (partSame_calls A2 _ 3 c2 3 3 [7, 2, 2] [7, 2, 2] _ (hr2.alloc _) rfl (Rd.new w2 _ (nums .u8 [7, 2, 2]) _ rfl) rfl hb1.out hb1.out).mono ?_; rintro e w3 ⟨rfl, rfl⟩; rw [show decide (([7, 2, 2] : List Int) = [7, 2, 2]) = true from rfl])))
  go_ret
  exact ⟨rfl, below_next (below_next (below_next (below_next (below_alloc0 _ _) hB1) (below_alloc0 _ _)) hB2) (below_alloc0 _ _)⟩
end Go.Proofs.Yticgdbcnknhndaa
