/- A signature that is put behind a signing input; the functions of impl that make compact forms. -/
import Derived.Test.YtmibnnmampfalaaDoorB64V
namespace Go.Proofs.YtmibnnmampfalaaDoor
open Go.RowKit
set_option linter.unusedVariables false
set_option linter.unusedSimpArgs false

theorem defEnc_calls (w : World) : Calls Tryd.prog 25 #[] w fun e w' => ∃ g, e = .returned (.iface 74 (.pointer (some ⟨g, 0, none⟩))) ∧ EncAt w' g (alpha true) (tab true) (-1) ∧ w.heap.size ≤ g ∧ Below w.heap.size w w' := by
  go_enter Tryd.func25, Tryd.ntmps25
  go_wp2_with (go_at_call 33; go_must (refine (getEnc_calls _).mono ?_; rintro e w1 ⟨g, rfl, hE1, hg1, hB1⟩; have HE1 := hidden hE1; have HB1 := hidden hB1; have Hg1 := hidden hg1; clear hE1 hB1 hg1))
  go_ret
  exact ⟨g, rfl, HE1.out, Hg1.out, HB1.out⟩
end Go.Proofs.YtmibnnmampfalaaDoor
