/- The doors of writing: Encoded, and as a text. -/
import Derived.Test.YtmibnnmampfalaaDoorB64F
namespace Go.Proofs.YtmibnnmampfalaaDoor
open Go.RowKit
set_option linter.unusedVariables false
set_option linter.unusedSimpArgs false

theorem alpha_isB (url : Bool) : IsB (alpha url) := by
  intro x hx
  obtain ⟨i, hi, rfl⟩ := List.mem_iff_getElem.1 hx
  have h := alpha_at url (i := i) (by rw [alpha_len] at hi; exact hi)
  have e : gi (alpha url) i = (alpha url)[i] := by simp [gi, List.getD_eq_getElem?_getD, hi]
  rw [e] at h; omega
theorem encF_isB (url : Bool) {l : List Int} (hb : IsB l) : IsB (encF (alpha url) l) := by
  intro x hx
  obtain ⟨i, hi, rfl⟩ := encF_mem _ l hb x hx
  have := alpha_at url hi
  omega
set_option maxRecDepth 100000 in
set_option maxHeartbeats 1000000 in
theorem encoded_calls (A : Option Addr) (n c : Nat) (l : List Int) (w : World) (h : Rd w A (nums .u8 l)) (hn : l.length = n) (hb : IsB l) (hc : n ≤ c) (hA : A = none → c = 0) (hN : n ≤ 100000) :
    Calls Tryd.prog 19 #[.slice A n c] w (NewB w (encF (alpha true) l)) := by
  have HA := hidden hA
  have H := hidden h
  clear hA h
  go_enter Tryd.func19, Tryd.ntmps19
  go_wp2_with (first
    | (go_at_call 21; go_must (refine (clone_calls A n c l _ H.out hn hc HA.out (by omega)).mono ?_; rintro e w1 ⟨v1, rfl, hO1, hB1⟩; obtain ⟨A1, c1, rfl, hc1, hr1, hA1⟩ := hO1.read; rw [nums_len, hn]; rw [nums_len, hn] at hc1))
    | (go_at_call 28; go_must (refine (encodeB_calls A1 n c1 l _ hr1 hn hb hc1 hN).mono ?_; rintro e w2 ⟨v2, rfl, hO2, hB2⟩)))
  go_ret
  exact ⟨v2, rfl, hO2.lower hB1.size, below_next hB1 hB2⟩
end Go.Proofs.YtmibnnmampfalaaDoor
