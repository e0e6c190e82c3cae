/- laws.FnKeySetBack at every input. -/
import Derived.Test.YthgklpkkcaiehaaDoorKBack
import Derived.Test.YthgklpkkcaiehaaDoorRowkit
namespace Go.Proofs.YthgklpkkcaiehaaDoor
open Go.RowKit
set_option linter.unusedVariables false
set_option linter.unusedSimpArgs false

set_option maxRecDepth 100000 in
set_option maxHeartbeats 4000000 in
theorem back_few (A : Option Addr) (n c : Nat) (t : Int) (w : World) (hn : n = 0 ∨ 8 < n) (hm : n ≤ 140737488351232) :
    Calls Tryd.prog 4 #[.slice A n c, .int .u8 t] w fun e w' => e = .returned (.bool true) ∧ Below w.heap.size w w' := by
  by_cases hbig : 2147483647 < n
  · clear hn
    go_enter Tryd.func4, Tryd.ntmps4
    go_wp2
    go_ret
    exact ⟨rfl, Below.refl _ _⟩
  · by_cases h0 : n = 0
    · subst h0
      clear hn
      go_enter Tryd.func4, Tryd.ntmps4
      go_wp2_with (go_at_call 15; go_must (refine (keysLive_calls _).mono ?_; rintro e w9 ⟨rfl, hB9⟩; have HB9 := hidden hB9; clear hB9))
      go_ret
      exact ⟨rfl, HB9.out⟩
    · have h8 : 8 < n := by omega
      have hnb : ((n : Int) == 0) = false := beq_eq_false_iff_ne.2 (by omega)
      clear hn h0
      go_enter Tryd.func4, Tryd.ntmps4
      go_wp2_with (go_at_call 15; go_must (refine (keysLive_calls _).mono ?_; rintro e w9 ⟨rfl, hB9⟩; have HB9 := hidden hB9; clear hB9))
      go_ret
      exact ⟨rfl, HB9.out⟩
theorem setBack_walk (A : Option Addr) (n c : Nat) (zs : List Int) (t : Int) (w : World) (hrow : IsRow .u8 w A n c zs) (hy : n * 1 ≤ 140737488351232) (wt : (Lit.int .u8 t).wf = true) :
    Calls Tryd.prog 4 #[.slice A n c, .int .u8 t] w fun e w' => e = .returned (.bool true) ∧ Below w.heap.size w w' := by
  by_cases hn : n = 0 ∨ 8 < n
  · exact back_few A n c t w hn (by omega)
  · have hc := hrow.came
    obtain ⟨k, rfl, hk⟩ : ∃ k : Nat, t = k ∧ k < 256 := by
      simp [Lit.wf, IntKind.min, IntKind.max, IntKind.bits, IntKind.signed] at wt
      exact ⟨t.toNat, by omega, by omega⟩
    refine back_calls A n c (zs.take n) k w hc.rd hc.hlen (by omega) (by omega) hk (fun x hx => ?_)
    have hx2 := hc.wf x hx
    simp [Lit.wf, IntKind.min, IntKind.max, IntKind.bits, IntKind.signed] at hx2
    omega
end Go.Proofs.YthgklpkkcaiehaaDoor
