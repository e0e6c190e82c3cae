/- laws.FnKeySetOrder at every input. -/
import Derived.Test.YthgklpkkcaiehaaDoorKOrd
import Derived.Test.YthgklpkkcaiehaaDoorRowkit
namespace Go.Proofs.YthgklpkkcaiehaaDoor
open Go.RowKit
set_option linter.unusedVariables false
set_option linter.unusedSimpArgs false

set_option maxRecDepth 100000 in
set_option maxHeartbeats 4000000 in
theorem ord_few (A : Option Addr) (n c : Nat) (t s : Int) (w : World) (hn : n < 2 ∨ 20 < n) (hm : n ≤ 140737488351232) :
    Calls Tryd.prog 5 #[.slice A n c, .int .u8 t, .int .u8 s] w fun e w' => e = .returned (.bool true) ∧ Below w.heap.size w w' := by
  by_cases hbig : 2147483647 < n
  · clear hn
    go_enter Tryd.func5, Tryd.ntmps5
    go_wp2
    go_ret
    exact ⟨rfl, Below.refl _ _⟩
  · by_cases h0 : n < 2
    · clear hn
      go_enter Tryd.func5, Tryd.ntmps5
      go_wp2_with (go_at_call 15; go_must (refine (keysLive_calls _).mono ?_; rintro e w9 ⟨rfl, hB9⟩; have HB9 := hidden hB9; clear hB9))
      go_ret
      exact ⟨rfl, HB9.out⟩
    · have h8 : 20 < n := by omega
      clear hn
      go_enter Tryd.func5, Tryd.ntmps5
      go_wp2_with (go_at_call 15; go_must (refine (keysLive_calls _).mono ?_; rintro e w9 ⟨rfl, hB9⟩; have HB9 := hidden hB9; clear hB9))
      go_ret
      exact ⟨rfl, HB9.out⟩
theorem u8_nat (t : Int) (wt : (Lit.int .u8 t).wf = true) : ∃ k : Nat, t = k ∧ k < 256 := by
  simp [Lit.wf, IntKind.min, IntKind.max, IntKind.bits, IntKind.signed] at wt
  exact ⟨t.toNat, by omega, by omega⟩
theorem setOrder_walk (A : Option Addr) (n c : Nat) (zs : List Int) (t s : Int) (w : World) (hrow : IsRow .u8 w A n c zs) (hy : n * 1 ≤ 140737488351232) (wt : (Lit.int .u8 t).wf = true) (ws : (Lit.int .u8 s).wf = true) :
    Calls Tryd.prog 5 #[.slice A n c, .int .u8 t, .int .u8 s] w fun e w' => e = .returned (.bool true) ∧ Below w.heap.size w w' := by
  by_cases hn : n < 2 ∨ 20 < n
  · exact ord_few A n c t s w hn (by omega)
  · have hc := hrow.came
    obtain ⟨k, rfl, hk⟩ := u8_nat t wt
    obtain ⟨k2, rfl, hk2⟩ := u8_nat s ws
    refine ord_calls A n c (zs.take n) k k2 w hc.rd hc.hlen (by omega) (by omega) hk hk2 (fun x hx => ?_)
    have hx2 := hc.wf x hx
    simp [Lit.wf, IntKind.min, IntKind.max, IntKind.bits, IntKind.signed] at hx2
    omega
end Go.Proofs.YthgklpkkcaiehaaDoor
