/- slices.Contains and slices.Equal of ints. -/
import Derived.Test.YthgklpkkcaiehaaDoorKAt
namespace Go.Proofs.YthgklpkkcaiehaaDoor
open Go.RowKit
set_option linter.unusedVariables false
set_option linter.unusedSimpArgs false

def intsN (l : List Nat) : List Value := nums .i64 (l.map Nat.cast)
theorem intsN_at (l : List Nat) (j : Nat) (h : j < l.length) : (intsN l)[j]? = some (.int .i64 (l.getD j 0)) := by
  simp [intsN, nums, h]
set_option maxRecDepth 100000 in
set_option maxHeartbeats 1000000 in
theorem indexNo_calls (A : Option Addr) (l : List Nat) (n c x : Nat) (w : World) (hR : Rd w A (intsN l)) (hl : l.length = n) (hn : n ≤ 1000) (hx : x ∉ l) :
    Calls Tryd.prog 39 #[.slice A n c, .int .i64 x] w fun e w' => e = .returned (.int .i64 (-1)) ∧ w = w' := by
  have HX := hidden hx
  clear hx
  go_enter Tryd.func39, Tryd.ntmps39
  go_wp2
  go_loop [8] (fun i => ∃ j : Nat, j ≤ n ∧ i = .int .i64 j) (fun i => n - (intOf i).toNat)
  case atStart => exact ⟨0, by omega, rfl⟩
  case round =>
    obtain ⟨j, hj, rfl⟩ := hrel
    by_cases hlt : j < n
    · obtain ⟨b0, o0, rfl, _, c0⟩ := hR _ _ (intsN_at l j (by omega))
      have hq : ((x : Int) == ((l.getD j 0 : Nat) : Int)) = false := beq_eq_false_iff_ne.2 (fun e => HX.out (by
        have e2 : x = l.getD j 0 := by omega
        rw [e2, List.getD_eq_getElem?_getD, List.getElem?_eq_getElem (by omega), Option.getD_some]
        exact List.getElem_mem _))
      obtain ⟨y, hy⟩ : ∃ y, l.getD j 0 = y := ⟨_, rfl⟩
      rw [hy] at c0 hq
      clear hR hy
      go_wp2
      go_round
      case rel => exact ⟨j + 1, by omega, by go_num⟩
      case measure => simp [intOf]; omega
    · obtain rfl : j = n := by omega
      go_wp2
      go_ret
      exact ⟨rfl, rfl⟩
theorem containsNo_calls (A : Option Addr) (l : List Nat) (n c x : Nat) (w : World) (hR : Rd w A (intsN l)) (hl : l.length = n) (hn : n ≤ 1000) (hx : x ∉ l) :
    Calls Tryd.prog 18 #[.slice A n c, .int .i64 x] w fun e w' => e = .returned (.bool false) ∧ w = w' := by
  have HC := hidden (indexNo_calls A l n c x w hR hl hn hx)
  clear hR hx hl
  go_enter Tryd.func18, Tryd.ntmps18
  go_wp2_with (go_at_call 39; go_must (refine HC.out.mono ?_; rintro e w1 ⟨rfl, rfl⟩))
  go_ret
  exact ⟨rfl, rfl⟩
end Go.Proofs.YthgklpkkcaiehaaDoor
