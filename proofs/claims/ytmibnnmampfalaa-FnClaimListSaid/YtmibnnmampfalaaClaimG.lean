/- A text that is not in a list. -/
import Derived.Test.YtmibnnmampfalaaClaimF
namespace Go.Proofs.Ytmibnnmampfalaa
open Go.RowKit
set_option linter.unusedVariables false
set_option linter.unusedSimpArgs false

set_option maxHeartbeats 1000000 in
theorem indexNo_calls (A : Option Addr) (n c : Nat) (l : List ByteArray) (x : ByteArray) (w : World) (h : Rd w A (strs l)) (hn : l.length = n) (hb : n ≤ 140737488355328) (hx : x ∉ l) :
    Calls Try.prog 88 #[.slice A n c, .string x] w fun e w' => e = .returned (.int .i64 (-1)) ∧ w = w' := by
  have Hx := hidden hx
  clear hx
  go_enter Try.func88, Try.ntmps88
  go_wp2
  go_loop [8] (fun i => ∃ k : Nat, k ≤ n ∧ i = .int .i64 k) (fun i => n - (intOf i).toNat)
  case atStart => exact ⟨0, by omega, rfl⟩
  case round =>
    obtain ⟨k, hk, rfl⟩ := hrel
    by_cases hlt : k < n
    · have hlt' : k < l.length := by omega
      obtain ⟨b0, o0, rfl, _, c0⟩ := h.atS k hlt'
      have hq := bytes_eq x (si l k)
      have hne : ¬ x = si l k := fun e => Hx.out (by rw [e]; simp [si, List.getD_eq_getElem?_getD, hlt'])
      rw [decide_eq_false hne] at hq
      clear h hne
      generalize si l k = s at *
      go_wp2
      go_round
      case rel => exact ⟨k + 1, by omega, by go_num⟩
      case measure => simp [intOf]; omega
    · obtain rfl : k = n := by omega
      clear h
      go_wp2
      go_ret
      exact ⟨rfl, rfl⟩
set_option maxHeartbeats 1000000 in
theorem containsNo_calls (A : Option Addr) (n c : Nat) (l : List ByteArray) (x : ByteArray) (w : World) (h : Rd w A (strs l)) (hn : l.length = n) (hb : n ≤ 140737488355328) (hx : x ∉ l) :
    Calls Try.prog 69 #[.slice A n c, .string x] w fun e w' => e = .returned (.bool false) ∧ w = w' := by
  have Hx := hidden hx
  clear hx
  have Hh := hidden h
  clear h
  go_enter Try.func69, Try.ntmps69
  go_wp2_with (go_at_call 88; go_must (refine (indexNo_calls A n c l x _ Hh.out hn hb Hx.out).mono ?_; rintro e w1 ⟨rfl, rfl⟩))
  go_ret
  exact ⟨rfl, rfl⟩
set_option maxRecDepth 10000 in
set_option maxHeartbeats 1000000 in
theorem mapOther_calls (w : World) :
    Calls Try.prog 76 #[.int .i64 2, .string ⟨#[120]⟩] w fun e w' => e = .returned (.bool false) ∧ Below w.heap.size w w' := by
  have hx : Hid ((⟨#[120]⟩ : ByteArray) ∉ [(⟨#[]⟩ : ByteArray), ⟨#[101, 120, 112]⟩, ⟨#[105, 97, 116]⟩, ⟨#[110, 98, 102]⟩]) := hidden (by simp [ByteArray.mk.injEq])
  go_enter Try.func76, Try.ntmps76
  go_wp2_with (go_at_call 69; go_must (refine (containsNo_calls _ 4 4 [⟨#[]⟩, ⟨#[101, 120, 112]⟩, ⟨#[105, 97, 116]⟩, ⟨#[110, 98, 102]⟩] _ _ (Rd.new w _ (strs [⟨#[]⟩, ⟨#[101, 120, 112]⟩, ⟨#[105, 97, 116]⟩, ⟨#[110, 98, 102]⟩]) _ rfl) rfl (by omega) hx.out).mono ?_; rintro e w1 ⟨rfl, rfl⟩))
  go_ret
  exact ⟨rfl, below_alloc0 _ _⟩
end Go.Proofs.Ytmibnnmampfalaa
