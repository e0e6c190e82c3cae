/- Short, by the one field x. -/
import Derived.Test.YtmibnnmampfalaaClaimH
namespace Go.Proofs.Ytmibnnmampfalaa
open Go.RowKit
set_option linter.unusedVariables false
set_option linter.unusedSimpArgs false

set_option maxRecDepth 10000 in
set_option maxHeartbeats 2000000 in
theorem claimShort_calls (k : Int) (t : ByteArray) (b : Bool) (m : Int) (A : Option Addr) (n c : Nat) (l : List ByteArray) (w : World) (h : Rd w A (strs l)) (hn : l.length = n) :
    Calls Try.prog 31 #[plainV k t b m A n c] w (ShortP k n w) := by
  unfold plainV
  have hR0 := Row.new (w.alloc (.cells #[.int .i64 k, .string t, .bool b, .int .i32 m, .slice A n c] 50)) 76 [.string ⟨#[120]⟩, .int .i64 k, .string t, .bool b, .int .i32 m, .slice A n c]
  rw [World.size_alloc] at hR0
  have HR := hidden hR0
  have Hh := hidden h
  clear h hR0
  go_enter Try.func31, Try.ntmps31
  go_wp2_with (go_at_call 57; go_must (refine (mapShort_calls (w.heap.size + 1) k t b m A n c l _ HR.out ((Hh.out.alloc _).alloc _) hn).mono ?_; rintro e w1 ⟨r, rfl, hs, hB1⟩))
  go_ret
  exact ⟨⟨r, rfl, hs, below_next ((below_alloc0 w _).alloc (by simp) _) hB1⟩⟩
end Go.Proofs.Ytmibnnmampfalaa
