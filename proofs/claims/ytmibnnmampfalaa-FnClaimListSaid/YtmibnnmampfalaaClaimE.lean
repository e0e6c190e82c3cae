/- What the law holds the list to be. -/
import Derived.Test.YtmibnnmampfalaaClaimD
namespace Go.Proofs.Ytmibnnmampfalaa
open Go.RowKit
set_option linter.unusedVariables false
set_option linter.unusedSimpArgs false

set_option maxHeartbeats 1000000 in
theorem list0_calls (t : ByteArray) (b : Bool) (m : Int) (A : Option Addr) (n c : Nat) (w : World) :
    Calls Try.prog 34 #[plainV 0 t b m A n c] w fun e w' => e = .returned (.tuple #[.slice (some ⟨w.heap.size + 1, 0, none⟩) 1 1, .bool true]) ∧ Row w' (w.heap.size + 1) 9 (strs [t]) ∧ Below w.heap.size w w' := by
  unfold plainV
  go_enter Try.func34, Try.ntmps34
  go_wp2
  go_ret2
  refine ⟨rfl, ?_, (below_alloc0 w _).alloc (by simp) _⟩
  have := Row.new (w.alloc (.cells #[.int .i64 0, .string t, .bool b, .int .i32 m, .slice A n c] 50)) 9 (strs [t])
  rw [World.size_alloc] at this
  exact this
set_option maxHeartbeats 1000000 in
theorem list3_calls (t : ByteArray) (b : Bool) (m : Int) (A : Option Addr) (n c : Nat) (w : World) :
    Calls Try.prog 34 #[plainV 3 t b m A n c] w fun e w' => e = .returned (.tuple #[.slice A n c, .bool true]) ∧ Below w.heap.size w w' := by
  unfold plainV
  go_enter Try.func34, Try.ntmps34
  go_wp2
  go_ret2
  exact ⟨rfl, below_alloc0 _ _⟩
set_option maxHeartbeats 1000000 in
theorem listN_calls (k : Int) (h0 : k ≠ 0) (h3 : k ≠ 3) (t : ByteArray) (b : Bool) (m : Int) (A : Option Addr) (n c : Nat) (w : World) :
    Calls Try.prog 34 #[plainV k t b m A n c] w fun e w' => e = .returned (.tuple #[.slice none 0 0, .bool false]) ∧ Below w.heap.size w w' := by
  unfold plainV
  go_enter Try.func34, Try.ntmps34
  go_wp2
  go_ret2
  exact ⟨rfl, below_alloc0 _ _⟩
end Go.Proofs.Ytmibnnmampfalaa
