/- The reference's hash: its small parts. -/
import Derived.Test.YtbdmdajbdmdknaaGreatDoorM7
import Derived.StillTailTactics
import Derived.IntWalk
import Derived.Test.YtbdmdajbdmdknaaGreatDoorM5
namespace Go.Proofs.YtbdmdajbdmdknaaGreatDoor
open Go.RowKit
set_option linter.unusedVariables false
set_option linter.unusedSimpArgs false

def turn (x : Int) (n : Nat) : Int := bits .or .u32 (x / 2 ^ n) (x * 2 ^ (32 - n) % 4294967296)
set_option maxHeartbeats 1000000 in
theorem shaTurn_calls (x : Int) (n : Nat) (hn : n ≤ 31) (w : World) :
    Calls Tryz.prog 77 #[.int .u32 x, .int .i64 n] w fun e w' => e = .returned (.int .u32 (turn x n)) ∧ ∃ m, w' = w.drewN m := by
  unfold turn
  go_enter Tryz.func77, Tryz.ntmps77
  go_wp2
  go_quiet (fail)
  go_wp2
  go_ret
  exact ⟨rfl, _, rfl⟩
theorem shaTurn_at (n : Int) (h0 : 0 ≤ n) (hk : n ≤ 31) (x : Int) (w : World) :
    Calls Tryz.prog 77 #[.int .u32 x, .int .i64 n] w fun e w' => e = .returned (.int .u32 (turn x n.toNat)) ∧ ∃ m, w' = w.drewN m := by
  obtain ⟨k, rfl⟩ : ∃ k : Nat, n = (k : Int) := ⟨n.toNat, by omega⟩
  exact shaTurn_calls x k (by omega) w
def shaK : List Int := [1116352408, 1899447441, 3049323471, 3921009573, 961987163, 1508970993, 2453635748, 2870763221, 3624381080, 310598401, 607225278, 1426881987, 1925078388, 2162078206, 2614888103, 3248222580, 3835390401, 4022224774, 264347078, 604807628, 770255983, 1249150122, 1555081692, 1996064986, 2554220882, 2821834349, 2952996808, 3210313671, 3336571891, 3584528711, 113926993, 338241895, 666307205, 773529912, 1294757372, 1396182291, 1695183700, 1986661051, 2177026350, 2456956037, 2730485921, 2820302411, 3259730800, 3345764771, 3516065817, 3600352804, 4094571909, 275423344, 430227734, 506948616, 659060556, 883997877, 958139571, 1322822218, 1537002063, 1747873779, 1955562222, 2024104815, 2227730452, 2361852424, 2428436474, 2756734187, 3204031479, 3329325298]
theorem shaK_lit : nums .u32 shaK = [.int .u32 1116352408, .int .u32 1899447441, .int .u32 3049323471, .int .u32 3921009573, .int .u32 961987163, .int .u32 1508970993, .int .u32 2453635748, .int .u32 2870763221, .int .u32 3624381080, .int .u32 310598401, .int .u32 607225278, .int .u32 1426881987, .int .u32 1925078388, .int .u32 2162078206, .int .u32 2614888103, .int .u32 3248222580, .int .u32 3835390401, .int .u32 4022224774, .int .u32 264347078, .int .u32 604807628, .int .u32 770255983, .int .u32 1249150122, .int .u32 1555081692, .int .u32 1996064986, .int .u32 2554220882, .int .u32 2821834349, .int .u32 2952996808, .int .u32 3210313671, .int .u32 3336571891, .int .u32 3584528711, .int .u32 113926993, .int .u32 338241895, .int .u32 666307205, .int .u32 773529912, .int .u32 1294757372, .int .u32 1396182291, .int .u32 1695183700, .int .u32 1986661051, .int .u32 2177026350, .int .u32 2456956037, .int .u32 2730485921, .int .u32 2820302411, .int .u32 3259730800, .int .u32 3345764771, .int .u32 3516065817, .int .u32 3600352804, .int .u32 4094571909, .int .u32 275423344, .int .u32 430227734, .int .u32 506948616, .int .u32 659060556, .int .u32 883997877, .int .u32 958139571, .int .u32 1322822218, .int .u32 1537002063, .int .u32 1747873779, .int .u32 1955562222, .int .u32 2024104815, .int .u32 2227730452, .int .u32 2361852424, .int .u32 2428436474, .int .u32 2756734187, .int .u32 3204031479, .int .u32 3329325298] := rfl
set_option maxRecDepth 100000 in
set_option maxHeartbeats 1000000 in
theorem shaKeys_calls (w : World) : Calls Tryz.prog 78 #[] w fun e w' => e = .returned (.agg (nums .u32 shaK).toArray) ∧ Below w.heap.size w w' := by
  rw [shaK_lit]
  have HR : Hid (Row (w.alloc (.cells #[.int .u32 0, .int .u32 0, .int .u32 0, .int .u32 0, .int .u32 0, .int .u32 0, .int .u32 0, .int .u32 0, .int .u32 0, .int .u32 0, .int .u32 0, .int .u32 0, .int .u32 0, .int .u32 0, .int .u32 0, .int .u32 0, .int .u32 0, .int .u32 0, .int .u32 0, .int .u32 0, .int .u32 0, .int .u32 0, .int .u32 0, .int .u32 0, .int .u32 0, .int .u32 0, .int .u32 0, .int .u32 0, .int .u32 0, .int .u32 0, .int .u32 0, .int .u32 0, .int .u32 0, .int .u32 0, .int .u32 0, .int .u32 0, .int .u32 0, .int .u32 0, .int .u32 0, .int .u32 0, .int .u32 0, .int .u32 0, .int .u32 0, .int .u32 0, .int .u32 0, .int .u32 0, .int .u32 0, .int .u32 0, .int .u32 0, .int .u32 0, .int .u32 0, .int .u32 0, .int .u32 0, .int .u32 0, .int .u32 0, .int .u32 0, .int .u32 0, .int .u32 0, .int .u32 0, .int .u32 0, .int .u32 0, .int .u32 0, .int .u32 0, .int .u32 0] 146)) w.heap.size 146 [.int .u32 0, .int .u32 0, .int .u32 0, .int .u32 0, .int .u32 0, .int .u32 0, .int .u32 0, .int .u32 0, .int .u32 0, .int .u32 0, .int .u32 0, .int .u32 0, .int .u32 0, .int .u32 0, .int .u32 0, .int .u32 0, .int .u32 0, .int .u32 0, .int .u32 0, .int .u32 0, .int .u32 0, .int .u32 0, .int .u32 0, .int .u32 0, .int .u32 0, .int .u32 0, .int .u32 0, .int .u32 0, .int .u32 0, .int .u32 0, .int .u32 0, .int .u32 0, .int .u32 0, .int .u32 0, .int .u32 0, .int .u32 0, .int .u32 0, .int .u32 0, .int .u32 0, .int .u32 0, .int .u32 0, .int .u32 0, .int .u32 0, .int .u32 0, .int .u32 0, .int .u32 0, .int .u32 0, .int .u32 0, .int .u32 0, .int .u32 0, .int .u32 0, .int .u32 0, .int .u32 0, .int .u32 0, .int .u32 0, .int .u32 0, .int .u32 0, .int .u32 0, .int .u32 0, .int .u32 0, .int .u32 0, .int .u32 0, .int .u32 0, .int .u32 0]) := hidden (Row.new w _ _)
  go_enter Tryz.func78, Tryz.ntmps78
  go_wp2_with (with_reducible refine at_store 0 ?_; go_must (refine walk_store_row (vs := [.int .u32 1116352408, .int .u32 1899447441, .int .u32 3049323471, .int .u32 3921009573, .int .u32 961987163, .int .u32 1508970993, .int .u32 2453635748, .int .u32 2870763221, .int .u32 3624381080, .int .u32 310598401, .int .u32 607225278, .int .u32 1426881987, .int .u32 1925078388, .int .u32 2162078206, .int .u32 2614888103, .int .u32 3248222580, .int .u32 3835390401, .int .u32 4022224774, .int .u32 264347078, .int .u32 604807628, .int .u32 770255983, .int .u32 1249150122, .int .u32 1555081692, .int .u32 1996064986, .int .u32 2554220882, .int .u32 2821834349, .int .u32 2952996808, .int .u32 3210313671, .int .u32 3336571891, .int .u32 3584528711, .int .u32 113926993, .int .u32 338241895, .int .u32 666307205, .int .u32 773529912, .int .u32 1294757372, .int .u32 1396182291, .int .u32 1695183700, .int .u32 1986661051, .int .u32 2177026350, .int .u32 2456956037, .int .u32 2730485921, .int .u32 2820302411, .int .u32 3259730800, .int .u32 3345764771, .int .u32 3516065817, .int .u32 3600352804, .int .u32 4094571909, .int .u32 275423344, .int .u32 430227734, .int .u32 506948616, .int .u32 659060556, .int .u32 883997877, .int .u32 958139571, .int .u32 1322822218, .int .u32 1537002063, .int .u32 1747873779, .int .u32 1955562222, .int .u32 2024104815, .int .u32 2227730452, .int .u32 2361852424, .int .u32 2428436474, .int .u32 2756734187, .int .u32 3204031479, .int .u32 3329325298]) rfl 146 (.tmp 0) (.tmp 1) rfl HR.out rfl rfl (by kernel_rfl) rfl (by rw [← shaK_lit]; exact nums_one _ _) ?_; intro w1 hR hg; have HR1 := hidden hR; have HG := hidden hg; clear hR hg))
  exact bodyPost_ret (row_results rfl _ rfl HR1.out Tryz.underlying146 rfl (by kernel_rfl)) rfl ⟨rfl, (below_alloc0 w _).grown HG.out (by simp) (by rintro k ⟨⟩; exact Nat.le_refl _)⟩
theorem shaK_len : shaK.length = 64 := rfl
end Go.Proofs.YtbdmdajbdmdknaaGreatDoor
