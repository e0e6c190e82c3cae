/- Accept, by the value's type. -/
import Derived.Test.YtmibnnmampfalaaClaimA
namespace Go.Proofs.Ytmibnnmampfalaa
open Go.RowKit
set_option linter.unusedVariables false
set_option linter.unusedSimpArgs false

theorem ta_ss (v : Value) (W : World) : (Instr.typeAssert (.iface 9 v) 20 9 true).run Try.prog W = .ok (.tuple #[v, .bool true]) W := by kernel_rfl
theorem ta_sl (v : Value) (W : World) : (Instr.typeAssert (.iface 9 v) 20 48 true).run Try.prog W = .ok (.tuple #[.slice none 0 0, .bool false]) W := by kernel_rfl
theorem ta_sa (v : Value) (W : World) : (Instr.typeAssert (.iface 9 v) 20 104 true).run Try.prog W = .ok (.tuple #[.slice none 0 0, .bool false]) W := by kernel_rfl
theorem ta_ls (v : Value) (W : World) : (Instr.typeAssert (.iface 48 v) 20 9 true).run Try.prog W = .ok (.tuple #[.string ByteArray.empty, .bool false]) W := by kernel_rfl
theorem ta_ll (v : Value) (W : World) : (Instr.typeAssert (.iface 48 v) 20 48 true).run Try.prog W = .ok (.tuple #[v, .bool true]) W := by kernel_rfl
theorem ta_la (v : Value) (W : World) : (Instr.typeAssert (.iface 48 v) 20 104 true).run Try.prog W = .ok (.tuple #[.slice none 0 0, .bool false]) W := by kernel_rfl
theorem ta_bs (v : Value) (W : World) : (Instr.typeAssert (.iface 4 v) 20 9 true).run Try.prog W = .ok (.tuple #[.string ByteArray.empty, .bool false]) W := by kernel_rfl
theorem ta_bl (v : Value) (W : World) : (Instr.typeAssert (.iface 4 v) 20 48 true).run Try.prog W = .ok (.tuple #[.slice none 0 0, .bool false]) W := by kernel_rfl
theorem ta_ba (v : Value) (W : World) : (Instr.typeAssert (.iface 4 v) 20 104 true).run Try.prog W = .ok (.tuple #[.slice none 0 0, .bool false]) W := by kernel_rfl
theorem ta_fs (v : Value) (W : World) : (Instr.typeAssert (.iface 106 v) 20 9 true).run Try.prog W = .ok (.tuple #[.string ByteArray.empty, .bool false]) W := by kernel_rfl
theorem ta_fl (v : Value) (W : World) : (Instr.typeAssert (.iface 106 v) 20 48 true).run Try.prog W = .ok (.tuple #[.slice none 0 0, .bool false]) W := by kernel_rfl
theorem ta_fa (v : Value) (W : World) : (Instr.typeAssert (.iface 106 v) 20 104 true).run Try.prog W = .ok (.tuple #[.slice none 0 0, .bool false]) W := by kernel_rfl
set_option maxRecDepth 10000 in
set_option maxHeartbeats 1000000 in
theorem accept0_calls (g : Nat) (v0 : Value) (t : ByteArray) (w : World) (HR : Row w g 78 [v0]) :
    Calls Try.prog 58 #[.pointer (some ⟨g, 0, none⟩), .iface 9 (.string t)] w fun e w' => ∃ v, e = .returned .nilIface ∧ Row w' g 78 [v] ∧ Own w' w.heap.size 9 v (strs [t]) ∧ w.grownBy w' (some g) := by
  have c0 : (w.alloc (.cells #[.string t] 9)).cell? ⟨g, 0, none⟩ = some v0 := (HR.alloc _).cell 0
  have f0 := (HR.alloc (.cells #[.string t] 9)).free 0
  have hlt := hidden HR.lt
  have HA := hidden (HR.alloc (.cells #[.string t] 9))
  clear HR
  have qs := ta_ss
  have ql := ta_sl
  have qa := ta_sa
  go_enter Try.func58, Try.ntmps58
  go_wp2
  go_ret
  have hg := (grown_below (B := 0) (below_alloc0 w (.cells #[.string t] 9)) (some g)).trans (grown_set (w.alloc (.cells #[.string t] 9)) g 0 (.slice (some ⟨w.heap.size, 0, none⟩) 1 1))
  refine ⟨_, rfl, HA.out.set 0 _, ?_, hg⟩
  exact Own.of_row (vs := strs [t]) (rest := []) (Row.grown (Row.new w 9 (strs [t])) (grown_set _ g 0 _) (by have := hlt.out; simp; omega)) (Nat.le_refl _) rfl (by simp [maxLen, strs])
set_option maxRecDepth 10000 in
set_option maxHeartbeats 1000000 in
theorem accept3_calls (g : Nat) (v0 v : Value) (w : World) (HR : Row w g 78 [v0]) (hv : ∃ A n c, v = .slice A n c) :
    Calls Try.prog 58 #[.pointer (some ⟨g, 0, none⟩), .iface 48 v] w fun e w' => e = .returned .nilIface ∧ Row w' g 78 [v] ∧ w.grownBy w' (some g) := by
  have c0 : w.cell? ⟨g, 0, none⟩ = some v0 := HR.cell 0
  have f0 := HR.free 0
  have HA := hidden HR
  clear HR
  obtain ⟨A, n, c, rfl⟩ := hv
  have qs := ta_ls
  have ql := ta_ll
  have qa := ta_la
  go_enter Try.func58, Try.ntmps58
  go_wp2
  go_ret
  exact ⟨rfl, HA.out.set 0 _, grown_set w g 0 _⟩
set_option maxRecDepth 10000 in
set_option maxHeartbeats 1000000 in
theorem accept1_calls (g : Nat) (b : Bool) (w : World) :
    Calls Try.prog 58 #[.pointer (some ⟨g, 0, none⟩), .iface 4 (.bool b)] w fun e w' => (∃ a, e = .returned (.iface 123 (.pointer (some a)))) ∧ Below w.heap.size w w' := by
  have qs := ta_bs
  have ql := ta_bl
  have qa := ta_ba
  go_enter Try.func58, Try.ntmps58
  go_wp2_with (go_at_call 75; go_must (refine (newErrS_calls _ _).mono ?_; rintro e w2 ⟨rfl, hB2⟩))
  go_ret
  exact ⟨⟨_, rfl⟩, hB2⟩
set_option maxRecDepth 10000 in
set_option maxHeartbeats 1000000 in
theorem accept2_calls (g : Nat) (f : Value) (w : World) :
    Calls Try.prog 58 #[.pointer (some ⟨g, 0, none⟩), .iface 106 f] w fun e w' => (∃ a, e = .returned (.iface 123 (.pointer (some a)))) ∧ Below w.heap.size w w' := by
  have qs := ta_fs
  have ql := ta_fl
  have qa := ta_fa
  go_enter Try.func58, Try.ntmps58
  go_wp2_with (go_at_call 75; go_must (refine (newErrS_calls _ _).mono ?_; rintro e w2 ⟨rfl, hB2⟩))
  go_ret
  exact ⟨⟨_, rfl⟩, hB2⟩
end Go.Proofs.Ytmibnnmampfalaa
