/- slices.Equal, Clone, IndexFunc and DeleteFunc of ints, as FnKeySetOrder calls them. -/
import Derived.Test.YthgklpkkcaiehaaDoorKInts
import Derived.Test.YthgklpkkcaiehaaDoorKStep
import Derived.StillTailTactics
namespace Go.Proofs.YthgklpkkcaiehaaDoor
open Go.RowKit
set_option linter.unusedVariables false
set_option linter.unusedSimpArgs false

set_option maxRecDepth 100000 in
set_option maxHeartbeats 1000000 in
theorem equalYes_calls (A B : Option Addr) (l : List Nat) (n c d : Nat) (w : World) (hA : Rd w A (intsN l)) (hB : Rd w B (intsN l)) (hl : l.length = n) (hn : n ≤ 1000) :
    Calls Tryd.prog 19 #[.slice A n c, .slice B n d] w fun e w' => e = .returned (.bool true) ∧ Below w.heap.size w w' := by
  go_enter Tryd.func19, Tryd.ntmps19
  go_wp2
  go_loopw [13] (fun i wr => ∃ j : Nat, j ≤ n ∧ i = .int .i64 j ∧ Hid (Below w.heap.size w wr)) (fun i _ => n - (intOf i).toNat)
  case atStart => exact ⟨0, by omega, rfl, hidden (Below.refl _ _)⟩
  case round =>
    obtain ⟨j, hj, rfl, HB⟩ := hrel
    by_cases hlt : j < n
    · obtain ⟨b0, o0, rfl, _, c0⟩ := (hA.below HB.out (Nat.le_refl _)) _ _ (intsN_at l j (by omega))
      obtain ⟨b1, o1, rfl, _, c1⟩ := (hB.below HB.out (Nat.le_refl _)) _ _ (intsN_at l j (by omega))
      obtain ⟨y, hy⟩ : ∃ y, l.getD j 0 = y := ⟨_, rfl⟩
      rw [hy] at c0 c1
      clear hA hB hy
      go_upto_region 6 with (fail)
      go_still (by kernel_rfl)
      go_wp2
      go_roundw
      case rel => exact ⟨j + 1, by omega, by go_num, hidden (below_drewN0 HB.out 1)⟩
      case measure => simp [intOf]; omega
    · obtain rfl : j = n := by omega
      go_wp2
      go_ret
      exact ⟨rfl, HB.out⟩
theorem eql_ints (a : Addr) (n c : Nat) (W : World) : (binOp .eql 47 (.slice (some a) n c) (.slice none 0 0)).run Tryd.prog W = .ok (.bool false) W := by
  have h : ∀ d : Nat, (Op.equalIn (d + 1) 47 (.slice (some a) n c) (.slice none 0 0)).run Tryd.prog W = .ok false W := fun d => by simp [Op.equalIn, run_underlying Tryd.underlying47]
  simp only [binOp]
  simp [Op.equal, Op.maxDepth, h 9999]
theorem info_intO : (Tryd.prog.info? 3).map (fun i => (i.zero, i.size, i.bytes)) = some (some (.int .i64 0), 1, 8) := by kernel_rfl
set_option maxRecDepth 100000 in
set_option maxHeartbeats 1000000 in
theorem cloneInts_calls (A : Addr) (l : List Nat) (n c : Nat) (w : World) (hA : Rd w (some A) (intsN l)) (hl : l.length = n) (hn : n ≤ 1000) :
    Calls Tryd.prog 21 #[.slice (some A) n c] w fun e w' => ∃ v, e = .returned v ∧ Own w' w.heap.size 3 v (intsN l) ∧ Below w.heap.size w w' := by
  have HA := hidden hA
  clear hA
  have heq := eql_ints
  go_enter Tryd.func21, Tryd.ntmps21
  go_wp2_with ((with_reducible refine at_dst 7 ?_); go_must (refine walk_app (base := w.heap.size) (ys := intsN l) rfl (.tmp 5) (.tmp 6) rfl Tryd.underlying47 info_intO rfl (by decide) rfl rfl (own_emptyG w _ w.heap.size rfl) (HA.out.alloc _) (by rw [intsN, nums_len, List.length_map]; exact hl) (nums_one _ _) (by simp) (by rw [intsN, nums_len, List.length_map]; simp; omega) ?_; intro v1 w1 hO1 hg1 _; have HO1 := hidden hO1; have HB1 := hidden ((below_alloc0 w (.cells #[] 3)).grown hg1 (below_alloc0 w _).size (by rintro k hk; cases hk; exact Nat.le_refl _)); clear hO1 hg1))
  go_ret
  exact ⟨_, rfl, by simpa using HO1.out, HB1.out⟩
end Go.Proofs.YthgklpkkcaiehaaDoor
