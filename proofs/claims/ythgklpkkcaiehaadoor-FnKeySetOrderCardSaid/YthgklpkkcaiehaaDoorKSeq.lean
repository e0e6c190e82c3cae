/- slices.Sorted(slices.Values(l)), where l is empty. -/
import Derived.Test.YthgklpkkcaiehaaDoorProg
import Derived.Test.YthgklpkkcaiehaaDoorBase
import Derived.RangeFuncNested
import Derived.RangeFuncBound
import Derived.RangeFuncCalls
import Derived.RangeFuncLeaves
import Derived.RangeFuncFrom
import Derived.OwnWalkIn
import Derived.TacticsInMore
import Derived.LoopNIn
import Derived.LoopIn
namespace Go.Proofs.YthgklpkkcaiehaaDoor
open Go.RowKit
set_option linter.unusedVariables false
set_option linter.unusedSimpArgs false

set_option maxRecDepth 100000 in
theorem values0_seq (w0 : World) (B g : Nat) (hc : w0.cell? ⟨B, 0, none⟩ = some (.slice (some ⟨g, 0, none⟩) 0 0)) :
    SeqStopsK Fence.wide 2 Tryd.prog 50 #[.pointer (some ⟨B, 0, none⟩)] (fun _ : Empty => #[undef]) (fun _ _ => True) (fun xs => xs = []) (fun _ => False) 0 w0 := by
  intro l J Jx W hW hJ hJx hY h0
  have c0 := cell_next hW hc
  refine callsIn_of_wp Tryd.func50 rfl trivial ?_ rfl
  simp only [Tryd.ntmps50, List.size_toArray, List.length_cons, List.length_nil, Nat.reduceAdd, Nat.reduceSub, Array.replicate_succ, Array.replicate_zero, List.push_toArray, List.append_toArray, List.nil_append, List.cons_append]
  gi_wp2
  gi_loopw [7] (fun i wr => i = .int .i64 0 ∧ wr = W) (fun _ _ => 0)
  case atStart => exact ⟨rfl, rfl⟩
  case round =>
    obtain ⟨rfl, rfl⟩ := hrel
    gi_wp2
    exact bodyPost_end (results_none rfl _ _ _) rfl ⟨⟨_, rfl⟩, .inl ⟨[], rfl, h0⟩⟩
set_option maxRecDepth 100000 in
theorem appendSeq0_calls (w : World) (B g : Nat) (hc : w.cell? ⟨B, 0, none⟩ = some (.slice (some ⟨g, 0, none⟩) 0 0)) :
    Calls Tryd.prog 53 #[.slice none 0 0, .func (.func 50) #[] #[.pointer (some ⟨B, 0, none⟩)]] w fun e w' => e = .returned (.slice none 0 0) ∧ Below w.heap.size w w' := by
  refine (callsIn_wide (n := 3)).1 ?_
  refine callsIn_of_wp_marks Tryd.func53 rfl trivial ?_ rfl
  simp only [Tryd.ntmps53, List.size_toArray, List.length_cons, List.length_nil, Nat.reduceAdd, Nat.reduceSub, Array.replicate_succ, Array.replicate_zero, List.push_toArray, List.append_toArray, List.nil_append, List.cons_append]
  gi_wp2
  have hB := below_alloc0 w (.cells #[.slice none 0 0] 29)
  have hx : (w.alloc (.cells #[.slice none 0 0] 29)).cell? ⟨w.heap.size, 0, none⟩ = some (.slice none 0 0) := (Row.new w 29 [.slice none 0 0]).cell 0
  have hc1 := cell_next hB hc
  have hlt : w.heap.size < (w.alloc (.cells #[.slice none 0 0] 29)).heap.size := by simp
  generalize w.alloc (.cells #[.slice none 0 0] 29) = w1 at *
  refine wpIn_rangeFunc_ownF (α := Empty) (encs := fun _ => #[undef]) (Kp := fun _ _ => True) rfl (by decide) (gf := 50) (lb := #[.pointer (some ⟨B, 0, none⟩)]) rfl trivial (fun args w => Tryd.call50 args w) (values0_seq w1 B g hc1)
    (fun _ _ => trivial) (fun _ _ _ _ _ _ _ _ => trivial) (Below.refl _ _) (fun x => nomatch x)
    (fun _ W => W.cell? ⟨w.heap.size, 0, none⟩ = some (.slice none 0 0) ∧ Below w.heap.size w W) (fun _ _ _ => False) ?_ ?_ ⟨hx, hB⟩ (fun x => nomatch x) ?_ ?_ ?_ ?_
  · rintro s W W' row ⟨h1, h2⟩ hg hr
    refine ⟨hg.cell h1 (fun e => ?_), h2.grown hg h2.size (fun k e => Nat.le_trans hB.size (hr k e).1)⟩
    have := (hr _ e.symm).1
    simp at this
    omega
  · rintro c s W W' row h
    exact h.elim
  · intro l x
    exact nomatch x
  · intro l pre x
    exact nomatch x
  · rintro D xs W hD rfl ⟨h1, h2⟩ hK
    gi_wp2
    refine ⟨by simp, .inl ⟨_, _, rfl, run_takeDeferred hK, ?_⟩⟩
    exact ⟨_, results_tmp rfl _ _ _, rfl, h2.grown (grownBy_putObj' _ D (.deferred none)) h2.size (fun k e => by cases e; exact Nat.le_trans hB.size hD)⟩
  · intro D c pre W hD hf
    exact hf.elim
set_option maxRecDepth 100000 in
theorem len64_0 (w : World) : Calls Tryd.prog 70 #[.int .u64 0] w fun e w' => e = .returned (.int .i64 0) ∧ w = w' := by
  go_enter Tryd.func70, Tryd.ntmps70
  go_wp2
  go_ret
  refine ⟨?_, rfl⟩
  congr 1
  kernel_rfl
theorem len_0 (w : World) : Calls Tryd.prog 55 #[.int .u64 0] w fun e w' => e = .returned (.int .i64 0) ∧ w = w' := by
  go_enter Tryd.func55, Tryd.ntmps55
  go_wp2_with (go_at_call 70; go_must (refine (len64_0 _).mono ?_; rintro e w1 ⟨rfl, rfl⟩))
  go_ret
  exact ⟨rfl, rfl⟩
theorem insert_0 (w : World) : Calls Tryd.prog 60 #[.slice none 0 0, .int .i64 0, .int .i64 0] w fun e w' => (∃ v, e = .returned v) ∧ w = w' := by
  go_enter Tryd.func60, Tryd.ntmps60
  go_wp2
  go_loopw [6] (fun i wr => i = .int .i64 1 ∧ wr = w) (fun _ _ => 0)
  case atStart => exact ⟨rfl, rfl⟩
  case round =>
    obtain ⟨rfl, rfl⟩ := hrel
    go_wp2
    exact bodyPost_end (results_none rfl _ _ _) rfl ⟨⟨_, rfl⟩, rfl⟩
theorem pdq_0 (w : World) : Calls Tryd.prog 54 #[.slice none 0 0, .int .i64 0, .int .i64 0, .int .i64 0] w fun e w' => (∃ v, e = .returned v) ∧ w = w' := by
  go_enter Tryd.func54, Tryd.ntmps54
  go_wp2
  go_loopw [1, 2, 3] (fun i j k wr => i = .int .i64 0 ∧ j = .int .i64 0 ∧ k = .int .i64 0 ∧ wr = w) (fun _ _ _ _ => 0)
  case atStart => exact ⟨rfl, rfl, rfl, rfl⟩
  case round =>
    obtain ⟨rfl, rfl, rfl, rfl⟩ := hrel
    go_wp2_with (go_at_call 60; go_must (refine (insert_0 _).mono ?_; rintro e w1 ⟨⟨v, rfl⟩, rfl⟩))
    exact bodyPost_ret (results_none rfl _ _ _) rfl ⟨⟨_, rfl⟩, rfl⟩
theorem sort_0 (w : World) : Calls Tryd.prog 49 #[.slice none 0 0] w fun e w' => (∃ v, e = .returned v) ∧ w = w' := by
  go_enter Tryd.func49, Tryd.ntmps49
  go_wp2_with (first
    | (go_at_call 55; go_must (refine (len_0 _).mono ?_; rintro e w1 ⟨rfl, rfl⟩))
    | (go_at_call 54; go_must (refine (pdq_0 _).mono ?_; rintro e w1 ⟨⟨v, rfl⟩, rfl⟩)))
  exact bodyPost_end (results_none rfl _ _ _) rfl ⟨⟨_, rfl⟩, rfl⟩
theorem collect0_calls (w : World) (B g : Nat) (hc : w.cell? ⟨B, 0, none⟩ = some (.slice (some ⟨g, 0, none⟩) 0 0)) :
    Calls Tryd.prog 48 #[.func (.func 50) #[] #[.pointer (some ⟨B, 0, none⟩)]] w fun e w' => e = .returned (.slice none 0 0) ∧ Below w.heap.size w w' := by
  have K := hidden (appendSeq0_calls w B g hc)
  clear hc
  go_enter Tryd.func48, Tryd.ntmps48
  go_wp2_with (go_at_call 53; go_must (refine K.out.mono ?_; rintro e w1 ⟨rfl, hB⟩))
  go_ret
  exact ⟨rfl, hB⟩
theorem sorted0_calls (w : World) (B g : Nat) (hc : w.cell? ⟨B, 0, none⟩ = some (.slice (some ⟨g, 0, none⟩) 0 0)) :
    Calls Tryd.prog 37 #[.func (.func 50) #[] #[.pointer (some ⟨B, 0, none⟩)]] w fun e w' => e = .returned (.slice none 0 0) ∧ Below w.heap.size w w' := by
  have K := hidden (collect0_calls w B g hc)
  clear hc
  go_enter Tryd.func37, Tryd.ntmps37
  go_wp2_with (first
    | (go_at_call 48; go_must (refine K.out.mono ?_; rintro e w1 ⟨rfl, hB⟩))
    | (go_at_call 49; go_must (refine (sort_0 _).mono ?_; rintro e w2 ⟨⟨v, rfl⟩, rfl⟩)))
  go_ret
  exact ⟨rfl, hB⟩
theorem values_calls (w : World) (g : Nat) :
    Calls Tryd.prog 38 #[.slice (some ⟨g, 0, none⟩) 0 0] w fun e w' => ∃ B, e = .returned (.func (.func 50) #[] #[.pointer (some ⟨B, 0, none⟩)]) ∧ w'.cell? ⟨B, 0, none⟩ = some (.slice (some ⟨g, 0, none⟩) 0 0) ∧ Below w.heap.size w w' := by
  go_enter Tryd.func38, Tryd.ntmps38
  go_wp2
  go_ret
  exact ⟨w.heap.size, rfl, (Row.new w _ [_]).cell 0, below_alloc0 w _⟩
end Go.Proofs.YthgklpkkcaiehaaDoor
