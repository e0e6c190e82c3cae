/- A new key set; the names of its other fields, of which it has none. -/
import Derived.Test.YthgklpkkcaiehaaDoorKSet3
import Derived.Maps.RangeWalk
import Derived.Maps.OwnSet
namespace Go.Proofs.YthgklpkkcaiehaaDoor
open Go.RowKit
set_option linter.unusedVariables false
set_option linter.unusedSimpArgs false

theorem keyStr_inv {key : Value} {kl : Lit} (h : keyOf Tryd.prog 9 key = some kl) : ∃ x, key = Value.string x := by
  cases key <;> simp [keyOf, Tryd.underlying9, mapKey] at h
  exact ⟨_, rfl⟩
theorem grown_none_below {w w' : World} (h : w.grownBy w' none) : Below w.heap.size w w' := ⟨h.os, h.tape, h.output, h.size, fun k hk => h.block k hk (by simp)⟩
/-- How whatever value of a map reads: as itself. -/
def anyElem (v : Value) : Option (DataW Value × List MemPlace) := some (.held v, [])
theorem owns_empty {P : Program} {k : TypeId} {w : World} {b : Nat} (h : w.heap[b]? = some (.map #[] 0)) : w.ownsMap P k anyElem b 0 (.map []) :=
  ⟨#[], 0, h, ⟨by simp, MapKept.stamped_empty 0, by simp⟩, Nat.le_refl _, rfl⟩
theorem newSet_calls (w : World) (base : Nat) (hbase : base ≤ w.heap.size) :
    Calls Tryd.prog 36 #[] w fun e w' => ∃ gs mb, e = .returned (.iface 108 (.pointer (some ⟨gs, 0, none⟩))) ∧ SetAt w' gs mb base (.slice none 0 0) [] ∧ w.heap.size ≤ gs ∧ w.heap.size ≤ mb ∧ Below w.heap.size w w' := by
  have K : Hid (Calls Tryd.prog 47 #[] w fun e w' => ∃ gs mb, e = .returned (.pointer (some ⟨gs, 0, none⟩)) ∧ SetAt w' gs mb base (.slice none 0 0) [] ∧ w.heap.size ≤ gs ∧ w.heap.size ≤ mb ∧ Below w.heap.size w w') := hidden (by
    have hmm := @run_makeMap Tryd.prog
    go_enter Tryd.func47, Tryd.ntmps47
    go_wp2
    go_ret
    refine ⟨w.heap.size + 1, w.heap.size, rfl, ⟨?_, KL.nil _ _ _, ?_⟩, Nat.le_succ _, Nat.le_refl _, below_next (below_alloc0 w _) (below_alloc0 _ _)⟩
    · have := Row.new (w.alloc (.map #[] 0)) 133 [.slice none 0 0, .map (some w.heap.size)]
      simpa using this
    · exact (Below.heap_alloc _ _ w.heap.size (by simp)).trans (heap_alloc_new w _))
  go_enter Tryd.func36, Tryd.ntmps36
  go_wp2_with (go_at_call 47; go_must (refine K.out.mono ?_; rintro e w1 ⟨gs, mb, rfl, h1, h2, h3, h4⟩))
  go_ret
  exact ⟨gs, mb, rfl, h1, h2, h3, h4⟩
set_option maxRecDepth 100000 in
set_option maxHeartbeats 1000000 in
theorem keys_calls (L : List Value) (w : World) (gs mb base : Nat) (v : Value) (h : SetAt w gs mb base v L) :
    Calls Tryd.prog 133 #[.pointer (some ⟨gs, 0, none⟩)] w fun e w' => ∃ g, e = .returned (.slice (some ⟨g, 0, none⟩) 0 0) ∧ Below w.heap.size w w' := by
  have c0 := h.row.cell 0
  have c1 := h.row.cell 1
  simp at c0 c1
  have HO := hidden (owns_empty (P := Tryd.prog) (k := 9) h.map)
  have HR := hidden h.row
  have hsz : Maps.size (DataW.map [] : DataW Value) = 0 := rfl
  clear h
  go_enter Tryd.func133, Tryd.ntmps133
  go_wp2_with (first
    | (at_len; go_must (refine wpList_len_own _ rfl _ 126 rfl 9 20 Tryd.underlying126 anyElem mb 0 _ rfl HO.out ?_))
    | (with_reducible refine at_dst 11 ?_; go_must (refine walk_make (n := 0) rfl (.tmp 10) (.tmp 10) rfl Tryd.underlying29 info_str rfl rfl rfl rfl rfl (by decide) (by decide) ?_; refine wpAbsL (fun W => Hid (Below w.heap.size w W) ∧ W.cell? ⟨gs, 1, none⟩ = some (.map (some mb))) ⟨hidden (below_alloc0 w _), (HR.out.alloc _).cell 1⟩ ?_; rintro W1 ⟨HB1, c1'⟩))
    | (at_range; go_must (refine wpList_range_own _ rfl _ 126 rfl 9 20 (Maps.string_keyed Tryd.underlying9) Tryd.underlying126 anyElem mb 0 _ rfl (HO.out.kept (grown_below (B := 0) HB1.out none) (by simp)) ?_; intro w2 hrg hg2 hs2; have HRG := hidden hrg; have HG2 := hidden hg2; clear hrg hg2 hs2)))
  go_frame
  go_loopw [4] (fun i wr => i = .int .i64 0 ∧ wr = w2) (fun _ _ => 0)
  case atStart => exact ⟨rfl, rfl⟩
  case round =>
    obtain ⟨rfl, rfl⟩ := hrel
    go_wp2_with (at_next; go_must (refine wpList_next_ranges _ rfl (.tmp 16) rfl 9 (Maps.string_keyed Tryd.underlying9) anyElem Value.string id (fun key kl h => keyStr_inv h) (fun v y _ => ⟨v, rfl⟩) mb _ 0 (.map []) _ _ rfl HRG.out ?_ (fun x c kl y w' cnt' _ _ _ _ _ hlt _ _ _ => absurd hlt (Nat.not_lt_zero _)); intro _ _))
    go_ret
    exact ⟨_, rfl, below_next HB1.out (grown_none_below HG2.out)⟩
end Go.Proofs.YthgklpkkcaiehaaDoor
