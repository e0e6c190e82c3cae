/- slices.DeleteFunc of ints, that takes out one number. -/
import Derived.Test.YthgklpkkcaiehaaDoorKOrdF
import Derived.Test.YthgklpkkcaiehaaDoorKDelS
import Derived.Lib.RowBridge
import Derived.Sort.Grow
namespace Go.Proofs.YthgklpkkcaiehaaDoor
open Go.RowKit Go.Sort
set_option linter.unusedVariables false
set_option linter.unusedSimpArgs false

theorem del_gives (r : Nat) (x : Int) (B : Nat) (W : World) (hc : W.cell? ⟨B, 0, none⟩ = some (.int .i64 r)) :
    FnGives Tryd.prog 22 #[.pointer (some ⟨B, 0, none⟩)] #[.int .i64 x] (.bool (x == (r : Int))) W := by
  show Calls Tryd.prog 22 #[.int .i64 x, .pointer (some ⟨B, 0, none⟩)] W _
  go_enter Tryd.func22, Tryd.ntmps22
  go_wp2
  go_ret
  exact ⟨rfl, 0, rfl⟩
def outN (l : List Nat) (r : Nat) : List Nat := l.filter (fun x => decide (x ≠ r))
theorem out_cast (l : List Nat) (r : Nat) : (l.map (fun x : Nat => (x : Int))).filter (fun x => !(x == (r : Int))) = (outN l r).map (fun x : Nat => (x : Int)) := by
  rw [List.filter_map]
  congr 1
  unfold outN
  apply List.filter_congr
  intro x _
  by_cases h : x = r
  · simp [h]
  · have : ¬ (x : Int) = (r : Int) := by omega
    simp [h, this]
theorem outN_len (l : List Nat) (r : Nat) : (outN l r).length ≤ l.length := List.length_filter_le _ _
set_option maxRecDepth 100000 in
set_option maxHeartbeats 1000000 in
theorem delInts_calls (base g n cap r B : Nat) (l : List Nat) (w : World) (hO : Own w base 3 (.slice (some ⟨g, 0, none⟩) n cap) (intsN l)) (hl : l.length = n) (hn : n ≤ 1000) (hc : w.cell? ⟨B, 0, none⟩ = some (.int .i64 r)) (hne : B ≠ g) :
    Calls Tryd.prog 20 #[.slice (some ⟨g, 0, none⟩) n cap, .func (.func 22) #[] #[.pointer (some ⟨B, 0, none⟩)]] w fun e w' =>
      e = .returned (.slice (some ⟨g, 0, none⟩) (outN l r).length cap) ∧ Own w' base 3 (.slice (some ⟨g, 0, none⟩) (outN l r).length cap) (intsN (outN l r)) ∧ w.grownBy w' (some g) := by
  rcases hO.block with ⟨h, _⟩ | ⟨g', rest, hv, hb, hR, hm⟩
  · cases h
  have hlen : (intsN l).length = n := by rw [intsN, nums_len, List.length_map, hl]
  rw [hlen] at hv hm
  cases hv
  obtain ⟨d, hd⟩ : ∃ d : Array Int, d = (l.map (fun x : Nat => (x : Int))).toArray := ⟨_, rfl⟩
  have hds : d.size = n := by rw [hd]; simp [hl]
  have hdl : d.toList = l.map (fun x : Nat => (x : Int)) := by rw [hd]
  have hH : Holds (Value.int .i64) w g 0 d := by
    intro j hj
    refine ⟨?_, hR.free _⟩
    rw [hR.cell, Nat.zero_add, List.getElem?_append_left (by omega)]
    have hjl : j < l.length := by omega
    rw [getElem!_pos d j hj]
    simp [intsN, nums, hd, hjl]
  have hBlt := World.block_lt_of_cell? w _ hc
  have hcon := AnyE.slices_DeleteFunc Tryd.lDel (Value.int .i64) (fun _ => rfl) (fun x => x == (r : Int)) 22 #[.pointer (some ⟨B, 0, none⟩)] (Tryd.call22) 0 Tryd.zeroValue3 g 0 (n + rest.length) d w
    (fun W x hbW => del_gives r x B W ((hbW.cell (p := ⟨B, 0, none⟩) hBlt).trans hc))
    (fun q os dk x _ => del_gives r x B _ (by
      unfold sortWorld
      rw [cell?_grow _ _ _ (by show B < (putRow _ _ _ _ _).heap.size; rw [size_putRow]; exact hBlt), cell?_putRow_other _ _ g 0 _ _ (Or.inl hne)]
      exact hc)) hH (by omega) (by omega)
  change Calls Tryd.prog 20 _ _ _ at hcon
  rw [hds] at hcon
  refine hcon.mono ?_
  rintro e w' ⟨rfl, q, rfl⟩
  rw [hdl, out_cast]
  obtain ⟨M, hM⟩ : ∃ M, outN l r = M := ⟨_, rfl⟩
  have hMl : M.length ≤ n := by rw [← hM]; have := outN_len l r; omega
  rw [hM, List.length_map]
  have hys : (M.map (fun x : Nat => (x : Int)) ++ List.replicate (n - M.length) 0).length = d.size := by simp; omega
  rw [Go.Lib.putRow_eq_setCells (Value.int .i64) w g 0 d _ q hH hys]
  have hRq : Row (w.drewN q) g 3 (intsN l ++ rest) := hR
  have hR2 := Row.setCells ((M.map (fun x : Nat => (x : Int)) ++ List.replicate (n - M.length) 0).map (Value.int .i64)) (intsN l ++ rest) 0 (w.drewN q) hRq (by rw [List.length_map, hys, List.length_append]; omega)
  have es : splice (intsN l ++ rest) 0 ((M.map (fun x : Nat => (x : Int)) ++ List.replicate (n - M.length) 0).map (Value.int .i64)) = intsN M ++ ((List.replicate (n - M.length) (.int .i64 0)) ++ rest) := by
    unfold splice
    rw [List.length_map, hys, hds, Nat.zero_add, List.take_zero, List.nil_append, List.drop_left' hlen]
    simp [intsN, nums]
  rw [es] at hR2
  have hMi : (intsN M).length = M.length := by rw [intsN, nums_len, List.length_map]
  refine ⟨rfl, ?_, ?_⟩
  · have := Own.of_row (base := base) (c := n + rest.length) hR2 hb (by rw [hMi]; simp; omega) hm
    rw [hMi] at this
    exact this
  · refine ⟨World.os_setCells _ _ _ _, tape_setCells _ _ _ _, World.output_setCells _ _ _ _, by rw [size_setCells]; exact Nat.le_refl _, fun k hk hne2 => World.heap_setCells_other (w.drewN q) g _ _ hk (fun e => hne2 (by rw [e]))⟩
end Go.Proofs.YthgklpkkcaiehaaDoor
