/- Bytes that are copied, compared, and read as a number. -/
import Derived.Test.YthgklpkkcaiehaaDoorProg
import Derived.Test.YthgklpkkcaiehaaDoorBase
import Derived.Lib.Bytes
namespace Go.Proofs.YthgklpkkcaiehaaDoor
open Go.RowKit
set_option linter.unusedVariables false
set_option linter.unusedSimpArgs false

theorem info_u8 : (Tryd.prog.info? 5).map (fun i => (i.zero, i.size, i.bytes)) = some (some (.int .u8 0), 1, 1) := by kernel_rfl

/-- A new slice of bytes. -/
def NewB (w : World) (l : List Int) (e : Ending) (w' : World) : Prop := ∃ v, e = .returned v ∧ Own w' w.heap.size 5 v (nums .u8 l) ∧ Below w.heap.size w w'

theorem same_str {a b : List Int} (ha : IsB a) (hb : IsB b) : ((strOfNums a).toList == (strOfNums b).toList) = decide (a = b) := by
  rw [Bool.eq_iff_iff, beq_iff_eq, decide_eq_true_iff]
  constructor
  · intro h
    refine bytes_inj ha hb ?_
    rw [Lib.strOfNums_toList, Lib.strOfNums_toList] at h
    have h2 : (strOfNums a).data.toList = (strOfNums b).data.toList := h
    cases hx : strOfNums a; cases hy : strOfNums b
    rw [hx, hy] at h2
    congr 1
    exact Array.toList_inj.1 h2
  · rintro rfl; rfl
theorem own_empty (w : World) (e : Nat) : Own (w.alloc (.cells #[] e)) w.heap.size e (.slice (some ⟨w.heap.size, 0, none⟩) 0 0) [] :=
  Own.of_row (vs := []) (rest := []) (Row.new w e []) (Nat.le_refl _) rfl (by simp [maxLen])

set_option maxHeartbeats 400000 in
theorem clone_calls (A : Option Addr) (n c : Nat) (l : List Int) (w : World) (h : Rd w A (nums .u8 l)) (hn : l.length = n) (hc : n ≤ c) (hA : A = none → c = 0) (hb : n ≤ 140737488355328) :
    Calls Tryd.prog 32 #[.slice A n c] w (NewB w l) := by
  subst hn
  cases A with
  | none =>
    have hc0 := hA rfl
    subst hc0
    have hl : l = [] := List.eq_nil_of_length_eq_zero (by omega)
    subst hl
    clear hA hc hb h
    have heq : ∀ W : World, (binOp .eql 22 (.slice none 0 0) (.slice none 0 0)).run Tryd.prog W = .ok (.bool true) W := fun W => Lib.run_eql_slice_nil W _ _ _ _ _ _ _ Tryd.underlying22
    simp only [List.length_nil]
    go_enter Tryd.func32, Tryd.ntmps32
    go_wp2
    go_ret
    exact ⟨.slice none 0 0, rfl, Own.nil _ _ _, Below.refl _ _⟩
  | some ad =>
    clear hA
    have heq : ∀ W : World, (binOp .eql 22 (.slice (some ad) l.length c) (.slice none 0 0)).run Tryd.prog W = .ok (.bool false) W := fun W => Lib.run_eql_slice_nil W _ _ _ _ _ _ _ Tryd.underlying22
    go_enter Tryd.func32, Tryd.ntmps32
    go_wp2_with (at_builtin; refine walk_app (base := w.heap.size) rfl (.tmp 5) (.tmp 6) rfl Tryd.underlying22 info_u8 rfl (by decide) rfl rfl (own_empty w _) (h.alloc _) (nums_len _ _) (nums_one _ _) (by simp) (by simpa [nums_len] using hb) ?_; intro v1 w1 HO1 hg1 _)
    go_ret
    exact ⟨v1, rfl, by simpa using HO1, below_app (below_alloc0 w _) hg1 (own_empty w _) (Nat.le_refl _) (by simp)⟩

end Go.Proofs.YthgklpkkcaiehaaDoor
