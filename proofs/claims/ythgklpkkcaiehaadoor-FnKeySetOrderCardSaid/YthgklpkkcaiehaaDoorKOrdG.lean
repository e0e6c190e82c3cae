/- The statement of FnKeySetOrder that takes a number out of a list and puts it behind: what is known between its operations. -/
import Derived.Test.YthgklpkkcaiehaaDoorKDel
import Derived.Test.YthgklpkkcaiehaaDoorFlowG
namespace Go.Proofs.YthgklpkkcaiehaaDoor
open Go.RowKit
set_option linter.unusedVariables false
set_option linter.unusedSimpArgs false

structure GO (w0 : World) (n r : Nat) (l : List Nat) (b : Nat → Bool) (v : Nat → Value) (W : World) : Prop where
  below : Below w0.heap.size w0 W
  cl : b 1 = true → b 3 = false → ∃ g c, v 1 = .slice (some ⟨g, 0, none⟩) n c ∧ Own W w0.heap.size 3 (v 1) (intsN l)
  del : b 3 = true → b 6 = false → Own W w0.heap.size 3 (v 3) (intsN (outN l r))
  lay : b 5 = true → ∃ gk, v 5 = .slice (some ⟨gk, 0, none⟩) 1 1 ∧ Row W gk 3 [.int .i64 r] ∧ (b 1 = true → b 3 = false → (v 1).ownBlock ≠ some gk) ∧ (b 3 = true → b 6 = false → (v 3).ownBlock ≠ some gk)
  app : b 6 = true → Own W w0.heap.size 3 (v 6) (intsN (outN l r ++ [r]))
  fin : b 7 = true → v 7 = v 6
section
variable {w0 W W1 : World} {n r : Nat} {l : List Nat} {b : Nat → Bool} {v : Nat → Value}
theorem GO.start (w0 : World) (n r : Nat) (l : List Nat) (v : Nat → Value) : GO w0 n r l (fun _ => false) v w0.drew :=
  ⟨below_drewN0 (Below.refl _ _) 1, fun h => (by cases h), fun h => (by cases h), fun h => (by cases h), fun h => (by cases h), fun h => (by cases h)⟩
theorem GO.pure (h : GO w0 n r l b v W) (i : Nat) (x : Value) (hi : i = 0 ∨ i = 2 ∨ i = 4) : GO w0 n r l (up b i) (upv v i x) W := by
  have e1 : (1 : Nat) ≠ i := by omega
  have e3 : (3 : Nat) ≠ i := by omega
  have e5 : (5 : Nat) ≠ i := by omega
  have e6 : (6 : Nat) ≠ i := by omega
  have e7 : (7 : Nat) ≠ i := by omega
  refine ⟨h.below, ?_, ?_, ?_, ?_, ?_⟩ <;> simp only [up_ne e1, up_ne e3, up_ne e5, up_ne e6, up_ne e7, upv_ne e1, upv_ne e3, upv_ne e5, upv_ne e6, upv_ne e7]
  · exact h.cl
  · exact h.del
  · exact h.lay
  · exact h.app
  · exact h.fin
theorem intsN_len (l : List Nat) : (intsN l).length = l.length := by rw [intsN, nums_len, List.length_map]
theorem GO.clone (h : GO w0 n r l b v W) (hl : l.length = n) (h0 : 0 < n) (b3 : b 3 = false) (b6 : b 6 = false) (b7 : b 7 = false) {x : Value} (hO : Own W1 W.heap.size 3 x (intsN l)) (hB : Below W.heap.size W W1) : GO w0 n r l (up b 1) (upv v 1 x) W1 := by
  refine ⟨below_next h.below hB, fun _ _ => ?_, fun h3 => ?_, fun h5 => ?_, fun h6 => ?_, fun h7 => ?_⟩
  · rw [upv_self]
    rcases hO.block with ⟨_, h2⟩ | ⟨g, rest, hv, _⟩
    · have := congrArg List.length h2; rw [intsN_len, hl] at this; simp at this; omega
    · rw [intsN_len, hl] at hv
      exact ⟨_, _, hv, hO.lower h.below.size⟩
  · rw [up_ne (by decide), b3] at h3; cases h3
  · rw [up_ne (by decide)] at h5
    obtain ⟨gk, h1, h2, _, h4⟩ := h.lay h5
    refine ⟨gk, by rw [upv_ne (by decide)]; exact h1, h2.below hB h2.lt, fun _ _ e => ?_, fun h3 => ?_⟩
    · rw [upv_self] at e
      have := (hO.lt gk e).1
      have := h2.lt
      omega
    · rw [up_ne (by decide), b3] at h3; cases h3
  · rw [up_ne (by decide), b6] at h6; cases h6
  · rw [up_ne (by decide), b7] at h7; cases h7
theorem GO.take (h : GO w0 n r l b v W) (b1 : b 1 = true) (b3 : b 3 = false) (b6 : b 6 = false) (b7 : b 7 = false) {g c m : Nat} (hv : v 1 = .slice (some ⟨g, 0, none⟩) n c) (hO : Own W1 w0.heap.size 3 (.slice (some ⟨g, 0, none⟩) m c) (intsN (outN l r))) (hg : W.grownBy W1 (some g)) :
    GO w0 n r l (up b 3) (upv v 3 (.slice (some ⟨g, 0, none⟩) m c)) W1 := by
  have hge : w0.heap.size ≤ g := (hO.lt g rfl).1
  refine ⟨h.below.trans ((Alt.of_grown hg).below h.below.size (fun i hi e => by cases e; omega)), fun _ h3 => ?_, fun _ _ => ?_, fun h5 => ?_, fun h6 => ?_, fun h7 => ?_⟩
  · rw [up_self] at h3; cases h3
  · rw [upv_self]; exact hO
  · rw [up_ne (by decide)] at h5
    obtain ⟨gk, h1, h2, h3, _⟩ := h.lay h5
    have h3' := h3 b1 b3
    rw [hv] at h3'
    refine ⟨gk, by rw [upv_ne (by decide)]; exact h1, h2.grown hg (fun e => h3' (by rw [e]; rfl)), fun _ h => ?_, fun _ _ => ?_⟩
    · rw [up_self] at h; cases h
    · rw [upv_self]; exact h3'
  · rw [up_ne (by decide), b6] at h6; cases h6
  · rw [up_ne (by decide), b7] at h7; cases h7
theorem GO.put (h : GO w0 n r l b v W) (b6 : b 6 = false) (b7 : b 7 = false) : GO w0 n r l (up b 5) (upv v 5 (.slice (some ⟨W.heap.size, 0, none⟩) 1 1)) (W.alloc (.cells #[.int .i64 r] 3)) := by
  have hB := below_alloc0 W (.cells #[.int .i64 r] 3)
  refine ⟨below_next h.below hB, fun h1 h3 => ?_, fun h3 h6 => ?_, fun _ => ⟨W.heap.size, upv_self _ _ _, Row.new W 3 [.int .i64 r], fun h1 h3 e => ?_, fun h3 h6 e => ?_⟩, fun h6 => ?_, fun h7 => ?_⟩
  · rw [up_ne (by decide)] at h1 h3
    rw [upv_ne (by decide)]
    obtain ⟨g, c, hv, hO⟩ := h.cl h1 h3
    exact ⟨g, c, hv, hO.alloc _⟩
  · rw [up_ne (by decide)] at h3
    rw [upv_ne (by decide)]
    exact (h.del h3 b6).alloc _
  · rw [up_ne (by decide)] at h1 h3
    rw [upv_ne (by decide)] at e
    obtain ⟨g, c, hv, hO⟩ := h.cl h1 h3
    have := (hO.lt _ e).2
    omega
  · rw [up_ne (by decide)] at h3
    rw [upv_ne (by decide)] at e
    have := ((h.del h3 b6).lt _ e).2
    omega
  · rw [up_ne (by decide), b6] at h6; cases h6
  · rw [up_ne (by decide), b7] at h7; cases h7
theorem GO.end_ (h : GO w0 n r l b v W) (b3 : b 3 = true) (b6 : b 6 = false) (b7 : b 7 = false) {x : Value} (hO : Own W1 w0.heap.size 3 x (intsN (outN l r ++ [r]))) (hg : W.grownBy W1 (v 3).ownBlock) : GO w0 n r l (up b 6) (upv v 6 x) W1 := by
  have hD := h.del b3 b6
  refine ⟨h.below.trans ((Alt.of_grown hg).below h.below.size (fun i hi e => by have := (hD.lt i e.symm).1; omega)), fun _ h3 => ?_, fun _ h6 => ?_, fun h5 => ?_, fun _ => ?_, fun h7 => ?_⟩
  · rw [up_ne (by decide), b3] at h3; cases h3
  · rw [up_self] at h6; cases h6
  · rw [up_ne (by decide)] at h5
    obtain ⟨gk, h1, h2, _, h4⟩ := h.lay h5
    refine ⟨gk, by rw [upv_ne (by decide)]; exact h1, h2.grown hg (fun e => h4 b3 b6 e.symm), fun _ h3 => ?_, fun _ h6 => ?_⟩
    · rw [up_ne (by decide), b3] at h3; cases h3
    · rw [up_self] at h6; cases h6
  · rw [upv_self]; exact hO
  · rw [up_ne (by decide), b7] at h7; cases h7
theorem GO.done (h : GO w0 n r l b v W) : GO w0 n r l (up b 7) (upv v 7 (v 6)) W := by
  refine ⟨h.below, ?_, ?_, ?_, ?_, fun _ => by rw [upv_self, upv_ne (by decide)]⟩
  · rw [up_ne (by decide), up_ne (by decide), upv_ne (by decide)]; exact h.cl
  · rw [up_ne (by decide), up_ne (by decide), upv_ne (by decide)]; exact h.del
  · simp only [up_ne (show (1 : Nat) ≠ 7 by decide), up_ne (show (3 : Nat) ≠ 7 by decide), up_ne (show (5 : Nat) ≠ 7 by decide), up_ne (show (6 : Nat) ≠ 7 by decide), upv_ne (show (1 : Nat) ≠ 7 by decide), upv_ne (show (3 : Nat) ≠ 7 by decide), upv_ne (show (5 : Nat) ≠ 7 by decide)]; exact h.lay
  · rw [up_ne (by decide), upv_ne (by decide)]; exact h.app
end
end Go.Proofs.YthgklpkkcaiehaaDoor
