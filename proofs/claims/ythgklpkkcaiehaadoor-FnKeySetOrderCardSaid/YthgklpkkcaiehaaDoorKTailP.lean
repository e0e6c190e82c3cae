/- What is seen behind a step is put behind what was seen: the plain part. -/
import Derived.Test.YthgklpkkcaiehaaDoorKRunB
namespace Go.Proofs.YthgklpkkcaiehaaDoor
open Go.RowKit
set_option linter.unusedVariables false
set_option linter.unusedSimpArgs false

theorem Own.weaken {w : World} {b1 b2 e : Nat} {v : Value} {xs : List Value} (h : Own w b1 e v xs) (hb : b2 ≤ b1) : Own w b2 e v xs := by
  rcases h.block with ⟨rfl, rfl⟩ | ⟨g, rest, rfl, hb1, hr1, hm⟩
  · exact Own.nil _ _ _
  · exact Own.of_row hr1 (Nat.le_trans hb hb1) rfl hm
theorem ownsRow_weaken {w : World} {b1 b2 e s n : Nat} {v : Value} {xs : List Value} (h : w.ownsRow b1 e s v n xs) (hb : b2 ≤ b1) : w.ownsRow b2 e s v n xs := by
  refine ⟨h.1, ?_⟩
  rcases h.2 with h2 | ⟨g, cap, cur, rfl, hb1, r⟩
  · exact .inl h2
  · exact .inr ⟨g, cap, cur, rfl, Nat.le_trans hb hb1, r⟩
theorem SetAt.alt {w w1 : World} {gs mb base : Nat} {v : Value} {L : List Value} {S : Nat → Prop} (h : SetAt w gs mb base v L) (hA : Alt w w1 S) (h1 : ¬ S gs) (h2 : ¬ S mb) (h3 : ∀ i, v.ownBlock = some i → ¬ S i) : SetAt w1 gs mb base v L :=
  ⟨hA.row h.row h1, hA.kl h.kl h3, (hA.block mb h.lt h2).trans h.map⟩
theorem row_ne {w : World} {g t u : Nat} {xs ys : List Value} (h : Row w g t xs) (k : Row w g u ys) : t = u := by
  have := h.symm.trans k
  simp at this
  exact this.2
theorem row_at {w : World} {g t : Nat} {vs : List Value} (h : Row w g t vs) : ∀ j u, vs[j]? = some u → w.cell? ((⟨g, 0, none⟩ : Addr).add j) = some u := by
  intro j u hj
  rw [addr_add, Nat.zero_add, h.cell]; exact hj
theorem seenC_one (r : Seen) (va : Value) (h : va.oneCell' = true) : ∀ u ∈ seenC (r, va), u.oneCell' = true := by
  intro u hu
  simp only [seenC, List.mem_cons, List.not_mem_nil, or_false] at hu
  rcases hu with rfl | rfl | rfl | rfl | rfl | rfl <;> first | rfl | exact h
theorem tail_end {wb W : World} {gs mb base : Nat} {v vo va : Value} {xs : List Seen} {r : Seen} {K0 K : List Value} (hX : SeenAt wb base vo xs) (hS0 : SetAt wb gs mb base v K0) (hM : MidL wb W gs mb base v K (seenC (r, va))) (hO : Own W wb.heap.size 3 va (nums .i64 (r.all.map Nat.cast))) (hbase : base ≤ wb.heap.size) :
    ∃ av : List Value, av.length = xs.length ∧ (W.alloc (.cells (seenC (r, va)).toArray 49)).ownsRow base 49 6 vo xs.length ((xs.zip av).flatMap seenC) ∧
      ∀ vo' w', w'.ownsRow base 49 6 vo' (xs.length + 1) ((xs.zip av).flatMap seenC ++ seenC (r, va)) → (W.alloc (.cells (seenC (r, va)).toArray 49)).grownBy w' vo.ownBlock → TailR wb w' gs mb base v vo vo' K (xs ++ [r]) := by
  have hnot : ∀ g us, (Row wb g 49 us ∨ Row wb g 3 us) → ¬ (g = gs ∨ some g = v.ownBlock) := by
    rintro g us hg (e | e)
    · subst e
      rcases hg with hg | hg
      · exact absurd (row_ne hg hS0.row) (by decide)
      · exact absurd (row_ne hg hS0.row) (by decide)
    · rcases hg with hg | hg
      · exact hS0.kl.ne_row hg (by decide) e.symm
      · exact hS0.kl.ne_row hg (by decide) e.symm
  have hX1 := hX.alt hM.alt hnot
  obtain ⟨av, h1, h2, h3⟩ := hX1.ex
  have hB := below_alloc0 W (.cells (seenC (r, va)).toArray 49)
  have hAB : Alt W (W.alloc (.cells (seenC (r, va)).toArray 49)) (fun _ => False) := Alt.of_below hB _
  have h2' := ownsRow_alt h2 hAB (fun _ _ h => h)
  refine ⟨av, h1, h2', fun vo' w' ho hg => ?_⟩
  have hAg := Alt.of_grown hg
  have hA : Alt W w' (fun i => some i = vo.ownBlock) := (Alt.of_below hB _).trans hAg (fun i _ e => e)
  have hvo : ∀ i, vo.ownBlock = some i → ∃ us, Row W i 49 us := fun i hi => ownsRow_block h2 i hi
  obtain ⟨v', hs, hv⟩ := hM.set
  refine ⟨?_, ⟨v', hs.alt hA ?_ ?_ ?_⟩, ⟨av ++ [va], by simp [h1], ?_, ?_⟩⟩
  · exact (hM.alt.mono (fun i _ e => Or.inl e)).trans hA (fun i _ e => Or.inr e)
  · intro e
    obtain ⟨us, hu⟩ := hvo gs e.symm
    exact absurd (row_ne hu hs.row) (by decide)
  · intro e
    obtain ⟨us, hu⟩ := hvo mb e.symm
    have := hs.map.symm.trans hu
    cases this
  · intro i hi e
    obtain ⟨us, hu⟩ := hvo i e.symm
    exact hs.kl.ne_row hu (by decide) hi
  · rw [List.zip_append h1.symm, List.flatMap_append, List.length_append, List.length_singleton]
    simpa using ho
  · intro p hp
    rw [List.zip_append h1.symm] at hp
    rcases List.mem_append.1 hp with hp | hp
    · refine hA.own (h3 p hp) (fun i hi e => ?_)
      obtain ⟨us, hu⟩ := hvo i e.symm
      exact Own.ne_row (h3 p hp) hu (by decide) hi
    · simp at hp
      subst hp
      refine hA.own (Own.weaken hO hbase) (fun i hi e => ?_)
      obtain ⟨us, hu⟩ := hvo i e.symm
      exact Own.ne_row hO hu (by decide) hi
end Go.Proofs.YthgklpkkcaiehaaDoor
