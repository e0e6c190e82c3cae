/- Steps of a key set that are laid in memory one after the other. -/
import Derived.Test.YthgklpkkcaiehaaDoorKData
import Derived.Test.YthgklpkkcaiehaaDoorKLive
namespace Go.Proofs.YthgklpkkcaiehaaDoor
open Go.RowKit
set_option linter.unusedVariables false
set_option linter.unusedSimpArgs false

def StAt (w : World) (base : Nat) (v : Value) (L : List KSt) : Prop := w.ownsRow base 44 5 v L.length (L.flatMap KSt.cells)
theorem StAt.nil (w : World) (base : Nat) : StAt w base (.slice none 0 0) [] := World.ownsRow_nil _ _ _ _
theorem info_step : (Tryd.prog.info? 44).map (fun i => (i.zero, i.size, i.bytes)) = some (some (.agg #[.int .i64 0, .int .i64 0, .int .i64 0, .string ⟨#[]⟩, .string ⟨#[]⟩]), 5, 56) := by kernel_rfl
theorem StAt.below {w w1 : World} {base : Nat} {v : Value} {L : List KSt} (h : StAt w base v L) (hb : Below w.heap.size w w1) : StAt w1 base v L := ownsRow_alt h (Alt.of_below hb (fun _ => False)) (fun _ _ h => h)
theorem ownsRow_ge {w : World} {base e s n : Nat} {v : Value} {xs : List Value} (h : w.ownsRow base e s v n xs) : ∀ i, v.ownBlock = some i → base ≤ i := by
  intro i hi
  rcases h.2 with ⟨rfl, _⟩ | ⟨g, cap, cur, rfl, hb, _⟩
  · cases hi
  · cases hi; exact hb
theorem st_end {W : World} {base : Nat} {v : Value} {L : List KSt} (h : StAt W base v L) (hbase : base ≤ W.heap.size) (M : List KSt) :
    (W.alloc (.cells (M.flatMap KSt.cells).toArray 44)).ownsRow base 44 5 v L.length (L.flatMap KSt.cells) ∧
      ∀ v' w', w'.ownsRow base 44 5 v' (L.length + M.length) (L.flatMap KSt.cells ++ M.flatMap KSt.cells) → (W.alloc (.cells (M.flatMap KSt.cells).toArray 44)).grownBy w' v.ownBlock → StAt w' base v' (L ++ M) ∧ Below base W w' := by
  have hB := below_alloc0 W (.cells (M.flatMap KSt.cells).toArray 44)
  refine ⟨h.below hB, fun v' w' ho hg => ⟨?_, ?_⟩⟩
  · unfold StAt
    rw [List.length_append, List.flatMap_append]; exact ho
  · exact (hB.mono hbase).trans ((Alt.of_grown hg).below (Nat.le_trans hbase hB.size) (fun i hi e => by have := ownsRow_ge h i e.symm; omega))
theorem ownsRow_rd {w : World} {base e s n : Nat} {v : Value} {xs : List Value} (h : w.ownsRow base e s v n xs) : ∃ A c, v = .slice A n c ∧ n ≤ c ∧ Rd w A xs := by
  rcases h.2 with ⟨rfl, h0⟩ | ⟨g, cap, cur, rfl, hb, hg, hrest⟩
  · subst h0
    have : xs = [] := List.eq_nil_of_length_eq_zero (by have := h.1; omega)
    subst this
    exact ⟨none, 0, rfl, by omega, Rd.nil _ _⟩
  · refine ⟨some ⟨g, 0, none⟩, cap, rfl, hrest.1, fun j u hu => ⟨g, 0, rfl, (Array.getElem?_eq_some_iff.1 hg).1, ?_⟩⟩
    have := World.ownsRow.cells h (g := g) rfl j u hu
    rw [addr_add] at this
    exact this
theorem DataAt.kds {w : World} {base : Nat} {v : Value} {ds : List KD} (h : DataAt w base v ds) : ∃ A c, v = .slice A ds.length c ∧ KDs w A ds := by
  obtain ⟨A, c, rfl, _, hR⟩ := ownsRow_rd h.own
  refine ⟨A, c, rfl, hR, fun d hd => ?_⟩
  obtain ⟨g, h1, _, h2, h3, h4⟩ := h.oct d hd
  exact ⟨by rw [h1]; exact Rd.of_row h2 0 0 (fun i hi => by simp), h3, by omega, by omega⟩
end Go.Proofs.YthgklpkkcaiehaaDoor
