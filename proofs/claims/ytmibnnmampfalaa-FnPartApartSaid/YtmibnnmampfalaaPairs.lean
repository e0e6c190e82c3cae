/- A pair of slices of bytes that came in, opened. -/
import Derived.Test.YtmibnnmampfalaaApart
import Derived.Test.YtmibnnmampfalaaRowkit
import Derived.OpenShut
import Derived.ChangeArms
namespace Go.Proofs.Ytmibnnmampfalaa
open Go.ChangeShapes Go.WideShapes Go.ChangeAt Go.RowKit
set_option linter.unusedVariables false
set_option linter.unusedSimpArgs false
theorem pair_came {H : Type} {enc : TypeId × Value → H} {P : Program} {W : World} {base : Nat} {held : Bool} {r : Reach} {b0 : Nat} {t e u : TypeId} {v : Value} {d : DataW H} {ps : List MemPlace}
    (hs : P.underlying t = some (.array 2 e)) (hC : P.cellsOf t = 2) (he : P.underlying e = some (.slice u)) (hce : P.cellsOf e = 1) (hu : P.underlying u = some (.int .u8)) (hcu : P.cellsOf u = 1)
    (hv : Value.okWide P W r b0 t v) (h : DataW.Trod enc P W base (fun _ => true) held t v d ps) :
    ∃ (A : Option Addr) (n c : Nat) (l : List Int) (B : Option Addr) (m f : Nat) (k : List Int), v = twoV A n c B m f ∧ ArgB W A n c l ∧ ArgB W B m f k := by
  obtain ⟨cs, rfl, hsz⟩ : ∃ cs, v = .agg cs ∧ cs.size = P.cellsOf t := by
    unfold Value.okWide at hv
    rw [hs] at hv
    obtain ⟨cs, h1, h2, _⟩ := hv
    exact ⟨cs, h1, h2⟩
  obtain ⟨L⟩ := cs
  match L, hsz.trans hC with
  | [v0, v1], _ =>
    obtain ⟨fuel, hf⟩ := h
    obtain ⟨xs, n, _, _, _, hlen, hf⟩ := DataW.trod_array hs hf
    match xs, hlen with
    | [y0, y1], _ =>
      have g0 : DataW.trod enc P W base (fun _ => true) held n e [v0] = some y0 := by simpa [Value.cells, hce] using hf 0 (by omega)
      have g1 : DataW.trod enc P W base (fun _ => true) held n e [v1] = some y1 := by simpa [Value.cells, hce] using hf 1 (by omega)
      have key : ∀ {v : Value} {y : DataW H × List MemPlace}, DataW.trod enc P W base (fun _ => true) held n e [v] = some y → ∃ (A : Option Addr) (n c : Nat) (l : List Int), v = .slice A n c ∧ ArgB W A n c l := by
        intro v y hg
        rcases open_ints he hu hcu hg with ⟨hcs, _⟩ | ⟨x, l, c, zs, hcs, _, hl, hm, hz, _, hcell, hwz⟩
        · simp only [List.cons.injEq, and_true] at hcs
          subst hcs
          exact ⟨none, 0, 0, _, rfl, (IsRow.came (k := .u8) (w := W) (zs := []) (.inl ⟨rfl, rfl, rfl, rfl⟩)).arg⟩
        · simp only [List.cons.injEq, and_true] at hcs
          subst hcs
          exact ⟨some x, l, c, _, rfl, (IsRow.came (k := .u8) (zs := zs) (.inr ⟨_, rfl, hl, hm, by simpa using hz, hcell, hwz⟩)).arg⟩
      obtain ⟨A, a1, a2, l, rfl, ha⟩ := key g0
      obtain ⟨B, b1, b2, k, rfl, hb⟩ := key g1
      exact ⟨A, a1, a2, l, B, b1, b2, k, rfl, ha, hb⟩
end Go.Proofs.Ytmibnnmampfalaa
