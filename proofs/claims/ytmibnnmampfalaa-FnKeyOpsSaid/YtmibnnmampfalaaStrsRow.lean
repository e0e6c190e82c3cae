/- A slice of texts that came in, opened. -/
import Derived.Test.YtmibnnmampfalaaStr
import Derived.Test.YtmibnnmampfalaaRowkit
import Derived.OpenShut
import Derived.SliceStrings
import Derived.ChangeArms
namespace Go.Proofs.Ytmibnnmampfalaa
open Go.ChangeShapes Go.WideShapes Go.ChangeAt Go.RowKit
set_option linter.unusedVariables false
set_option linter.unusedSimpArgs false
theorem strs_came {H : Type} {enc : TypeId × Value → H} {P : Program} {W : World} {base : Nat} {held : Bool} {r : Reach} {b0 : Nat} {t e : TypeId} {v : Value} {d : DataW H} {ps : List MemPlace}
    (ht : P.underlying t = some (.slice e)) (he : P.underlying e = some .string) (hc : P.cellsOf e = 1)
    (hv : Value.okWide P W r b0 t v) (h : DataW.Trod enc P W base (fun _ => true) held t v d ps) :
    ∃ (A : Option Addr) (n c : Nat) (l : List ByteArray), v = .slice A n c ∧ Rd W A (Go.Proofs.Ytmibnnmampfalaa.strs l) ∧ l.length = n ∧ n ≤ c ∧ (A = none → c = 0) ∧ n ≤ 9223372036854775807 := by
  obtain ⟨a, len, cap, rfl⟩ := okWide_slice ht hv
  obtain ⟨fuel, hf⟩ := h
  rcases open_strings ht he hc hf with ⟨hcs, _⟩ | ⟨x, len', cap', ss, hcs, _, hl4, hm4, hz, _, hcell, _⟩
  · simp [Value.cells] at hcs
    obtain ⟨rfl, rfl, rfl⟩ := hcs
    exact ⟨none, 0, 0, [], rfl, by simpa [Go.Proofs.Ytmibnnmampfalaa.strs] using Rd.nil W none, rfl, by omega, fun _ => rfl, by omega⟩
  · simp [Value.cells] at hcs
    obtain ⟨rfl, rfl, rfl⟩ := hcs
    have hle : len ≤ ss.length := by rw [hz]; simp; omega
    refine ⟨some x, len, cap, ss.take len, rfl, ?_, by rw [List.length_take]; omega, hl4, (fun h => by cases h), by unfold maxLen at hm4; omega⟩
    intro i u hu
    have hi : i < len := by
      have := (List.getElem?_eq_some_iff.1 hu).1
      rw [Go.Proofs.Ytmibnnmampfalaa.strs_len, List.length_take] at this
      omega
    have h0' := hcell 0 (by omega)
    have hi' := hcell i (by omega)
    obtain ⟨b, o, sp⟩ := x
    have hsp : sp = none := by
      cases sp with
      | none => rfl
      | some s =>
        simp only [Addr.add, if_pos] at h0'
        unfold World.cell? at h0'
        split at h0' <;> simp at h0'
    subst hsp
    rw [addr_add] at hi'
    refine ⟨b, o, rfl, World.block_lt_of_cell? W ⟨b, o + i, none⟩ hi', ?_⟩
    rw [hi', ← hu, Go.Proofs.Ytmibnnmampfalaa.strs_at _ _ (by rw [List.length_take]; omega)]
    simp [si, List.getD_eq_getElem?_getD, List.getElem?_take, hi]
end Go.Proofs.Ytmibnnmampfalaa
