/- Slices of texts: equal, cloned. -/
import Derived.Test.YtmibnnmampfalaaDoorProg
import Derived.Test.YtmibnnmampfalaaDoorBase
import Derived.Lib.Bytes
import Derived.StillTailTactics
namespace Go.Proofs.YtmibnnmampfalaaDoor
open Go.RowKit
set_option linter.unusedVariables false
set_option linter.unusedSimpArgs false

def strs (l : List ByteArray) : List Value := l.map Value.string
def si (l : List ByteArray) (i : Nat) : ByteArray := l.getD i ByteArray.empty
theorem strs_len (l : List ByteArray) : (strs l).length = l.length := List.length_map ..
theorem strs_at (l : List ByteArray) (i : Nat) (hi : i < l.length) : (strs l)[i]? = some (.string (si l i)) := by
  simp [strs, si, List.getD_eq_getElem?_getD, hi]
theorem strs_one (l : List ByteArray) : ∀ u ∈ strs l, u.oneCell' = true := by
  intro u hu
  obtain ⟨x, _, rfl⟩ := List.mem_map.1 hu
  rfl
theorem si_ext {a b : List ByteArray} (hl : a.length = b.length) (h : ∀ i, i < a.length → si a i = si b i) : a = b := by
  apply List.ext_getElem hl
  intro i h1 h2
  have := h i h1
  simpa [si, List.getD_eq_getElem?_getD, h1, h2] using this
theorem Rd.atS {w : World} {A : Option Addr} {l : List ByteArray} (h : Rd w A (strs l)) (i : Nat) (hi : i < l.length) : ∃ b o, A = some ⟨b, o, none⟩ ∧ b < w.heap.size ∧ w.cell? ⟨b, o + i, none⟩ = some (.string (si l i)) :=
  h i _ (strs_at l i hi)
theorem info_str : (Tryd.prog.info? 9).map (fun i => (i.zero, i.size, i.bytes)) = some (some (.string ByteArray.empty), 1, 16) := by kernel_rfl
theorem bytes_eq (x y : ByteArray) : (x.toList == y.toList) = decide (x = y) := by
  rw [Bool.eq_iff_iff, beq_iff_eq, decide_eq_true_iff]
  constructor
  · intro h
    have hx : ∀ z : ByteArray, z.toList = z.data.toList := fun z => Lib.toList_data z
    rw [hx, hx] at h
    cases x; cases y
    congr 1
    exact Array.toList_inj.1 h
  · rintro rfl; rfl
end Go.Proofs.YtmibnnmampfalaaDoor
