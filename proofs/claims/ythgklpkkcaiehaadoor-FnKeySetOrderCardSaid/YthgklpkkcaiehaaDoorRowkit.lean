/- What a slice of whole numbers that comes in reads as; its weight bounds its length. -/
import Derived.Test.YthgklpkkcaiehaaDoorProg
import Derived.Test.YthgklpkkcaiehaaDoorBase
import Derived.WalkKit
import Derived.ProofKit
import Derived.OpenShut
import Derived.ShutString
import Derived.ChangeOld
import Derived.Below
import Derived.SizedLaws
import Derived.ChangeSlices
namespace Go.Proofs.YthgklpkkcaiehaaDoor
open Go.ChangeShapes Go.WideShapes Go.ChangeAt Go.RowKit
set_option linter.unusedVariables false
set_option linter.unusedSimpArgs false

theorem noKnob : ownKnob Tryd.prog.godebug = none := by kernel_rfl
theorem laidOut : laidOutB Tryd.prog = true := by kernel_rfl
def IsRow (k : IntKind) (w : World) (a : Option Addr) (len cap : Nat) (zs : List Int) : Prop :=
  (a = none ∧ len = 0 ∧ cap = 0 ∧ zs = []) ∨
  ∃ x, a = some x ∧ len ≤ cap ∧ cap ≤ maxLen ∧ zs.length = cap ∧ (∀ i, i < zs.length → w.cell? (x.add i) = some (.int k (zs.getD i 0))) ∧ ∀ n ∈ zs, (Lit.int k n).wf = true
/-- A slice that came in: what it reads as, and how long it is. -/
structure Came (k : IntKind) (w : World) (a : Option Addr) (len cap : Nat) (l : List Int) : Prop where
  hlen : l.length = len
  hcap : len ≤ cap
  nil : a = none → cap = 0
  rd : Rd w a (nums k l)
  wf : ∀ x ∈ l, (Lit.int k x).wf = true
theorem IsRow.came {k : IntKind} {w : World} {a : Option Addr} {len cap : Nat} {zs : List Int} (h : IsRow k w a len cap zs) : Came k w a len cap (zs.take len) := by
  rcases h with ⟨rfl, rfl, rfl, rfl⟩ | ⟨x, rfl, hl, hm, hz, hc, hw⟩
  · exact ⟨rfl, Nat.le_refl _, fun _ => rfl, by simpa [nums] using Rd.nil w none, by simp⟩
  · refine ⟨by rw [List.length_take]; omega, hl, (fun h => by cases h), ?_, fun n hn => hw n (List.mem_of_mem_take hn)⟩
    intro i v hv
    have hi : i < (nums k (zs.take len)).length := (List.getElem?_eq_some_iff.1 hv).1
    rw [nums_len, List.length_take] at hi
    have h0 := hc 0 (by omega)
    have hi' := hc i (by omega)
    obtain ⟨b, o, sp⟩ := x
    have hsp : sp = none := by
      cases sp with
      | none => rfl
      | some s =>
        simp only [Addr.add, if_pos] at h0
        unfold World.cell? at h0
        split at h0 <;> simp at h0
    subst hsp
    rw [addr_add] at hi'
    refine ⟨b, o, rfl, World.block_lt_of_cell? w ⟨b, o + i, none⟩ hi', ?_⟩
    rw [hi', ← hv, nums_at _ _ _ (by rw [List.length_take]; omega), gi_take _ (by omega)]
    rfl
theorem Came.isB {w : World} {a : Option Addr} {len cap : Nat} {l : List Int} (h : Came .u8 w a len cap l) : IsB l := by
  intro x hx
  have := h.wf x hx
  simp [Lit.wf, IntKind.min, IntKind.max, IntKind.wrap, IntKind.bits, IntKind.signed] at this
  omega
theorem sizedInts {H : Type} {enc : TypeId × Value → H} {P : Program} {W : World} {base : Nat} {spare : Nat → Bool} {held : Bool} {t e : TypeId} {k : IntKind} {a : Option Addr} {len cap : Nat} {d : DataW H} {ps : List MemPlace} {ts : List TypeId} {ds : List (DataW H)} {j : Nat}
    (hsz : (DataW.weightsEach P ts ds).all (· ≤ reachBytes) = true) (ht : ts[j]? = some t) (hd : ds[j]? = some d) (hu : P.underlying t = some (.slice e)) (he : P.underlying e = some (.int k)) (hc : P.cellsOf e = 1) {B : Nat} (hB : P.bytesOf e = B)
    (h : DataW.Trod enc P W base spare held t (.slice a len cap) d ps) : len * B ≤ 140737488351232 := by
  obtain ⟨fuel, hf⟩ := h
  rcases open_ints hu he hc hf with ⟨hcs, _⟩ | ⟨x, l, c, zs, hcs, _, hl, _, hz, hx, _, _⟩
  · simp [Value.cells] at hcs
    obtain ⟨rfl, rfl, rfl⟩ := hcs
    simp
  · simp [Value.cells] at hcs
    obtain ⟨rfl, rfl, rfl⟩ := hcs
    obtain ⟨hx, _⟩ := Prod.mk.inj hx
    subst hx
    have z := sized_slice hsz ht hd hu
    rw [hB] at z
    have hl2 : len ≤ zs.length := by
      rw [hz]
      split
      · exact hl
      · exact Nat.le_refl _
    have h1 : (lits (H := H) k (zs.take len)).length + (lits (H := H) k (zs.drop len)).length = zs.length := by
      simp [lits]
      omega
    rw [h1] at z
    exact Nat.le_trans (Nat.mul_le_mul_right _ hl2) z
end Go.Proofs.YthgklpkkcaiehaaDoor
