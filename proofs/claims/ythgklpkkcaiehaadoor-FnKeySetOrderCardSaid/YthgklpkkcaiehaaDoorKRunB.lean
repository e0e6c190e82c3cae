/- What is seen behind each step, kept. -/
import Derived.Test.YthgklpkkcaiehaaDoorKRunA
import Derived.Test.YthgklpkkcaiehaaDoorKSeq
import Derived.Test.YthgklpkkcaiehaaDoorFlow
import Derived.Maps.AppendAt
namespace Go.Proofs.YthgklpkkcaiehaaDoor
open Go.RowKit
set_option linter.unusedVariables false
set_option linter.unusedSimpArgs false

theorem ownsRow_block {w : World} {base e size n : Nat} {v : Value} {xs : List Value} (h : w.ownsRow base e size v n xs) : ∀ g, v.ownBlock = some g → ∃ us, Row w g e us := by
  rcases h.2 with ⟨rfl, _⟩ | ⟨g, cap, cur, rfl, hb, hg, _⟩
  · intro g h; cases h
  · intro g' h'
    cases h'
    exact ⟨cur.toList, by simpa [Row] using hg⟩
theorem ownsRow_alt {w w1 : World} {base e size n : Nat} {v : Value} {xs : List Value} {S : Nat → Prop} (h : w.ownsRow base e size v n xs) (hA : Alt w w1 S) (hS : ∀ g, v.ownBlock = some g → ¬ S g) : w1.ownsRow base e size v n xs := by
  refine ⟨h.1, ?_⟩
  rcases h.2 with h2 | ⟨g, cap, cur, rfl, hb, hg, r⟩
  · exact .inl h2
  · exact .inr ⟨g, cap, cur, rfl, hb, (hA.block g (Array.getElem?_eq_some_iff.1 hg).1 (hS g rfl)).trans hg, r⟩
theorem SeenAt.alt {w w1 : World} {base : Nat} {vo : Value} {xs : List Seen} {S : Nat → Prop} (h : SeenAt w base vo xs) (hA : Alt w w1 S) (hS : ∀ g us, (Row w g 49 us ∨ Row w g 3 us) → ¬ S g) : SeenAt w1 base vo xs := by
  obtain ⟨av, h1, h2, h3⟩ := h.ex
  refine ⟨av, h1, ownsRow_alt h2 hA (fun g hg => ?_), fun p hp => hA.own (h3 p hp) (fun i hi => ?_)⟩
  · obtain ⟨us, hu⟩ := ownsRow_block h2 g hg
    exact hS g us (.inl hu)
  · obtain ⟨us, hu⟩ := ownsRow_block (h3 p hp) i hi
    exact hS i us (.inr hu)
theorem MidL.next {wr wy w1 : World} {gs mb base : Nat} {v : Value} {K L : List Value} (h : MidL wr wy gs mb base v K L) (hb : Below wy.heap.size wy w1) : MidL wr w1 gs mb base v K L := by
  obtain ⟨v', hs, hv⟩ := h.set
  exact ⟨h.alt.trans (Alt.of_below hb (fun _ => False)) (fun i hi e => e.elim), ⟨v', hs.below hb, hv⟩, h.seen.below hb h.seen.lt⟩
/-- A list in memory grows: nothing else turns. -/
theorem MidL.grown {wr wy w1 : World} {gs mb base e : Nat} {v va : Value} {K L vs : List Value} (h : MidL wr wy gs mb base v K L) (hO : Own wy wr.heap.size e va vs) (h1 : e ≠ 133) (h2 : e ≠ 81) (h3 : e ≠ 49) (hg : wy.grownBy w1 va.ownBlock) : MidL wr w1 gs mb base v K L := by
  obtain ⟨v', hs, hv⟩ := h.set
  have hA := Alt.of_grown hg
  refine ⟨h.alt.trans hA (fun i hi e => ?_), ⟨v', ⟨hA.row hs.row (fun e => Own.ne_row hO hs.row h1 e.symm), hA.kl hs.kl (fun i hi e => ?_), (hA.block mb hs.lt (fun e => ?_)).trans hs.map⟩, hv⟩, hA.row h.seen (fun e => Own.ne_row hO h.seen h3 e.symm)⟩
  · have := (hO.lt i e.symm).1; omega
  · obtain ⟨us, hu⟩ := ownsRow_block hO i e.symm
    exact hs.kl.ne_row hu (Ne.symm h2) hi
  · obtain ⟨us, hu⟩ := ownsRow_block hO mb e.symm
    have := hs.map.symm.trans hu
    cases this
/-- What holds behind a step. -/
structure TailR (wr wz : World) (gs mb base : Nat) (v vo vo' : Value) (K : List Value) (xs : List Seen) : Prop where
  alt : Alt wr wz (fun i => (i = gs ∨ some i = v.ownBlock) ∨ some i = vo.ownBlock)
  set : ∃ v', SetAt wz gs mb base v' K
  out : SeenAt wz base vo' xs
theorem info_seen : (Tryd.prog.info? 49).map (fun i => (i.zero, i.size, i.bytes)) = some (some (.agg #[.bool false, .int .i64 0, .int .i64 0, .int .i64 0, .slice none 0 0, .slice none 0 0]), 6, 80) := by kernel_rfl
theorem info_int : (Tryd.prog.info? 3).map (fun i => (i.zero, i.size, i.bytes)) = some (some (.int .i64 0), 1, 8) := by kernel_rfl
end Go.Proofs.YthgklpkkcaiehaaDoor
