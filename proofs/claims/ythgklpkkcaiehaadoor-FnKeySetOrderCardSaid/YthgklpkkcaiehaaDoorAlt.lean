/- Worlds that differ in some blocks alone. Nothing here speaks of the program. -/
import Derived.Test.YthgklpkkcaiehaaDoorKMem
namespace Go.Proofs.YthgklpkkcaiehaaDoor
open Go.RowKit
set_option linter.unusedVariables false
set_option linter.unusedSimpArgs false

/-- w' is as w was, but for the blocks of S and new ones. -/
structure Alt (w w' : World) (S : Nat → Prop) : Prop where
  os : w'.os = w.os
  tape : w'.tape = w.tape
  output : w'.output = w.output
  size : w.heap.size ≤ w'.heap.size
  block : ∀ k, k < w.heap.size → ¬ S k → w'.heap[k]? = w.heap[k]?
section
variable {w w1 w2 : World} {S T : Nat → Prop}
theorem Alt.refl (w : World) (S : Nat → Prop) : Alt w w S := ⟨rfl, rfl, rfl, Nat.le_refl _, fun _ _ _ => rfl⟩
theorem Alt.trans (h : Alt w w1 S) (k : Alt w1 w2 T) (hT : ∀ i, i < w.heap.size → T i → S i) : Alt w w2 S :=
  ⟨k.os.trans h.os, k.tape.trans h.tape, k.output.trans h.output, Nat.le_trans h.size k.size, fun i hi hn => (k.block i (Nat.lt_of_lt_of_le hi h.size) (fun ht => hn (hT i hi ht))).trans (h.block i hi hn)⟩
theorem Alt.mono (h : Alt w w1 S) (hT : ∀ i, i < w.heap.size → S i → T i) : Alt w w1 T := ⟨h.os, h.tape, h.output, h.size, fun i hi hn => h.block i hi (fun hs => hn (hT i hi hs))⟩
theorem Alt.of_below (h : Below w.heap.size w w1) (S : Nat → Prop) : Alt w w1 S := ⟨h.os, h.tape, h.output, h.size, fun i hi _ => h.block i hi⟩
theorem Alt.of_grown {r : Option Nat} (h : w.grownBy w1 r) : Alt w w1 (fun i => some i = r) := ⟨h.os, h.tape, h.output, h.size, h.block⟩
theorem Alt.below {B : Nat} (h : Alt w w1 S) (hB : B ≤ w.heap.size) (hS : ∀ i, i < B → ¬ S i) : Below B w w1 := ⟨h.os, h.tape, h.output, h.size, fun i hi => h.block i (Nat.lt_of_lt_of_le hi hB) (hS i hi)⟩
theorem Alt.drew (w : World) (S : Nat → Prop) : Alt w w.drew S := ⟨rfl, rfl, rfl, Nat.le_refl _, fun _ _ _ => rfl⟩
theorem Alt.drewN (w : World) (n : Nat) (S : Nat → Prop) : Alt w (w.drewN n) S := ⟨rfl, rfl, rfl, Nat.le_refl _, fun _ _ _ => rfl⟩
theorem Alt.alloc (w : World) (o : Obj) (S : Nat → Prop) : Alt w (w.alloc o) S := Alt.of_below (below_alloc0 w o) S
theorem Alt.set (w : World) (a : Addr) (v : Value) : Alt w (w.setCell a v) (fun i => i = a.block) :=
  ⟨rfl, rfl, rfl, by simp, fun k hk hne => Below.heap_setCell w _ v k hne⟩
theorem Alt.row {g t : Nat} {vs : List Value} (h : Alt w w1 S) (hR : Row w g t vs) (hg : ¬ S g) : Row w1 g t vs := (h.block g hR.lt hg).trans hR
theorem Alt.cell (h : Alt w w1 S) {a : Addr} {v : Value} (hc : w.cell? a = some v) (hg : ¬ S a.block) : w1.cell? a = some v :=
  (World.cell?_of_block (h.block a.block (World.block_lt_of_cell? w a hc) hg)).trans hc
theorem Alt.kl {base e : Nat} {v : Value} {vs : List Value} (h : Alt w w1 S) (hk : KL w base e v vs) (hg : ∀ i, v.ownBlock = some i → ¬ S i) : KL w1 base e v vs := by
  rcases hk with hk | ⟨g, pre, rest, junk, rfl, hb, hR, hm⟩
  · exact .inl hk
  · exact .inr ⟨g, pre, rest, junk, rfl, hb, h.row hR (hg g rfl), hm⟩
theorem Alt.own {base e : Nat} {v : Value} {vs : List Value} (h : Alt w w1 S) (hk : Own w base e v vs) (hg : ∀ i, v.ownBlock = some i → ¬ S i) : Own w1 base e v vs := by
  rcases hk.block with ⟨rfl, rfl⟩ | ⟨g, rest, rfl, hb, hR, hm⟩
  · exact Own.nil _ _ _
  · exact Own.of_row (h.row hR (hg g rfl)) hb rfl hm
/-- A slice whose cells lie in blocks that are not among some. -/
structure RdN (w : World) (N : Nat → Prop) (A : Option Addr) (vs : List Value) : Prop where
  rd : Rd w A vs
  off : ∀ b o s, A = some ⟨b, o, s⟩ → 0 < vs.length → ¬ N b
theorem Alt.rd {A : Option Addr} {vs : List Value} (h : Alt w w1 S) (hR : RdN w S A vs) : Rd w1 A vs := by
  intro i v hv
  obtain ⟨b, o, rfl, hlt, hc⟩ := hR.rd i v hv
  have hl := (List.getElem?_eq_some_iff.1 hv).1
  exact ⟨b, o, rfl, Nat.lt_of_lt_of_le hlt h.size, h.cell hc (hR.off b o none rfl (by omega))⟩
theorem RdN.mono {N M : Nat → Prop} {A : Option Addr} {vs : List Value} (h : RdN w N A vs) (hM : ∀ i, i < w.heap.size → M i → N i) : RdN w M A vs :=
  ⟨h.rd, fun b o s e h0 hm => by
    obtain ⟨b', o', e', hlt, _⟩ := Rd.pos h.rd h0
    rw [e] at e'; cases e'
    exact h.off b o none e h0 (hM b hlt hm)⟩
theorem Alt.rdN {A : Option Addr} {vs : List Value} (h : Alt w w1 S) (hR : RdN w S A vs) : RdN w1 S A vs := ⟨h.rd hR, hR.off⟩
theorem RdN.of_own {base e : Nat} {v : Value} {vs : List Value} (h : Own w base e v vs) (N : Nat → Prop) (hN : ∀ i, v.ownBlock = some i → ¬ N i) : ∃ A c, v = .slice A vs.length c ∧ vs.length ≤ c ∧ RdN w N A vs := by
  rcases h.block with ⟨rfl, rfl⟩ | ⟨g, rest, rfl, hb, hR, hm⟩
  · exact ⟨none, 0, rfl, Nat.le_refl _, Rd.nil _ _, fun b o s e => by cases e⟩
  · refine ⟨_, _, rfl, by omega, Rd.of_row hR 0 0 (fun i hi => ?_), fun b o s e _ => ?_⟩
    · rw [Nat.zero_add, List.getElem?_append_left hi]
    · cases e; exact hN g rfl
end
end Go.Proofs.YthgklpkkcaiehaaDoor
