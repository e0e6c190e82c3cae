/- Words that all proofs of this seat use: rows of memory, slices that are read, rows of a call's own. Nothing here speaks of the program. -/
import Derived.WalkKit
import Derived.KernelRfl
import Derived.Deep.QuietTactic
import Derived.BigQuiet
import Derived.Handy
import Derived.Outline
import Derived.RegionTactic
import Derived.ChangeAlike
import Derived.BigRegion
import Derived.OwnWalk
import Derived.Laws.BytesArg
import Derived.Laws.CopyOwn
import Derived.Laws.MakeOwn
import Derived.Laws.OwnMore
import Derived.Maps.AppendAt
import Derived.Deep.RegionLaw
import Derived.Deep.LoopGhost
import Derived.Deep.RegionHeld3
import Derived.Deep.MidRow
import Derived.WalkSpells
namespace Go.Proofs.YthgklpkkcaiehaaDoor
open Go.RowKit
set_option linter.unusedVariables false
set_option linter.unusedSimpArgs false

theorem hidden {p : Prop} (h : p) : Hid p := h
/-- A list of numbers, read at a place; the walk leaves it as it is. -/
def gi (l : List Int) (i : Nat) : Int := l.getD i 0
def IsB (l : List Int) : Prop := ∀ x ∈ l, 0 ≤ x ∧ x < 256
def nums (k : IntKind) (l : List Int) : List Value := l.map (Value.int k)
theorem nums_len (k : IntKind) (l : List Int) : (nums k l).length = l.length := List.length_map ..
theorem nums_at (k : IntKind) (l : List Int) (i : Nat) (hi : i < l.length) : (nums k l)[i]? = some (.int k (gi l i)) := by
  simp [nums, gi, List.getD_eq_getElem?_getD, hi]
theorem nums_one (k : IntKind) (l : List Int) : ∀ u ∈ nums k l, u.oneCell' = true := by
  intro u hu
  obtain ⟨x, _, rfl⟩ := List.mem_map.1 hu
  rfl
theorem nums_app (k : IntKind) (a b : List Int) : nums k (a ++ b) = nums k a ++ nums k b := List.map_append ..
theorem gi_set (l : List Int) (i j : Nat) (v : Int) (hi : i < l.length) : gi (l.set i v) j = if j = i then v else gi l j := by
  unfold gi; rw [List.getD_eq_getElem?_getD, List.getD_eq_getElem?_getD, List.getElem?_set]
  by_cases h : i = j
  · subst h; simp [hi]
  · rw [if_neg h, if_neg (fun e => h e.symm)]
theorem gi_mem {l : List Int} {i : Nat} (h : i < l.length) : gi l i ∈ l := by
  simp [gi, List.getD_eq_getElem?_getD, h]
theorem gi_byte {l : List Int} (hb : IsB l) (i : Nat) : 0 ≤ gi l i ∧ gi l i < 256 := by
  by_cases h : i < l.length
  · exact hb _ (gi_mem h)
  · simp [gi, List.getD_eq_getElem?_getD, List.getElem?_eq_none (Nat.le_of_not_lt h)]
theorem gi_ext {a b : List Int} (hl : a.length = b.length) (h : ∀ i, i < a.length → gi a i = gi b i) : a = b := by
  apply List.ext_getElem hl
  intro i h1 h2
  have := h i h1
  simpa [gi, List.getD_eq_getElem?_getD, h1, h2] using this
theorem gi_app1 {a : List Int} (b : List Int) {i : Nat} (h : i < a.length) : gi (a ++ b) i = gi a i := by
  simp [gi, List.getD_eq_getElem?_getD, List.getElem?_append_left h]
theorem gi_app2 {a b : List Int} {i : Nat} (h : a.length ≤ i) : gi (a ++ b) i = gi b (i - a.length) := by
  simp [gi, List.getD_eq_getElem?_getD, List.getElem?_append_right h]
theorem gi_drop (l : List Int) (m i : Nat) : gi (l.drop m) i = gi l (m + i) := by
  simp [gi, List.getD_eq_getElem?_getD, List.getElem?_drop]
theorem gi_take (l : List Int) {m i : Nat} (h : i < m) : gi (l.take m) i = gi l i := by
  simp [gi, List.getD_eq_getElem?_getD, h]
theorem take_gi (l : List Int) {k : Nat} (h : k < l.length) : l.take (k + 1) = l.take k ++ [gi l k] := by
  rw [List.take_succ_eq_append_getElem h]; simp [gi, List.getD_eq_getElem?_getD, h]

/-! A block that is known whole. -/
def Row (w : World) (g t : Nat) (vs : List Value) : Prop := w.heap[g]? = some (.cells vs.toArray t (0, 0))
section
variable {w w1 : World} {g t : Nat} {vs : List Value}
theorem Row.cell (h : Row w g t vs) (i : Nat) : w.cell? ⟨g, i, none⟩ = vs[i]? := by
  unfold Row at h; simp [World.cell?, h]
theorem Row.free (h : Row w g t vs) (i : Nat) : w.frozen? ⟨g, i, none⟩ = false := by
  unfold Row at h; simp [World.frozen?, h]
theorem Row.lt (h : Row w g t vs) : g < w.heap.size := (Array.getElem?_eq_some_iff.1 h).1
theorem Row.new (w : World) (t : Nat) (vs : List Value) : Row (w.alloc (.cells vs.toArray t)) w.heap.size t vs := heap_alloc_new w _
theorem Row.set (h : Row w g t vs) (i : Nat) (v : Value) : Row (w.setCell ⟨g, i, none⟩ v) g t (vs.set i v) := by
  unfold Row at h ⊢
  show (w.heap.modify g _)[g]? = _
  rw [Array.getElem?_modify, if_pos rfl, h]
  simp
theorem Row.far (h : Row w g t vs) {a : Addr} (ha : a.block ≠ g) (v : Value) : Row (w.setCell a v) g t vs :=
  (Below.heap_setCell w a v g (fun e => ha e.symm)).trans h
theorem Row.alloc (h : Row w g t vs) (o : Obj) : Row (w.alloc o) g t vs := (Below.heap_alloc w o g h.lt).trans h
theorem Row.below {B : Nat} (h : Row w g t vs) (hb : Below B w w1) (hg : g < B) : Row w1 g t vs := (hb.block g hg).trans h
theorem Row.drewN (h : Row w g t vs) (n : Nat) : Row (w.drewN n) g t vs := h
theorem Row.drew (h : Row w g t vs) : Row w.drew g t vs := h
theorem Row.grown (h : Row w g t vs) {r : Option Nat} (hg : w.grownBy w1 r) (hne : some g ≠ r) : Row w1 g t vs := (hg.block g h.lt hne).trans h
end
theorem Row.range {w : World} {g t : Nat} {vs : List Value} (h : Row w g t vs) : w.rangeAt g 0 vs := fun j v hv => by rw [Nat.zero_add, h.cell, hv]
theorem Row.there {w : World} {g t : Nat} {vs : List Value} (h : Row w g t vs) (n : Nat) (hn : n ≤ vs.length) : w.there g 0 n := fun j hj => by
  rw [Nat.zero_add]
  exact ⟨by rw [h.cell, List.getElem?_eq_getElem (by omega)]; rfl, h.free j⟩
theorem Row.icell {k : IntKind} {w : World} {g t : Nat} {l : List Int} (h : Row w g t (nums k l)) (i : Nat) (hi : i < l.length) : w.cell? ⟨g, i, none⟩ = some (.int k (gi l i)) :=
  (h.cell i).trans (nums_at k l i hi)
theorem Row.iset {k : IntKind} {w : World} {g t : Nat} {l : List Int} (h : Row w g t (nums k l)) (i : Nat) (v : Int) : Row (w.setCell ⟨g, i, none⟩ (.int k v)) g t (nums k (l.set i v)) := by
  have := h.set i (.int k v); rwa [nums, ← List.map_set] at this

/-! What is kept. -/
theorem below_alloc0 (w : World) (o : Obj) : Below w.heap.size w (w.alloc o) := (Below.refl _ _).alloc (Nat.le_refl _) o
theorem below_drewN0 {B : Nat} {w W : World} (h : Below B w W) (n : Nat) : Below B w (W.drewN n) := ⟨h.os, h.tape, h.output, h.size, h.block⟩
theorem below_then {B : Nat} {w w1 w2 : World} (h : Below B w w1) (hB : B ≤ w1.heap.size) (k : Below w1.heap.size w1 w2) : Below B w w2 := h.trans (k.mono hB)
theorem below_next {w w1 w2 : World} (h : Below w.heap.size w w1) (k : Below w1.heap.size w1 w2) : Below w.heap.size w w2 := h.trans (k.mono h.size)
theorem grown_below {B : Nat} {w w1 : World} (h : Below w.heap.size w w1) (r : Option Nat) : w.grownBy w1 r := ⟨h.os, h.tape, h.output, h.size, fun i hi _ => h.block i hi⟩
theorem cell_next {w1 w2 : World} {a : Addr} {v : Value} (hb : Below w1.heap.size w1 w2) (hc : w1.cell? a = some v) : w2.cell? a = some v := (hb.cell (World.block_lt_of_cell? w1 a hc)).trans hc
theorem range_next {w1 w2 : World} {b o : Nat} {cs : List Value} (hb : Below w1.heap.size w1 w2) (hc : w1.rangeAt b o cs) : w2.rangeAt b o cs := fun j v hv => cell_next hb (hc j v hv)
theorem there_next {w1 w2 : World} {b o n : Nat} (hb : Below w1.heap.size w1 w2) (hc : w1.there b o n) : w2.there b o n := fun j hj => by
  have h1 := (hc j hj).1
  obtain ⟨v, hv⟩ := Option.isSome_iff_exists.1 h1
  exact ⟨by rw [cell_next hb hv]; rfl, (hb.frozen (p := ⟨b, o + j, none⟩) (World.block_lt_of_cell? w1 _ hv)).trans (hc j hj).2⟩
/-- The world under a name, of which some things are known. -/
theorem wpAbs {P : Program} {c : Code} {Q : Exit → Act → World → Prop} {a : Act} {w : World} (I : World → Prop) (hI : I w) (h : ∀ W, I W → c.wp P Q a W) : c.wp P Q a w := h w hI
/-- A guard for an arm of the walk: the next operation writes slot 't'. -/
theorem at_dst (t : Nat) {P : Program} {ops : Array Oper} {rest : List Oper} {Q : Exit → Act → World → Prop} {a : Act} {w : World} {op ty pos after g} (h : wpList P ops Q (⟨some t, op, ty, pos, after, g⟩ :: rest) a w) : wpList P ops Q (⟨some t, op, ty, pos, after, g⟩ :: rest) a w := h
theorem wpAbsL {P : Program} {ops rest} {Q : Exit → Act → World → Prop} {a : Act} {w : World} (I : World → Prop) (hI : I w) (h : ∀ W, I W → wpList P ops Q rest a W) : wpList P ops Q rest a w := h w hI

theorem grown_set (w : World) (g i : Nat) (v : Value) : w.grownBy (w.setCell ⟨g, i, none⟩ v) (some g) :=
  ⟨rfl, rfl, rfl, by simp, fun k hk hne => Below.heap_setCell w _ v k (fun e => hne (by rw [e]))⟩
/-! A slice's cells, read. -/
def Rd (w : World) (A : Option Addr) (vs : List Value) : Prop := ∀ i v, vs[i]? = some v → ∃ b o, A = some ⟨b, o, none⟩ ∧ b < w.heap.size ∧ w.cell? ⟨b, o + i, none⟩ = some v
section
variable {w w1 : World} {A : Option Addr} {vs : List Value}
theorem Rd.nil (w : World) (A : Option Addr) : Rd w A [] := fun i v h => by simp at h
theorem Rd.below {B : Nat} (h : Rd w A vs) (hb : Below B w w1) (hB : w.heap.size ≤ B) : Rd w1 A vs := by
  intro i v hv
  obtain ⟨b, o, rfl, hlt, hc⟩ := h i v hv
  exact ⟨b, o, rfl, Nat.lt_of_lt_of_le hlt hb.size, (hb.cell (p := ⟨b, o + i, none⟩) (Nat.lt_of_lt_of_le hlt hB)).trans hc⟩
theorem Rd.drewN (h : Rd w A vs) (n : Nat) : Rd (w.drewN n) A vs := h
theorem Rd.drewOne (h : Rd w A vs) : Rd w.drew A vs := h
theorem Rd.alloc (h : Rd w A vs) (o : Obj) : Rd (w.alloc o) A vs := h.below (below_alloc0 w o) (Nat.le_refl _)
theorem Rd.pos (h : Rd w A vs) (h0 : 0 < vs.length) : ∃ b o, A = some ⟨b, o, none⟩ ∧ b < w.heap.size ∧ ∀ i v, vs[i]? = some v → w.cell? ⟨b, o + i, none⟩ = some v := by
  obtain ⟨b, o, rfl, hlt, _⟩ := h 0 _ (List.getElem?_eq_getElem h0)
  refine ⟨b, o, rfl, hlt, fun i v hv => ?_⟩
  obtain ⟨b', o', e, _, hc⟩ := h i v hv
  cases e; exact hc
theorem Rd.take (h : Rd w A vs) (m : Nat) : Rd w A (vs.take m) := fun i v hv => h i v (by
  rw [List.getElem?_take] at hv; split at hv
  · exact hv
  · cases hv)
theorem Rd.left {xs ys : List Value} (h : Rd w A (xs ++ ys)) : Rd w A xs := by simpa using h.take xs.length
theorem addr_add (b o m : Nat) : (⟨b, o, none⟩ : Addr).add m = ⟨b, o + m, none⟩ := by unfold Addr.add; split <;> simp_all
theorem Rd.drop (h : Rd w A vs) (m c : Nat) (hc : vs.length ≤ c) : Rd w (if c = m then A else A.map (·.add m)) (vs.drop m) := by
  intro i v hv
  rw [List.getElem?_drop] at hv
  have hlt := (List.getElem?_eq_some_iff.1 hv).1
  obtain ⟨b, o, rfl, hl, hcell⟩ := h (m + i) v hv
  rw [if_neg (by omega)]
  exact ⟨b, o + m, by simp [addr_add], hl, by rw [← hcell, Nat.add_assoc]⟩
theorem Rd.of_row {g t : Nat} {L : List Value} (h : Row w g t L) (o n : Nat) (hn : ∀ i, i < vs.length → L[o + i]? = vs[i]?) : Rd w (some ⟨g, o, none⟩) vs := by
  intro i v hv
  have hlt := (List.getElem?_eq_some_iff.1 hv).1
  exact ⟨g, o, rfl, h.lt, by rw [h.cell, hn i hlt, hv]⟩
theorem Rd.row {g t : Nat} (h : Row w g t vs) : Rd w (some ⟨g, 0, none⟩) vs := Rd.of_row h 0 0 (fun i _ => by rw [Nat.zero_add])
end
theorem Rd.new (w : World) (t : Nat) (vs : List Value) (k : Nat) (h : k = w.heap.size) : Rd (w.alloc (.cells vs.toArray t)) (some ⟨k, 0, none⟩) vs := h ▸ Rd.row (Row.new w t vs)
theorem Rd.at {k : IntKind} {w : World} {A : Option Addr} {l : List Int} (h : Rd w A (nums k l)) (i : Nat) (hi : i < l.length) : ∃ b o, A = some ⟨b, o, none⟩ ∧ b < w.heap.size ∧ w.cell? ⟨b, o + i, none⟩ = some (.int k (gi l i)) :=
  h i _ (nums_at k l i hi)
theorem Rd.all {k : IntKind} {w : World} {A : Option Addr} {l : List Int} (h : Rd w A (nums k l)) (h0 : 0 < l.length) : ∃ b o, A = some ⟨b, o, none⟩ ∧ b < w.heap.size ∧ ∀ i, i < l.length → w.cell? ⟨b, o + i, none⟩ = some (.int k (gi l i)) := by
  obtain ⟨b, o, rfl, hlt, hc⟩ := Rd.pos h (by rw [nums_len]; exact h0)
  exact ⟨b, o, rfl, hlt, fun i hi => hc i _ (nums_at k l i hi)⟩

/-! A row of the call's own, one cell an element. -/
def Own (w : World) (base e : Nat) (v : Value) (vs : List Value) : Prop := w.ownsRow base e 1 v vs.length vs
section
variable {w w1 : World} {base e : Nat} {v : Value} {vs : List Value}
theorem Own.nil (w : World) (base e : Nat) : Own w base e (.slice none 0 0) [] := ⟨by simp, .inl ⟨rfl, rfl⟩⟩
theorem Own.read (h : Own w base e v vs) : ∃ A c, v = .slice A vs.length c ∧ vs.length ≤ c ∧ Rd w A vs ∧ (A = none → c = 0) := by
  rcases h.2 with ⟨rfl, h0⟩ | ⟨g, cap, cur, rfl, hb, hg, hn, hm, hs, ht⟩
  · obtain rfl : vs = [] := List.eq_nil_of_length_eq_zero h0
    exact ⟨none, 0, rfl, Nat.le_refl _, Rd.nil _ _, fun _ => rfl⟩
  · refine ⟨_, cap, rfl, hn, ?_, fun h => by cases h⟩
    refine Rd.of_row (t := e) (L := cur.toList) (by simpa [Row] using hg) 0 0 (fun i hi => ?_)
    rw [Nat.mul_one] at ht
    rw [Nat.zero_add]; conv => rhs; rw [← ht, List.getElem?_take, if_pos hi]
theorem Own.kept (h : Own w base e v vs) {r : Option Nat} (hg : w.grownBy w1 r) (hne : v.ownBlock = none ∨ v.ownBlock ≠ r) : Own w1 base e v vs := World.ownsRow.kept h hg hne
theorem Own.below (h : Own w base e v vs) (hb : Below w.heap.size w w1) : Own w1 base e v vs := h.kept (grown_below (B := 0) hb none) (by cases v.ownBlock <;> simp)
theorem Own.alloc (h : Own w base e v vs) (o : Obj) : Own (w.alloc o) base e v vs := World.ownsRow.alloc h o
theorem Own.drewN (h : Own w base e v vs) (n : Nat) : Own (w.drewN n) base e v vs := h
theorem Own.drew (h : Own w base e v vs) : Own w.drew base e v vs := h
theorem Own.lower {b' : Nat} (h : Own w base e v vs) (hb : b' ≤ base) : Own w b' e v vs := by
  refine ⟨h.1, ?_⟩
  rcases h.2 with h2 | ⟨g, cap, cur, hv, hg, r⟩
  · exact .inl h2
  · exact .inr ⟨g, cap, cur, hv, Nat.le_trans hb hg, r⟩
theorem Own.of_row {g t c : Nat} {rest : List Value} (h : Row w g t (vs ++ rest)) (hb : base ≤ g) (hc : c = vs.length + rest.length) (hm : c ≤ maxLen) : Own w base t (.slice (some ⟨g, 0, none⟩) vs.length c) vs := by
  refine ⟨by simp, .inr ⟨g, c, (vs ++ rest).toArray, rfl, hb, h, by omega, hm, by simp [hc], ?_⟩⟩
  simp
theorem Own.lt (h : Own w base e v vs) : ∀ k, v.ownBlock = some k → base ≤ k ∧ k < w.heap.size := World.ownsRow.lt h
end
theorem Own.block {w : World} {base e : Nat} {v : Value} {vs : List Value} (h : Own w base e v vs) : (v = .slice none 0 0 ∧ vs = []) ∨ ∃ g rest, v = .slice (some ⟨g, 0, none⟩) vs.length (vs.length + rest.length) ∧ base ≤ g ∧ Row w g e (vs ++ rest) ∧ vs.length + rest.length ≤ maxLen := by
  rcases h.2 with ⟨rfl, h0⟩ | ⟨g, cap, cur, rfl, hb, hg, hn, hm, hs, ht⟩
  · exact .inl ⟨rfl, List.eq_nil_of_length_eq_zero h0⟩
  · rw [Nat.mul_one] at ht hs
    have hr : cur.toList = vs ++ cur.toList.drop vs.length := by
      conv => lhs; rw [← List.take_append_drop vs.length cur.toList, ht]
    have hl : vs.length + (cur.toList.drop vs.length).length = cap := by have := @Array.length_toList _ cur; rw [List.length_drop]; omega
    generalize cur.toList.drop vs.length = rest at hr hl
    refine .inr ⟨g, rest, by rw [hl], hb, ?_, by rw [hl]; exact hm⟩
    unfold Row; rw [← hr]; simpa using hg

section
variable {P : Program}
/-- append onto a row of one's own, of a slice that is read (nil too). -/
theorem run_app {W : World} {base t ty e bytes : Nat} {z : Value} (ht : P.underlying t = some (.slice e)) (hinfo : (P.info? e).map (fun i => (i.zero, i.size, i.bytes)) = some (some z, 1, bytes)) (hz : z.cells.size = 1) (hb0 : 0 < bytes)
    {v : Value} {vs ys : List Value} {A : Option Addr} {m c : Nat} (HO : Own W base e v vs) (HR : Rd W A ys) (hm : ys.length = m) (h1 : ∀ u ∈ ys, u.oneCell' = true) (hbase : base ≤ W.heap.size) (hl : (vs.length + ys.length) * bytes ≤ 140737488355328) :
    ∃ v1 w1, (Builtin.append_ #[t, t] ty #[v, .slice A m c]).run P W = .ok v1 w1 ∧ Own w1 base e v1 (vs ++ ys) ∧ W.grownBy w1 v.ownBlock ∧ (v1.ownBlock = v.ownBlock ∨ v1.ownBlock = some W.heap.size) := by
  subst hm
  obtain ⟨i0, hi, hzz⟩ := Option.map_eq_some_iff.1 hinfo
  simp only [Prod.mk.injEq] at hzz
  obtain ⟨hz0, hz1, hz2⟩ := hzz
  have hlen : vs.length + ys.length ≤ 140737488355328 := Nat.le_trans (Nat.le_mul_of_pos_right _ hb0) hl
  cases ys with
  | nil =>
    refine ⟨v, W, ?_, by simpa using HO, World.grownBy.refl W _, .inl rfl⟩
    rcases HO.2 with ⟨rfl, hn⟩ | ⟨g, cap, cur, rfl, _, _, hnc, _⟩
    · cases A <;> simp [Builtin.append_, run_underlying ht, sizeOf, typeInfo, hi, Builtin.lenOf, Builtin.firstCells, loadCells, loadCellsFrom]
    · cases A <;> simp [Builtin.append_, run_underlying ht, sizeOf, typeInfo, hi, Builtin.lenOf, Builtin.firstCells, hnc, storeCells, loadCells, loadCellsFrom]
  | cons y ys =>
    obtain ⟨b, o, rfl, hlt, hc⟩ := HR.pos (by simp)
    obtain ⟨v1, w1, hr, h2, h3, _, h5⟩ := run_append_own_at (P := P) W base t ty e i0 z 1 bytes ht hi hz0 hz1 hz2 hz (by omega) v vs.length vs HO ⟨b, o, none⟩ (y :: ys).length c (y :: ys) (by simp)
      (fun j u hu => by rw [addr_add]; exact hc j u hu) h1 (by simp only [maxLen]; omega) hl hbase
    refine ⟨v1, w1, hr, ?_, h3, h5⟩
    unfold Own
    rw [List.length_append]; exact h2
/-- The same, as one operation of the walk: behind 'at_builtin'. -/
theorem walk_app {ops : Array Oper} {rest : List Oper} {o : Oper} {a : Act} {Q : Exit → Act → World → Prop} {W : World} {base t e bytes : Nat} {z : Value} (hgd : o.guard = none) (s x : Operand)
    (ho : o.op = .call { callee := .builtin .append, args := #[s, x], argTypes := #[t, t] })
    (ht : P.underlying t = some (.slice e)) (hinfo : (P.info? e).map (fun i => (i.zero, i.size, i.bytes)) = some (some z, 1, bytes)) (hz : z.cells.size = 1) (hb0 : 0 < bytes)
    {v : Value} {vs ys : List Value} {A : Option Addr} {m c : Nat} (hs : a.eval s = v) (hx : a.eval x = .slice A m c) (HO : Own W base e v vs) (HR : Rd W A ys) (hm : ys.length = m) (h1 : ∀ u ∈ ys, u.oneCell' = true) (hbase : base ≤ W.heap.size) (hl : (vs.length + ys.length) * bytes ≤ 140737488355328)
    (h : ∀ v1 w1, Own w1 base e v1 (vs ++ ys) → W.grownBy w1 v.ownBlock → (v1.ownBlock = v.ownBlock ∨ v1.ownBlock = some W.heap.size) → wpList P ops Q rest (a.put o.dst v1) w1) :
    wpList P ops Q (o :: rest) a W := by
  obtain ⟨v1, w1, hrun, h2, h3, h5⟩ := run_app (P := P) (ty := o.type) (c := c) ht hinfo hz hb0 HO HR hm h1 hbase hl
  refine wpList_plain hgd fun K hK => ?_
  unfold Oper.wp execOp
  simp only [ho, resolve, invoke, builtin, Sem.run_bind, Sem.run_pure, Result.andThen_ok, List.map_toArray, List.map_cons, List.map_nil, hs, hx, hrun]
  exact hK _ _ (h v1 w1 h2 h3 h5)
theorem below_app {w0 W w1 : World} {B base e : Nat} {v : Value} {vs : List Value} (hb : Below B w0 W) (hg : W.grownBy w1 v.ownBlock) (HO : Own W base e v vs) (hB : B ≤ base) (hbase : base ≤ W.heap.size) : Below B w0 w1 :=
  hb.grown hg (Nat.le_trans hB hbase) (fun k hk => Nat.le_trans hB (HO.lt k hk).1)

/-- s[j:], elements of one cell. -/
theorem run_from {W : World} {t e : TypeId} (ht : P.underlying t = some (.slice e)) (hsz : (P.info? e).map (·.size) = some 1) (A : Option Addr) (len cap : Nat) (l : Int) (j : Nat) (hl : l = (j : Int)) (hj : j ≤ len) (hc : len ≤ cap) :
    (Instr.slice t (.slice A len cap) (some (.int .i64 l)) none none).run P W = .ok (.slice (if cap = j then A else A.map (·.add j)) (len - j) (cap - j)) W := by
  subst hl
  obtain ⟨i0, hi, hs⟩ := Option.map_eq_some_iff.1 hsz
  simp [Instr.slice, run_underlying ht, Instr.sliceBounds, run_sliceBound, sizeOf, typeInfo, hi, hs, hj]
/-- s[:j]. -/
theorem run_upto {W : World} {t e : TypeId} (ht : P.underlying t = some (.slice e)) (hsz : (P.info? e).map (·.size) = some 1) (A : Option Addr) (len cap : Nat) (l : Int) (j : Nat) (hl : l = (j : Int)) (hc : j ≤ cap) :
    (Instr.slice t (.slice A len cap) none (some (.int .i64 l)) none).run P W = .ok (.slice A j cap) W := by
  subst hl
  obtain ⟨i0, hi, hs⟩ := Option.map_eq_some_iff.1 hsz
  cases A <;> simp [Instr.slice, run_underlying ht, Instr.sliceBounds, run_sliceBound, sizeOf, typeInfo, hi, hs, hc, Addr.add]
/-- make([]T, n): a new block of n zeros. -/
theorem walk_make {ops : Array Oper} {rest : List Oper} {o : Oper} {a : Act} {Q : Exit → Act → World → Prop} {w : World} (hg : o.guard = none) (l c : Operand) {t e bytes : Nat} {z : Value} (hop : o.op = Op.makeSlice t l c)
    (ht : P.underlying t = some (.slice e)) (hinfo : (P.info? e).map (fun i => (i.zero, i.size, i.bytes)) = some (some z, 1, bytes)) (hz : z.cells = #[z]) {L C : Int} {n : Nat} (hl : a.eval l = .int .i64 L) (hc : a.eval c = .int .i64 C) (hL : L = (n : Int)) (hC : C = (n : Int))
    (hb : bytes * n ≤ 281474976710656) (hn : n ≤ 281474976710656) (h : wpList P ops Q rest (a.put o.dst (.slice (some ⟨w.heap.size, 0, none⟩) n n)) (w.alloc (.cells (List.replicate n z).toArray e))) : wpList P ops Q (o :: rest) a w := by
  refine wpList_plain hg fun K hK => ?_
  obtain ⟨i0, hi, hzz⟩ := Option.map_eq_some_iff.1 hinfo
  simp only [Prod.mk.injEq] at hzz
  obtain ⟨hz0, hz1, hz2⟩ := hzz
  have hb' : (i0.bytes : Int) * (n : Int) ≤ 281474976710656 := by
    have h : ((i0.bytes * n : Nat) : Int) ≤ 281474976710656 := by rw [hz2]; omega
    rwa [Int.natCast_mul] at h
  have hr := run_make (P := P) w t e i0 z ht hi hz0 .i64 .i64 n n (by omega) (Int.le_refl _) hb' (by omega)
  rw [hz1, hz] at hr
  simp only [Int.toNat_natCast, Nat.mul_one] at hr
  rw [show madeCells #[z] n = (List.replicate n z).toArray from by rw [← toList_madeCells_one]] at hr
  subst hL hC
  unfold Oper.wp execOp
  simp only [hop, hl, hc, hr, Sem.run_bind, Sem.run_pure, Result.andThen_ok]
  exact hK _ _ h

/-! A variable of several cells, read and written whole. -/
theorem walk_load_row {ops : Array Oper} {rest : List Oper} {o : Oper} {a : Act} {w : World} {Q : Exit → Act → World → Prop} (hgd : o.guard = none) (ty : TypeId) (x : Operand) (ho : o.op = .load ty x)
    {g t : Nat} {vs : List Value} (HR : Row w g t vs) (hx : a.eval x = .pointer (some ⟨g, 0, none⟩)) {d : TypeDesc} (hu : P.underlying ty = some d) (hd : (match d with | .struct _ | .array _ _ => true | _ => false) = true) (hi : (P.info? ty).map (·.size) = some vs.length)
    (h : wpList P ops Q rest (a.put o.dst (.agg vs.toArray)) w) : wpList P ops Q (o :: rest) a w :=
  wpList_load_row hgd ty x ho g hx t vs.toArray (0, 0) d HR hu hd (by simpa using hi) h
theorem walk_store_row {ops : Array Oper} {rest : List Oper} {o : Oper} {a : Act} {w : World} {Q : Exit → Act → World → Prop} (hgd : o.guard = none) (ty : TypeId) (x y : Operand) (ho : o.op = .store ty x y)
    {g t : Nat} {old vs : List Value} (HR : Row w g t old) (hx : a.eval x = .pointer (some ⟨g, 0, none⟩)) (hy : a.eval y = .agg vs.toArray) (hi : (P.info? ty).map (·.size) = some vs.length) (hl : old.length = vs.length) (h1 : ∀ v ∈ vs, v.oneCell' = true)
    (h : ∀ w1, Row w1 g t vs → w.grownBy w1 (some g) → wpList P ops Q rest (a.put o.dst undef) w1) : wpList P ops Q (o :: rest) a w := by
  refine wpList_store_row hgd ty x y ho g vs.toArray hx hy t old.toArray HR (by simpa using hi) (by simpa using hl) (by simpa using h1) (h _ ?_ ?_)
  · exact setRow_heap w g _ _ t _ HR
  · exact ⟨rfl, rfl, rfl, by simp, fun k hk hne => setRow_other w g k _ (fun e => hne (by rw [e]))⟩
theorem row_results {fn : Func} {p : Tmp} {ty : TypeId} (h : fn.results = #[.cell p ty]) (tmps : Array Value) {w : World} {g t : Nat} {vs : List Value} {d : TypeDesc}
    (hp : tmps.getD p undef = .pointer (some ⟨g, 0, none⟩)) (HR : Row w g t vs) (hu : P.underlying ty = some d) (hd : (match d with | .struct _ | .array _ _ => true | _ => false) = true) (hi : (P.info? ty).map (·.size) = some vs.length) :
    (results fn tmps).run P w = .ok (.agg vs.toArray) w := results_cell_row h tmps w g t vs.toArray (0, 0) d hp HR hu hd (by simpa using hi)

/-! copy onto a block that is known whole. -/
theorem splice_nums (k : IntKind) (L M : List Int) (off : Nat) : splice (nums k L) off (nums k M) = nums k (splice L off M) := by
  simp [splice, nums, List.map_take, List.map_drop]
theorem run_copy {w : World} {dT sT ty elem : Nat} (hu : P.underlying dT = some (.slice elem)) (hsz : (P.info? elem).map (·.size) = some 1) {k : IntKind} {L M : List Int} {g t off dLen dCap sLen sCap : Nat} {sp : Option Addr}
    (HR : Row w g t (nums k L)) (HS : Rd w sp (nums k M)) (hM : M.length = sLen) (hfit : off + dLen ≤ L.length) :
    ∃ w1, (Builtin.copy_ #[dT, sT] ty #[.slice (some ⟨g, off, none⟩) dLen dCap, .slice sp sLen sCap]).run P w = .ok (goInt ((Nat.min sLen dLen : Nat) : Int)) w1 ∧ Row w1 g t (nums k (splice L off (M.take dLen))) ∧ w.grownBy w1 (some g) ∧ w1.heap.size = w.heap.size := by
  subst hM
  by_cases h0 : Nat.min M.length dLen = 0
  · have hrun := run_copy_none (P := P) w dT sT ty elem (some ⟨g, off, none⟩) sp dLen dCap M.length sCap hu hsz h0
    refine ⟨w, by rw [h0]; exact hrun, ?_, World.grownBy.refl w _, rfl⟩
    have : M.take dLen = [] := by
      apply List.eq_nil_of_length_eq_zero; rw [List.length_take, Nat.min_comm]; exact h0
    rw [this]; simpa [splice] using HR
  · have hpos : 0 < M.length := by rcases Nat.eq_zero_or_pos M.length with h | h; exact absurd (by rw [h]; exact Nat.zero_min _) h0; exact h
    obtain ⟨b, o, rfl, _, hc⟩ := HS.all hpos
    have hcs : (nums k (M.take dLen)).length = Nat.min M.length dLen := by rw [nums_len, List.length_take, Nat.min_comm]
    have hle : Nat.min M.length dLen ≤ dLen := Nat.min_le_right _ _
    have hrun := run_copy_row (P := P) w dT sT ty elem g off dLen dCap ⟨b, o, none⟩ M.length sCap (nums k L).toArray t (nums k (M.take dLen)) hu hsz HR hcs
      (fun j v hv => by
        have hj : j < (M.take dLen).length := by rw [← nums_len k]; exact (List.getElem?_eq_some_iff.1 hv).1
        rw [nums_at _ _ _ hj] at hv
        have hj2 : j < M.length := by rw [List.length_take] at hj; omega
        rw [addr_add, hc j hj2, ← hv, gi_take _ (by rw [List.length_take] at hj; omega)])
      (by rw [hcs, List.size_toArray, nums_len]; omega) (nums_one _ _)
    rw [hcs] at hrun
    refine ⟨_, hrun, ?_, ⟨rfl, rfl, rfl, by simp, fun i hi hne => setRow_other w g i _ (fun e => hne (by rw [e]))⟩, by simp⟩
    have h2 := setRow_heap w g (nums k L).toArray ((nums k L).toArray.toList.take off ++ nums k (M.take dLen) ++ (nums k L).toArray.toList.drop (off + Nat.min M.length dLen)).toArray t (0, 0) HR
    rw [← splice_nums]
    unfold Row splice
    rw [hcs, ← List.append_assoc]; exact h2
theorem walk_copy {ops : Array Oper} {rest : List Oper} {o : Oper} {a : Act} {w : World} {Q : Exit → Act → World → Prop} (hgd : o.guard = none) (d s : Operand) {dT sT elem : Nat}
    (ho : o.op = .call { callee := .builtin .copy, args := #[d, s], argTypes := #[dT, sT] }) (hu : P.underlying dT = some (.slice elem)) (hsz : (P.info? elem).map (·.size) = some 1) {k : IntKind} {L M : List Int} {g t off dLen dCap sLen sCap : Nat} {sp : Option Addr}
    (hd : a.eval d = .slice (some ⟨g, off, none⟩) dLen dCap) (hs : a.eval s = .slice sp sLen sCap) (HR : Row w g t (nums k L)) (HS : Rd w sp (nums k M)) (hM : M.length = sLen) (hfit : off + dLen ≤ L.length)
    (h : ∀ w1, Row w1 g t (nums k (splice L off (M.take dLen))) → w.grownBy w1 (some g) → w1.heap.size = w.heap.size → wpList P ops Q rest (a.put o.dst (goInt ((Nat.min sLen dLen : Nat) : Int))) w1) : wpList P ops Q (o :: rest) a w := by
  obtain ⟨w1, hrun, h1, h2, h3⟩ := run_copy (P := P) (sT := sT) (ty := o.type) (dCap := dCap) (sCap := sCap) hu hsz HR HS hM hfit
  refine wpList_plain hgd fun K hK => ?_
  unfold Oper.wp execOp
  simp only [ho, resolve, invoke, builtin, Sem.run_bind, Sem.run_pure, Result.andThen_ok, List.map_toArray, List.map_cons, List.map_nil, hd, hs, hrun]
  exact hK _ _ (h w1 h1 h2 h3)
theorem step_copy {ops : Array Oper} {o : Oper} {a : Act} {w : World} {K : Act → World → Prop} {Q : Exit → Act → World → Prop} {E : Prop} (hgd : o.guard = none) (d s : Operand) {dT sT elem : Nat}
    (ho : o.op = .call { callee := .builtin .copy, args := #[d, s], argTypes := #[dT, sT] }) (hu : P.underlying dT = some (.slice elem)) (hsz : (P.info? elem).map (·.size) = some 1) {k : IntKind} {L M : List Int} {g t off dLen dCap sLen sCap : Nat} {sp : Option Addr}
    (hd : a.eval d = .slice (some ⟨g, off, none⟩) dLen dCap) (hs : a.eval s = .slice sp sLen sCap) (HR : Row w g t (nums k L)) (HS : Rd w sp (nums k M)) (hM : M.length = sLen) (hfit : off + dLen ≤ L.length)
    (h : ∀ w1, Hid (Row w1 g t (nums k (splice L off (M.take dLen)))) → Hid (w.grownBy w1 (some g)) → K (a.put o.dst (goInt ((Nat.min sLen dLen : Nat) : Int))) w1) :
    if Region.wanted o (yielded ops a.tmps) = true then Oper.wp P o a w K Q else E := by
  obtain ⟨w1, hrun, h1, h2, h3⟩ := run_copy (P := P) (sT := sT) (ty := o.type) (dCap := dCap) (sCap := sCap) hu hsz HR HS hM hfit
  rw [if_pos (by simp [Region.wanted, hgd])]
  unfold Oper.wp execOp
  simp only [ho, resolve, invoke, builtin, Sem.run_bind, Sem.run_pure, Result.andThen_ok, List.map_toArray, List.map_cons, List.map_nil, hd, hs, hrun]
  exact h w1 h1 h2

/-! string(b), of bytes that are read. -/
theorem bytes_inj {a b : List Int} (ha : IsB a) (hb : IsB b) (h : strOfNums a = strOfNums b) : a = b := by
  have h' := congrArg (fun s : ByteArray => s.data.toList) h
  simp only [strOfNums_data] at h'
  have hl : a.length = b.length := by simpa using congrArg List.length h'
  refine gi_ext hl fun i hi => ?_
  have e := congrArg (fun l => l[i]?) h'
  have hi' : i < b.length := by omega
  simp only [List.getElem?_map, List.getElem?_eq_getElem hi, List.getElem?_eq_getElem hi', Option.map_some, Option.some.injEq] at e
  have h1 := ha _ (List.getElem_mem hi)
  have h2 := hb _ (List.getElem_mem hi')
  have e2 := congrArg UInt8.toNat e
  simp only [UInt8.toNat_ofNat'] at e2
  simp only [gi, List.getD_eq_getElem?_getD, List.getElem?_eq_getElem hi, List.getElem?_eq_getElem hi', Option.getD_some]
  omega
theorem run_string {W : World} {src dst e : Nat} (hs : P.underlying src = some (.slice e)) (he : P.underlying e = some (.int .u8)) (hd : P.underlying dst = some .string) {A : Option Addr} {l : List Int} {c n : Nat} (h : Rd W A (nums .u8 l)) (hn : l.length = n) :
    (convert src dst (.slice A n c)).run P W = .ok (.string (strOfNums l)) W := by
  subst hn
  cases A with
  | none =>
    have hl : l = [] := by
      cases l with
      | nil => rfl
      | cons x l => obtain ⟨b, o, e, _⟩ := h.at 0 (by simp); cases e
    subst hl
    exact run_convert_bytes_nil W src e hs he 0 c dst hd
  | some ad =>
    have hl : (loadCells ad l.length).run P W = .ok (nums .u8 l).toArray W := by
      have := run_loadCells_list (P := P) W ad (nums .u8 l) (fun j v hj => by
        obtain ⟨b, o, e0, _, hc⟩ := h j v hj
        cases e0
        rw [addr_add]; exact hc)
      rwa [nums_len] at this
    rw [run_convert_bytes_string W src dst e _ l.length c hs he hd, run_bytesToString W _ l.length c l hl, foldl_push_bytes]
    simp [strOfNums, ByteArray.empty, ByteArray.emptyWithCapacity]
    rfl
end
end Go.Proofs.YthgklpkkcaiehaaDoor
