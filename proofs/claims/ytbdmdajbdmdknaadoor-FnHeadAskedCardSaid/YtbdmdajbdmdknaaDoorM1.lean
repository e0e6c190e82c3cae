/- Words that all proofs of this seat use: rows of memory, slices that are read, rows of a call's own. Nothing here speaks of the program. Bytes that are copied, compared, and read as a number. What the parser of JSON texts does, on lists of bytes. Nothing here speaks of the program. Cells that are kept; the parser's values in memory. Nothing here speaks of the program. -/
import Derived.WalkKit
import Derived.KernelRfl
import Derived.Deep.QuietTactic
import Derived.BigQuiet
import Derived.Handy
import Derived.Outline
import Derived.RegionTactic
import Derived.ChangeAlike
import Derived.BigRegion
import Derived.OwnWalk
import Derived.Laws.BytesArg
import Derived.Laws.CopyOwn
import Derived.Laws.MakeOwn
import Derived.Laws.OwnMore
import Derived.Maps.AppendAt
import Derived.Deep.RegionLaw
import Derived.Deep.LoopGhost
import Derived.Deep.RegionHeld3
import Derived.Deep.MidRow
import Derived.WalkSpells
import Derived.Test.YtbdmdajbdmdknaaDoorProg
import Derived.Lib.Bytes
import Derived.Deep.AppendSrc
namespace Go.Proofs.YtbdmdajbdmdknaaDoor
open Go.RowKit
set_option linter.unusedVariables false
set_option linter.unusedSimpArgs false

theorem hidden {p : Prop} (h : p) : Hid p := h
/-- A list of numbers, read at a place; the walk leaves it as it is. -/
def gi (l : List Int) (i : Nat) : Int := l.getD i 0
def IsB (l : List Int) : Prop := ∀ x ∈ l, 0 ≤ x ∧ x < 256
def nums (k : IntKind) (l : List Int) : List Value := l.map (Value.int k)
theorem nums_len (k : IntKind) (l : List Int) : (nums k l).length = l.length := List.length_map ..
theorem nums_at (k : IntKind) (l : List Int) (i : Nat) (hi : i < l.length) : (nums k l)[i]? = some (.int k (gi l i)) := by
  simp [nums, gi, List.getD_eq_getElem?_getD, hi]
theorem nums_one (k : IntKind) (l : List Int) : ∀ u ∈ nums k l, u.oneCell' = true := by
  intro u hu
  obtain ⟨x, _, rfl⟩ := List.mem_map.1 hu
  rfl
theorem nums_app (k : IntKind) (a b : List Int) : nums k (a ++ b) = nums k a ++ nums k b := List.map_append ..
theorem gi_set (l : List Int) (i j : Nat) (v : Int) (hi : i < l.length) : gi (l.set i v) j = if j = i then v else gi l j := by
  unfold gi; rw [List.getD_eq_getElem?_getD, List.getD_eq_getElem?_getD, List.getElem?_set]
  by_cases h : i = j
  · subst h; simp [hi]
  · rw [if_neg h, if_neg (fun e => h e.symm)]
theorem gi_mem {l : List Int} {i : Nat} (h : i < l.length) : gi l i ∈ l := by
  simp [gi, List.getD_eq_getElem?_getD, h]
theorem gi_byte {l : List Int} (hb : IsB l) (i : Nat) : 0 ≤ gi l i ∧ gi l i < 256 := by
  by_cases h : i < l.length
  · exact hb _ (gi_mem h)
  · simp [gi, List.getD_eq_getElem?_getD, List.getElem?_eq_none (Nat.le_of_not_lt h)]
theorem gi_ext {a b : List Int} (hl : a.length = b.length) (h : ∀ i, i < a.length → gi a i = gi b i) : a = b := by
  apply List.ext_getElem hl
  intro i h1 h2
  have := h i h1
  simpa [gi, List.getD_eq_getElem?_getD, h1, h2] using this
theorem gi_app1 {a : List Int} (b : List Int) {i : Nat} (h : i < a.length) : gi (a ++ b) i = gi a i := by
  simp [gi, List.getD_eq_getElem?_getD, List.getElem?_append_left h]
theorem gi_app2 {a b : List Int} {i : Nat} (h : a.length ≤ i) : gi (a ++ b) i = gi b (i - a.length) := by
  simp [gi, List.getD_eq_getElem?_getD, List.getElem?_append_right h]
theorem gi_drop (l : List Int) (m i : Nat) : gi (l.drop m) i = gi l (m + i) := by
  simp [gi, List.getD_eq_getElem?_getD, List.getElem?_drop]
theorem gi_take (l : List Int) {m i : Nat} (h : i < m) : gi (l.take m) i = gi l i := by
  simp [gi, List.getD_eq_getElem?_getD, h]
theorem take_gi (l : List Int) {k : Nat} (h : k < l.length) : l.take (k + 1) = l.take k ++ [gi l k] := by
  rw [List.take_succ_eq_append_getElem h]; simp [gi, List.getD_eq_getElem?_getD, h]

/-! A block that is known whole. -/
def Row (w : World) (g t : Nat) (vs : List Value) : Prop := w.heap[g]? = some (.cells vs.toArray t (0, 0))
section
variable {w w1 : World} {g t : Nat} {vs : List Value}
theorem Row.cell (h : Row w g t vs) (i : Nat) : w.cell? ⟨g, i, none⟩ = vs[i]? := by
  unfold Row at h; simp [World.cell?, h]
theorem Row.free (h : Row w g t vs) (i : Nat) : w.frozen? ⟨g, i, none⟩ = false := by
  unfold Row at h; simp [World.frozen?, h]
theorem Row.lt (h : Row w g t vs) : g < w.heap.size := (Array.getElem?_eq_some_iff.1 h).1
theorem Row.new (w : World) (t : Nat) (vs : List Value) : Row (w.alloc (.cells vs.toArray t)) w.heap.size t vs := heap_alloc_new w _
theorem Row.set (h : Row w g t vs) (i : Nat) (v : Value) : Row (w.setCell ⟨g, i, none⟩ v) g t (vs.set i v) := by
  unfold Row at h ⊢
  show (w.heap.modify g _)[g]? = _
  rw [Array.getElem?_modify, if_pos rfl, h]
  simp
theorem Row.far (h : Row w g t vs) {a : Addr} (ha : a.block ≠ g) (v : Value) : Row (w.setCell a v) g t vs :=
  (Below.heap_setCell w a v g (fun e => ha e.symm)).trans h
theorem Row.alloc (h : Row w g t vs) (o : Obj) : Row (w.alloc o) g t vs := (Below.heap_alloc w o g h.lt).trans h
theorem Row.below {B : Nat} (h : Row w g t vs) (hb : Below B w w1) (hg : g < B) : Row w1 g t vs := (hb.block g hg).trans h
theorem Row.drewN (h : Row w g t vs) (n : Nat) : Row (w.drewN n) g t vs := h
theorem Row.drew (h : Row w g t vs) : Row w.drew g t vs := h
theorem Row.grown (h : Row w g t vs) {r : Option Nat} (hg : w.grownBy w1 r) (hne : some g ≠ r) : Row w1 g t vs := (hg.block g h.lt hne).trans h
end
theorem Row.range {w : World} {g t : Nat} {vs : List Value} (h : Row w g t vs) : w.rangeAt g 0 vs := fun j v hv => by rw [Nat.zero_add, h.cell, hv]
theorem Row.there {w : World} {g t : Nat} {vs : List Value} (h : Row w g t vs) (n : Nat) (hn : n ≤ vs.length) : w.there g 0 n := fun j hj => by
  rw [Nat.zero_add]
  exact ⟨by rw [h.cell, List.getElem?_eq_getElem (by omega)]; rfl, h.free j⟩
theorem Row.icell {k : IntKind} {w : World} {g t : Nat} {l : List Int} (h : Row w g t (nums k l)) (i : Nat) (hi : i < l.length) : w.cell? ⟨g, i, none⟩ = some (.int k (gi l i)) :=
  (h.cell i).trans (nums_at k l i hi)
theorem Row.iset {k : IntKind} {w : World} {g t : Nat} {l : List Int} (h : Row w g t (nums k l)) (i : Nat) (v : Int) : Row (w.setCell ⟨g, i, none⟩ (.int k v)) g t (nums k (l.set i v)) := by
  have := h.set i (.int k v); rwa [nums, ← List.map_set] at this

/-! What is kept. -/
theorem below_alloc0 (w : World) (o : Obj) : Below w.heap.size w (w.alloc o) := (Below.refl _ _).alloc (Nat.le_refl _) o
theorem below_drewN0 {B : Nat} {w W : World} (h : Below B w W) (n : Nat) : Below B w (W.drewN n) := ⟨h.os, h.tape, h.output, h.size, h.block⟩
theorem below_then {B : Nat} {w w1 w2 : World} (h : Below B w w1) (hB : B ≤ w1.heap.size) (k : Below w1.heap.size w1 w2) : Below B w w2 := h.trans (k.mono hB)
theorem below_next {w w1 w2 : World} (h : Below w.heap.size w w1) (k : Below w1.heap.size w1 w2) : Below w.heap.size w w2 := h.trans (k.mono h.size)
theorem grown_below {B : Nat} {w w1 : World} (h : Below w.heap.size w w1) (r : Option Nat) : w.grownBy w1 r := ⟨h.os, h.tape, h.output, h.size, fun i hi _ => h.block i hi⟩
theorem cell_next {w1 w2 : World} {a : Addr} {v : Value} (hb : Below w1.heap.size w1 w2) (hc : w1.cell? a = some v) : w2.cell? a = some v := (hb.cell (World.block_lt_of_cell? w1 a hc)).trans hc
theorem range_next {w1 w2 : World} {b o : Nat} {cs : List Value} (hb : Below w1.heap.size w1 w2) (hc : w1.rangeAt b o cs) : w2.rangeAt b o cs := fun j v hv => cell_next hb (hc j v hv)
theorem there_next {w1 w2 : World} {b o n : Nat} (hb : Below w1.heap.size w1 w2) (hc : w1.there b o n) : w2.there b o n := fun j hj => by
  have h1 := (hc j hj).1
  obtain ⟨v, hv⟩ := Option.isSome_iff_exists.1 h1
  exact ⟨by rw [cell_next hb hv]; rfl, (hb.frozen (p := ⟨b, o + j, none⟩) (World.block_lt_of_cell? w1 _ hv)).trans (hc j hj).2⟩
/-- The world under a name, of which some things are known. -/
theorem wpAbs {P : Program} {c : Code} {Q : Exit → Act → World → Prop} {a : Act} {w : World} (I : World → Prop) (hI : I w) (h : ∀ W, I W → c.wp P Q a W) : c.wp P Q a w := h w hI
/-- A guard for an arm of the walk: the next operation writes slot 't'. -/
theorem at_dst (t : Nat) {P : Program} {ops : Array Oper} {rest : List Oper} {Q : Exit → Act → World → Prop} {a : Act} {w : World} {op ty pos after g} (h : wpList P ops Q (⟨some t, op, ty, pos, after, g⟩ :: rest) a w) : wpList P ops Q (⟨some t, op, ty, pos, after, g⟩ :: rest) a w := h
theorem wpAbsL {P : Program} {ops rest} {Q : Exit → Act → World → Prop} {a : Act} {w : World} (I : World → Prop) (hI : I w) (h : ∀ W, I W → wpList P ops Q rest a W) : wpList P ops Q rest a w := h w hI

theorem grown_set (w : World) (g i : Nat) (v : Value) : w.grownBy (w.setCell ⟨g, i, none⟩ v) (some g) :=
  ⟨rfl, rfl, rfl, by simp, fun k hk hne => Below.heap_setCell w _ v k (fun e => hne (by rw [e]))⟩
/-! A slice's cells, read. -/
def Rd (w : World) (A : Option Addr) (vs : List Value) : Prop := ∀ i v, vs[i]? = some v → ∃ b o, A = some ⟨b, o, none⟩ ∧ b < w.heap.size ∧ w.cell? ⟨b, o + i, none⟩ = some v
section
variable {w w1 : World} {A : Option Addr} {vs : List Value}
theorem Rd.nil (w : World) (A : Option Addr) : Rd w A [] := fun i v h => by simp at h
theorem Rd.below {B : Nat} (h : Rd w A vs) (hb : Below B w w1) (hB : w.heap.size ≤ B) : Rd w1 A vs := by
  intro i v hv
  obtain ⟨b, o, rfl, hlt, hc⟩ := h i v hv
  exact ⟨b, o, rfl, Nat.lt_of_lt_of_le hlt hb.size, (hb.cell (p := ⟨b, o + i, none⟩) (Nat.lt_of_lt_of_le hlt hB)).trans hc⟩
theorem Rd.drewN (h : Rd w A vs) (n : Nat) : Rd (w.drewN n) A vs := h
theorem Rd.drewOne (h : Rd w A vs) : Rd w.drew A vs := h
theorem Rd.alloc (h : Rd w A vs) (o : Obj) : Rd (w.alloc o) A vs := h.below (below_alloc0 w o) (Nat.le_refl _)
theorem Rd.pos (h : Rd w A vs) (h0 : 0 < vs.length) : ∃ b o, A = some ⟨b, o, none⟩ ∧ b < w.heap.size ∧ ∀ i v, vs[i]? = some v → w.cell? ⟨b, o + i, none⟩ = some v := by
  obtain ⟨b, o, rfl, hlt, _⟩ := h 0 _ (List.getElem?_eq_getElem h0)
  refine ⟨b, o, rfl, hlt, fun i v hv => ?_⟩
  obtain ⟨b', o', e, _, hc⟩ := h i v hv
  cases e; exact hc
theorem Rd.take (h : Rd w A vs) (m : Nat) : Rd w A (vs.take m) := fun i v hv => h i v (by
  rw [List.getElem?_take] at hv; split at hv
  · exact hv
  · cases hv)
theorem Rd.left {xs ys : List Value} (h : Rd w A (xs ++ ys)) : Rd w A xs := by simpa using h.take xs.length
theorem addr_add (b o m : Nat) : (⟨b, o, none⟩ : Addr).add m = ⟨b, o + m, none⟩ := by unfold Addr.add; split <;> simp_all
theorem Rd.drop (h : Rd w A vs) (m c : Nat) (hc : vs.length ≤ c) : Rd w (if c = m then A else A.map (·.add m)) (vs.drop m) := by
  intro i v hv
  rw [List.getElem?_drop] at hv
  have hlt := (List.getElem?_eq_some_iff.1 hv).1
  obtain ⟨b, o, rfl, hl, hcell⟩ := h (m + i) v hv
  rw [if_neg (by omega)]
  exact ⟨b, o + m, by simp [addr_add], hl, by rw [← hcell, Nat.add_assoc]⟩
theorem Rd.of_row {g t : Nat} {L : List Value} (h : Row w g t L) (o n : Nat) (hn : ∀ i, i < vs.length → L[o + i]? = vs[i]?) : Rd w (some ⟨g, o, none⟩) vs := by
  intro i v hv
  have hlt := (List.getElem?_eq_some_iff.1 hv).1
  exact ⟨g, o, rfl, h.lt, by rw [h.cell, hn i hlt, hv]⟩
theorem Rd.row {g t : Nat} (h : Row w g t vs) : Rd w (some ⟨g, 0, none⟩) vs := Rd.of_row h 0 0 (fun i _ => by rw [Nat.zero_add])
end
theorem Rd.new (w : World) (t : Nat) (vs : List Value) (k : Nat) (h : k = w.heap.size) : Rd (w.alloc (.cells vs.toArray t)) (some ⟨k, 0, none⟩) vs := h ▸ Rd.row (Row.new w t vs)
theorem Rd.at {k : IntKind} {w : World} {A : Option Addr} {l : List Int} (h : Rd w A (nums k l)) (i : Nat) (hi : i < l.length) : ∃ b o, A = some ⟨b, o, none⟩ ∧ b < w.heap.size ∧ w.cell? ⟨b, o + i, none⟩ = some (.int k (gi l i)) :=
  h i _ (nums_at k l i hi)
theorem Rd.all {k : IntKind} {w : World} {A : Option Addr} {l : List Int} (h : Rd w A (nums k l)) (h0 : 0 < l.length) : ∃ b o, A = some ⟨b, o, none⟩ ∧ b < w.heap.size ∧ ∀ i, i < l.length → w.cell? ⟨b, o + i, none⟩ = some (.int k (gi l i)) := by
  obtain ⟨b, o, rfl, hlt, hc⟩ := Rd.pos h (by rw [nums_len]; exact h0)
  exact ⟨b, o, rfl, hlt, fun i hi => hc i _ (nums_at k l i hi)⟩

/-! A row of the call's own, one cell an element. -/
def Own (w : World) (base e : Nat) (v : Value) (vs : List Value) : Prop := w.ownsRow base e 1 v vs.length vs
section
variable {w w1 : World} {base e : Nat} {v : Value} {vs : List Value}
theorem Own.nil (w : World) (base e : Nat) : Own w base e (.slice none 0 0) [] := ⟨by simp, .inl ⟨rfl, rfl⟩⟩
theorem Own.read (h : Own w base e v vs) : ∃ A c, v = .slice A vs.length c ∧ vs.length ≤ c ∧ Rd w A vs ∧ (A = none → c = 0) := by
  rcases h.2 with ⟨rfl, h0⟩ | ⟨g, cap, cur, rfl, hb, hg, hn, hm, hs, ht⟩
  · obtain rfl : vs = [] := List.eq_nil_of_length_eq_zero h0
    exact ⟨none, 0, rfl, Nat.le_refl _, Rd.nil _ _, fun _ => rfl⟩
  · refine ⟨_, cap, rfl, hn, ?_, fun h => by cases h⟩
    refine Rd.of_row (t := e) (L := cur.toList) (by simpa [Row] using hg) 0 0 (fun i hi => ?_)
    rw [Nat.mul_one] at ht
    rw [Nat.zero_add]; conv => rhs; rw [← ht, List.getElem?_take, if_pos hi]
theorem Own.kept (h : Own w base e v vs) {r : Option Nat} (hg : w.grownBy w1 r) (hne : v.ownBlock = none ∨ v.ownBlock ≠ r) : Own w1 base e v vs := World.ownsRow.kept h hg hne
theorem Own.below (h : Own w base e v vs) (hb : Below w.heap.size w w1) : Own w1 base e v vs := h.kept (grown_below (B := 0) hb none) (by cases v.ownBlock <;> simp)
theorem Own.alloc (h : Own w base e v vs) (o : Obj) : Own (w.alloc o) base e v vs := World.ownsRow.alloc h o
theorem Own.drewN (h : Own w base e v vs) (n : Nat) : Own (w.drewN n) base e v vs := h
theorem Own.drew (h : Own w base e v vs) : Own w.drew base e v vs := h
theorem Own.lower {b' : Nat} (h : Own w base e v vs) (hb : b' ≤ base) : Own w b' e v vs := by
  refine ⟨h.1, ?_⟩
  rcases h.2 with h2 | ⟨g, cap, cur, hv, hg, r⟩
  · exact .inl h2
  · exact .inr ⟨g, cap, cur, hv, Nat.le_trans hb hg, r⟩
theorem Own.of_row {g t c : Nat} {rest : List Value} (h : Row w g t (vs ++ rest)) (hb : base ≤ g) (hc : c = vs.length + rest.length) (hm : c ≤ maxLen) : Own w base t (.slice (some ⟨g, 0, none⟩) vs.length c) vs := by
  refine ⟨by simp, .inr ⟨g, c, (vs ++ rest).toArray, rfl, hb, h, by omega, hm, by simp [hc], ?_⟩⟩
  simp
theorem Own.lt (h : Own w base e v vs) : ∀ k, v.ownBlock = some k → base ≤ k ∧ k < w.heap.size := World.ownsRow.lt h
end
theorem Own.block {w : World} {base e : Nat} {v : Value} {vs : List Value} (h : Own w base e v vs) : (v = .slice none 0 0 ∧ vs = []) ∨ ∃ g rest, v = .slice (some ⟨g, 0, none⟩) vs.length (vs.length + rest.length) ∧ base ≤ g ∧ Row w g e (vs ++ rest) ∧ vs.length + rest.length ≤ maxLen := by
  rcases h.2 with ⟨rfl, h0⟩ | ⟨g, cap, cur, rfl, hb, hg, hn, hm, hs, ht⟩
  · exact .inl ⟨rfl, List.eq_nil_of_length_eq_zero h0⟩
  · rw [Nat.mul_one] at ht hs
    have hr : cur.toList = vs ++ cur.toList.drop vs.length := by
      conv => lhs; rw [← List.take_append_drop vs.length cur.toList, ht]
    have hl : vs.length + (cur.toList.drop vs.length).length = cap := by have := @Array.length_toList _ cur; rw [List.length_drop]; omega
    generalize cur.toList.drop vs.length = rest at hr hl
    refine .inr ⟨g, rest, by rw [hl], hb, ?_, by rw [hl]; exact hm⟩
    unfold Row; rw [← hr]; simpa using hg

section
variable {P : Program}
/-- append onto a row of one's own, of a slice that is read (nil too). -/
theorem run_app {W : World} {base t ty e bytes : Nat} {z : Value} (ht : P.underlying t = some (.slice e)) (hinfo : (P.info? e).map (fun i => (i.zero, i.size, i.bytes)) = some (some z, 1, bytes)) (hz : z.cells.size = 1) (hb0 : 0 < bytes)
    {v : Value} {vs ys : List Value} {A : Option Addr} {m c : Nat} (HO : Own W base e v vs) (HR : Rd W A ys) (hm : ys.length = m) (h1 : ∀ u ∈ ys, u.oneCell' = true) (hbase : base ≤ W.heap.size) (hl : (vs.length + ys.length) * bytes ≤ 140737488355328) :
    ∃ v1 w1, (Builtin.append_ #[t, t] ty #[v, .slice A m c]).run P W = .ok v1 w1 ∧ Own w1 base e v1 (vs ++ ys) ∧ W.grownBy w1 v.ownBlock ∧ (v1.ownBlock = v.ownBlock ∨ v1.ownBlock = some W.heap.size) := by
  subst hm
  obtain ⟨i0, hi, hzz⟩ := Option.map_eq_some_iff.1 hinfo
  simp only [Prod.mk.injEq] at hzz
  obtain ⟨hz0, hz1, hz2⟩ := hzz
  have hlen : vs.length + ys.length ≤ 140737488355328 := Nat.le_trans (Nat.le_mul_of_pos_right _ hb0) hl
  cases ys with
  | nil =>
    refine ⟨v, W, ?_, by simpa using HO, World.grownBy.refl W _, .inl rfl⟩
    rcases HO.2 with ⟨rfl, hn⟩ | ⟨g, cap, cur, rfl, _, _, hnc, _⟩
    · cases A <;> simp [Builtin.append_, run_underlying ht, sizeOf, typeInfo, hi, Builtin.lenOf, Builtin.firstCells, loadCells, loadCellsFrom]
    · cases A <;> simp [Builtin.append_, run_underlying ht, sizeOf, typeInfo, hi, Builtin.lenOf, Builtin.firstCells, hnc, storeCells, loadCells, loadCellsFrom]
  | cons y ys =>
    obtain ⟨b, o, rfl, hlt, hc⟩ := HR.pos (by simp)
    obtain ⟨v1, w1, hr, h2, h3, _, h5⟩ := run_append_own_at (P := P) W base t ty e i0 z 1 bytes ht hi hz0 hz1 hz2 hz (by omega) v vs.length vs HO ⟨b, o, none⟩ (y :: ys).length c (y :: ys) (by simp)
      (fun j u hu => by rw [addr_add]; exact hc j u hu) h1 (by simp only [maxLen]; omega) hl hbase
    refine ⟨v1, w1, hr, ?_, h3, h5⟩
    unfold Own
    rw [List.length_append]; exact h2
/-- The same, as one operation of the walk: behind 'at_builtin'. -/
theorem walk_app {ops : Array Oper} {rest : List Oper} {o : Oper} {a : Act} {Q : Exit → Act → World → Prop} {W : World} {base t e bytes : Nat} {z : Value} (hgd : o.guard = none) (s x : Operand)
    (ho : o.op = .call { callee := .builtin .append, args := #[s, x], argTypes := #[t, t] })
    (ht : P.underlying t = some (.slice e)) (hinfo : (P.info? e).map (fun i => (i.zero, i.size, i.bytes)) = some (some z, 1, bytes)) (hz : z.cells.size = 1) (hb0 : 0 < bytes)
    {v : Value} {vs ys : List Value} {A : Option Addr} {m c : Nat} (hs : a.eval s = v) (hx : a.eval x = .slice A m c) (HO : Own W base e v vs) (HR : Rd W A ys) (hm : ys.length = m) (h1 : ∀ u ∈ ys, u.oneCell' = true) (hbase : base ≤ W.heap.size) (hl : (vs.length + ys.length) * bytes ≤ 140737488355328)
    (h : ∀ v1 w1, Own w1 base e v1 (vs ++ ys) → W.grownBy w1 v.ownBlock → (v1.ownBlock = v.ownBlock ∨ v1.ownBlock = some W.heap.size) → wpList P ops Q rest (a.put o.dst v1) w1) :
    wpList P ops Q (o :: rest) a W := by
  obtain ⟨v1, w1, hrun, h2, h3, h5⟩ := run_app (P := P) (ty := o.type) (c := c) ht hinfo hz hb0 HO HR hm h1 hbase hl
  refine wpList_plain hgd fun K hK => ?_
  unfold Oper.wp execOp
  simp only [ho, resolve, invoke, builtin, Sem.run_bind, Sem.run_pure, Result.andThen_ok, List.map_toArray, List.map_cons, List.map_nil, hs, hx, hrun]
  exact hK _ _ (h v1 w1 h2 h3 h5)
theorem below_app {w0 W w1 : World} {B base e : Nat} {v : Value} {vs : List Value} (hb : Below B w0 W) (hg : W.grownBy w1 v.ownBlock) (HO : Own W base e v vs) (hB : B ≤ base) (hbase : base ≤ W.heap.size) : Below B w0 w1 :=
  hb.grown hg (Nat.le_trans hB hbase) (fun k hk => Nat.le_trans hB (HO.lt k hk).1)

/-- s[j:], elements of one cell. -/
theorem run_from {W : World} {t e : TypeId} (ht : P.underlying t = some (.slice e)) (hsz : (P.info? e).map (·.size) = some 1) (A : Option Addr) (len cap : Nat) (l : Int) (j : Nat) (hl : l = (j : Int)) (hj : j ≤ len) (hc : len ≤ cap) :
    (Instr.slice t (.slice A len cap) (some (.int .i64 l)) none none).run P W = .ok (.slice (if cap = j then A else A.map (·.add j)) (len - j) (cap - j)) W := by
  subst hl
  obtain ⟨i0, hi, hs⟩ := Option.map_eq_some_iff.1 hsz
  simp [Instr.slice, run_underlying ht, Instr.sliceBounds, run_sliceBound, sizeOf, typeInfo, hi, hs, hj]
/-- s[:j]. -/
theorem run_upto {W : World} {t e : TypeId} (ht : P.underlying t = some (.slice e)) (hsz : (P.info? e).map (·.size) = some 1) (A : Option Addr) (len cap : Nat) (l : Int) (j : Nat) (hl : l = (j : Int)) (hc : j ≤ cap) :
    (Instr.slice t (.slice A len cap) none (some (.int .i64 l)) none).run P W = .ok (.slice A j cap) W := by
  subst hl
  obtain ⟨i0, hi, hs⟩ := Option.map_eq_some_iff.1 hsz
  cases A <;> simp [Instr.slice, run_underlying ht, Instr.sliceBounds, run_sliceBound, sizeOf, typeInfo, hi, hs, hc, Addr.add]
/-- make([]T, n): a new block of n zeros. -/
theorem walk_make {ops : Array Oper} {rest : List Oper} {o : Oper} {a : Act} {Q : Exit → Act → World → Prop} {w : World} (hg : o.guard = none) (l c : Operand) {t e bytes : Nat} {z : Value} (hop : o.op = Op.makeSlice t l c)
    (ht : P.underlying t = some (.slice e)) (hinfo : (P.info? e).map (fun i => (i.zero, i.size, i.bytes)) = some (some z, 1, bytes)) (hz : z.cells = #[z]) {L C : Int} {n : Nat} (hl : a.eval l = .int .i64 L) (hc : a.eval c = .int .i64 C) (hL : L = (n : Int)) (hC : C = (n : Int))
    (hb : bytes * n ≤ 281474976710656) (hn : n ≤ 281474976710656) (h : wpList P ops Q rest (a.put o.dst (.slice (some ⟨w.heap.size, 0, none⟩) n n)) (w.alloc (.cells (List.replicate n z).toArray e))) : wpList P ops Q (o :: rest) a w := by
  refine wpList_plain hg fun K hK => ?_
  obtain ⟨i0, hi, hzz⟩ := Option.map_eq_some_iff.1 hinfo
  simp only [Prod.mk.injEq] at hzz
  obtain ⟨hz0, hz1, hz2⟩ := hzz
  have hb' : (i0.bytes : Int) * (n : Int) ≤ 281474976710656 := by
    have h : ((i0.bytes * n : Nat) : Int) ≤ 281474976710656 := by rw [hz2]; omega
    rwa [Int.natCast_mul] at h
  have hr := run_make (P := P) w t e i0 z ht hi hz0 .i64 .i64 n n (by omega) (Int.le_refl _) hb' (by omega)
  rw [hz1, hz] at hr
  simp only [Int.toNat_natCast, Nat.mul_one] at hr
  rw [show madeCells #[z] n = (List.replicate n z).toArray from by rw [← toList_madeCells_one]] at hr
  subst hL hC
  unfold Oper.wp execOp
  simp only [hop, hl, hc, hr, Sem.run_bind, Sem.run_pure, Result.andThen_ok]
  exact hK _ _ h

/-! A variable of several cells, read and written whole. -/
theorem walk_load_row {ops : Array Oper} {rest : List Oper} {o : Oper} {a : Act} {w : World} {Q : Exit → Act → World → Prop} (hgd : o.guard = none) (ty : TypeId) (x : Operand) (ho : o.op = .load ty x)
    {g t : Nat} {vs : List Value} (HR : Row w g t vs) (hx : a.eval x = .pointer (some ⟨g, 0, none⟩)) {d : TypeDesc} (hu : P.underlying ty = some d) (hd : (match d with | .struct _ | .array _ _ => true | _ => false) = true) (hi : (P.info? ty).map (·.size) = some vs.length)
    (h : wpList P ops Q rest (a.put o.dst (.agg vs.toArray)) w) : wpList P ops Q (o :: rest) a w :=
  wpList_load_row hgd ty x ho g hx t vs.toArray (0, 0) d HR hu hd (by simpa using hi) h
theorem walk_store_row {ops : Array Oper} {rest : List Oper} {o : Oper} {a : Act} {w : World} {Q : Exit → Act → World → Prop} (hgd : o.guard = none) (ty : TypeId) (x y : Operand) (ho : o.op = .store ty x y)
    {g t : Nat} {old vs : List Value} (HR : Row w g t old) (hx : a.eval x = .pointer (some ⟨g, 0, none⟩)) (hy : a.eval y = .agg vs.toArray) (hi : (P.info? ty).map (·.size) = some vs.length) (hl : old.length = vs.length) (h1 : ∀ v ∈ vs, v.oneCell' = true)
    (h : ∀ w1, Row w1 g t vs → w.grownBy w1 (some g) → wpList P ops Q rest (a.put o.dst undef) w1) : wpList P ops Q (o :: rest) a w := by
  refine wpList_store_row hgd ty x y ho g vs.toArray hx hy t old.toArray HR (by simpa using hi) (by simpa using hl) (by simpa using h1) (h _ ?_ ?_)
  · exact setRow_heap w g _ _ t _ HR
  · exact ⟨rfl, rfl, rfl, by simp, fun k hk hne => setRow_other w g k _ (fun e => hne (by rw [e]))⟩
theorem row_results {fn : Func} {p : Tmp} {ty : TypeId} (h : fn.results = #[.cell p ty]) (tmps : Array Value) {w : World} {g t : Nat} {vs : List Value} {d : TypeDesc}
    (hp : tmps.getD p undef = .pointer (some ⟨g, 0, none⟩)) (HR : Row w g t vs) (hu : P.underlying ty = some d) (hd : (match d with | .struct _ | .array _ _ => true | _ => false) = true) (hi : (P.info? ty).map (·.size) = some vs.length) :
    (results fn tmps).run P w = .ok (.agg vs.toArray) w := results_cell_row h tmps w g t vs.toArray (0, 0) d hp HR hu hd (by simpa using hi)

/-! copy onto a block that is known whole. -/
theorem splice_nums (k : IntKind) (L M : List Int) (off : Nat) : splice (nums k L) off (nums k M) = nums k (splice L off M) := by
  simp [splice, nums, List.map_take, List.map_drop]
theorem run_copy {w : World} {dT sT ty elem : Nat} (hu : P.underlying dT = some (.slice elem)) (hsz : (P.info? elem).map (·.size) = some 1) {k : IntKind} {L M : List Int} {g t off dLen dCap sLen sCap : Nat} {sp : Option Addr}
    (HR : Row w g t (nums k L)) (HS : Rd w sp (nums k M)) (hM : M.length = sLen) (hfit : off + dLen ≤ L.length) :
    ∃ w1, (Builtin.copy_ #[dT, sT] ty #[.slice (some ⟨g, off, none⟩) dLen dCap, .slice sp sLen sCap]).run P w = .ok (goInt ((Nat.min sLen dLen : Nat) : Int)) w1 ∧ Row w1 g t (nums k (splice L off (M.take dLen))) ∧ w.grownBy w1 (some g) ∧ w1.heap.size = w.heap.size := by
  subst hM
  by_cases h0 : Nat.min M.length dLen = 0
  · have hrun := run_copy_none (P := P) w dT sT ty elem (some ⟨g, off, none⟩) sp dLen dCap M.length sCap hu hsz h0
    refine ⟨w, by rw [h0]; exact hrun, ?_, World.grownBy.refl w _, rfl⟩
    have : M.take dLen = [] := by
      apply List.eq_nil_of_length_eq_zero; rw [List.length_take, Nat.min_comm]; exact h0
    rw [this]; simpa [splice] using HR
  · have hpos : 0 < M.length := by rcases Nat.eq_zero_or_pos M.length with h | h; exact absurd (by rw [h]; exact Nat.zero_min _) h0; exact h
    obtain ⟨b, o, rfl, _, hc⟩ := HS.all hpos
    have hcs : (nums k (M.take dLen)).length = Nat.min M.length dLen := by rw [nums_len, List.length_take, Nat.min_comm]
    have hle : Nat.min M.length dLen ≤ dLen := Nat.min_le_right _ _
    have hrun := run_copy_row (P := P) w dT sT ty elem g off dLen dCap ⟨b, o, none⟩ M.length sCap (nums k L).toArray t (nums k (M.take dLen)) hu hsz HR hcs
      (fun j v hv => by
        have hj : j < (M.take dLen).length := by rw [← nums_len k]; exact (List.getElem?_eq_some_iff.1 hv).1
        rw [nums_at _ _ _ hj] at hv
        have hj2 : j < M.length := by rw [List.length_take] at hj; omega
        rw [addr_add, hc j hj2, ← hv, gi_take _ (by rw [List.length_take] at hj; omega)])
      (by rw [hcs, List.size_toArray, nums_len]; omega) (nums_one _ _)
    rw [hcs] at hrun
    refine ⟨_, hrun, ?_, ⟨rfl, rfl, rfl, by simp, fun i hi hne => setRow_other w g i _ (fun e => hne (by rw [e]))⟩, by simp⟩
    have h2 := setRow_heap w g (nums k L).toArray ((nums k L).toArray.toList.take off ++ nums k (M.take dLen) ++ (nums k L).toArray.toList.drop (off + Nat.min M.length dLen)).toArray t (0, 0) HR
    rw [← splice_nums]
    unfold Row splice
    rw [hcs, ← List.append_assoc]; exact h2
theorem walk_copy {ops : Array Oper} {rest : List Oper} {o : Oper} {a : Act} {w : World} {Q : Exit → Act → World → Prop} (hgd : o.guard = none) (d s : Operand) {dT sT elem : Nat}
    (ho : o.op = .call { callee := .builtin .copy, args := #[d, s], argTypes := #[dT, sT] }) (hu : P.underlying dT = some (.slice elem)) (hsz : (P.info? elem).map (·.size) = some 1) {k : IntKind} {L M : List Int} {g t off dLen dCap sLen sCap : Nat} {sp : Option Addr}
    (hd : a.eval d = .slice (some ⟨g, off, none⟩) dLen dCap) (hs : a.eval s = .slice sp sLen sCap) (HR : Row w g t (nums k L)) (HS : Rd w sp (nums k M)) (hM : M.length = sLen) (hfit : off + dLen ≤ L.length)
    (h : ∀ w1, Row w1 g t (nums k (splice L off (M.take dLen))) → w.grownBy w1 (some g) → w1.heap.size = w.heap.size → wpList P ops Q rest (a.put o.dst (goInt ((Nat.min sLen dLen : Nat) : Int))) w1) : wpList P ops Q (o :: rest) a w := by
  obtain ⟨w1, hrun, h1, h2, h3⟩ := run_copy (P := P) (sT := sT) (ty := o.type) (dCap := dCap) (sCap := sCap) hu hsz HR HS hM hfit
  refine wpList_plain hgd fun K hK => ?_
  unfold Oper.wp execOp
  simp only [ho, resolve, invoke, builtin, Sem.run_bind, Sem.run_pure, Result.andThen_ok, List.map_toArray, List.map_cons, List.map_nil, hd, hs, hrun]
  exact hK _ _ (h w1 h1 h2 h3)
theorem step_copy {ops : Array Oper} {o : Oper} {a : Act} {w : World} {K : Act → World → Prop} {Q : Exit → Act → World → Prop} {E : Prop} (hgd : o.guard = none) (d s : Operand) {dT sT elem : Nat}
    (ho : o.op = .call { callee := .builtin .copy, args := #[d, s], argTypes := #[dT, sT] }) (hu : P.underlying dT = some (.slice elem)) (hsz : (P.info? elem).map (·.size) = some 1) {k : IntKind} {L M : List Int} {g t off dLen dCap sLen sCap : Nat} {sp : Option Addr}
    (hd : a.eval d = .slice (some ⟨g, off, none⟩) dLen dCap) (hs : a.eval s = .slice sp sLen sCap) (HR : Row w g t (nums k L)) (HS : Rd w sp (nums k M)) (hM : M.length = sLen) (hfit : off + dLen ≤ L.length)
    (h : ∀ w1, Hid (Row w1 g t (nums k (splice L off (M.take dLen)))) → Hid (w.grownBy w1 (some g)) → K (a.put o.dst (goInt ((Nat.min sLen dLen : Nat) : Int))) w1) :
    if Region.wanted o (yielded ops a.tmps) = true then Oper.wp P o a w K Q else E := by
  obtain ⟨w1, hrun, h1, h2, h3⟩ := run_copy (P := P) (sT := sT) (ty := o.type) (dCap := dCap) (sCap := sCap) hu hsz HR HS hM hfit
  rw [if_pos (by simp [Region.wanted, hgd])]
  unfold Oper.wp execOp
  simp only [ho, resolve, invoke, builtin, Sem.run_bind, Sem.run_pure, Result.andThen_ok, List.map_toArray, List.map_cons, List.map_nil, hd, hs, hrun]
  exact h w1 h1 h2

/-! string(b), of bytes that are read. -/
theorem bytes_inj {a b : List Int} (ha : IsB a) (hb : IsB b) (h : strOfNums a = strOfNums b) : a = b := by
  have h' := congrArg (fun s : ByteArray => s.data.toList) h
  simp only [strOfNums_data] at h'
  have hl : a.length = b.length := by simpa using congrArg List.length h'
  refine gi_ext hl fun i hi => ?_
  have e := congrArg (fun l => l[i]?) h'
  have hi' : i < b.length := by omega
  simp only [List.getElem?_map, List.getElem?_eq_getElem hi, List.getElem?_eq_getElem hi', Option.map_some, Option.some.injEq] at e
  have h1 := ha _ (List.getElem_mem hi)
  have h2 := hb _ (List.getElem_mem hi')
  have e2 := congrArg UInt8.toNat e
  simp only [UInt8.toNat_ofNat'] at e2
  simp only [gi, List.getD_eq_getElem?_getD, List.getElem?_eq_getElem hi, List.getElem?_eq_getElem hi', Option.getD_some]
  omega
theorem run_string {W : World} {src dst e : Nat} (hs : P.underlying src = some (.slice e)) (he : P.underlying e = some (.int .u8)) (hd : P.underlying dst = some .string) {A : Option Addr} {l : List Int} {c n : Nat} (h : Rd W A (nums .u8 l)) (hn : l.length = n) :
    (convert src dst (.slice A n c)).run P W = .ok (.string (strOfNums l)) W := by
  subst hn
  cases A with
  | none =>
    have hl : l = [] := by
      cases l with
      | nil => rfl
      | cons x l => obtain ⟨b, o, e, _⟩ := h.at 0 (by simp); cases e
    subst hl
    exact run_convert_bytes_nil W src e hs he 0 c dst hd
  | some ad =>
    have hl : (loadCells ad l.length).run P W = .ok (nums .u8 l).toArray W := by
      have := run_loadCells_list (P := P) W ad (nums .u8 l) (fun j v hj => by
        obtain ⟨b, o, e0, _, hc⟩ := h j v hj
        cases e0
        rw [addr_add]; exact hc)
      rwa [nums_len] at this
    rw [run_convert_bytes_string W src dst e _ l.length c hs he hd, run_bytesToString W _ l.length c l hl, foldl_push_bytes]
    simp [strOfNums, ByteArray.empty, ByteArray.emptyWithCapacity]
    rfl
end
end Go.Proofs.YtbdmdajbdmdknaaDoor
namespace Go.Proofs.YtbdmdajbdmdknaaDoor
open Go.RowKit
set_option linter.unusedVariables false
set_option linter.unusedSimpArgs false

theorem info_u8 : (Tryd.prog.info? 5).map (fun i => (i.zero, i.size, i.bytes)) = some (some (.int .u8 0), 1, 1) := by kernel_rfl

/-- A new slice of bytes. -/
def NewB (w : World) (l : List Int) (e : Ending) (w' : World) : Prop := ∃ v, e = .returned v ∧ Own w' w.heap.size 5 v (nums .u8 l) ∧ Below w.heap.size w w'

theorem same_str {a b : List Int} (ha : IsB a) (hb : IsB b) : ((strOfNums a).toList == (strOfNums b).toList) = decide (a = b) := by
  rw [Bool.eq_iff_iff, beq_iff_eq, decide_eq_true_iff]
  constructor
  · intro h
    refine bytes_inj ha hb ?_
    rw [Lib.strOfNums_toList, Lib.strOfNums_toList] at h
    have h2 : (strOfNums a).data.toList = (strOfNums b).data.toList := h
    cases hx : strOfNums a; cases hy : strOfNums b
    rw [hx, hy] at h2
    congr 1
    exact Array.toList_inj.1 h2
  · rintro rfl; rfl
theorem own_empty (w : World) (e : Nat) : Own (w.alloc (.cells #[] e)) w.heap.size e (.slice (some ⟨w.heap.size, 0, none⟩) 0 0) [] :=
  Own.of_row (vs := []) (rest := []) (Row.new w e []) (Nat.le_refl _) rfl (by simp [maxLen])

set_option maxHeartbeats 400000 in
theorem clone_calls (A : Option Addr) (n c : Nat) (l : List Int) (w : World) (h : Rd w A (nums .u8 l)) (hn : l.length = n) (hc : n ≤ c) (hA : A = none → c = 0) (hb : n ≤ 140737488355328) :
    Calls Tryd.prog 15 #[.slice A n c] w (NewB w l) := by
  subst hn
  cases A with
  | none =>
    have hc0 := hA rfl
    subst hc0
    have hl : l = [] := List.eq_nil_of_length_eq_zero (by omega)
    subst hl
    clear hA hc hb h
    have heq : ∀ W : World, (binOp .eql 32 (.slice none 0 0) (.slice none 0 0)).run Tryd.prog W = .ok (.bool true) W := fun W => Lib.run_eql_slice_nil W _ _ _ _ _ _ _ Tryd.underlying32
    simp only [List.length_nil]
    go_enter Tryd.func15, Tryd.ntmps15
    go_wp2
    go_ret
    exact ⟨.slice none 0 0, rfl, Own.nil _ _ _, Below.refl _ _⟩
  | some ad =>
    clear hA
    have heq : ∀ W : World, (binOp .eql 32 (.slice (some ad) l.length c) (.slice none 0 0)).run Tryd.prog W = .ok (.bool false) W := fun W => Lib.run_eql_slice_nil W _ _ _ _ _ _ _ Tryd.underlying32
    go_enter Tryd.func15, Tryd.ntmps15
    go_wp2_with (at_builtin; refine walk_app (base := w.heap.size) rfl (.tmp 5) (.tmp 6) rfl Tryd.underlying32 info_u8 rfl (by decide) rfl rfl (own_empty w _) (h.alloc _) (nums_len _ _) (nums_one _ _) (by simp) (by simpa [nums_len] using hb) ?_; intro v1 w1 HO1 hg1 _)
    go_ret
    exact ⟨v1, rfl, by simpa using HO1, below_app (below_alloc0 w _) hg1 (own_empty w _) (Nat.le_refl _) (by simp)⟩

end Go.Proofs.YtbdmdajbdmdknaaDoor
namespace Go.Proofs.YtbdmdajbdmdknaaDoor
set_option linter.unusedVariables false
set_option linter.unusedSimpArgs false

abbrev Bs := List UInt8
def isWS (c : UInt8) : Bool := c == 0x20 || c == 0x0A || c == 0x09 || c == 0x0D
def skipW (l : Bs) : Bs := l.dropWhile isWS
theorem skipW_len (l : Bs) : (skipW l).length ≤ l.length := List.Sublist.length_le (List.dropWhile_sublist _)
/-- A text up to its closing quotation mark, and what stands behind. -/
def rawS : Bool → Bs → Option (Bs × Bs)
  | _, [] => none
  | true, c :: l => (rawS false l).map fun p => (c :: p.1, p.2)
  | false, c :: l => if c = 34 then some ([], l) else (rawS (c == 92) l).map fun p => (c :: p.1, p.2)
theorem rawS_len : ∀ (b : Bool) (l x y : Bs), rawS b l = some (x, y) → x.length + y.length + 1 = l.length
  | _, [], x, y, h => by simp [rawS] at h
  | true, c :: l, x, y, h => by
    obtain ⟨⟨x', y'⟩, h1, h2⟩ := Option.map_eq_some_iff.1 h
    simp only [Prod.mk.injEq] at h2
    obtain ⟨rfl, rfl⟩ := h2
    have := rawS_len _ _ _ _ h1
    simp; omega
  | false, c :: l, x, y, h => by
    unfold rawS at h
    split at h
    · cases h; simp
    · obtain ⟨⟨x', y'⟩, h1, h2⟩ := Option.map_eq_some_iff.1 h
      simp only [Prod.mk.injEq] at h2
      obtain ⟨rfl, rfl⟩ := h2
      have := rawS_len _ _ _ _ h1
      simp; omega
def isNumC (c : UInt8) : Bool := (48 ≤ c && c ≤ 57) || c == 46 || c == 45 || c == 101 || c == 69 || c == 43
/-- The small letter of an ASCII letter. -/
def lowC (c : UInt8) : UInt8 := if 65 ≤ c ∧ c ≤ 90 then c + 32 else c
def foldIs (s small : Bs) : Bool := s.map lowC == small
def infB : Bs := [105, 110, 102]
def nanB : Bs := [110, 97, 110]
/-- A number: what stands ahead of the first byte that is none of a number's. -/
def rawN (s : Bs) : Option (Bs × Bs) :=
  let i := (s.takeWhile isNumC).length
  if i = s.length then some (s, [])
  else if i = 0 ∨ (i = 1 ∧ (s.head? = some 45 ∨ s.head? = some 43)) then
    (if foldIs ((s.drop i).take 3) infB ∨ foldIs ((s.drop i).take 3) nanB then some (s.take (i + 3), s.drop (i + 3)) else none)
  else some (s.take i, s.drop i)
inductive JV where
  | lit (t : Nat)
  | num (s : Bs)
  | str (s : Bs)
  | arr (l : List JV)
  | obj (l : List (Bs × JV))
def trueB : Bs := [116, 114, 117, 101]
def falseB : Bs := [102, 97, 108, 115, 101]
def nullB : Bs := [110, 117, 108, 108]
mutual
def pVal : Nat → Nat → Bs → Option (JV × Bs)
  | 0, _, _ => none
  | _ + 1, _, [] => none
  | f + 1, d, c :: r =>
    if 300 ≤ d then none
    else if c = 123 then
      match skipW r with
      | [] => none
      | c2 :: r2 => if c2 = 125 then some (.obj [], r2) else (pObj f (d + 1) (c2 :: r2)).map fun p => (.obj p.1, p.2)
    else if c = 91 then
      match skipW r with
      | [] => none
      | c2 :: r2 => if c2 = 93 then some (.arr [], r2) else (pArr f (d + 1) (c2 :: r2)).map fun p => (.arr p.1, p.2)
    else if c = 34 then (rawS false r).map fun p => (.str p.1, p.2)
    else if c = 116 then (if (c :: r).take 4 = trueB then some (.lit 5, (c :: r).drop 4) else none)
    else if c = 102 then (if (c :: r).take 5 = falseB then some (.lit 6, (c :: r).drop 5) else none)
    else if c = 110 then
      (if (c :: r).take 4 = nullB then some (.lit 0, (c :: r).drop 4)
       else if foldIs ((c :: r).take 3) nanB then some (.num ((c :: r).take 3), (c :: r).drop 3) else none)
    else (rawN (c :: r)).map fun p => (.num p.1, p.2)
def pObj : Nat → Nat → Bs → Option (List (Bs × JV) × Bs)
  | 0, _, _ => none
  | f + 1, d, s =>
    match skipW s with
    | [] => none
    | c :: r =>
      if c = 34 then
        match rawS false r with
        | none => none
        | some (k, r1) =>
          match skipW r1 with
          | [] => none
          | c2 :: r2 =>
            if c2 = 58 then
              match pVal f d (skipW r2) with
              | none => none
              | some (v, r3) =>
                match skipW r3 with
                | [] => none
                | c4 :: r4 => if c4 = 44 then (pObj f d r4).map fun p => ((k, v) :: p.1, p.2) else if c4 = 125 then some ([(k, v)], r4) else none
            else none
      else none
def pArr : Nat → Nat → Bs → Option (List JV × Bs)
  | 0, _, _ => none
  | f + 1, d, s =>
    match pVal f d (skipW s) with
    | none => none
    | some (v, r3) =>
      match skipW r3 with
      | [] => none
      | c4 :: r4 => if c4 = 44 then (pArr f d r4).map fun p => (v :: p.1, p.2) else if c4 = 93 then some ([v], r4) else none
end
/-- The whole of a text. -/
def pText (s : Bs) : Option JV :=
  match pVal (2 * s.length + 2) 0 (skipW s) with
  | none => none
  | some (v, t) => if skipW t = [] then some v else none
end Go.Proofs.YtbdmdajbdmdknaaDoor
namespace Go.Proofs.YtbdmdajbdmdknaaDoor
open Go.RowKit
set_option linter.unusedVariables false
set_option linter.unusedSimpArgs false

def bs (l : Bs) : ByteArray := ⟨l.toArray⟩
/-- w' is as w was, but for some cells and new blocks. -/
structure AltC (w w' : World) (S : Nat → Nat → Prop) : Prop where
  os : w'.os = w.os
  tape : w'.tape = w.tape
  output : w'.output = w.output
  size : w.heap.size ≤ w'.heap.size
  block : ∀ b, b < w.heap.size → (∀ o, ¬ S b o) → w'.heap[b]? = w.heap[b]?
  cell : ∀ b o, b < w.heap.size → ¬ S b o → w'.cell? ⟨b, o, none⟩ = w.cell? ⟨b, o, none⟩ ∧ w'.frozen? ⟨b, o, none⟩ = w.frozen? ⟨b, o, none⟩
def Slot (w : World) (b o : Nat) (v : Value) : Prop := w.cell? ⟨b, o, none⟩ = some v ∧ w.frozen? ⟨b, o, none⟩ = false
section
variable {w w1 w2 : World} {S T : Nat → Nat → Prop} {b o : Nat} {v u : Value}
theorem Slot.lt (h : Slot w b o v) : b < w.heap.size := World.block_lt_of_cell? w _ h.1
theorem Slot.eq (h : Slot w b o v) (k : Slot w b o u) : u = v := by have := h.1.symm.trans k.1; cases this; rfl
theorem AltC.refl (w : World) (S : Nat → Nat → Prop) : AltC w w S := ⟨rfl, rfl, rfl, Nat.le_refl _, fun _ _ _ => rfl, fun _ _ _ _ => ⟨rfl, rfl⟩⟩
theorem AltC.trans (h : AltC w w1 S) (k : AltC w1 w2 T) (hT : ∀ b o, b < w.heap.size → T b o → S b o) : AltC w w2 S :=
  ⟨k.os.trans h.os, k.tape.trans h.tape, k.output.trans h.output, Nat.le_trans h.size k.size,
    fun b hb hn => (k.block b (Nat.lt_of_lt_of_le hb h.size) (fun o ht => hn o (hT b o hb ht))).trans (h.block b hb hn),
    fun b o hb hn => by
      have h1 := h.cell b o hb hn
      have h2 := k.cell b o (Nat.lt_of_lt_of_le hb h.size) (fun ht => hn (hT b o hb ht))
      exact ⟨h2.1.trans h1.1, h2.2.trans h1.2⟩⟩
theorem AltC.mono (h : AltC w w1 S) (hT : ∀ b o, b < w.heap.size → S b o → T b o) : AltC w w1 T :=
  ⟨h.os, h.tape, h.output, h.size, fun b hb hn => h.block b hb (fun o hs => hn o (hT b o hb hs)), fun b o hb hn => h.cell b o hb (fun hs => hn (hT b o hb hs))⟩
theorem AltC.of_below (h : Below w.heap.size w w1) (S : Nat → Nat → Prop) : AltC w w1 S :=
  ⟨h.os, h.tape, h.output, h.size, fun b hb _ => h.block b hb, fun b o hb _ => ⟨h.cell (p := ⟨b, o, none⟩) hb, h.frozen (p := ⟨b, o, none⟩) hb⟩⟩
theorem AltC.of_grown {r : Option Nat} (h : w.grownBy w1 r) : AltC w w1 (fun x _ => some x = r) :=
  ⟨h.os, h.tape, h.output, h.size, fun b hb hn => h.block b hb (fun e => hn 0 e), fun b o hb hn =>
    ⟨World.cell?_of_block (a := ⟨b, o, none⟩) (h.block b hb hn), World.frozen?_of_block (a := ⟨b, o, none⟩) (h.block b hb hn)⟩⟩
theorem AltC.below {B : Nat} (h : AltC w w1 S) (hB : B ≤ w.heap.size) (hS : ∀ b o, b < B → ¬ S b o) : Below B w w1 :=
  ⟨h.os, h.tape, h.output, h.size, fun b hb => h.block b (Nat.lt_of_lt_of_le hb hB) (fun o => hS b o hb)⟩
theorem AltC.set (w : World) (b o : Nat) (v : Value) : AltC w (w.setCell ⟨b, o, none⟩ v) (fun x y => x = b ∧ y = o) :=
  ⟨rfl, rfl, rfl, by simp, fun k hk hn => Below.heap_setCell w _ v k (fun e => hn o ⟨e, rfl⟩), fun x y hx hn =>
    ⟨World.cell?_setCell_other _ _ _ _ (fun e => hn (by cases e; exact ⟨rfl, rfl⟩)), by simp⟩⟩
theorem AltC.drew (w : World) (S : Nat → Nat → Prop) : AltC w w.drew S := ⟨rfl, rfl, rfl, Nat.le_refl _, fun _ _ _ => rfl, fun _ _ _ _ => ⟨rfl, rfl⟩⟩
theorem AltC.drewN (w : World) (n : Nat) (S : Nat → Nat → Prop) : AltC w (w.drewN n) S := ⟨rfl, rfl, rfl, Nat.le_refl _, fun _ _ _ => rfl, fun _ _ _ _ => ⟨rfl, rfl⟩⟩
theorem AltC.alloc (w : World) (x : Obj) (S : Nat → Nat → Prop) : AltC w (w.alloc x) S := AltC.of_below (below_alloc0 w x) S
theorem Slot.alt (h : Slot w b o v) (k : AltC w w1 S) (hn : ¬ S b o) : Slot w1 b o v := by
  have := k.cell b o h.lt hn
  exact ⟨this.1.trans h.1, this.2.trans h.2⟩
theorem Slot.below (h : Slot w b o v) (k : Below w.heap.size w w1) : Slot w1 b o v := h.alt (AltC.of_below k (fun _ _ => False)) (fun h => h)
theorem Slot.set (h : Slot w b o v) (u : Value) : Slot (w.setCell ⟨b, o, none⟩ u) b o u := ⟨World.cell?_setCell_same _ _ _ h.1, by simpa using h.2⟩
theorem Slot.of_row {g t : Nat} {vs : List Value} (h : Row w g t vs) (i : Nat) (hi : vs[i]? = some v) : Slot w g i v := ⟨(h.cell i).trans hi, h.free i⟩
end
/-- A value of the parser that is all zero. -/
def Zero5 (w : World) (b o : Nat) : Prop := Slot w b o (.slice none 0 0) ∧ Slot w b (o + 1) (.bool false) ∧ Slot w b (o + 2) (.slice none 0 0) ∧ Slot w b (o + 3) (.string ⟨#[]⟩) ∧ Slot w b (o + 4) (.int .i64 0)
theorem Zero5.alt {w w1 : World} {S : Nat → Nat → Prop} {b o : Nat} (h : Zero5 w b o) (k : AltC w w1 S) (hn : ∀ y, o ≤ y → y < o + 5 → ¬ S b y) : Zero5 w1 b o :=
  ⟨h.1.alt k (hn _ (by omega) (by omega)), h.2.1.alt k (hn _ (by omega) (by omega)), h.2.2.1.alt k (hn _ (by omega) (by omega)), h.2.2.2.1.alt k (hn _ (by omega) (by omega)), h.2.2.2.2.alt k (hn _ (by omega) (by omega))⟩
/-- The parser's values: n of them are given out; the others are zero. -/
structure Cache (w : World) (C co : Nat) (VB : Option Nat) (n cap : Nat) : Prop where
  fld : Slot w C co (.slice (VB.map fun b => ⟨b, 0, none⟩) n cap)
  le : n ≤ cap
  nil : VB = none → cap = 0
  ne : VB ≠ some C
  lt : ∀ b, VB = some b → b < w.heap.size
  old : ∀ b, VB = some b → ∀ j, j < 5 * n → ∃ v, Slot w b j v
  spare : ∀ b, VB = some b → ∀ i, n ≤ i → i < cap → Zero5 w b (5 * i)
/-- What a call of the parser may write to. -/
def SC (C co : Nat) (VB : Option Nat) (n : Nat) (x y : Nat) : Prop := (x = C ∧ y = co) ∨ (VB = some x ∧ 5 * n ≤ y)
structure Grew (w : World) (VB : Option Nat) (n : Nat) (VB' : Option Nat) (n' : Nat) : Prop where
  le : n ≤ n'
  same : VB' = VB ∨ ∃ b, VB' = some b ∧ w.heap.size ≤ b
section
variable {w w1 w2 : World} {C co n n1 n2 cap : Nat} {VB VB1 VB2 : Option Nat}
theorem Grew.refl (w : World) (VB : Option Nat) (n : Nat) : Grew w VB n VB n := ⟨Nat.le_refl _, .inl rfl⟩
theorem Grew.trans (h : Grew w VB n VB1 n1) (k : Grew w1 VB1 n1 VB2 n2) (hs : w.heap.size ≤ w1.heap.size) : Grew w VB n VB2 n2 := by
  refine ⟨Nat.le_trans h.le k.le, ?_⟩
  rcases k.same with e | ⟨b, e, hb⟩
  · rcases h.same with e2 | ⟨b, e2, hb⟩
    · exact .inl (e.trans e2)
    · exact .inr ⟨b, e.trans e2, hb⟩
  · exact .inr ⟨b, e, Nat.le_trans hs hb⟩
theorem Grew.sc (h : Grew w VB n VB1 n1) {x y : Nat} (hx : x < w.heap.size) (k : SC C co VB1 n1 x y) : SC C co VB n x y := by
  rcases k with k | ⟨k, hy⟩
  · exact .inl k
  · refine .inr ?_
    have := h.le
    rcases h.same with e | ⟨b, e, hb⟩
    · exact ⟨e ▸ k, by omega⟩
    · rw [e] at k; cases k; omega
theorem Cache.alt (h : Cache w C co VB n cap) {S : Nat → Nat → Prop} (k : AltC w w1 S) (h1 : ¬ S C co) (h2 : ∀ b y, VB = some b → ¬ S b y) : Cache w1 C co VB n cap :=
  ⟨h.fld.alt k h1, h.le, h.nil, h.ne, fun b hb => Nat.lt_of_lt_of_le (h.lt b hb) k.size, fun b hb j hj => by
    obtain ⟨v, hv⟩ := h.old b hb j hj
    exact ⟨v, hv.alt k (h2 b j hb)⟩, fun b hb i hi hc => (h.spare b hb i hi hc).alt k (fun y _ _ => h2 b y hb)⟩
/-- The cells of what a call has made. -/
def RegN (w w1 : World) (C co : Nat) (VB : Option Nat) (n : Nat) (VB1 : Option Nat) (n1 : Nat) (x y : Nat) : Prop :=
  x < w1.heap.size ∧ ¬ SC C co VB1 n1 x y ∧ (w.heap.size ≤ x ∨ SC C co VB n x y)
theorem RegN.later (h : Grew w1 VB1 n1 VB2 n2) (hs : w1.heap.size ≤ w2.heap.size) {x y : Nat} (k : RegN w w1 C co VB n VB1 n1 x y) : RegN w w2 C co VB n VB2 n2 x y :=
  ⟨Nat.lt_of_lt_of_le k.1 hs, fun e => k.2.1 (h.sc k.1 e), k.2.2⟩
theorem RegN.earlier (h : Grew w VB n VB1 n1) (hs : w.heap.size ≤ w1.heap.size) {x y : Nat} (k : RegN w1 w2 C co VB1 n1 VB2 n2 x y) : RegN w w2 C co VB n VB2 n2 x y := by
  refine ⟨k.1, k.2.1, ?_⟩
  rcases Nat.lt_or_ge x w.heap.size with hx | hx
  · rcases k.2.2 with h2 | h2
    · omega
    · exact .inr (h.sc hx h2)
  · exact .inl hx
end
/-- A cell that lies in a region, and may be written. -/
def Cel (w : World) (F : Nat → Nat → Prop) (b o : Nat) (v : Value) : Prop := F b o ∧ Slot w b o v
def RdF (w : World) (F : Nat → Nat → Prop) (A : Option Addr) (vs : List Value) : Prop := ∀ i v, vs[i]? = some v → ∃ b o, A = some ⟨b, o, none⟩ ∧ Cel w F b (o + i) v
def ptr (p : Nat × Nat) : Value := .pointer (some ⟨p.1, p.2, none⟩)
def kvC (k : Bs) (p : Nat × Nat) : List Value := [.string (bs k), ptr p]
/-- A value that was parsed, in memory: all its cells lie in the region F. Of an object the values lie apart from each other, from its own cells and from the names' row. -/
inductive Rep (w : World) : (Nat → Nat → Prop) → JV → Nat → Nat → Prop
  | lit {F : Nat → Nat → Prop} {b o t : Nat} : Cel w F b (o + 4) (.int .i64 t) → Rep w F (.lit t) b o
  | num {F : Nat → Nat → Prop} {b o : Nat} {s : Bs} : Cel w F b (o + 3) (.string (bs s)) → Cel w F b (o + 4) (.int .i64 4) → Rep w F (.num s) b o
  | str {F : Nat → Nat → Prop} {b o : Nat} {s : Bs} : Cel w F b (o + 3) (.string (bs s)) → Cel w F b (o + 4) (.int .i64 7) → Rep w F (.str s) b o
  | arr {F : Nat → Nat → Prop} {b o : Nat} {l : List JV} (A : Option Addr) (c : Nat) (ad : Nat → Nat × Nat) : Cel w F b (o + 2) (.slice A l.length c) → l.length ≤ c → Cel w F b (o + 4) (.int .i64 2) → RdF w F A ((List.range l.length).map fun i => ptr (ad i)) →
      (∀ i (h : i < l.length), Rep w F l[i] (ad i).1 (ad i).2) → Rep w F (.arr l) b o
  | obj {F : Nat → Nat → Prop} {b o : Nat} {l : List (Bs × JV)} (K : Option Nat) (c : Nat) (ad : Nat → Nat × Nat) (G : Nat → Nat → Nat → Prop) : Cel w F b o (.slice (K.map fun k => ⟨k, 0, none⟩) l.length c) → l.length ≤ c → Cel w F b (o + 1) (.bool false) → Cel w F b (o + 4) (.int .i64 1) →
      (∀ k, K = some k → k ≠ b) → (∀ i (h : i < l.length), ∃ k, K = some k ∧ Cel w F k (2 * i) (.string (bs l[i].1)) ∧ Cel w F k (2 * i + 1) (ptr (ad i))) →
      (∀ i x y, i < l.length → G i x y → F x y ∧ K ≠ some x ∧ ¬ (x = b ∧ o ≤ y ∧ y < o + 5)) → (∀ i j x y, i < l.length → j < l.length → G i x y → G j x y → i = j) →
      (∀ i (h : i < l.length), Rep w (G i) l[i].2 (ad i).1 (ad i).2) → Rep w F (.obj l) b o
section
variable {w w1 : World} {S F F1 : Nat → Nat → Prop}
theorem Cel.alt {b o : Nat} {v : Value} (h : Cel w F b o v) (k : AltC w w1 S) (hn : ∀ x y, F x y → ¬ S x y) : Cel w1 F b o v := ⟨h.1, h.2.alt k (hn _ _ h.1)⟩
theorem Cel.mono {b o : Nat} {v : Value} (h : Cel w F b o v) (hn : ∀ x y, F x y → F1 x y) : Cel w F1 b o v := ⟨hn _ _ h.1, h.2⟩
theorem RdF.rd {A : Option Addr} {vs : List Value} (h : RdF w F A vs) : Rd w A vs := fun i v hv => by
  obtain ⟨b, o, e, h1⟩ := h i v hv
  exact ⟨b, o, e, h1.2.lt, h1.2.1⟩
theorem RdF.alt {A : Option Addr} {vs : List Value} (h : RdF w F A vs) (k : AltC w w1 S) (hn : ∀ x y, F x y → ¬ S x y) : RdF w1 F A vs := fun i v hv => by
  obtain ⟨b, o, e, hc⟩ := h i v hv
  exact ⟨b, o, e, hc.alt k hn⟩
theorem RdF.mono {A : Option Addr} {vs : List Value} (h : RdF w F A vs) (hn : ∀ x y, F x y → F1 x y) : RdF w F1 A vs := fun i v hv => by
  obtain ⟨b, o, e, hc⟩ := h i v hv
  exact ⟨b, o, e, hc.mono hn⟩
theorem Rep.alt {v : JV} {b o : Nat} (h : Rep w F v b o) (k : AltC w w1 S) (hn : ∀ x y, F x y → ¬ S x y) : Rep w1 F v b o := by
  induction h with
  | lit h1 => exact .lit (h1.alt k hn)
  | num h1 h2 => exact .num (h1.alt k hn) (h2.alt k hn)
  | str h1 h2 => exact .str (h1.alt k hn) (h2.alt k hn)
  | arr A c ad h1 h2 h3 h4 _ ih => exact .arr A c ad (h1.alt k hn) h2 (h3.alt k hn) (h4.alt k hn) (fun i hi => ih i hi hn)
  | obj K c ad G h1 h2 h3 h4 h5 h6 h7 h8 _ ih =>
    refine .obj K c ad G (h1.alt k hn) h2 (h3.alt k hn) (h4.alt k hn) h5 ?_ h7 h8 (fun i hi => ih i hi (fun x y hg => hn x y (h7 i x y hi hg).1))
    intro i hi
    obtain ⟨q, e, hc, hd⟩ := h6 i hi
    exact ⟨q, e, hc.alt k hn, hd.alt k hn⟩
theorem Rep.mono {v : JV} {b o : Nat} (h : Rep w F v b o) (hn : ∀ x y, F x y → F1 x y) : Rep w F1 v b o := by
  induction h generalizing F1 with
  | lit h1 => exact .lit (h1.mono hn)
  | num h1 h2 => exact .num (h1.mono hn) (h2.mono hn)
  | str h1 h2 => exact .str (h1.mono hn) (h2.mono hn)
  | arr A c ad h1 h2 h3 h4 _ ih => exact .arr A c ad (h1.mono hn) h2 (h3.mono hn) (h4.mono hn) (fun i hi => ih i hi hn)
  | obj K c ad G h1 h2 h3 h4 h5 h6 h7 h8 h9 ih =>
    refine .obj K c ad G (h1.mono hn) h2 (h3.mono hn) (h4.mono hn) h5 ?_ ?_ h8 h9
    · intro i hi
      obtain ⟨q, e, hc, hd⟩ := h6 i hi
      exact ⟨q, e, hc.mono hn, hd.mono hn⟩
    · intro i x y hi hg
      have := h7 i x y hi hg
      exact ⟨hn _ _ this.1, this.2⟩
end
theorem zero_get (z : Array Value) (m i k : Nat) (hk : k < z.size) (hi : i < m) : (Builtin.zeroCells z m).toList[z.size * i + k]? = some z[k] := by
  have h1 : z.size * i + k < m * z.size := by
    have h2 : z.size * (i + 1) ≤ z.size * m := Nat.mul_le_mul_left _ hi
    rw [Nat.mul_comm m, Nat.mul_add] at *
    omega
  unfold Builtin.zeroCells
  rw [Array.getElem?_toList, Array.getElem?_map, Array.getElem?_range, if_pos h1, Option.map_some]
  congr 1
  rw [Nat.mul_add_mod, Nat.mod_eq_of_lt hk, getElem!_pos z k hk]
section
variable {P : Program}
/-- append of one to a slice that is full: a new block. -/
theorem run_grow_k {W : World} {t ty e : TypeId} {i : TypeInfo} {z : Value} (ht : P.underlying t = some (.slice e)) (hi : P.info? e = some i) (hz0 : i.zero = some z) (A : Option Addr) (n : Nat) (olds : List Value) (hol : olds.length = n * i.size)
    (hrd : ∀ j v, olds[j]? = some v → ∃ b, A = some ⟨b, 0, none⟩ ∧ W.cell? ⟨b, j, none⟩ = some v) (hnil : A = none → n = 0) (g c : Nat) (news : List Value) (hnl : news.length = i.size) (hR : Row W g e news) (h1 : ∀ u ∈ news, u.oneCell' = true) (hlen : (n + 1) * i.bytes ≤ 140737488355328) (hn : n ≤ 1000000000000) :
    ∃ cap w1, n + 1 ≤ cap ∧ (Builtin.append_ #[t, t] ty #[.slice A n n, .slice (some ⟨g, 0, none⟩) 1 c]).run P W = .ok (.slice (some ⟨W.heap.size, 0, none⟩) (n + 1) cap) w1 ∧ Row w1 W.heap.size e (olds ++ news ++ (Builtin.zeroCells z.cells (cap - (n + 1))).toList) ∧ Below W.heap.size W w1 ∧ w1.heap.size = W.heap.size + 1 := by
  have hs : Src P i.size t (.slice (some ⟨g, 0, none⟩) 1 c) 1 news W := Src.ofSlice W ht ⟨g, 0, none⟩ 1 c news (by omega) (fun j u hj => by rw [addr_add, Nat.zero_add, hR.cell, hj]) h1
  have hold : (Builtin.firstCells i.size n (.slice A n n)).run P W.drew = .ok olds.toArray W.drew := by
    cases A with
    | none =>
      have : olds = [] := List.eq_nil_of_length_eq_zero (by rw [hol, hnil rfl, Nat.zero_mul])
      subst this
      exact run_firstCells_none W.drew i.size n n n
    | some ad => exact run_firstCells_some W.drew i.size n ad n n olds hol (fun j u hj => by
        obtain ⟨b, e, hc⟩ := hrd j u hj
        cases e
        rw [addr_add, Nat.zero_add]; exact hc)
  have hr := run_append_grow_src (P := P) W t t ty e i z ht hi hz0 A n n olds hold (.slice (some ⟨g, 0, none⟩) 1 c) 1 news hs (by omega) (by omega) (growslice_fits (by omega) hlen)
  refine ⟨_, _, grownCap_ge W (n + 1) n e, hr, ?_, (below_drewN0 (Below.refl _ _) 1).trans (below_alloc0 W.drew _), by simp⟩
  have := Row.new W.drew e (olds ++ news ++ (Builtin.zeroCells z.cells (grownCap W (n + 1) n e - (n + 1))).toList)
  have e2 : ((olds ++ news).toArray ++ Builtin.zeroCells z.cells (grownCap W (n + 1) n e - (n + 1))) = (olds ++ news ++ (Builtin.zeroCells z.cells (grownCap W (n + 1) n e - (n + 1))).toList).toArray := by
    apply Array.ext'; simp
  rw [e2]; exact this
end
end Go.Proofs.YtbdmdajbdmdknaaDoor
