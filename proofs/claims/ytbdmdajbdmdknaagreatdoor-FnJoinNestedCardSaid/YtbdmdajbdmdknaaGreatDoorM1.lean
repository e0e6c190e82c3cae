/- Words that all proofs of this seat use: rows of memory, slices that are read, rows of a call's own. Nothing here speaks of the program. Bytes that are copied, compared, and read as a number. A region whose order is open, by what each operation yields: each operation is shown once, whatever came up before it. A region whose order is open: operations that read, and calls that leave a world of a class, ahead of a tail that waits for all of them. -/
import Derived.WalkKit
import Derived.KernelRfl
import Derived.Deep.QuietTactic
import Derived.BigQuiet
import Derived.Handy
import Derived.Outline
import Derived.RegionTactic
import Derived.ChangeAlike
import Derived.BigRegion
import Derived.OwnWalk
import Derived.Laws.BytesArg
import Derived.Laws.CopyOwn
import Derived.Laws.MakeOwn
import Derived.Laws.OwnMore
import Derived.Maps.AppendAt
import Derived.Deep.RegionLaw
import Derived.Deep.LoopGhost
import Derived.Deep.RegionHeld3
import Derived.Deep.MidRow
import Derived.WalkSpells
import Derived.Test.YtbdmdajbdmdknaaGreatDoorProg
import Derived.Lib.Bytes
import Derived.Orders
import Derived.StillTail
import Derived.Deep.Quiet
namespace Go.Proofs.YtbdmdajbdmdknaaGreatDoor
open Go.RowKit
set_option linter.unusedVariables false
set_option linter.unusedSimpArgs false

theorem hidden {p : Prop} (h : p) : Hid p := h
/-- A list of numbers, read at a place; the walk leaves it as it is. -/
def gi (l : List Int) (i : Nat) : Int := l.getD i 0
def IsB (l : List Int) : Prop := ∀ x ∈ l, 0 ≤ x ∧ x < 256
def nums (k : IntKind) (l : List Int) : List Value := l.map (Value.int k)
theorem nums_len (k : IntKind) (l : List Int) : (nums k l).length = l.length := List.length_map ..
theorem nums_at (k : IntKind) (l : List Int) (i : Nat) (hi : i < l.length) : (nums k l)[i]? = some (.int k (gi l i)) := by
  simp [nums, gi, List.getD_eq_getElem?_getD, hi]
theorem nums_one (k : IntKind) (l : List Int) : ∀ u ∈ nums k l, u.oneCell' = true := by
  intro u hu
  obtain ⟨x, _, rfl⟩ := List.mem_map.1 hu
  rfl
theorem nums_app (k : IntKind) (a b : List Int) : nums k (a ++ b) = nums k a ++ nums k b := List.map_append ..
theorem gi_set (l : List Int) (i j : Nat) (v : Int) (hi : i < l.length) : gi (l.set i v) j = if j = i then v else gi l j := by
  unfold gi; rw [List.getD_eq_getElem?_getD, List.getD_eq_getElem?_getD, List.getElem?_set]
  by_cases h : i = j
  · subst h; simp [hi]
  · rw [if_neg h, if_neg (fun e => h e.symm)]
theorem gi_mem {l : List Int} {i : Nat} (h : i < l.length) : gi l i ∈ l := by
  simp [gi, List.getD_eq_getElem?_getD, h]
theorem gi_byte {l : List Int} (hb : IsB l) (i : Nat) : 0 ≤ gi l i ∧ gi l i < 256 := by
  by_cases h : i < l.length
  · exact hb _ (gi_mem h)
  · simp [gi, List.getD_eq_getElem?_getD, List.getElem?_eq_none (Nat.le_of_not_lt h)]
theorem gi_ext {a b : List Int} (hl : a.length = b.length) (h : ∀ i, i < a.length → gi a i = gi b i) : a = b := by
  apply List.ext_getElem hl
  intro i h1 h2
  have := h i h1
  simpa [gi, List.getD_eq_getElem?_getD, h1, h2] using this
theorem gi_app1 {a : List Int} (b : List Int) {i : Nat} (h : i < a.length) : gi (a ++ b) i = gi a i := by
  simp [gi, List.getD_eq_getElem?_getD, List.getElem?_append_left h]
theorem gi_app2 {a b : List Int} {i : Nat} (h : a.length ≤ i) : gi (a ++ b) i = gi b (i - a.length) := by
  simp [gi, List.getD_eq_getElem?_getD, List.getElem?_append_right h]
theorem gi_drop (l : List Int) (m i : Nat) : gi (l.drop m) i = gi l (m + i) := by
  simp [gi, List.getD_eq_getElem?_getD, List.getElem?_drop]
theorem gi_take (l : List Int) {m i : Nat} (h : i < m) : gi (l.take m) i = gi l i := by
  simp [gi, List.getD_eq_getElem?_getD, h]
theorem take_gi (l : List Int) {k : Nat} (h : k < l.length) : l.take (k + 1) = l.take k ++ [gi l k] := by
  rw [List.take_succ_eq_append_getElem h]; simp [gi, List.getD_eq_getElem?_getD, h]

/-! A block that is known whole. -/
def Row (w : World) (g t : Nat) (vs : List Value) : Prop := w.heap[g]? = some (.cells vs.toArray t (0, 0))
section
variable {w w1 : World} {g t : Nat} {vs : List Value}
theorem Row.cell (h : Row w g t vs) (i : Nat) : w.cell? ⟨g, i, none⟩ = vs[i]? := by
  unfold Row at h; simp [World.cell?, h]
theorem Row.free (h : Row w g t vs) (i : Nat) : w.frozen? ⟨g, i, none⟩ = false := by
  unfold Row at h; simp [World.frozen?, h]
theorem Row.lt (h : Row w g t vs) : g < w.heap.size := (Array.getElem?_eq_some_iff.1 h).1
theorem Row.new (w : World) (t : Nat) (vs : List Value) : Row (w.alloc (.cells vs.toArray t)) w.heap.size t vs := heap_alloc_new w _
theorem Row.set (h : Row w g t vs) (i : Nat) (v : Value) : Row (w.setCell ⟨g, i, none⟩ v) g t (vs.set i v) := by
  unfold Row at h ⊢
  show (w.heap.modify g _)[g]? = _
  rw [Array.getElem?_modify, if_pos rfl, h]
  simp
theorem Row.far (h : Row w g t vs) {a : Addr} (ha : a.block ≠ g) (v : Value) : Row (w.setCell a v) g t vs :=
  (Below.heap_setCell w a v g (fun e => ha e.symm)).trans h
theorem Row.alloc (h : Row w g t vs) (o : Obj) : Row (w.alloc o) g t vs := (Below.heap_alloc w o g h.lt).trans h
theorem Row.below {B : Nat} (h : Row w g t vs) (hb : Below B w w1) (hg : g < B) : Row w1 g t vs := (hb.block g hg).trans h
theorem Row.drewN (h : Row w g t vs) (n : Nat) : Row (w.drewN n) g t vs := h
theorem Row.drew (h : Row w g t vs) : Row w.drew g t vs := h
theorem Row.grown (h : Row w g t vs) {r : Option Nat} (hg : w.grownBy w1 r) (hne : some g ≠ r) : Row w1 g t vs := (hg.block g h.lt hne).trans h
end
theorem Row.range {w : World} {g t : Nat} {vs : List Value} (h : Row w g t vs) : w.rangeAt g 0 vs := fun j v hv => by rw [Nat.zero_add, h.cell, hv]
theorem Row.there {w : World} {g t : Nat} {vs : List Value} (h : Row w g t vs) (n : Nat) (hn : n ≤ vs.length) : w.there g 0 n := fun j hj => by
  rw [Nat.zero_add]
  exact ⟨by rw [h.cell, List.getElem?_eq_getElem (by omega)]; rfl, h.free j⟩
theorem Row.icell {k : IntKind} {w : World} {g t : Nat} {l : List Int} (h : Row w g t (nums k l)) (i : Nat) (hi : i < l.length) : w.cell? ⟨g, i, none⟩ = some (.int k (gi l i)) :=
  (h.cell i).trans (nums_at k l i hi)
theorem Row.iset {k : IntKind} {w : World} {g t : Nat} {l : List Int} (h : Row w g t (nums k l)) (i : Nat) (v : Int) : Row (w.setCell ⟨g, i, none⟩ (.int k v)) g t (nums k (l.set i v)) := by
  have := h.set i (.int k v); rwa [nums, ← List.map_set] at this

/-! What is kept. -/
theorem below_alloc0 (w : World) (o : Obj) : Below w.heap.size w (w.alloc o) := (Below.refl _ _).alloc (Nat.le_refl _) o
theorem below_drewN0 {B : Nat} {w W : World} (h : Below B w W) (n : Nat) : Below B w (W.drewN n) := ⟨h.os, h.tape, h.output, h.size, h.block⟩
theorem below_then {B : Nat} {w w1 w2 : World} (h : Below B w w1) (hB : B ≤ w1.heap.size) (k : Below w1.heap.size w1 w2) : Below B w w2 := h.trans (k.mono hB)
theorem below_next {w w1 w2 : World} (h : Below w.heap.size w w1) (k : Below w1.heap.size w1 w2) : Below w.heap.size w w2 := h.trans (k.mono h.size)
theorem grown_below {B : Nat} {w w1 : World} (h : Below w.heap.size w w1) (r : Option Nat) : w.grownBy w1 r := ⟨h.os, h.tape, h.output, h.size, fun i hi _ => h.block i hi⟩
theorem cell_next {w1 w2 : World} {a : Addr} {v : Value} (hb : Below w1.heap.size w1 w2) (hc : w1.cell? a = some v) : w2.cell? a = some v := (hb.cell (World.block_lt_of_cell? w1 a hc)).trans hc
theorem range_next {w1 w2 : World} {b o : Nat} {cs : List Value} (hb : Below w1.heap.size w1 w2) (hc : w1.rangeAt b o cs) : w2.rangeAt b o cs := fun j v hv => cell_next hb (hc j v hv)
theorem there_next {w1 w2 : World} {b o n : Nat} (hb : Below w1.heap.size w1 w2) (hc : w1.there b o n) : w2.there b o n := fun j hj => by
  have h1 := (hc j hj).1
  obtain ⟨v, hv⟩ := Option.isSome_iff_exists.1 h1
  exact ⟨by rw [cell_next hb hv]; rfl, (hb.frozen (p := ⟨b, o + j, none⟩) (World.block_lt_of_cell? w1 _ hv)).trans (hc j hj).2⟩
/-- The world under a name, of which some things are known. -/
theorem wpAbs {P : Program} {c : Code} {Q : Exit → Act → World → Prop} {a : Act} {w : World} (I : World → Prop) (hI : I w) (h : ∀ W, I W → c.wp P Q a W) : c.wp P Q a w := h w hI
/-- A guard for an arm of the walk: the next operation writes slot 't'. -/
theorem at_dst (t : Nat) {P : Program} {ops : Array Oper} {rest : List Oper} {Q : Exit → Act → World → Prop} {a : Act} {w : World} {op ty pos after g} (h : wpList P ops Q (⟨some t, op, ty, pos, after, g⟩ :: rest) a w) : wpList P ops Q (⟨some t, op, ty, pos, after, g⟩ :: rest) a w := h
theorem wpAbsL {P : Program} {ops rest} {Q : Exit → Act → World → Prop} {a : Act} {w : World} (I : World → Prop) (hI : I w) (h : ∀ W, I W → wpList P ops Q rest a W) : wpList P ops Q rest a w := h w hI

theorem grown_set (w : World) (g i : Nat) (v : Value) : w.grownBy (w.setCell ⟨g, i, none⟩ v) (some g) :=
  ⟨rfl, rfl, rfl, by simp, fun k hk hne => Below.heap_setCell w _ v k (fun e => hne (by rw [e]))⟩
/-! A slice's cells, read. -/
def Rd (w : World) (A : Option Addr) (vs : List Value) : Prop := ∀ i v, vs[i]? = some v → ∃ b o, A = some ⟨b, o, none⟩ ∧ b < w.heap.size ∧ w.cell? ⟨b, o + i, none⟩ = some v
section
variable {w w1 : World} {A : Option Addr} {vs : List Value}
theorem Rd.nil (w : World) (A : Option Addr) : Rd w A [] := fun i v h => by simp at h
theorem Rd.below {B : Nat} (h : Rd w A vs) (hb : Below B w w1) (hB : w.heap.size ≤ B) : Rd w1 A vs := by
  intro i v hv
  obtain ⟨b, o, rfl, hlt, hc⟩ := h i v hv
  exact ⟨b, o, rfl, Nat.lt_of_lt_of_le hlt hb.size, (hb.cell (p := ⟨b, o + i, none⟩) (Nat.lt_of_lt_of_le hlt hB)).trans hc⟩
theorem Rd.drewN (h : Rd w A vs) (n : Nat) : Rd (w.drewN n) A vs := h
theorem Rd.drewOne (h : Rd w A vs) : Rd w.drew A vs := h
theorem Rd.alloc (h : Rd w A vs) (o : Obj) : Rd (w.alloc o) A vs := h.below (below_alloc0 w o) (Nat.le_refl _)
theorem Rd.pos (h : Rd w A vs) (h0 : 0 < vs.length) : ∃ b o, A = some ⟨b, o, none⟩ ∧ b < w.heap.size ∧ ∀ i v, vs[i]? = some v → w.cell? ⟨b, o + i, none⟩ = some v := by
  obtain ⟨b, o, rfl, hlt, _⟩ := h 0 _ (List.getElem?_eq_getElem h0)
  refine ⟨b, o, rfl, hlt, fun i v hv => ?_⟩
  obtain ⟨b', o', e, _, hc⟩ := h i v hv
  cases e; exact hc
theorem Rd.take (h : Rd w A vs) (m : Nat) : Rd w A (vs.take m) := fun i v hv => h i v (by
  rw [List.getElem?_take] at hv; split at hv
  · exact hv
  · cases hv)
theorem Rd.left {xs ys : List Value} (h : Rd w A (xs ++ ys)) : Rd w A xs := by simpa using h.take xs.length
theorem addr_add (b o m : Nat) : (⟨b, o, none⟩ : Addr).add m = ⟨b, o + m, none⟩ := by unfold Addr.add; split <;> simp_all
theorem Rd.drop (h : Rd w A vs) (m c : Nat) (hc : vs.length ≤ c) : Rd w (if c = m then A else A.map (·.add m)) (vs.drop m) := by
  intro i v hv
  rw [List.getElem?_drop] at hv
  have hlt := (List.getElem?_eq_some_iff.1 hv).1
  obtain ⟨b, o, rfl, hl, hcell⟩ := h (m + i) v hv
  rw [if_neg (by omega)]
  exact ⟨b, o + m, by simp [addr_add], hl, by rw [← hcell, Nat.add_assoc]⟩
theorem Rd.of_row {g t : Nat} {L : List Value} (h : Row w g t L) (o n : Nat) (hn : ∀ i, i < vs.length → L[o + i]? = vs[i]?) : Rd w (some ⟨g, o, none⟩) vs := by
  intro i v hv
  have hlt := (List.getElem?_eq_some_iff.1 hv).1
  exact ⟨g, o, rfl, h.lt, by rw [h.cell, hn i hlt, hv]⟩
theorem Rd.row {g t : Nat} (h : Row w g t vs) : Rd w (some ⟨g, 0, none⟩) vs := Rd.of_row h 0 0 (fun i _ => by rw [Nat.zero_add])
end
theorem Rd.new (w : World) (t : Nat) (vs : List Value) (k : Nat) (h : k = w.heap.size) : Rd (w.alloc (.cells vs.toArray t)) (some ⟨k, 0, none⟩) vs := h ▸ Rd.row (Row.new w t vs)
theorem Rd.at {k : IntKind} {w : World} {A : Option Addr} {l : List Int} (h : Rd w A (nums k l)) (i : Nat) (hi : i < l.length) : ∃ b o, A = some ⟨b, o, none⟩ ∧ b < w.heap.size ∧ w.cell? ⟨b, o + i, none⟩ = some (.int k (gi l i)) :=
  h i _ (nums_at k l i hi)
theorem Rd.all {k : IntKind} {w : World} {A : Option Addr} {l : List Int} (h : Rd w A (nums k l)) (h0 : 0 < l.length) : ∃ b o, A = some ⟨b, o, none⟩ ∧ b < w.heap.size ∧ ∀ i, i < l.length → w.cell? ⟨b, o + i, none⟩ = some (.int k (gi l i)) := by
  obtain ⟨b, o, rfl, hlt, hc⟩ := Rd.pos h (by rw [nums_len]; exact h0)
  exact ⟨b, o, rfl, hlt, fun i hi => hc i _ (nums_at k l i hi)⟩

/-! A row of the call's own, one cell an element. -/
def Own (w : World) (base e : Nat) (v : Value) (vs : List Value) : Prop := w.ownsRow base e 1 v vs.length vs
section
variable {w w1 : World} {base e : Nat} {v : Value} {vs : List Value}
theorem Own.nil (w : World) (base e : Nat) : Own w base e (.slice none 0 0) [] := ⟨by simp, .inl ⟨rfl, rfl⟩⟩
theorem Own.read (h : Own w base e v vs) : ∃ A c, v = .slice A vs.length c ∧ vs.length ≤ c ∧ Rd w A vs ∧ (A = none → c = 0) := by
  rcases h.2 with ⟨rfl, h0⟩ | ⟨g, cap, cur, rfl, hb, hg, hn, hm, hs, ht⟩
  · obtain rfl : vs = [] := List.eq_nil_of_length_eq_zero h0
    exact ⟨none, 0, rfl, Nat.le_refl _, Rd.nil _ _, fun _ => rfl⟩
  · refine ⟨_, cap, rfl, hn, ?_, fun h => by cases h⟩
    refine Rd.of_row (t := e) (L := cur.toList) (by simpa [Row] using hg) 0 0 (fun i hi => ?_)
    rw [Nat.mul_one] at ht
    rw [Nat.zero_add]; conv => rhs; rw [← ht, List.getElem?_take, if_pos hi]
theorem Own.kept (h : Own w base e v vs) {r : Option Nat} (hg : w.grownBy w1 r) (hne : v.ownBlock = none ∨ v.ownBlock ≠ r) : Own w1 base e v vs := World.ownsRow.kept h hg hne
theorem Own.below (h : Own w base e v vs) (hb : Below w.heap.size w w1) : Own w1 base e v vs := h.kept (grown_below (B := 0) hb none) (by cases v.ownBlock <;> simp)
theorem Own.alloc (h : Own w base e v vs) (o : Obj) : Own (w.alloc o) base e v vs := World.ownsRow.alloc h o
theorem Own.drewN (h : Own w base e v vs) (n : Nat) : Own (w.drewN n) base e v vs := h
theorem Own.drew (h : Own w base e v vs) : Own w.drew base e v vs := h
theorem Own.lower {b' : Nat} (h : Own w base e v vs) (hb : b' ≤ base) : Own w b' e v vs := by
  refine ⟨h.1, ?_⟩
  rcases h.2 with h2 | ⟨g, cap, cur, hv, hg, r⟩
  · exact .inl h2
  · exact .inr ⟨g, cap, cur, hv, Nat.le_trans hb hg, r⟩
theorem Own.of_row {g t c : Nat} {rest : List Value} (h : Row w g t (vs ++ rest)) (hb : base ≤ g) (hc : c = vs.length + rest.length) (hm : c ≤ maxLen) : Own w base t (.slice (some ⟨g, 0, none⟩) vs.length c) vs := by
  refine ⟨by simp, .inr ⟨g, c, (vs ++ rest).toArray, rfl, hb, h, by omega, hm, by simp [hc], ?_⟩⟩
  simp
theorem Own.lt (h : Own w base e v vs) : ∀ k, v.ownBlock = some k → base ≤ k ∧ k < w.heap.size := World.ownsRow.lt h
end
theorem Own.block {w : World} {base e : Nat} {v : Value} {vs : List Value} (h : Own w base e v vs) : (v = .slice none 0 0 ∧ vs = []) ∨ ∃ g rest, v = .slice (some ⟨g, 0, none⟩) vs.length (vs.length + rest.length) ∧ base ≤ g ∧ Row w g e (vs ++ rest) ∧ vs.length + rest.length ≤ maxLen := by
  rcases h.2 with ⟨rfl, h0⟩ | ⟨g, cap, cur, rfl, hb, hg, hn, hm, hs, ht⟩
  · exact .inl ⟨rfl, List.eq_nil_of_length_eq_zero h0⟩
  · rw [Nat.mul_one] at ht hs
    have hr : cur.toList = vs ++ cur.toList.drop vs.length := by
      conv => lhs; rw [← List.take_append_drop vs.length cur.toList, ht]
    have hl : vs.length + (cur.toList.drop vs.length).length = cap := by have := @Array.length_toList _ cur; rw [List.length_drop]; omega
    generalize cur.toList.drop vs.length = rest at hr hl
    refine .inr ⟨g, rest, by rw [hl], hb, ?_, by rw [hl]; exact hm⟩
    unfold Row; rw [← hr]; simpa using hg

section
variable {P : Program}
/-- append onto a row of one's own, of a slice that is read (nil too). -/
theorem run_app {W : World} {base t ty e bytes : Nat} {z : Value} (ht : P.underlying t = some (.slice e)) (hinfo : (P.info? e).map (fun i => (i.zero, i.size, i.bytes)) = some (some z, 1, bytes)) (hz : z.cells.size = 1) (hb0 : 0 < bytes)
    {v : Value} {vs ys : List Value} {A : Option Addr} {m c : Nat} (HO : Own W base e v vs) (HR : Rd W A ys) (hm : ys.length = m) (h1 : ∀ u ∈ ys, u.oneCell' = true) (hbase : base ≤ W.heap.size) (hl : (vs.length + ys.length) * bytes ≤ 140737488355328) :
    ∃ v1 w1, (Builtin.append_ #[t, t] ty #[v, .slice A m c]).run P W = .ok v1 w1 ∧ Own w1 base e v1 (vs ++ ys) ∧ W.grownBy w1 v.ownBlock ∧ (v1.ownBlock = v.ownBlock ∨ v1.ownBlock = some W.heap.size) := by
  subst hm
  obtain ⟨i0, hi, hzz⟩ := Option.map_eq_some_iff.1 hinfo
  simp only [Prod.mk.injEq] at hzz
  obtain ⟨hz0, hz1, hz2⟩ := hzz
  have hlen : vs.length + ys.length ≤ 140737488355328 := Nat.le_trans (Nat.le_mul_of_pos_right _ hb0) hl
  cases ys with
  | nil =>
    refine ⟨v, W, ?_, by simpa using HO, World.grownBy.refl W _, .inl rfl⟩
    rcases HO.2 with ⟨rfl, hn⟩ | ⟨g, cap, cur, rfl, _, _, hnc, _⟩
    · cases A <;> simp [Builtin.append_, run_underlying ht, sizeOf, typeInfo, hi, Builtin.lenOf, Builtin.firstCells, loadCells, loadCellsFrom]
    · cases A <;> simp [Builtin.append_, run_underlying ht, sizeOf, typeInfo, hi, Builtin.lenOf, Builtin.firstCells, hnc, storeCells, loadCells, loadCellsFrom]
  | cons y ys =>
    obtain ⟨b, o, rfl, hlt, hc⟩ := HR.pos (by simp)
    obtain ⟨v1, w1, hr, h2, h3, _, h5⟩ := run_append_own_at (P := P) W base t ty e i0 z 1 bytes ht hi hz0 hz1 hz2 hz (by omega) v vs.length vs HO ⟨b, o, none⟩ (y :: ys).length c (y :: ys) (by simp)
      (fun j u hu => by rw [addr_add]; exact hc j u hu) h1 (by simp only [maxLen]; omega) hl hbase
    refine ⟨v1, w1, hr, ?_, h3, h5⟩
    unfold Own
    rw [List.length_append]; exact h2
/-- The same, as one operation of the walk: behind 'at_builtin'. -/
theorem walk_app {ops : Array Oper} {rest : List Oper} {o : Oper} {a : Act} {Q : Exit → Act → World → Prop} {W : World} {base t e bytes : Nat} {z : Value} (hgd : o.guard = none) (s x : Operand)
    (ho : o.op = .call { callee := .builtin .append, args := #[s, x], argTypes := #[t, t] })
    (ht : P.underlying t = some (.slice e)) (hinfo : (P.info? e).map (fun i => (i.zero, i.size, i.bytes)) = some (some z, 1, bytes)) (hz : z.cells.size = 1) (hb0 : 0 < bytes)
    {v : Value} {vs ys : List Value} {A : Option Addr} {m c : Nat} (hs : a.eval s = v) (hx : a.eval x = .slice A m c) (HO : Own W base e v vs) (HR : Rd W A ys) (hm : ys.length = m) (h1 : ∀ u ∈ ys, u.oneCell' = true) (hbase : base ≤ W.heap.size) (hl : (vs.length + ys.length) * bytes ≤ 140737488355328)
    (h : ∀ v1 w1, Own w1 base e v1 (vs ++ ys) → W.grownBy w1 v.ownBlock → (v1.ownBlock = v.ownBlock ∨ v1.ownBlock = some W.heap.size) → wpList P ops Q rest (a.put o.dst v1) w1) :
    wpList P ops Q (o :: rest) a W := by
  obtain ⟨v1, w1, hrun, h2, h3, h5⟩ := run_app (P := P) (ty := o.type) (c := c) ht hinfo hz hb0 HO HR hm h1 hbase hl
  refine wpList_plain hgd fun K hK => ?_
  unfold Oper.wp execOp
  simp only [ho, resolve, invoke, builtin, Sem.run_bind, Sem.run_pure, Result.andThen_ok, List.map_toArray, List.map_cons, List.map_nil, hs, hx, hrun]
  exact hK _ _ (h v1 w1 h2 h3 h5)
theorem below_app {w0 W w1 : World} {B base e : Nat} {v : Value} {vs : List Value} (hb : Below B w0 W) (hg : W.grownBy w1 v.ownBlock) (HO : Own W base e v vs) (hB : B ≤ base) (hbase : base ≤ W.heap.size) : Below B w0 w1 :=
  hb.grown hg (Nat.le_trans hB hbase) (fun k hk => Nat.le_trans hB (HO.lt k hk).1)

/-- s[j:], elements of one cell. -/
theorem run_from {W : World} {t e : TypeId} (ht : P.underlying t = some (.slice e)) (hsz : (P.info? e).map (·.size) = some 1) (A : Option Addr) (len cap : Nat) (l : Int) (j : Nat) (hl : l = (j : Int)) (hj : j ≤ len) (hc : len ≤ cap) :
    (Instr.slice t (.slice A len cap) (some (.int .i64 l)) none none).run P W = .ok (.slice (if cap = j then A else A.map (·.add j)) (len - j) (cap - j)) W := by
  subst hl
  obtain ⟨i0, hi, hs⟩ := Option.map_eq_some_iff.1 hsz
  simp [Instr.slice, run_underlying ht, Instr.sliceBounds, run_sliceBound, sizeOf, typeInfo, hi, hs, hj]
/-- s[:j]. -/
theorem run_upto {W : World} {t e : TypeId} (ht : P.underlying t = some (.slice e)) (hsz : (P.info? e).map (·.size) = some 1) (A : Option Addr) (len cap : Nat) (l : Int) (j : Nat) (hl : l = (j : Int)) (hc : j ≤ cap) :
    (Instr.slice t (.slice A len cap) none (some (.int .i64 l)) none).run P W = .ok (.slice A j cap) W := by
  subst hl
  obtain ⟨i0, hi, hs⟩ := Option.map_eq_some_iff.1 hsz
  cases A <;> simp [Instr.slice, run_underlying ht, Instr.sliceBounds, run_sliceBound, sizeOf, typeInfo, hi, hs, hc, Addr.add]
/-- make([]T, n): a new block of n zeros. -/
theorem walk_make {ops : Array Oper} {rest : List Oper} {o : Oper} {a : Act} {Q : Exit → Act → World → Prop} {w : World} (hg : o.guard = none) (l c : Operand) {t e bytes : Nat} {z : Value} (hop : o.op = Op.makeSlice t l c)
    (ht : P.underlying t = some (.slice e)) (hinfo : (P.info? e).map (fun i => (i.zero, i.size, i.bytes)) = some (some z, 1, bytes)) (hz : z.cells = #[z]) {L C : Int} {n : Nat} (hl : a.eval l = .int .i64 L) (hc : a.eval c = .int .i64 C) (hL : L = (n : Int)) (hC : C = (n : Int))
    (hb : bytes * n ≤ 281474976710656) (hn : n ≤ 281474976710656) (h : wpList P ops Q rest (a.put o.dst (.slice (some ⟨w.heap.size, 0, none⟩) n n)) (w.alloc (.cells (List.replicate n z).toArray e))) : wpList P ops Q (o :: rest) a w := by
  refine wpList_plain hg fun K hK => ?_
  obtain ⟨i0, hi, hzz⟩ := Option.map_eq_some_iff.1 hinfo
  simp only [Prod.mk.injEq] at hzz
  obtain ⟨hz0, hz1, hz2⟩ := hzz
  have hb' : (i0.bytes : Int) * (n : Int) ≤ 281474976710656 := by
    have h : ((i0.bytes * n : Nat) : Int) ≤ 281474976710656 := by rw [hz2]; omega
    rwa [Int.natCast_mul] at h
  have hr := run_make (P := P) w t e i0 z ht hi hz0 .i64 .i64 n n (by omega) (Int.le_refl _) hb' (by omega)
  rw [hz1, hz] at hr
  simp only [Int.toNat_natCast, Nat.mul_one] at hr
  rw [show madeCells #[z] n = (List.replicate n z).toArray from by rw [← toList_madeCells_one]] at hr
  subst hL hC
  unfold Oper.wp execOp
  simp only [hop, hl, hc, hr, Sem.run_bind, Sem.run_pure, Result.andThen_ok]
  exact hK _ _ h

/-! A variable of several cells, read and written whole. -/
theorem walk_load_row {ops : Array Oper} {rest : List Oper} {o : Oper} {a : Act} {w : World} {Q : Exit → Act → World → Prop} (hgd : o.guard = none) (ty : TypeId) (x : Operand) (ho : o.op = .load ty x)
    {g t : Nat} {vs : List Value} (HR : Row w g t vs) (hx : a.eval x = .pointer (some ⟨g, 0, none⟩)) {d : TypeDesc} (hu : P.underlying ty = some d) (hd : (match d with | .struct _ | .array _ _ => true | _ => false) = true) (hi : (P.info? ty).map (·.size) = some vs.length)
    (h : wpList P ops Q rest (a.put o.dst (.agg vs.toArray)) w) : wpList P ops Q (o :: rest) a w :=
  wpList_load_row hgd ty x ho g hx t vs.toArray (0, 0) d HR hu hd (by simpa using hi) h
theorem walk_store_row {ops : Array Oper} {rest : List Oper} {o : Oper} {a : Act} {w : World} {Q : Exit → Act → World → Prop} (hgd : o.guard = none) (ty : TypeId) (x y : Operand) (ho : o.op = .store ty x y)
    {g t : Nat} {old vs : List Value} (HR : Row w g t old) (hx : a.eval x = .pointer (some ⟨g, 0, none⟩)) (hy : a.eval y = .agg vs.toArray) (hi : (P.info? ty).map (·.size) = some vs.length) (hl : old.length = vs.length) (h1 : ∀ v ∈ vs, v.oneCell' = true)
    (h : ∀ w1, Row w1 g t vs → w.grownBy w1 (some g) → wpList P ops Q rest (a.put o.dst undef) w1) : wpList P ops Q (o :: rest) a w := by
  refine wpList_store_row hgd ty x y ho g vs.toArray hx hy t old.toArray HR (by simpa using hi) (by simpa using hl) (by simpa using h1) (h _ ?_ ?_)
  · exact setRow_heap w g _ _ t _ HR
  · exact ⟨rfl, rfl, rfl, by simp, fun k hk hne => setRow_other w g k _ (fun e => hne (by rw [e]))⟩
theorem row_results {fn : Func} {p : Tmp} {ty : TypeId} (h : fn.results = #[.cell p ty]) (tmps : Array Value) {w : World} {g t : Nat} {vs : List Value} {d : TypeDesc}
    (hp : tmps.getD p undef = .pointer (some ⟨g, 0, none⟩)) (HR : Row w g t vs) (hu : P.underlying ty = some d) (hd : (match d with | .struct _ | .array _ _ => true | _ => false) = true) (hi : (P.info? ty).map (·.size) = some vs.length) :
    (results fn tmps).run P w = .ok (.agg vs.toArray) w := results_cell_row h tmps w g t vs.toArray (0, 0) d hp HR hu hd (by simpa using hi)

/-! copy onto a block that is known whole. -/
theorem splice_nums (k : IntKind) (L M : List Int) (off : Nat) : splice (nums k L) off (nums k M) = nums k (splice L off M) := by
  simp [splice, nums, List.map_take, List.map_drop]
theorem run_copy {w : World} {dT sT ty elem : Nat} (hu : P.underlying dT = some (.slice elem)) (hsz : (P.info? elem).map (·.size) = some 1) {k : IntKind} {L M : List Int} {g t off dLen dCap sLen sCap : Nat} {sp : Option Addr}
    (HR : Row w g t (nums k L)) (HS : Rd w sp (nums k M)) (hM : M.length = sLen) (hfit : off + dLen ≤ L.length) :
    ∃ w1, (Builtin.copy_ #[dT, sT] ty #[.slice (some ⟨g, off, none⟩) dLen dCap, .slice sp sLen sCap]).run P w = .ok (goInt ((Nat.min sLen dLen : Nat) : Int)) w1 ∧ Row w1 g t (nums k (splice L off (M.take dLen))) ∧ w.grownBy w1 (some g) ∧ w1.heap.size = w.heap.size := by
  subst hM
  by_cases h0 : Nat.min M.length dLen = 0
  · have hrun := run_copy_none (P := P) w dT sT ty elem (some ⟨g, off, none⟩) sp dLen dCap M.length sCap hu hsz h0
    refine ⟨w, by rw [h0]; exact hrun, ?_, World.grownBy.refl w _, rfl⟩
    have : M.take dLen = [] := by
      apply List.eq_nil_of_length_eq_zero; rw [List.length_take, Nat.min_comm]; exact h0
    rw [this]; simpa [splice] using HR
  · have hpos : 0 < M.length := by rcases Nat.eq_zero_or_pos M.length with h | h; exact absurd (by rw [h]; exact Nat.zero_min _) h0; exact h
    obtain ⟨b, o, rfl, _, hc⟩ := HS.all hpos
    have hcs : (nums k (M.take dLen)).length = Nat.min M.length dLen := by rw [nums_len, List.length_take, Nat.min_comm]
    have hle : Nat.min M.length dLen ≤ dLen := Nat.min_le_right _ _
    have hrun := run_copy_row (P := P) w dT sT ty elem g off dLen dCap ⟨b, o, none⟩ M.length sCap (nums k L).toArray t (nums k (M.take dLen)) hu hsz HR hcs
      (fun j v hv => by
        have hj : j < (M.take dLen).length := by rw [← nums_len k]; exact (List.getElem?_eq_some_iff.1 hv).1
        rw [nums_at _ _ _ hj] at hv
        have hj2 : j < M.length := by rw [List.length_take] at hj; omega
        rw [addr_add, hc j hj2, ← hv, gi_take _ (by rw [List.length_take] at hj; omega)])
      (by rw [hcs, List.size_toArray, nums_len]; omega) (nums_one _ _)
    rw [hcs] at hrun
    refine ⟨_, hrun, ?_, ⟨rfl, rfl, rfl, by simp, fun i hi hne => setRow_other w g i _ (fun e => hne (by rw [e]))⟩, by simp⟩
    have h2 := setRow_heap w g (nums k L).toArray ((nums k L).toArray.toList.take off ++ nums k (M.take dLen) ++ (nums k L).toArray.toList.drop (off + Nat.min M.length dLen)).toArray t (0, 0) HR
    rw [← splice_nums]
    unfold Row splice
    rw [hcs, ← List.append_assoc]; exact h2
theorem walk_copy {ops : Array Oper} {rest : List Oper} {o : Oper} {a : Act} {w : World} {Q : Exit → Act → World → Prop} (hgd : o.guard = none) (d s : Operand) {dT sT elem : Nat}
    (ho : o.op = .call { callee := .builtin .copy, args := #[d, s], argTypes := #[dT, sT] }) (hu : P.underlying dT = some (.slice elem)) (hsz : (P.info? elem).map (·.size) = some 1) {k : IntKind} {L M : List Int} {g t off dLen dCap sLen sCap : Nat} {sp : Option Addr}
    (hd : a.eval d = .slice (some ⟨g, off, none⟩) dLen dCap) (hs : a.eval s = .slice sp sLen sCap) (HR : Row w g t (nums k L)) (HS : Rd w sp (nums k M)) (hM : M.length = sLen) (hfit : off + dLen ≤ L.length)
    (h : ∀ w1, Row w1 g t (nums k (splice L off (M.take dLen))) → w.grownBy w1 (some g) → w1.heap.size = w.heap.size → wpList P ops Q rest (a.put o.dst (goInt ((Nat.min sLen dLen : Nat) : Int))) w1) : wpList P ops Q (o :: rest) a w := by
  obtain ⟨w1, hrun, h1, h2, h3⟩ := run_copy (P := P) (sT := sT) (ty := o.type) (dCap := dCap) (sCap := sCap) hu hsz HR HS hM hfit
  refine wpList_plain hgd fun K hK => ?_
  unfold Oper.wp execOp
  simp only [ho, resolve, invoke, builtin, Sem.run_bind, Sem.run_pure, Result.andThen_ok, List.map_toArray, List.map_cons, List.map_nil, hd, hs, hrun]
  exact hK _ _ (h w1 h1 h2 h3)
theorem step_copy {ops : Array Oper} {o : Oper} {a : Act} {w : World} {K : Act → World → Prop} {Q : Exit → Act → World → Prop} {E : Prop} (hgd : o.guard = none) (d s : Operand) {dT sT elem : Nat}
    (ho : o.op = .call { callee := .builtin .copy, args := #[d, s], argTypes := #[dT, sT] }) (hu : P.underlying dT = some (.slice elem)) (hsz : (P.info? elem).map (·.size) = some 1) {k : IntKind} {L M : List Int} {g t off dLen dCap sLen sCap : Nat} {sp : Option Addr}
    (hd : a.eval d = .slice (some ⟨g, off, none⟩) dLen dCap) (hs : a.eval s = .slice sp sLen sCap) (HR : Row w g t (nums k L)) (HS : Rd w sp (nums k M)) (hM : M.length = sLen) (hfit : off + dLen ≤ L.length)
    (h : ∀ w1, Hid (Row w1 g t (nums k (splice L off (M.take dLen)))) → Hid (w.grownBy w1 (some g)) → K (a.put o.dst (goInt ((Nat.min sLen dLen : Nat) : Int))) w1) :
    if Region.wanted o (yielded ops a.tmps) = true then Oper.wp P o a w K Q else E := by
  obtain ⟨w1, hrun, h1, h2, h3⟩ := run_copy (P := P) (sT := sT) (ty := o.type) (dCap := dCap) (sCap := sCap) hu hsz HR HS hM hfit
  rw [if_pos (by simp [Region.wanted, hgd])]
  unfold Oper.wp execOp
  simp only [ho, resolve, invoke, builtin, Sem.run_bind, Sem.run_pure, Result.andThen_ok, List.map_toArray, List.map_cons, List.map_nil, hd, hs, hrun]
  exact h w1 h1 h2

/-! string(b), of bytes that are read. -/
theorem bytes_inj {a b : List Int} (ha : IsB a) (hb : IsB b) (h : strOfNums a = strOfNums b) : a = b := by
  have h' := congrArg (fun s : ByteArray => s.data.toList) h
  simp only [strOfNums_data] at h'
  have hl : a.length = b.length := by simpa using congrArg List.length h'
  refine gi_ext hl fun i hi => ?_
  have e := congrArg (fun l => l[i]?) h'
  have hi' : i < b.length := by omega
  simp only [List.getElem?_map, List.getElem?_eq_getElem hi, List.getElem?_eq_getElem hi', Option.map_some, Option.some.injEq] at e
  have h1 := ha _ (List.getElem_mem hi)
  have h2 := hb _ (List.getElem_mem hi')
  have e2 := congrArg UInt8.toNat e
  simp only [UInt8.toNat_ofNat'] at e2
  simp only [gi, List.getD_eq_getElem?_getD, List.getElem?_eq_getElem hi, List.getElem?_eq_getElem hi', Option.getD_some]
  omega
theorem run_string {W : World} {src dst e : Nat} (hs : P.underlying src = some (.slice e)) (he : P.underlying e = some (.int .u8)) (hd : P.underlying dst = some .string) {A : Option Addr} {l : List Int} {c n : Nat} (h : Rd W A (nums .u8 l)) (hn : l.length = n) :
    (convert src dst (.slice A n c)).run P W = .ok (.string (strOfNums l)) W := by
  subst hn
  cases A with
  | none =>
    have hl : l = [] := by
      cases l with
      | nil => rfl
      | cons x l => obtain ⟨b, o, e, _⟩ := h.at 0 (by simp); cases e
    subst hl
    exact run_convert_bytes_nil W src e hs he 0 c dst hd
  | some ad =>
    have hl : (loadCells ad l.length).run P W = .ok (nums .u8 l).toArray W := by
      have := run_loadCells_list (P := P) W ad (nums .u8 l) (fun j v hj => by
        obtain ⟨b, o, e0, _, hc⟩ := h j v hj
        cases e0
        rw [addr_add]; exact hc)
      rwa [nums_len] at this
    rw [run_convert_bytes_string W src dst e _ l.length c hs he hd, run_bytesToString W _ l.length c l hl, foldl_push_bytes]
    simp [strOfNums, ByteArray.empty, ByteArray.emptyWithCapacity]
    rfl
end
end Go.Proofs.YtbdmdajbdmdknaaGreatDoor
namespace Go.Proofs.YtbdmdajbdmdknaaGreatDoor
open Go.RowKit
set_option linter.unusedVariables false
set_option linter.unusedSimpArgs false

theorem info_u8 : (Tryz.prog.info? 5).map (fun i => (i.zero, i.size, i.bytes)) = some (some (.int .u8 0), 1, 1) := by kernel_rfl

/-- A new slice of bytes. -/
def NewB (w : World) (l : List Int) (e : Ending) (w' : World) : Prop := ∃ v, e = .returned v ∧ Own w' w.heap.size 5 v (nums .u8 l) ∧ Below w.heap.size w w'

theorem same_str {a b : List Int} (ha : IsB a) (hb : IsB b) : ((strOfNums a).toList == (strOfNums b).toList) = decide (a = b) := by
  rw [Bool.eq_iff_iff, beq_iff_eq, decide_eq_true_iff]
  constructor
  · intro h
    refine bytes_inj ha hb ?_
    rw [Lib.strOfNums_toList, Lib.strOfNums_toList] at h
    have h2 : (strOfNums a).data.toList = (strOfNums b).data.toList := h
    cases hx : strOfNums a; cases hy : strOfNums b
    rw [hx, hy] at h2
    congr 1
    exact Array.toList_inj.1 h2
  · rintro rfl; rfl
theorem own_empty (w : World) (e : Nat) : Own (w.alloc (.cells #[] e)) w.heap.size e (.slice (some ⟨w.heap.size, 0, none⟩) 0 0) [] :=
  Own.of_row (vs := []) (rest := []) (Row.new w e []) (Nat.le_refl _) rfl (by simp [maxLen])

set_option maxHeartbeats 400000 in
theorem partOwn_calls (A : Option Addr) (n c : Nat) (l : List Int) (w : World) (h : Rd w A (nums .u8 l)) (hn : l.length = n) (hb : n ≤ 140737488355328) :
    Calls Tryz.prog 18 #[.slice A n c] w (NewB w l) := by
  subst hn
  go_enter Tryz.func18, Tryz.ntmps18
  go_wp2_with (at_builtin; refine walk_app (base := w.heap.size) rfl (.tmp 3) (.tmp 4) rfl Tryz.underlying31 info_u8 rfl (by decide) rfl rfl (own_empty w _) (h.alloc _) (nums_len _ _) (nums_one _ _) (by simp) (by simpa [nums_len] using hb) ?_; intro v1 w1 HO1 hg1 _)
  go_ret
  exact ⟨v1, rfl, by simpa using HO1, below_app (below_alloc0 w _) hg1 (own_empty w _) (Nat.le_refl _) (by simp)⟩

set_option maxHeartbeats 400000 in
theorem clone_calls (A : Option Addr) (n c : Nat) (l : List Int) (w : World) (h : Rd w A (nums .u8 l)) (hn : l.length = n) (hc : n ≤ c) (hA : A = none → c = 0) (hb : n ≤ 140737488355328) :
    Calls Tryz.prog 12 #[.slice A n c] w (NewB w l) := by
  subst hn
  cases A with
  | none =>
    have hc0 := hA rfl
    subst hc0
    have hl : l = [] := List.eq_nil_of_length_eq_zero (by omega)
    subst hl
    clear hA hc hb h
    have heq : ∀ W : World, (binOp .eql 31 (.slice none 0 0) (.slice none 0 0)).run Tryz.prog W = .ok (.bool true) W := fun W => Lib.run_eql_slice_nil W _ _ _ _ _ _ _ Tryz.underlying31
    simp only [List.length_nil]
    go_enter Tryz.func12, Tryz.ntmps12
    go_wp2
    go_ret
    exact ⟨.slice none 0 0, rfl, Own.nil _ _ _, Below.refl _ _⟩
  | some ad =>
    clear hA
    have heq : ∀ W : World, (binOp .eql 31 (.slice (some ad) l.length c) (.slice none 0 0)).run Tryz.prog W = .ok (.bool false) W := fun W => Lib.run_eql_slice_nil W _ _ _ _ _ _ _ Tryz.underlying31
    go_enter Tryz.func12, Tryz.ntmps12
    go_wp2_with (at_builtin; refine walk_app (base := w.heap.size) rfl (.tmp 5) (.tmp 6) rfl Tryz.underlying31 info_u8 rfl (by decide) rfl rfl (own_empty w _) (h.alloc _) (nums_len _ _) (nums_one _ _) (by simp) (by simpa [nums_len] using hb) ?_; intro v1 w1 HO1 hg1 _)
    go_ret
    exact ⟨v1, rfl, by simpa using HO1, below_app (below_alloc0 w _) hg1 (own_empty w _) (Nat.le_refl _) (by simp)⟩

set_option maxHeartbeats 400000 in
theorem partSame_calls (A B : Option Addr) (n c n' c' : Nat) (l l' : List Int) (w : World) (h : Rd w A (nums .u8 l)) (hn : l.length = n) (h' : Rd w B (nums .u8 l')) (hn' : l'.length = n') (hb : IsB l) (hb' : IsB l') :
    Calls Tryz.prog 21 #[.slice A n c, .slice B n' c'] w fun e w' => e = .returned (.bool (decide (l = l'))) ∧ w = w' := by
  have k1 := run_string (P := Tryz.prog) (c := c) Tryz.underlying31 Tryz.underlying5 Tryz.underlying9 h hn
  have k2 := run_string (P := Tryz.prog) (c := c') Tryz.underlying31 Tryz.underlying5 Tryz.underlying9 h' hn'
  clear h h' hn hn'
  go_enter Tryz.func21, Tryz.ntmps21
  have k3 := hidden (same_str hb hb')
  go_wp2
  go_ret
  exact ⟨congrArg (fun b => Ending.returned (.bool b)) k3.out, rfl⟩
end Go.Proofs.YtbdmdajbdmdknaaGreatDoor
namespace Go.Proofs.YtbdmdajbdmdknaaGreatDoor
open Go.RowKit
set_option linter.unusedVariables false
set_option linter.unusedSimpArgs false

def up (b : Nat → Bool) (i : Nat) : Nat → Bool := fun j => if j = i then true else b j
def upv (v : Nat → Value) (i : Nat) (x : Value) : Nat → Value := fun j => if j = i then x else v j
theorem up_self (b : Nat → Bool) (i : Nat) : up b i i = true := by simp [up]
theorem up_ne {b : Nat → Bool} {i j : Nat} (h : j ≠ i) : up b i j = b j := by simp [up, h]
theorem upv_self (v : Nat → Value) (i : Nat) (x : Value) : upv v i x i = x := by simp [upv]
theorem upv_ne {v : Nat → Value} {i j : Nat} {x : Value} (h : j ≠ i) : upv v i x j = v j := by simp [upv, h]
/-- The frame: what is listed has its slot filled. D: the numbers of the operations that yield something, and their slots. -/
def fr (a0 : Act) (b : Nat → Bool) (v : Nat → Value) : List (Nat × Nat) → Act
  | [] => a0
  | p :: D => if b p.1 = true then (fr a0 b v D).put (some p.2) (v p.1) else fr a0 b v D
theorem act_ext {a c : Act} (h : ∀ t : Nat, a.tmps[t]? = c.tmps[t]?) (hd : a.defers = c.defers) : a = c := by
  cases a; cases c
  simp only [Act.mk.injEq]
  exact ⟨Array.ext_getElem? h, hd⟩
theorem fr_size (a0 : Act) (b : Nat → Bool) (v : Nat → Value) : ∀ D, (fr a0 b v D).tmps.size = a0.tmps.size ∧ (fr a0 b v D).defers = a0.defers
  | [] => ⟨rfl, rfl⟩
  | p :: D => by
    have h := fr_size a0 b v D
    unfold fr
    split
    · exact ⟨by simp [Act.put, h.1], h.2⟩
    · exact h
theorem fr_off {a0 : Act} {b : Nat → Bool} {v : Nat → Value} {t : Nat} : ∀ {D : List (Nat × Nat)}, (∀ p ∈ D, p.2 = t → b p.1 = false) → (fr a0 b v D).tmps[t]? = a0.tmps[t]?
  | [], _ => rfl
  | p :: D, h => by
    have ih := fr_off (a0 := a0) (b := b) (v := v) (t := t) (D := D) (fun q hq => h q (List.mem_cons_of_mem _ hq))
    unfold fr
    split
    · rename_i hb
      have hne : p.2 ≠ t := fun e => by rw [h p List.mem_cons_self e] at hb; cases hb
      simp only [Act.put]
      rw [Array.getElem?_setIfInBounds_ne hne]; exact ih
    · exact ih
theorem fr_on {a0 : Act} {b : Nat → Bool} {v : Nat → Value} {i t : Nat} : ∀ {D : List (Nat × Nat)}, (i, t) ∈ D → (∀ p ∈ D, p.2 = t → p.1 = i) → b i = true → t < a0.tmps.size → (fr a0 b v D).tmps[t]? = some (v i)
  | [], h, _, _, _ => by cases h
  | p :: D, h, hu, hb, ht => by
    unfold fr
    by_cases hp : p.2 = t
    · have hi := hu p List.mem_cons_self hp
      rw [if_pos (by rw [hi]; exact hb)]
      simp only [Act.put, hp, hi]
      have := (fr_size a0 b v D).1
      rw [Array.getElem?_setIfInBounds_self_of_lt (by omega)]
    · have hm : (i, t) ∈ D := by
        rcases List.mem_cons.1 h with h | h
        · exact absurd (by rw [← h]) hp
        · exact h
      have ih := fr_on (a0 := a0) (b := b) (v := v) hm (fun q hq => hu q (List.mem_cons_of_mem _ hq)) hb ht
      split
      · simp only [Act.put]
        rw [Array.getElem?_setIfInBounds_ne hp]; exact ih
      · exact ih
/-- Each operation once, each slot once. -/
def dOk (D : List (Nat × Nat)) (n : Nat) : Bool := decide ((D.map (·.1)).Nodup) && decide ((D.map (·.2)).Nodup) && D.all (fun p => decide (p.2 < n))
theorem dOk_1 {D : List (Nat × Nat)} {n : Nat} (h : dOk D n = true) : ∀ p ∈ D, ∀ q ∈ D, p.2 = q.2 → p = q := by
  simp only [dOk, Bool.and_eq_true, decide_eq_true_eq] at h
  have hn := h.1.2
  clear h
  induction D with
  | nil => intro p hp; cases hp
  | cons x D ih =>
    rw [List.map_cons, List.nodup_cons] at hn
    intro p hp q hq e
    rcases List.mem_cons.1 hp with rfl | hp' <;> rcases List.mem_cons.1 hq with rfl | hq'
    · rfl
    · exact (hn.1 (List.mem_map.2 ⟨q, hq', e.symm⟩)).elim
    · exact (hn.1 (List.mem_map.2 ⟨p, hp', e⟩)).elim
    · exact ih hn.2 p hp' q hq' e
theorem dOk_2 {D : List (Nat × Nat)} {n : Nat} (h : dOk D n = true) : ∀ p ∈ D, ∀ q ∈ D, p.1 = q.1 → p = q := by
  simp only [dOk, Bool.and_eq_true, decide_eq_true_eq] at h
  have hn := h.1.1
  clear h
  induction D with
  | nil => intro p hp; cases hp
  | cons x D ih =>
    rw [List.map_cons, List.nodup_cons] at hn
    intro p hp q hq e
    rcases List.mem_cons.1 hp with rfl | hp' <;> rcases List.mem_cons.1 hq with rfl | hq'
    · rfl
    · exact (hn.1 (List.mem_map.2 ⟨q, hq', e.symm⟩)).elim
    · exact (hn.1 (List.mem_map.2 ⟨p, hp', e⟩)).elim
    · exact ih hn.2 p hp' q hq' e
theorem dOk_3 {D : List (Nat × Nat)} {n : Nat} (h : dOk D n = true) : ∀ p ∈ D, p.2 < n := by
  simp only [dOk, Bool.and_eq_true, List.all_eq_true, decide_eq_true_eq] at h
  exact h.2
theorem fr_put {a0 : Act} {b : Nat → Bool} {v : Nat → Value} {D : List (Nat × Nat)} (hD : dOk D a0.tmps.size = true) {i t : Nat} (hm : (i, t) ∈ D) (hb : b i = false) (x : Value) :
    (fr a0 b v D).put (some t) x = fr a0 (up b i) (upv v i x) D := by
  refine act_ext (fun s => ?_) ((fr_size a0 b v D).2.trans (fr_size a0 (up b i) (upv v i x) D).2.symm)
  have h1 := dOk_1 hD
  have h2 := dOk_2 hD
  have h3 := dOk_3 hD _ hm
  simp only [Act.put]
  by_cases hs : t = s
  · subst hs
    have := (fr_size a0 b v D).1
    rw [Array.getElem?_setIfInBounds_self_of_lt (by omega), fr_on hm (fun p hp e => by rw [h1 p hp _ hm e]) (up_self b i) h3, upv_self]
  · rw [Array.getElem?_setIfInBounds_ne hs]
    by_cases hex : ∃ p ∈ D, p.2 = s ∧ b p.1 = true
    · obtain ⟨⟨j, s'⟩, hp, rfl, hbj⟩ := hex
      have hji : j ≠ i := fun e => by simp only at hbj; rw [e, hb] at hbj; cases hbj
      rw [fr_on hp (fun q hq e => by rw [h1 q hq _ hp e]) hbj (dOk_3 hD _ hp), fr_on hp (fun q hq e => by rw [h1 q hq _ hp e]) (by rw [up_ne hji]; exact hbj) (dOk_3 hD _ hp), upv_ne hji]
    · have hno : ∀ p ∈ D, p.2 = s → b p.1 = false := fun p hp e => by
        cases h : b p.1 with
        | false => rfl
        | true => exact absurd ⟨p, hp, e, h⟩ hex
      rw [fr_off hno, fr_off (fun p hp e => by
        have hpi : p.1 ≠ i := fun e2 => hs (by have := h2 p hp _ hm e2; rw [this] at e; exact e)
        rw [up_ne hpi]; exact hno p hp e)]
theorem fr_none {a0 : Act} {b : Nat → Bool} {v : Nat → Value} {D : List (Nat × Nat)} {i : Nat} (hi : ∀ p ∈ D, p.1 ≠ i) (x : Value) : (fr a0 b v D).put none x = fr a0 (up b i) (upv v i x) D := by
  show fr a0 b v D = _
  induction D with
  | nil => rfl
  | cons p D ih =>
    have hp := hi p List.mem_cons_self
    unfold fr
    rw [up_ne hp, upv_ne hp, ih (fun q hq => hi q (List.mem_cons_of_mem _ hq))]
theorem fr_full {a0 : Act} {b : Nat → Bool} {v : Nat → Value} {D : List (Nat × Nat)} (h : ∀ p ∈ D, b p.1 = true) : fr a0 b v D = fr a0 (fun _ => true) v D := by
  induction D with
  | nil => rfl
  | cons p D ih =>
    unfold fr
    rw [if_pos (h p List.mem_cons_self), if_pos rfl, ih (fun q hq => h q (List.mem_cons_of_mem _ hq))]
/-- What operation i waits for. -/
def depOn (ops : Array Oper) (i j : Nat) : Bool := match ops[i]? with
  | some o => o.after.any fun e => Region.binds .any e && e.on == j
  | none => false
def acyc (ops : Array Oper) : Bool := (List.range ops.size).all fun i => match ops[i]? with
  | some o => o.after.all fun e => !Region.binds .any e || decide (e.on < i)
  | none => true
/-- The slots that the operations fill. -/
def dstOk (ops : Array Oper) (D : List (Nat × Nat)) : Bool := (List.range ops.size).all fun i => match ops[i]? with
  | some o => match o.dst with
    | some t => D.contains (i, t)
    | none => D.all fun p => !(p.1 == i)
  | none => true
def dLt (ops : Array Oper) (D : List (Nat × Nat)) : Bool := D.all fun p => decide (p.1 < ops.size)
section
variable {P : Program} {ops : Array Oper} {Q : Exit → Act → World → Prop}
/-- What is known where operation i comes up. -/
structure Here (ops : Array Oper) (a0 : Act) (D : List (Nat × Nat)) (F : Nat → Value → World → Prop) (G : (Nat → Bool) → (Nat → Value) → World → Prop) (i : Nat) (b : Nat → Bool) (v : Nat → Value) (w : World) : Prop where
  fact : ∀ j, b j = true → F j (v j) w
  glob : G b v w
  self : b i = false
  dep : ∀ j, depOn ops i j = true → b j = true
  shut : ∀ d j, b d = true → depOn ops d j = true → b j = true
theorem Here.later {ops : Array Oper} {a0 : Act} {D : List (Nat × Nat)} {F : Nat → Value → World → Prop} {G : (Nat → Bool) → (Nat → Value) → World → Prop} {i : Nat} {b : Nat → Bool} {v : Nat → Value} {w : World} (h : Here ops a0 D F G i b v w) (d : Nat) (hd : depOn ops d i = true) : b d = false := by
  cases hb : b d with
  | false => rfl
  | true => have := h.shut d i hb hd; rw [h.self] at this; cases this
def StepF (P : Program) (ops : Array Oper) (Q : Exit → Act → World → Prop) (a0 : Act) (D : List (Nat × Nat)) (F : Nat → Value → World → Prop) (G : (Nat → Bool) → (Nat → Value) → World → Prop) (R : World → World → Prop) (i : Nat) : Prop :=
  ∃ oi, ops[i]? = some oi ∧ ∀ b v w, Here ops a0 D F G i b v w → ∀ K : Act → World → Prop,
    (∀ x w', F i x w' → R w w' → G (up b i) (upv v i x) w' → K ((fr a0 b v D).put oi.dst x) w') →
    if Region.wanted oi (yielded ops (fr a0 b v D).tmps) = true then Oper.wp P oi (fr a0 b v D) w K Q else K ((fr a0 b v D).put oi.dst undef) w

theorem ready_iff {md : Region.Mode} {listed : Array Bool} {i : Nat} : i ∈ Region.ready md ops listed ↔ i < ops.size ∧ listed.getD i true = false ∧ ∃ o, ops[i]? = some o ∧ ∀ e ∈ o.after.toList, Region.binds md e = true → listed.getD e.on false = true := by
  unfold Region.ready
  rw [List.mem_filter, List.mem_range]
  constructor
  · rintro ⟨h1, h2⟩
    rw [Bool.and_eq_true] at h2
    refine ⟨h1, by simpa using h2.1, ops[i], Array.getElem?_eq_getElem h1, fun e he hb => ?_⟩
    have h3 := h2.2
    rw [Array.getElem?_eq_getElem h1] at h3
    simp only [Option.map_some, Option.getD_some, Array.all_eq_true_iff_forall_mem] at h3
    have := h3 e (by simpa using he)
    rw [hb] at this
    simpa using this
  · rintro ⟨h1, h2, o, ho, h3⟩
    refine ⟨h1, ?_⟩
    rw [Bool.and_eq_true]
    refine ⟨by rw [h2]; rfl, ?_⟩
    rw [ho]
    simp only [Option.map_some, Option.getD_some, Array.all_eq_true_iff_forall_mem]
    intro e he
    cases hb : Region.binds md e with
    | false => rfl
    | true => simpa using h3 e (by simpa using he) hb

theorem dOk_mem {D : List (Nat × Nat)} (hd : dstOk ops D = true) {i : Nat} {o : Oper} (ho : ops[i]? = some o) : (∀ t, o.dst = some t → (i, t) ∈ D) ∧ (o.dst = none → ∀ p ∈ D, p.1 ≠ i) := by
  unfold dstOk at hd
  have h := List.all_eq_true.1 hd i (List.mem_range.2 (Array.getElem?_eq_some_iff.1 ho).1)
  rw [ho] at h
  simp only at h
  constructor
  · intro t ht
    rw [ht] at h
    exact List.contains_iff_mem.1 h
  · intro hn p hp e
    rw [hn] at h
    have := List.all_eq_true.1 h p hp
    simp [e] at this
theorem flow_put {a0 : Act} {D : List (Nat × Nat)} (hD : dOk D a0.tmps.size = true) (hd : dstOk ops D = true) {i : Nat} {o : Oper} (ho : ops[i]? = some o) {b : Nat → Bool} (hb : b i = false) (v : Nat → Value) (x : Value) :
    (fr a0 b v D).put o.dst x = fr a0 (up b i) (upv v i x) D := by
  have h := dOk_mem hd ho
  cases ht : o.dst with
  | some t => exact fr_put hD (h.1 t ht) hb x
  | none => exact fr_none (h.2 ht) x
theorem depOn_iff {i j : Nat} : depOn ops i j = true ↔ ∃ o, ops[i]? = some o ∧ ∃ e ∈ o.after.toList, Region.binds .any e = true ∧ e.on = j := by
  unfold depOn
  constructor
  · intro h
    split at h
    · rename_i o ho
      obtain ⟨e, he, hb⟩ := Array.any_eq_true'.1 h
      simp only [Bool.and_eq_true, beq_iff_eq] at hb
      exact ⟨o, ho, e, by simpa using he, hb.1, hb.2⟩
    · cases h
  · rintro ⟨o, ho, e, he, h1, h2⟩
    rw [ho]
    exact Array.any_eq_true'.2 ⟨e, by simpa using he, by simp [h1, h2]⟩
theorem reg_flow {id : Nat} {a0 : Act} {w0 : World} (D : List (Nat × Nat)) (hm : P.follows .mixedOrders = true) (hac : acyc ops = true) (hD : dOk D a0.tmps.size = true) (hd : dstOk ops D = true) (hdl : dLt ops D = true)
    (F : Nat → Value → World → Prop) (G : (Nat → Bool) → (Nat → Value) → World → Prop) (R : World → World → Prop) (hst : ∀ j x w w', R w w' → F j x w → F j x w')
    (h0 : ∀ v, G (fun _ => false) v w0.drew) (hs : ∀ i, i < ops.size → StepF P ops Q a0 D F G R i)
    (hend : ∀ b v w, (∀ j, j < ops.size → b j = true) → (∀ j, j < ops.size → F j (v j) w) → G b v w → Q .normal (fr a0 (fun _ => true) v D) w) :
    (Code.region id ops true).wp P Q a0 w0 := by
  refine wp_region_any hm ?_
  have hdep : ∀ {i j : Nat}, depOn ops i j = true → j < i := by
    intro i j h
    obtain ⟨o, ho, e, he, h1, rfl⟩ := depOn_iff.1 h
    unfold acyc at hac
    have h2 := List.all_eq_true.1 hac i (List.mem_range.2 (Array.getElem?_eq_some_iff.1 ho).1)
    rw [ho] at h2
    have h3 := (Array.all_eq_true_iff_forall_mem.1 h2) e (by simpa using he)
    rw [h1] at h3
    simpa using h3
  have main : ∀ (m : Nat) (listed : Array Bool) (b : Nat → Bool) (v : Nat → Value) (w : World), listed.size = ops.size → (∀ j, j < ops.size → listed[j]? = some (b j)) → (∀ j, ops.size ≤ j → b j = false) →
      ((List.range ops.size).filter fun j => !b j).length = m → (∀ j, b j = true → F j (v j) w) → G b v w → (∀ d j, b d = true → depOn ops d j = true → b j = true) → wpAny P .any ops Q m listed (fr a0 b v D) w := by
    intro m
    induction m with
    | zero =>
      intro listed b v w hsz hl hout hm0 hF hG hsh
      have hall : ∀ j, j < ops.size → b j = true := by
        intro j hj
        cases hb : b j with
        | true => rfl
        | false =>
          have : j ∈ (List.range ops.size).filter fun j => !b j := List.mem_filter.2 ⟨List.mem_range.2 hj, by simp [hb]⟩
          rw [List.eq_nil_of_length_eq_zero hm0] at this
          cases this
      have hfull : fr a0 b v D = fr a0 (fun _ => true) v D := by
        refine fr_full (fun p hp => ?_)
        exact hall _ (by simpa using List.all_eq_true.1 hdl p hp)
      refine ⟨?_, by rw [hfull]; exact hend b v w hall (fun j hj => hF j (hall j hj)) hG⟩
      refine List.eq_nil_iff_forall_not_mem.2 (fun i hi => ?_)
      obtain ⟨h1, h2, _⟩ := ready_iff.1 hi
      rw [Array.getD_eq_getD_getElem?, hl i h1, hall i h1] at h2
      cases h2
    | succ m ih =>
      intro listed b v w hsz hl hout hm0 hF hG hsh
      refine ⟨fun hr => ?_, fun i hi => ?_⟩
      · exfalso
        have hmin : ∀ k, (∃ i, i ≤ k ∧ i < ops.size ∧ b i = false) → ∃ i, i < ops.size ∧ b i = false ∧ ∀ j, j < i → b j = true := by
          intro k
          induction k with
          | zero =>
            rintro ⟨i, hi, h1, h2⟩
            exact ⟨i, h1, h2, fun j hj => by omega⟩
          | succ k ihk =>
            rintro ⟨i, hi, h1, h2⟩
            by_cases hlow : ∃ j, j ≤ k ∧ j < ops.size ∧ b j = false
            · exact ihk hlow
            · refine ⟨i, h1, h2, fun j hj => ?_⟩
              cases hb : b j with
              | true => rfl
              | false => exact absurd ⟨j, by omega, by omega, hb⟩ hlow
        have hex : ∃ i, i < ops.size ∧ b i = false := by
          cases hf : (List.range ops.size).filter (fun j => !b j) with
          | nil => rw [hf] at hm0; simp at hm0
          | cons x r =>
            have hx : x ∈ (List.range ops.size).filter (fun j => !b j) := by rw [hf]; exact List.mem_cons_self
            rw [List.mem_filter, List.mem_range] at hx
            exact ⟨x, hx.1, by simpa using hx.2⟩
        obtain ⟨i0, h1, h2⟩ := hex
        obtain ⟨i, hi, hb, hlow⟩ := hmin i0 ⟨i0, Nat.le_refl _, h1, h2⟩
        have hin : i ∈ Region.ready .any ops listed := by
          refine ready_iff.2 ⟨hi, by rw [Array.getD_eq_getD_getElem?, hl i hi, hb]; rfl, ops[i], Array.getElem?_eq_getElem hi, fun e he hbd => ?_⟩
          have hd2 : depOn ops i e.on = true := depOn_iff.2 ⟨ops[i], Array.getElem?_eq_getElem hi, e, he, hbd, rfl⟩
          have hlt := hdep hd2
          rw [Array.getD_eq_getD_getElem?, hl e.on (by omega), hlow _ hlt]; rfl
        rw [hr] at hin
        cases hin
      · obtain ⟨hi1, hi2, o, ho, hi3⟩ := ready_iff.1 hi
        have hbi : b i = false := by rw [Array.getD_eq_getD_getElem?, hl i hi1] at hi2; simpa using hi2
        have hdp : ∀ j, depOn ops i j = true → b j = true := by
          intro j hj
          obtain ⟨o2, ho2, e, he, hb2, rfl⟩ := depOn_iff.1 hj
          rw [ho] at ho2; cases ho2
          have h4 := hi3 e he hb2
          have hlt := hdep hj
          rw [Array.getD_eq_getD_getElem?, hl e.on (by omega)] at h4
          simpa using h4
        obtain ⟨oi, hoi, hK⟩ := hs i hi1
        rw [ho] at hoi; cases hoi
        have hstep := hK b v w ⟨hF, hG, hbi, hdp, hsh⟩ (wpAny P .any ops Q m (listed.setIfInBounds i true)) (fun x w' hFx hR hG' => by
          rw [flow_put hD hd ho hbi v x]
          refine ih _ (up b i) (upv v i x) w' (by simpa using hsz) (fun j hj => ?_) (fun j hj => by rw [up_ne (by omega)]; exact hout j hj) ?_ (fun j hj => ?_) hG' (fun d j hbd hdj => ?_)
          · by_cases hji : j = i
            · subst hji; rw [up_self, Array.getElem?_setIfInBounds_self_of_lt (by omega)]
            · rw [up_ne hji, Array.getElem?_setIfInBounds_ne (fun e => hji e.symm)]; exact hl j hj
          · have hcount : ∀ (l : List Nat), l.Nodup → i ∈ l → (l.filter fun j => !up b i j).length + 1 = (l.filter fun j => !b j).length := by
              intro l
              induction l with
              | nil => intro _ h; cases h
              | cons x r ihr =>
                intro hn hmem
                rw [List.nodup_cons] at hn
                rcases List.mem_cons.1 hmem with rfl | hmem
                · have hr : (r.filter fun j => !up b i j) = r.filter fun j => !b j := List.filter_congr (fun j hj => by rw [up_ne (fun e => hn.1 (by rw [← e]; exact hj))])
                  simp [List.filter_cons, up_self, hbi, hr]
                · have hxi : x ≠ i := fun e => hn.1 (e ▸ hmem)
                  have := ihr hn.2 hmem
                  rw [List.filter_cons, List.filter_cons, up_ne hxi]
                  cases b x
                  · simp only [Bool.not_false, if_true, List.length_cons]; omega
                  · simpa using this
            have := hcount (List.range ops.size) List.nodup_range (List.mem_range.2 hi1)
            omega
          · by_cases hji : j = i
            · subst hji; rw [upv_self]; exact hFx
            · rw [upv_ne hji]
              exact hst j _ w w' hR (hF j (by rwa [up_ne hji] at hj))
          · by_cases hdi : d = i
            · subst hdi
              have := hdp j hdj
              have hji : j ≠ d := fun e => by rw [e, hbi] at this; cases this
              rw [up_ne hji]; exact this
            · rw [up_ne hdi] at hbd
              have := hsh d j hbd hdj
              have hji : j ≠ i := fun e => by rw [e, hbi] at this; cases this
              rw [up_ne hji]; exact this)
        unfold wpOp
        simp only [ho]
        split
        · rename_i hw; rw [if_pos hw] at hstep; exact .inl hstep
        · rename_i hw; rw [if_neg hw] at hstep; exact hstep
  have hfr0 : ∀ D : List (Nat × Nat), fr a0 (fun _ => false) (fun _ => undef) D = a0 := by
    intro D
    induction D with
    | nil => rfl
    | cons p D ih => unfold fr; simpa using ih
  have := main ops.size (Array.replicate ops.size false) (fun _ => false) (fun _ => undef) w0.drew (by simp) (fun j hj => by simp [hj]) (fun _ _ => rfl) (by rw [List.filter_eq_self.2 (by simp)]; simp) (fun j hj => by cases hj) (h0 _) (fun d j hb => by cases hb)
  rw [hfr0] at this
  exact this

/-! One operation. -/
section
variable {a0 : Act} {D : List (Nat × Nat)} {F : Nat → Value → World → Prop} {G : (Nat → Bool) → (Nat → Value) → World → Prop} {R : World → World → Prop} {i : Nat}
theorem ev_on {b : Nat → Bool} {v : Nat → Value} (hD : dOk D a0.tmps.size = true) (j t : Nat) (hm : D.contains (j, t) = true) (hb : b j = true) : (fr a0 b v D).eval (.tmp t) = v j := by
  have hm' : (j, t) ∈ D := List.contains_iff_mem.1 hm
  simp [Act.eval, fr_on hm' (fun p hp e => by rw [dOk_1 hD p hp _ hm' e]) hb (dOk_3 hD _ hm')]
theorem ev_off {b : Nat → Bool} {v : Nat → Value} (t : Nat) (hm : (D.all fun p => !(p.2 == t)) = true) : (fr a0 b v D).eval (.tmp t) = a0.eval (.tmp t) := by
  simp only [Act.eval]
  rw [Array.getD_eq_getD_getElem?, Array.getD_eq_getD_getElem?, fr_off (fun p hp e => by have := List.all_eq_true.1 hm p hp; simp [e] at this)]
theorem ev_not {b : Nat → Bool} {v : Nat → Value} (hD : dOk D a0.tmps.size = true) (j t : Nat) (hm : D.contains (j, t) = true) (hb : b j = false) : (fr a0 b v D).eval (.tmp t) = a0.eval (.tmp t) := by
  have hm' : (j, t) ∈ D := List.contains_iff_mem.1 hm
  simp only [Act.eval]
  rw [Array.getD_eq_getD_getElem?, Array.getD_eq_getD_getElem?, fr_off (fun p hp e => by rw [dOk_1 hD p hp _ hm' e]; exact hb)]
/-- What operation i is handed. -/
structure At (ops : Array Oper) (a0 : Act) (D : List (Nat × Nat)) (F : Nat → Value → World → Prop) (G : (Nat → Bool) → (Nat → Value) → World → Prop) (i : Nat) (b : Nat → Bool) (v : Nat → Value) (w : World) (ρ : Operand → Value) : Prop extends Here ops a0 D F G i b v w where
  on : ∀ j t, D.contains (j, t) = true → b j = true → ρ (.tmp t) = v j
  off : ∀ t, (D.all fun p => !(p.2 == t)) = true → ρ (.tmp t) = a0.eval (.tmp t)
  before : ∀ j t, D.contains (j, t) = true → b j = false → ρ (.tmp t) = a0.eval (.tmp t)
  cst : ∀ c, ρ (.const c) = c
  glo : ∀ g, ρ (.global g) = a0.eval (.global g)
  fn : ∀ f, ρ (.func f) = a0.eval (.func f)
theorem at_of (hD : dOk D a0.tmps.size = true) {b : Nat → Bool} {v : Nat → Value} {w : World} (h : Here ops a0 D F G i b v w) : At ops a0 D F G i b v w (fr a0 b v D).eval :=
  { h with on := fun j t hm hb => ev_on hD j t hm hb, off := fun t hm => ev_off t hm, before := fun j t hm hb => ev_not hD j t hm hb, cst := fun _ => rfl, glo := fun _ => rfl, fn := fun _ => rfl }
theorem At.have_ {b : Nat → Bool} {v : Nat → Value} {w : World} {ρ : Operand → Value} (h : At ops a0 D F G i b v w ρ) (j : Nat) (hj : depOn ops i j = true) : F j (v j) w := h.fact j (h.dep j hj)
/-- What an operation comes to. -/
def opRun (P : Program) (ρ : Operand → Value) (op : Op) (ty : TypeId) (w : World) : Result Next := (execOp ρ { dst := none, op := op, type := ty, pos := "", after := #[], guard := none }).run P w
def opAt (ops : Array Oper) (i : Nat) : Option (Op × TypeId × Option (Nat × Bool)) := (ops[i]?).map fun o => (o.op, o.type, o.guard)
theorem opAt_some {op : Op} {ty : TypeId} {gd : Option (Nat × Bool)} (h : opAt ops i = some (op, ty, gd)) : ∃ oi, ops[i]? = some oi ∧ oi.op = op ∧ oi.type = ty ∧ oi.guard = gd := by
  obtain ⟨oi, h1, h2⟩ := Option.map_eq_some_iff.1 h
  simp only [Prod.mk.injEq] at h2
  exact ⟨oi, h1, h2.1, h2.2.1, h2.2.2⟩
theorem opRun_eq (ρ : Operand → Value) (oi : Oper) (w : World) : (execOp ρ oi).run P w = opRun P ρ oi.op oi.type w := rfl
theorem flow_val (hD : dOk D a0.tmps.size = true) (op : Op) (ty : TypeId) (hop : opAt ops i = some (op, ty, none))
    (h : ∀ b v w ρ, At ops a0 D F G i b v w ρ → ∃ x w', opRun P ρ op ty w = .ok (.value x) w' ∧ F i x w' ∧ R w w' ∧ G (up b i) (upv v i x) w') : StepF P ops Q a0 D F G R i := by
  obtain ⟨oi, hoi, rfl, rfl, hg⟩ := opAt_some hop
  refine ⟨oi, hoi, fun b v w hh K hK => ?_⟩
  obtain ⟨x, w', hrun, h1, h2, h3⟩ := h b v w _ (at_of hD hh)
  rw [if_pos (by simp [Region.wanted, hg])]
  unfold Oper.wp
  rw [opRun_eq, hrun]
  exact hK x w' h1 h2 h3
/-- The same where nothing turns in the world. -/
theorem flow_pure (hD : dOk D a0.tmps.size = true) (hR : ∀ w, R w w) (op : Op) (ty : TypeId) (hop : opAt ops i = some (op, ty, none))
    (h : ∀ b v w ρ, At ops a0 D F G i b v w ρ → ∃ x, opRun P ρ op ty w = .ok (.value x) w ∧ F i x w ∧ G (up b i) (upv v i x) w) : StepF P ops Q a0 D F G R i :=
  flow_val hD op ty hop fun b v w ρ hh => by
    obtain ⟨x, h1, h2, h3⟩ := h b v w ρ hh
    exact ⟨x, w, h1, h2, hR w, h3⟩
theorem flow_skip (hD : dOk D a0.tmps.size = true) (op : Op) (ty : TypeId) (hop : opAt ops i = some (op, ty, none))
    (h : ∀ b v w ρ, At ops a0 D F G i b v w ρ → ∃ w', opRun P ρ op ty w = .ok .skip w' ∧ F i undef w' ∧ R w w' ∧ G (up b i) (upv v i undef) w') : StepF P ops Q a0 D F G R i := by
  obtain ⟨oi, hoi, rfl, rfl, hg⟩ := opAt_some hop
  refine ⟨oi, hoi, fun b v w hh K hK => ?_⟩
  obtain ⟨w', hrun, h1, h2, h3⟩ := h b v w _ (at_of hD hh)
  rw [if_pos (by simp [Region.wanted, hg])]
  unfold Oper.wp
  rw [opRun_eq, hrun]
  exact hK undef w' h1 h2 h3
theorem flow_call (hD : dOk D a0.tmps.size = true) (op : Op) (ty : TypeId) (hop : opAt ops i = some (op, ty, none)) (f : FuncId)
    (h : ∀ b v w ρ, At ops a0 D F G i b v w ρ → ∃ args, opRun P ρ op ty w = .ok (.enter f args) w ∧ Calls P f args w fun e w' => ∃ x, e = .returned x ∧ F i x w' ∧ R w w' ∧ G (up b i) (upv v i x) w') : StepF P ops Q a0 D F G R i := by
  obtain ⟨oi, hoi, rfl, rfl, hg⟩ := opAt_some hop
  refine ⟨oi, hoi, fun b v w hh K hK => ?_⟩
  obtain ⟨args, hrun, hc⟩ := h b v w _ (at_of hD hh)
  rw [if_pos (by simp [Region.wanted, hg])]
  unfold Oper.wp
  rw [opRun_eq, hrun]
  refine hc.mono ?_
  rintro e w' ⟨x, rfl, h1, h2, h3⟩
  exact hK x w' h1 h2 h3
theorem opRun_call {ρ : Operand → Value} {f : FuncId} {xs : Array Operand} {ats : Array TypeId} {ty : TypeId} {w : World} (hf : ρ (.func f) = .func (.func f) #[] #[]) (hc : (callFunc f (xs.map ρ)).run P w = .ok (.enter f (xs.map ρ)) w) :
    opRun P ρ (.call { callee := .value (.func f), args := xs, argTypes := ats }) ty w = .ok (.enter f (xs.map ρ)) w := by
  unfold opRun execOp resolve
  simp only [hf, Deferred.ofValue, invoke, Sem.run_bind, Sem.run_pure, Result.andThen_ok, Array.append_empty, Array.empty_append]
  exact hc
theorem opRun_load_row {ρ : Operand → Value} {x : Operand} {ty ty' : TypeId} {w : World} {g t : Nat} {vs : List Value} (HR : Row w g t vs) (hx : ρ x = .pointer (some ⟨g, 0, none⟩)) {d : TypeDesc} (hu : P.underlying ty = some d)
    (hd : (match d with | .struct _ | .array _ _ => true | _ => false) = true) (hi : (P.info? ty).map (·.size) = some vs.length) : opRun P ρ (.load ty x) ty' w = .ok (.value (.agg vs.toArray)) w := by
  unfold opRun execOp
  simp only [hx, Instr.loadAt, Instr.sureAddr, Sem.run_bind, Sem.run_pure, Result.andThen_ok, run_loadVar_row w g t ty vs.toArray (0, 0) d HR hu hd (by simpa using hi)]
theorem opRun_store_row {ρ : Operand → Value} {x y : Operand} {ty ty' : TypeId} {w : World} {g t : Nat} {old vs : List Value} (HR : Row w g t old) (hx : ρ x = .pointer (some ⟨g, 0, none⟩)) (hy : ρ y = .agg vs.toArray)
    (hi : (P.info? ty).map (·.size) = some vs.length) (hl : old.length = vs.length) (h1 : ∀ v ∈ vs, v.oneCell' = true) : ∃ w1, opRun P ρ (.store ty x y) ty' w = .ok .skip w1 ∧ Row w1 g t vs ∧ w.grownBy w1 (some g) := by
  refine ⟨w.setRow g vs.toArray, ?_, setRow_heap w g _ _ t _ HR, ⟨rfl, rfl, rfl, by simp, fun k hk hne => setRow_other w g k _ (fun e => hne (by rw [e]))⟩⟩
  unfold opRun execOp
  simp only [hx, hy, Instr.storeAt, Instr.sureAddr, Sem.run_bind, Sem.run_pure, Result.andThen_ok, run_storeVar_row w g t ty old.toArray vs.toArray HR (by simpa using hi) (by simpa using hl) (by simpa using h1)]
end
end
end Go.Proofs.YtbdmdajbdmdknaaGreatDoor
namespace Go.Proofs.YtbdmdajbdmdknaaGreatDoor
open Go.RowKit
set_option linter.unusedVariables false
set_option linter.unusedSimpArgs false

/-- A guard for an arm of the walk: the next operation stores at what slot 't' points to. -/
theorem at_store (t : Nat) {P : Program} {ops : Array Oper} {rest : List Oper} {Q : Exit → Act → World → Prop} {a : Act} {w : World} {st : TypeId} {y : Operand} {ty pos after g} (h : wpList P ops Q (⟨none, .store st (.tmp t) y, ty, pos, after, g⟩ :: rest) a w) : wpList P ops Q (⟨none, .store st (.tmp t) y, ty, pos, after, g⟩ :: rest) a w := h
theorem count_up {b : Nat → Bool} {i : Nat} (hb : b i = false) : ∀ (l : List Nat), l.Nodup → i ∈ l → (l.filter fun j => !up b i j).length + 1 = (l.filter fun j => !b j).length := by
  intro l
  induction l with
  | nil => intro _ h; cases h
  | cons x r ihr =>
    intro hn hmem
    rw [List.nodup_cons] at hn
    rcases List.mem_cons.1 hmem with rfl | hmem
    · have hr : (r.filter fun j => !up b i j) = r.filter fun j => !b j := List.filter_congr (fun j hj => by rw [up_ne (fun e => hn.1 (by rw [← e]; exact hj))])
      simp [List.filter_cons, up_self, hb, hr]
    · have hxi : x ≠ i := fun e => hn.1 (e ▸ hmem)
      have := ihr hn.2 hmem
      rw [List.filter_cons, List.filter_cons, up_ne hxi]
      cases b x
      · simp only [Bool.not_false, if_true, List.length_cons]; omega
      · simpa using this
theorem least_no {b : Nat → Bool} {n : Nat} : ∀ k, (∃ i, i ≤ k ∧ i < n ∧ b i = false) → ∃ i, i < n ∧ b i = false ∧ ∀ j, j < i → b j = true := by
  intro k
  induction k with
  | zero =>
    rintro ⟨i, hi, h1, h2⟩
    exact ⟨i, h1, h2, fun j hj => by omega⟩
  | succ k ihk =>
    rintro ⟨i, hi, h1, h2⟩
    by_cases hlow : ∃ j, j ≤ k ∧ j < n ∧ b j = false
    · exact ihk hlow
    · refine ⟨i, h1, h2, fun j hj => ?_⟩
      cases hb : b j with
      | true => rfl
      | false => exact absurd ⟨j, by omega, by omega, hb⟩ hlow
theorem wp_region_quiet_tail {P : Program} {id : Nat} {Q : Exit → Act → World → Prop} {a : Act} {w : World} {l : List Oper} {C : World → Prop} (n : Nat) (hm : P.follows .mixedOrders = true) (hT : Region.lexB .any (l.take n).toArray = true) (hg : ((l.take n).all fun o => o.guard.isNone) = true) (hac : acyc l.toArray = true) (hn : decide (n < l.length) = true)
    (hs : Region.sinkB .any l.toArray n = true) (hc : Region.chainB .any l.toArray n = true) (hseq : Region.seqB .any l.toArray (l.length - n) n (List.replicate n true ++ List.replicate (l.length - n) false).toArray = true) (hC : C { w with drawn := w.drawn + 1 })
    (h : wpQuiet P (l.take n).toArray C (fun a' => ∀ w', C w' → wpList P l.toArray Q (l.drop n) a' w') (l.take n) a) : (Code.region id l.toArray true).wp P Q a w := by
  have hn' : n < l.length := by simpa using hn
  refine wp_region_any hm ?_
  simp only [Region.lexB, Bool.and_eq_true] at hT
  have Hq := wpAnyQ_lex (P := P) (ops := (l.take n).toArray) (C := C) (md := .any) hT.1 (l.take n) 0 (Array.replicate (l.take n).toArray.size false) a (by simp) (by simpa using hT.2) h
  have hlen : (l.take n).length = n := by rw [List.length_take]; omega
  rw [hlen] at Hq
  have hdep : ∀ {i j : Nat}, depOn l.toArray i j = true → j < i := by
    intro i j h
    obtain ⟨o, ho, e, he, h1, rfl⟩ := depOn_iff.1 h
    unfold acyc at hac
    have h2 := List.all_eq_true.1 hac i (List.mem_range.2 (Array.getElem?_eq_some_iff.1 ho).1)
    rw [ho] at h2
    have h3 := (Array.all_eq_true_iff_forall_mem.1 h2) e (by simpa using he)
    rw [h1] at h3
    simpa using h3
  have hat : ∀ i, i < n → (l.take n).toArray[i]? = l.toArray[i]? := fun i hi => by simp [hi]
  have main : ∀ (m : Nat) (listed LT : Array Bool) (b : Nat → Bool) (a : Act) (w : World), listed.size = l.length → (∀ j, j < l.length → listed[j]? = some (b j)) → (∀ j, n ≤ j → b j = false) → LT.size = n → (∀ j, j < n → LT[j]? = some (b j)) →
      (∀ d j, b d = true → depOn l.toArray d j = true → b j = true) → ((List.range n).filter fun j => !b j).length = m → C w → wpAnyQ P .any (l.take n).toArray C (fun a' => ∀ w', C w' → wpList P l.toArray Q (l.drop n) a' w') m LT a →
      wpAny P .any l.toArray Q (m + (l.length - n)) listed a w := by
    intro m
    induction m with
    | zero =>
      intro listed LT b a w hsz hl hout hTs hTl hsh hm0 hCw H
      have hall : ∀ j, j < n → b j = true := by
        intro j hj
        cases hb : b j with
        | true => rfl
        | false =>
          have : j ∈ (List.range n).filter fun j => !b j := List.mem_filter.2 ⟨List.mem_range.2 hj, by simp [hb]⟩
          rw [List.eq_nil_of_length_eq_zero hm0] at this
          cases this
      have hlist : listed = (List.replicate n true ++ List.replicate (l.length - n) false).toArray := by
        apply Array.ext_getElem?
        intro j
        by_cases hj : j < l.length
        · rw [hl j hj]
          by_cases hjn : j < n
          · rw [hall j hjn, List.getElem?_toArray, List.getElem?_append_left (by simpa using hjn), List.getElem?_replicate, if_pos hjn]
          · rw [hout j (by omega), List.getElem?_toArray, List.getElem?_append_right (by simp; omega), List.getElem?_replicate, if_pos (by simp; omega)]
        · rw [Array.getElem?_eq_none (by omega), Array.getElem?_eq_none (by simp; omega)]
      rw [Nat.zero_add, hlist]
      have := wpAny_of_seq (P := P) (ops := l.toArray) (md := .any) (Q' := Q) (l.drop n) n (List.replicate n true ++ List.replicate (l.length - n) false).toArray a w (fun j => by simp) (by rw [List.length_drop]; exact hseq) (H.2 w hCw)
      rwa [List.length_drop] at this
    | succ m ih =>
      intro listed LT b a w hsz hl hout hTs hTl hsh hm0 hCw H
      have inv : HeadInv .any l.toArray n listed := by
        refine ⟨by simpa using hsz, fun j oj hj hlj e he hb => ?_, fun t ht htl => ?_⟩
        · have hjl : j < l.length := by have := (Array.getElem?_eq_some_iff.1 hj).1; simpa using this
          have hbj : b j = true := by rw [Array.getD_eq_getD_getElem?, hl j hjl] at hlj; simpa using hlj
          have hd : depOn l.toArray j e.on = true := depOn_iff.2 ⟨oj, hj, e, by simpa using he, hb, rfl⟩
          have := hdep hd
          rw [Array.getD_eq_getD_getElem?, hl e.on (by omega), hsh j _ hbj hd]; rfl
        · have htl' : t < l.length := by simpa using htl
          rw [Array.getD_eq_getD_getElem?, hl t htl', hout t ht]; rfl
      have hex : ∃ i, i < n ∧ b i = false := by
        cases hf : (List.range n).filter (fun j => !b j) with
        | nil => rw [hf] at hm0; simp at hm0
        | cons x r =>
          have hx : x ∈ (List.range n).filter (fun j => !b j) := by rw [hf]; exact List.mem_cons_self
          rw [List.mem_filter, List.mem_range] at hx
          exact ⟨x, hx.1, by simpa using hx.2⟩
      obtain ⟨i0, hi0, hb0⟩ := hex
      obtain ⟨i1, hi1, hb1, hlow⟩ := least_no i0 ⟨i0, Nat.le_refl _, hi0, hb0⟩
      have hi1l : i1 < l.toArray.size := by simp; omega
      have hr1 : i1 ∈ Region.ready .any l.toArray listed := by
        refine ready_iff.2 ⟨hi1l, by rw [Array.getD_eq_getD_getElem?, hl i1 (by omega), hb1]; rfl, l.toArray[i1], Array.getElem?_eq_getElem hi1l, fun e he hbd => ?_⟩
        have hd2 : depOn l.toArray i1 e.on = true := depOn_iff.2 ⟨l.toArray[i1], Array.getElem?_eq_getElem hi1l, e, he, hbd, rfl⟩
        have hlt := hdep hd2
        rw [Array.getD_eq_getD_getElem?, hl e.on (by omega), hlow _ hlt]; rfl
      rw [show m + 1 + (l.length - n) = (m + (l.length - n)) + 1 by omega]
      refine ⟨fun hr => (by rw [hr] at hr1; cases hr1), fun i hi => ?_⟩
      have hin : i < n := by
        rcases Nat.lt_or_ge i n with h | h
        · exact h
        · exact absurd hi (tail_waits hs hc (by simpa using hn') inv _ i1 rfl hi1 (by rw [Array.getD_eq_getD_getElem?, hl i1 (by omega), hb1]; rfl) i h)
      obtain ⟨_, hi2, o, ho, hi3⟩ := ready_iff.1 hi
      have hbi : b i = false := by rw [Array.getD_eq_getD_getElem?, hl i (by omega)] at hi2; simpa using hi2
      have hdn : ∀ e ∈ o.after.toList, Region.binds .any e = true → e.on < n ∧ b e.on = true := fun e he hb => by
        have hd2 : depOn l.toArray i e.on = true := depOn_iff.2 ⟨o, ho, e, he, hb, rfl⟩
        have hlt := hdep hd2
        have h4 := hi3 e he hb
        rw [Array.getD_eq_getD_getElem?, hl e.on (by omega)] at h4
        exact ⟨by omega, by simpa using h4⟩
      have hiT : i ∈ Region.ready .any (l.take n).toArray LT := by
        refine ready_iff.2 ⟨by simp; omega, by rw [Array.getD_eq_getD_getElem?, hTl i hin, hbi]; rfl, o, by rw [hat i hin]; exact ho, fun e he hb => ?_⟩
        obtain ⟨h5, h6⟩ := hdn e he hb
        rw [Array.getD_eq_getD_getElem?, hTl _ h5, h6]; rfl
      have hgo : o.guard = none := by
        have h7 : o ∈ l.take n := by
          have : (l.take n)[i]? = some o := by have := hat i hin; rw [ho] at this; simpa using this
          exact List.mem_of_getElem? this
        have := List.all_eq_true.1 hg o h7
        simpa using this
      have h2 : wpOp P (l.take n).toArray Q i (wpAny P .any l.toArray Q (m + (l.length - n)) (listed.setIfInBounds i true)) a w := by
        refine wpOp_of_qOp hCw (fun a' w' hw' hq => ?_) (H.2 i hiT)
        refine ih _ (LT.setIfInBounds i true) (up b i) a' w' (by simpa using hsz) (fun j hj => ?_) (fun j hj => by rw [up_ne (by omega)]; exact hout j hj) (by simpa using hTs) (fun j hj => ?_) (fun d j hbd hdj => ?_) ?_ hw' hq
        · by_cases hji : j = i
          · subst hji; rw [up_self, Array.getElem?_setIfInBounds_self_of_lt (by omega)]
          · rw [up_ne hji, Array.getElem?_setIfInBounds_ne (fun e => hji e.symm)]; exact hl j hj
        · by_cases hji : j = i
          · subst hji; rw [up_self, Array.getElem?_setIfInBounds_self_of_lt (by omega)]
          · rw [up_ne hji, Array.getElem?_setIfInBounds_ne (fun e => hji e.symm)]; exact hTl j hj
        · by_cases hji : j = i
          · subst hji; exact up_self b j
          · rw [up_ne hji]
            by_cases hdi : d = i
            · subst hdi
              obtain ⟨o2, ho2, e, he, hb2, rfl⟩ := depOn_iff.1 hdj
              rw [ho] at ho2; cases ho2
              exact (hdn e he hb2).2
            · exact hsh d j (by rwa [up_ne hdi] at hbd) hdj
        · have := count_up hbi (List.range n) List.nodup_range (List.mem_range.2 hin)
          omega
      unfold wpOp at h2 ⊢
      rw [hat i hin, ho] at h2
      rw [ho]
      simp only [Region.wanted, hgo, if_true] at h2 ⊢
      exact h2
  have hTz : (l.take n).toArray.size = n := by simp; omega
  rw [hTz] at Hq
  have hall0 : ((List.range n).filter fun j => !(fun _ : Nat => false) j).length = n := by
    have e : ((List.range n).filter fun j => !(fun _ : Nat => false) j) = List.range n := List.filter_eq_self.2 (fun _ _ => rfl)
    rw [e, List.length_range]
  have := main n (Array.replicate l.toArray.size false) (Array.replicate n false) (fun _ => false) a { w with drawn := w.drawn + 1 } (by simp) (fun j hj => by simp [hj]) (fun _ _ => rfl) (by simp) (fun j hj => by simp [hj]) (fun d j h => by cases h) hall0 hC Hq
  rw [show n + (l.length - n) = l.length by omega] at this
  simpa using this
section
variable {P : Program} {ops : Array Oper} {C : World → Prop} {Q : Act → Prop} {a : Act} {o : Oper} {rest : List Oper} {v : Value}
theorem wpQuiet_val (hg : o.guard = none) (h : ∀ w, C w → opRun P a.eval o.op o.type w = .ok (.value v) w) (hk : wpQuiet P ops C Q rest (a.put o.dst v)) : wpQuiet P ops C Q (o :: rest) a := by
  refine wpQuiet_step (fun K hK => ?_)
  rw [if_pos (by simp [Region.wanted, hg])]
  exact ⟨v, fun w hw => (by unfold Oper.quietAt; rw [opRun_eq, h w hw]; exact ⟨rfl, rfl⟩), hK _ hk⟩
theorem wpQuiet_call (hg : o.guard = none) (f : FuncId) (args : Array Value) (h : ∀ w, C w → opRun P a.eval o.op o.type w = .ok (.enter f args) w) (hc : ∀ w, C w → Calls P f args w fun e w'' => e = .returned v ∧ C w'') (hk : wpQuiet P ops C Q rest (a.put o.dst v)) : wpQuiet P ops C Q (o :: rest) a := by
  refine wpQuiet_step (fun K hK => ?_)
  rw [if_pos (by simp [Region.wanted, hg])]
  exact ⟨v, fun w hw => (by unfold Oper.quietAt; rw [opRun_eq, h w hw]; exact ⟨rfl, hc w hw⟩), hK _ hk⟩
end
end Go.Proofs.YtbdmdajbdmdknaaGreatDoor
