/- What the parser of JSON texts does, on lists of bytes. Nothing here speaks of the program. Cells that are kept; the parser's values in memory. Nothing here speaks of the program. -/
import Derived.WalkKit
import Derived.Test.YtbdmdajbdmdknaaGreatDoorM1
import Derived.Deep.AppendSrc
namespace Go.Proofs.YtbdmdajbdmdknaaGreatDoor
set_option linter.unusedVariables false
set_option linter.unusedSimpArgs false

abbrev Bs := List UInt8
def isWS (c : UInt8) : Bool := c == 0x20 || c == 0x0A || c == 0x09 || c == 0x0D
def skipW (l : Bs) : Bs := l.dropWhile isWS
theorem skipW_len (l : Bs) : (skipW l).length ≤ l.length := List.Sublist.length_le (List.dropWhile_sublist _)
/-- A text up to its closing quotation mark, and what stands behind. -/
def rawS : Bool → Bs → Option (Bs × Bs)
  | _, [] => none
  | true, c :: l => (rawS false l).map fun p => (c :: p.1, p.2)
  | false, c :: l => if c = 34 then some ([], l) else (rawS (c == 92) l).map fun p => (c :: p.1, p.2)
theorem rawS_len : ∀ (b : Bool) (l x y : Bs), rawS b l = some (x, y) → x.length + y.length + 1 = l.length
  | _, [], x, y, h => by simp [rawS] at h
  | true, c :: l, x, y, h => by
    obtain ⟨⟨x', y'⟩, h1, h2⟩ := Option.map_eq_some_iff.1 h
    simp only [Prod.mk.injEq] at h2
    obtain ⟨rfl, rfl⟩ := h2
    have := rawS_len _ _ _ _ h1
    simp; omega
  | false, c :: l, x, y, h => by
    unfold rawS at h
    split at h
    · cases h; simp
    · obtain ⟨⟨x', y'⟩, h1, h2⟩ := Option.map_eq_some_iff.1 h
      simp only [Prod.mk.injEq] at h2
      obtain ⟨rfl, rfl⟩ := h2
      have := rawS_len _ _ _ _ h1
      simp; omega
def isNumC (c : UInt8) : Bool := (48 ≤ c && c ≤ 57) || c == 46 || c == 45 || c == 101 || c == 69 || c == 43
/-- The small letter of an ASCII letter. -/
def lowC (c : UInt8) : UInt8 := if 65 ≤ c ∧ c ≤ 90 then c + 32 else c
def foldIs (s small : Bs) : Bool := s.map lowC == small
def infB : Bs := [105, 110, 102]
def nanB : Bs := [110, 97, 110]
/-- A number: what stands ahead of the first byte that is none of a number's. -/
def rawN (s : Bs) : Option (Bs × Bs) :=
  let i := (s.takeWhile isNumC).length
  if i = s.length then some (s, [])
  else if i = 0 ∨ (i = 1 ∧ (s.head? = some 45 ∨ s.head? = some 43)) then
    (if foldIs ((s.drop i).take 3) infB ∨ foldIs ((s.drop i).take 3) nanB then some (s.take (i + 3), s.drop (i + 3)) else none)
  else some (s.take i, s.drop i)
inductive JV where
  | lit (t : Nat)
  | num (s : Bs)
  | str (s : Bs)
  | arr (l : List JV)
  | obj (l : List (Bs × JV))
def trueB : Bs := [116, 114, 117, 101]
def falseB : Bs := [102, 97, 108, 115, 101]
def nullB : Bs := [110, 117, 108, 108]
mutual
def pVal : Nat → Nat → Bs → Option (JV × Bs)
  | 0, _, _ => none
  | _ + 1, _, [] => none
  | f + 1, d, c :: r =>
    if 300 ≤ d then none
    else if c = 123 then
      match skipW r with
      | [] => none
      | c2 :: r2 => if c2 = 125 then some (.obj [], r2) else (pObj f (d + 1) (c2 :: r2)).map fun p => (.obj p.1, p.2)
    else if c = 91 then
      match skipW r with
      | [] => none
      | c2 :: r2 => if c2 = 93 then some (.arr [], r2) else (pArr f (d + 1) (c2 :: r2)).map fun p => (.arr p.1, p.2)
    else if c = 34 then (rawS false r).map fun p => (.str p.1, p.2)
    else if c = 116 then (if (c :: r).take 4 = trueB then some (.lit 5, (c :: r).drop 4) else none)
    else if c = 102 then (if (c :: r).take 5 = falseB then some (.lit 6, (c :: r).drop 5) else none)
    else if c = 110 then
      (if (c :: r).take 4 = nullB then some (.lit 0, (c :: r).drop 4)
       else if foldIs ((c :: r).take 3) nanB then some (.num ((c :: r).take 3), (c :: r).drop 3) else none)
    else (rawN (c :: r)).map fun p => (.num p.1, p.2)
def pObj : Nat → Nat → Bs → Option (List (Bs × JV) × Bs)
  | 0, _, _ => none
  | f + 1, d, s =>
    match skipW s with
    | [] => none
    | c :: r =>
      if c = 34 then
        match rawS false r with
        | none => none
        | some (k, r1) =>
          match skipW r1 with
          | [] => none
          | c2 :: r2 =>
            if c2 = 58 then
              match pVal f d (skipW r2) with
              | none => none
              | some (v, r3) =>
                match skipW r3 with
                | [] => none
                | c4 :: r4 => if c4 = 44 then (pObj f d r4).map fun p => ((k, v) :: p.1, p.2) else if c4 = 125 then some ([(k, v)], r4) else none
            else none
      else none
def pArr : Nat → Nat → Bs → Option (List JV × Bs)
  | 0, _, _ => none
  | f + 1, d, s =>
    match pVal f d (skipW s) with
    | none => none
    | some (v, r3) =>
      match skipW r3 with
      | [] => none
      | c4 :: r4 => if c4 = 44 then (pArr f d r4).map fun p => (v :: p.1, p.2) else if c4 = 93 then some ([v], r4) else none
end
/-- The whole of a text. -/
def pText (s : Bs) : Option JV :=
  match pVal (2 * s.length + 2) 0 (skipW s) with
  | none => none
  | some (v, t) => if skipW t = [] then some v else none
end Go.Proofs.YtbdmdajbdmdknaaGreatDoor
namespace Go.Proofs.YtbdmdajbdmdknaaGreatDoor
open Go.RowKit
set_option linter.unusedVariables false
set_option linter.unusedSimpArgs false

def bs (l : Bs) : ByteArray := ⟨l.toArray⟩
/-- w' is as w was, but for some cells and new blocks. -/
structure AltC (w w' : World) (S : Nat → Nat → Prop) : Prop where
  os : w'.os = w.os
  tape : w'.tape = w.tape
  output : w'.output = w.output
  size : w.heap.size ≤ w'.heap.size
  block : ∀ b, b < w.heap.size → (∀ o, ¬ S b o) → w'.heap[b]? = w.heap[b]?
  cell : ∀ b o, b < w.heap.size → ¬ S b o → w'.cell? ⟨b, o, none⟩ = w.cell? ⟨b, o, none⟩ ∧ w'.frozen? ⟨b, o, none⟩ = w.frozen? ⟨b, o, none⟩
def Slot (w : World) (b o : Nat) (v : Value) : Prop := w.cell? ⟨b, o, none⟩ = some v ∧ w.frozen? ⟨b, o, none⟩ = false
section
variable {w w1 w2 : World} {S T : Nat → Nat → Prop} {b o : Nat} {v u : Value}
theorem Slot.lt (h : Slot w b o v) : b < w.heap.size := World.block_lt_of_cell? w _ h.1
theorem Slot.eq (h : Slot w b o v) (k : Slot w b o u) : u = v := by have := h.1.symm.trans k.1; cases this; rfl
theorem AltC.refl (w : World) (S : Nat → Nat → Prop) : AltC w w S := ⟨rfl, rfl, rfl, Nat.le_refl _, fun _ _ _ => rfl, fun _ _ _ _ => ⟨rfl, rfl⟩⟩
theorem AltC.trans (h : AltC w w1 S) (k : AltC w1 w2 T) (hT : ∀ b o, b < w.heap.size → T b o → S b o) : AltC w w2 S :=
  ⟨k.os.trans h.os, k.tape.trans h.tape, k.output.trans h.output, Nat.le_trans h.size k.size,
    fun b hb hn => (k.block b (Nat.lt_of_lt_of_le hb h.size) (fun o ht => hn o (hT b o hb ht))).trans (h.block b hb hn),
    fun b o hb hn => by
      have h1 := h.cell b o hb hn
      have h2 := k.cell b o (Nat.lt_of_lt_of_le hb h.size) (fun ht => hn (hT b o hb ht))
      exact ⟨h2.1.trans h1.1, h2.2.trans h1.2⟩⟩
theorem AltC.mono (h : AltC w w1 S) (hT : ∀ b o, b < w.heap.size → S b o → T b o) : AltC w w1 T :=
  ⟨h.os, h.tape, h.output, h.size, fun b hb hn => h.block b hb (fun o hs => hn o (hT b o hb hs)), fun b o hb hn => h.cell b o hb (fun hs => hn (hT b o hb hs))⟩
theorem AltC.of_below (h : Below w.heap.size w w1) (S : Nat → Nat → Prop) : AltC w w1 S :=
  ⟨h.os, h.tape, h.output, h.size, fun b hb _ => h.block b hb, fun b o hb _ => ⟨h.cell (p := ⟨b, o, none⟩) hb, h.frozen (p := ⟨b, o, none⟩) hb⟩⟩
theorem AltC.of_grown {r : Option Nat} (h : w.grownBy w1 r) : AltC w w1 (fun x _ => some x = r) :=
  ⟨h.os, h.tape, h.output, h.size, fun b hb hn => h.block b hb (fun e => hn 0 e), fun b o hb hn =>
    ⟨World.cell?_of_block (a := ⟨b, o, none⟩) (h.block b hb hn), World.frozen?_of_block (a := ⟨b, o, none⟩) (h.block b hb hn)⟩⟩
theorem AltC.below {B : Nat} (h : AltC w w1 S) (hB : B ≤ w.heap.size) (hS : ∀ b o, b < B → ¬ S b o) : Below B w w1 :=
  ⟨h.os, h.tape, h.output, h.size, fun b hb => h.block b (Nat.lt_of_lt_of_le hb hB) (fun o => hS b o hb)⟩
theorem AltC.set (w : World) (b o : Nat) (v : Value) : AltC w (w.setCell ⟨b, o, none⟩ v) (fun x y => x = b ∧ y = o) :=
  ⟨rfl, rfl, rfl, by simp, fun k hk hn => Below.heap_setCell w _ v k (fun e => hn o ⟨e, rfl⟩), fun x y hx hn =>
    ⟨World.cell?_setCell_other _ _ _ _ (fun e => hn (by cases e; exact ⟨rfl, rfl⟩)), by simp⟩⟩
theorem AltC.drew (w : World) (S : Nat → Nat → Prop) : AltC w w.drew S := ⟨rfl, rfl, rfl, Nat.le_refl _, fun _ _ _ => rfl, fun _ _ _ _ => ⟨rfl, rfl⟩⟩
theorem AltC.drewN (w : World) (n : Nat) (S : Nat → Nat → Prop) : AltC w (w.drewN n) S := ⟨rfl, rfl, rfl, Nat.le_refl _, fun _ _ _ => rfl, fun _ _ _ _ => ⟨rfl, rfl⟩⟩
theorem AltC.alloc (w : World) (x : Obj) (S : Nat → Nat → Prop) : AltC w (w.alloc x) S := AltC.of_below (below_alloc0 w x) S
theorem Slot.alt (h : Slot w b o v) (k : AltC w w1 S) (hn : ¬ S b o) : Slot w1 b o v := by
  have := k.cell b o h.lt hn
  exact ⟨this.1.trans h.1, this.2.trans h.2⟩
theorem Slot.below (h : Slot w b o v) (k : Below w.heap.size w w1) : Slot w1 b o v := h.alt (AltC.of_below k (fun _ _ => False)) (fun h => h)
theorem Slot.set (h : Slot w b o v) (u : Value) : Slot (w.setCell ⟨b, o, none⟩ u) b o u := ⟨World.cell?_setCell_same _ _ _ h.1, by simpa using h.2⟩
theorem Slot.of_row {g t : Nat} {vs : List Value} (h : Row w g t vs) (i : Nat) (hi : vs[i]? = some v) : Slot w g i v := ⟨(h.cell i).trans hi, h.free i⟩
end
/-- A value of the parser that is all zero. -/
def Zero5 (w : World) (b o : Nat) : Prop := Slot w b o (.slice none 0 0) ∧ Slot w b (o + 1) (.bool false) ∧ Slot w b (o + 2) (.slice none 0 0) ∧ Slot w b (o + 3) (.string ⟨#[]⟩) ∧ Slot w b (o + 4) (.int .i64 0)
theorem Zero5.alt {w w1 : World} {S : Nat → Nat → Prop} {b o : Nat} (h : Zero5 w b o) (k : AltC w w1 S) (hn : ∀ y, o ≤ y → y < o + 5 → ¬ S b y) : Zero5 w1 b o :=
  ⟨h.1.alt k (hn _ (by omega) (by omega)), h.2.1.alt k (hn _ (by omega) (by omega)), h.2.2.1.alt k (hn _ (by omega) (by omega)), h.2.2.2.1.alt k (hn _ (by omega) (by omega)), h.2.2.2.2.alt k (hn _ (by omega) (by omega))⟩
/-- The parser's values: n of them are given out; the others are zero. -/
structure Cache (w : World) (C co : Nat) (VB : Option Nat) (n cap : Nat) : Prop where
  fld : Slot w C co (.slice (VB.map fun b => ⟨b, 0, none⟩) n cap)
  le : n ≤ cap
  nil : VB = none → cap = 0
  ne : VB ≠ some C
  lt : ∀ b, VB = some b → b < w.heap.size
  old : ∀ b, VB = some b → ∀ j, j < 5 * n → ∃ v, Slot w b j v
  spare : ∀ b, VB = some b → ∀ i, n ≤ i → i < cap → Zero5 w b (5 * i)
/-- What a call of the parser may write to. -/
def SC (C co : Nat) (VB : Option Nat) (n : Nat) (x y : Nat) : Prop := (x = C ∧ y = co) ∨ (VB = some x ∧ 5 * n ≤ y)
structure Grew (w : World) (VB : Option Nat) (n : Nat) (VB' : Option Nat) (n' : Nat) : Prop where
  le : n ≤ n'
  same : VB' = VB ∨ ∃ b, VB' = some b ∧ w.heap.size ≤ b
section
variable {w w1 w2 : World} {C co n n1 n2 cap : Nat} {VB VB1 VB2 : Option Nat}
theorem Grew.refl (w : World) (VB : Option Nat) (n : Nat) : Grew w VB n VB n := ⟨Nat.le_refl _, .inl rfl⟩
theorem Grew.trans (h : Grew w VB n VB1 n1) (k : Grew w1 VB1 n1 VB2 n2) (hs : w.heap.size ≤ w1.heap.size) : Grew w VB n VB2 n2 := by
  refine ⟨Nat.le_trans h.le k.le, ?_⟩
  rcases k.same with e | ⟨b, e, hb⟩
  · rcases h.same with e2 | ⟨b, e2, hb⟩
    · exact .inl (e.trans e2)
    · exact .inr ⟨b, e.trans e2, hb⟩
  · exact .inr ⟨b, e, Nat.le_trans hs hb⟩
theorem Grew.sc (h : Grew w VB n VB1 n1) {x y : Nat} (hx : x < w.heap.size) (k : SC C co VB1 n1 x y) : SC C co VB n x y := by
  rcases k with k | ⟨k, hy⟩
  · exact .inl k
  · refine .inr ?_
    have := h.le
    rcases h.same with e | ⟨b, e, hb⟩
    · exact ⟨e ▸ k, by omega⟩
    · rw [e] at k; cases k; omega
theorem Cache.alt (h : Cache w C co VB n cap) {S : Nat → Nat → Prop} (k : AltC w w1 S) (h1 : ¬ S C co) (h2 : ∀ b y, VB = some b → ¬ S b y) : Cache w1 C co VB n cap :=
  ⟨h.fld.alt k h1, h.le, h.nil, h.ne, fun b hb => Nat.lt_of_lt_of_le (h.lt b hb) k.size, fun b hb j hj => by
    obtain ⟨v, hv⟩ := h.old b hb j hj
    exact ⟨v, hv.alt k (h2 b j hb)⟩, fun b hb i hi hc => (h.spare b hb i hi hc).alt k (fun y _ _ => h2 b y hb)⟩
/-- The cells of what a call has made. -/
def RegN (w w1 : World) (C co : Nat) (VB : Option Nat) (n : Nat) (VB1 : Option Nat) (n1 : Nat) (x y : Nat) : Prop :=
  x < w1.heap.size ∧ ¬ SC C co VB1 n1 x y ∧ (w.heap.size ≤ x ∨ SC C co VB n x y)
theorem RegN.later (h : Grew w1 VB1 n1 VB2 n2) (hs : w1.heap.size ≤ w2.heap.size) {x y : Nat} (k : RegN w w1 C co VB n VB1 n1 x y) : RegN w w2 C co VB n VB2 n2 x y :=
  ⟨Nat.lt_of_lt_of_le k.1 hs, fun e => k.2.1 (h.sc k.1 e), k.2.2⟩
theorem RegN.earlier (h : Grew w VB n VB1 n1) (hs : w.heap.size ≤ w1.heap.size) {x y : Nat} (k : RegN w1 w2 C co VB1 n1 VB2 n2 x y) : RegN w w2 C co VB n VB2 n2 x y := by
  refine ⟨k.1, k.2.1, ?_⟩
  rcases Nat.lt_or_ge x w.heap.size with hx | hx
  · rcases k.2.2 with h2 | h2
    · omega
    · exact .inr (h.sc hx h2)
  · exact .inl hx
end
/-- A cell that lies in a region, and may be written. -/
def Cel (w : World) (F : Nat → Nat → Prop) (b o : Nat) (v : Value) : Prop := F b o ∧ Slot w b o v
def RdF (w : World) (F : Nat → Nat → Prop) (A : Option Addr) (vs : List Value) : Prop := ∀ i v, vs[i]? = some v → ∃ b o, A = some ⟨b, o, none⟩ ∧ Cel w F b (o + i) v
def ptr (p : Nat × Nat) : Value := .pointer (some ⟨p.1, p.2, none⟩)
def kvC (k : Bs) (p : Nat × Nat) : List Value := [.string (bs k), ptr p]
/-- A value that was parsed, in memory: all its cells lie in the region F. Of an object the values lie apart from each other, from its own cells and from the names' row. -/
inductive Rep (w : World) : (Nat → Nat → Prop) → JV → Nat → Nat → Prop
  | lit {F : Nat → Nat → Prop} {b o t : Nat} : Cel w F b (o + 4) (.int .i64 t) → Rep w F (.lit t) b o
  | num {F : Nat → Nat → Prop} {b o : Nat} {s : Bs} : Cel w F b (o + 3) (.string (bs s)) → Cel w F b (o + 4) (.int .i64 4) → Rep w F (.num s) b o
  | str {F : Nat → Nat → Prop} {b o : Nat} {s : Bs} : Cel w F b (o + 3) (.string (bs s)) → Cel w F b (o + 4) (.int .i64 7) → Rep w F (.str s) b o
  | arr {F : Nat → Nat → Prop} {b o : Nat} {l : List JV} (A : Option Addr) (c : Nat) (ad : Nat → Nat × Nat) : Cel w F b (o + 2) (.slice A l.length c) → l.length ≤ c → Cel w F b (o + 4) (.int .i64 2) → RdF w F A ((List.range l.length).map fun i => ptr (ad i)) →
      (∀ i (h : i < l.length), Rep w F l[i] (ad i).1 (ad i).2) → Rep w F (.arr l) b o
  | obj {F : Nat → Nat → Prop} {b o : Nat} {l : List (Bs × JV)} (K : Option Nat) (c : Nat) (ad : Nat → Nat × Nat) (G : Nat → Nat → Nat → Prop) : Cel w F b o (.slice (K.map fun k => ⟨k, 0, none⟩) l.length c) → l.length ≤ c → Cel w F b (o + 1) (.bool false) → Cel w F b (o + 4) (.int .i64 1) →
      (∀ k, K = some k → k ≠ b) → (∀ i (h : i < l.length), ∃ k, K = some k ∧ Cel w F k (2 * i) (.string (bs l[i].1)) ∧ Cel w F k (2 * i + 1) (ptr (ad i))) →
      (∀ i x y, i < l.length → G i x y → F x y ∧ K ≠ some x ∧ ¬ (x = b ∧ o ≤ y ∧ y < o + 5)) → (∀ i j x y, i < l.length → j < l.length → G i x y → G j x y → i = j) →
      (∀ i (h : i < l.length), Rep w (G i) l[i].2 (ad i).1 (ad i).2) → Rep w F (.obj l) b o
section
variable {w w1 : World} {S F F1 : Nat → Nat → Prop}
theorem Cel.alt {b o : Nat} {v : Value} (h : Cel w F b o v) (k : AltC w w1 S) (hn : ∀ x y, F x y → ¬ S x y) : Cel w1 F b o v := ⟨h.1, h.2.alt k (hn _ _ h.1)⟩
theorem Cel.mono {b o : Nat} {v : Value} (h : Cel w F b o v) (hn : ∀ x y, F x y → F1 x y) : Cel w F1 b o v := ⟨hn _ _ h.1, h.2⟩
theorem RdF.rd {A : Option Addr} {vs : List Value} (h : RdF w F A vs) : Rd w A vs := fun i v hv => by
  obtain ⟨b, o, e, h1⟩ := h i v hv
  exact ⟨b, o, e, h1.2.lt, h1.2.1⟩
theorem RdF.alt {A : Option Addr} {vs : List Value} (h : RdF w F A vs) (k : AltC w w1 S) (hn : ∀ x y, F x y → ¬ S x y) : RdF w1 F A vs := fun i v hv => by
  obtain ⟨b, o, e, hc⟩ := h i v hv
  exact ⟨b, o, e, hc.alt k hn⟩
theorem RdF.mono {A : Option Addr} {vs : List Value} (h : RdF w F A vs) (hn : ∀ x y, F x y → F1 x y) : RdF w F1 A vs := fun i v hv => by
  obtain ⟨b, o, e, hc⟩ := h i v hv
  exact ⟨b, o, e, hc.mono hn⟩
theorem Rep.alt {v : JV} {b o : Nat} (h : Rep w F v b o) (k : AltC w w1 S) (hn : ∀ x y, F x y → ¬ S x y) : Rep w1 F v b o := by
  induction h with
  | lit h1 => exact .lit (h1.alt k hn)
  | num h1 h2 => exact .num (h1.alt k hn) (h2.alt k hn)
  | str h1 h2 => exact .str (h1.alt k hn) (h2.alt k hn)
  | arr A c ad h1 h2 h3 h4 _ ih => exact .arr A c ad (h1.alt k hn) h2 (h3.alt k hn) (h4.alt k hn) (fun i hi => ih i hi hn)
  | obj K c ad G h1 h2 h3 h4 h5 h6 h7 h8 _ ih =>
    refine .obj K c ad G (h1.alt k hn) h2 (h3.alt k hn) (h4.alt k hn) h5 ?_ h7 h8 (fun i hi => ih i hi (fun x y hg => hn x y (h7 i x y hi hg).1))
    intro i hi
    obtain ⟨q, e, hc, hd⟩ := h6 i hi
    exact ⟨q, e, hc.alt k hn, hd.alt k hn⟩
theorem Rep.mono {v : JV} {b o : Nat} (h : Rep w F v b o) (hn : ∀ x y, F x y → F1 x y) : Rep w F1 v b o := by
  induction h generalizing F1 with
  | lit h1 => exact .lit (h1.mono hn)
  | num h1 h2 => exact .num (h1.mono hn) (h2.mono hn)
  | str h1 h2 => exact .str (h1.mono hn) (h2.mono hn)
  | arr A c ad h1 h2 h3 h4 _ ih => exact .arr A c ad (h1.mono hn) h2 (h3.mono hn) (h4.mono hn) (fun i hi => ih i hi hn)
  | obj K c ad G h1 h2 h3 h4 h5 h6 h7 h8 h9 ih =>
    refine .obj K c ad G (h1.mono hn) h2 (h3.mono hn) (h4.mono hn) h5 ?_ ?_ h8 h9
    · intro i hi
      obtain ⟨q, e, hc, hd⟩ := h6 i hi
      exact ⟨q, e, hc.mono hn, hd.mono hn⟩
    · intro i x y hi hg
      have := h7 i x y hi hg
      exact ⟨hn _ _ this.1, this.2⟩
end
theorem zero_get (z : Array Value) (m i k : Nat) (hk : k < z.size) (hi : i < m) : (Builtin.zeroCells z m).toList[z.size * i + k]? = some z[k] := by
  have h1 : z.size * i + k < m * z.size := by
    have h2 : z.size * (i + 1) ≤ z.size * m := Nat.mul_le_mul_left _ hi
    rw [Nat.mul_comm m, Nat.mul_add] at *
    omega
  unfold Builtin.zeroCells
  rw [Array.getElem?_toList, Array.getElem?_map, Array.getElem?_range, if_pos h1, Option.map_some]
  congr 1
  rw [Nat.mul_add_mod, Nat.mod_eq_of_lt hk, getElem!_pos z k hk]
section
variable {P : Program}
/-- append of one to a slice that is full: a new block. -/
theorem run_grow_k {W : World} {t ty e : TypeId} {i : TypeInfo} {z : Value} (ht : P.underlying t = some (.slice e)) (hi : P.info? e = some i) (hz0 : i.zero = some z) (A : Option Addr) (n : Nat) (olds : List Value) (hol : olds.length = n * i.size)
    (hrd : ∀ j v, olds[j]? = some v → ∃ b, A = some ⟨b, 0, none⟩ ∧ W.cell? ⟨b, j, none⟩ = some v) (hnil : A = none → n = 0) (g c : Nat) (news : List Value) (hnl : news.length = i.size) (hR : Row W g e news) (h1 : ∀ u ∈ news, u.oneCell' = true) (hlen : (n + 1) * i.bytes ≤ 140737488355328) (hn : n ≤ 1000000000000) :
    ∃ cap w1, n + 1 ≤ cap ∧ (Builtin.append_ #[t, t] ty #[.slice A n n, .slice (some ⟨g, 0, none⟩) 1 c]).run P W = .ok (.slice (some ⟨W.heap.size, 0, none⟩) (n + 1) cap) w1 ∧ Row w1 W.heap.size e (olds ++ news ++ (Builtin.zeroCells z.cells (cap - (n + 1))).toList) ∧ Below W.heap.size W w1 ∧ w1.heap.size = W.heap.size + 1 := by
  have hs : Src P i.size t (.slice (some ⟨g, 0, none⟩) 1 c) 1 news W := Src.ofSlice W ht ⟨g, 0, none⟩ 1 c news (by omega) (fun j u hj => by rw [addr_add, Nat.zero_add, hR.cell, hj]) h1
  have hold : (Builtin.firstCells i.size n (.slice A n n)).run P W.drew = .ok olds.toArray W.drew := by
    cases A with
    | none =>
      have : olds = [] := List.eq_nil_of_length_eq_zero (by rw [hol, hnil rfl, Nat.zero_mul])
      subst this
      exact run_firstCells_none W.drew i.size n n n
    | some ad => exact run_firstCells_some W.drew i.size n ad n n olds hol (fun j u hj => by
        obtain ⟨b, e, hc⟩ := hrd j u hj
        cases e
        rw [addr_add, Nat.zero_add]; exact hc)
  have hr := run_append_grow_src (P := P) W t t ty e i z ht hi hz0 A n n olds hold (.slice (some ⟨g, 0, none⟩) 1 c) 1 news hs (by omega) (by omega) (growslice_fits (by omega) hlen)
  refine ⟨_, _, grownCap_ge W (n + 1) n e, hr, ?_, (below_drewN0 (Below.refl _ _) 1).trans (below_alloc0 W.drew _), by simp⟩
  have := Row.new W.drew e (olds ++ news ++ (Builtin.zeroCells z.cells (grownCap W (n + 1) n e - (n + 1))).toList)
  have e2 : ((olds ++ news).toArray ++ Builtin.zeroCells z.cells (grownCap W (n + 1) n e - (n + 1))) = (olds ++ news ++ (Builtin.zeroCells z.cells (grownCap W (n + 1) n e - (n + 1))).toList).toArray := by
    apply Array.ext'; simp
  rw [e2]; exact this
end
end Go.Proofs.YtbdmdajbdmdknaaGreatDoor
