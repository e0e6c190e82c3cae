/- Base64 as plain lists of numbers: how bytes are written, and what a text is read as. Nothing here speaks of the program. The encodings: how they are made. A new encoding out of its letters. The four encodings. -/
import Derived.Test.YtbdmdajbdmdknaaGreatDoorM1
import Derived.Test.YtbdmdajbdmdknaaGreatDoorProg
import Derived.Test.YtbdmdajbdmdknaaGreatDoorM7
import Derived.StillTailTactics
namespace Go.Proofs.YtbdmdajbdmdknaaGreatDoor
open Go.RowKit
set_option linter.unusedVariables false
set_option linter.unusedSimpArgs false

def rangeI (n : Nat) : List Int := (List.range n).map Int.ofNat
/-- The letters. -/
def alpha (url : Bool) : List Int := (rangeI 26).map (65 + ·) ++ ((rangeI 26).map (97 + ·) ++ ((rangeI 10).map (48 + ·) ++ (if url then [45, 95] else [43, 47])))
/-- The reading table when the letters below 'k' have been written into it. -/
def tabUpto (url : Bool) : Nat → List Int
  | 0 => List.replicate 256 255
  | k + 1 => (tabUpto url k).set (gi (alpha url) k).toNat (k : Int)
def tab (url : Bool) : List Int := tabUpto url 64
theorem alpha_len (url : Bool) : (alpha url).length = 64 := by cases url <;> rfl
theorem tabUpto_len (url : Bool) (k : Nat) : (tabUpto url k).length = 256 := by
  induction k with
  | zero => exact List.length_replicate
  | succ k ih => simp [tabUpto, ih]
theorem tab_len (url : Bool) : (tab url).length = 256 := tabUpto_len url 64
def okTab (url : Bool) : Bool :=
  ((List.range 64).all fun i => gi (tab url) (gi (alpha url) i).toNat == (i : Int)) &&
  ((List.range 256).all fun x => gi (tab url) x == 255 || (decide (0 ≤ gi (tab url) x) && decide (gi (tab url) x < 64) && gi (alpha url) (gi (tab url) x).toNat == (x : Int))) &&
  ((List.range 64).all fun i => decide (0 ≤ gi (alpha url) i) && decide (gi (alpha url) i < 128) && !(gi (alpha url) i == 10) && !(gi (alpha url) i == 13) && !(gi (alpha url) i == 61) && !(gi (alpha url) i == 46)) &&
  ((List.range 64).all fun i => gi (tabUpto url i) (gi (alpha url) i).toNat == 255)
theorem okTab_true (url : Bool) : okTab url = true := by cases url <;> kernel_rfl
theorem okTab_all (url : Bool) :
    (∀ i, i < 64 → gi (tab url) (gi (alpha url) i).toNat = (i : Int)) ∧
    (∀ x, x < 256 → gi (tab url) x = 255 ∨ (0 ≤ gi (tab url) x ∧ gi (tab url) x < 64 ∧ gi (alpha url) (gi (tab url) x).toNat = (x : Int))) ∧
    (∀ i, i < 64 → 0 ≤ gi (alpha url) i ∧ gi (alpha url) i < 128 ∧ gi (alpha url) i ≠ 10 ∧ gi (alpha url) i ≠ 13 ∧ gi (alpha url) i ≠ 61 ∧ gi (alpha url) i ≠ 46) ∧
    (∀ i, i < 64 → gi (tabUpto url i) (gi (alpha url) i).toNat = 255) := by
  have h := okTab_true url
  simp only [okTab, Bool.and_eq_true, List.all_eq_true, List.mem_range, beq_iff_eq, Bool.or_eq_true, decide_eq_true_iff, Bool.not_eq_true', beq_eq_false_iff_ne, and_assoc] at h
  obtain ⟨h1, h2, h3, h4⟩ := h
  exact ⟨h1, h2, h3, h4⟩
theorem tab_alpha (url : Bool) {i : Nat} (h : i < 64) : gi (tab url) (gi (alpha url) i).toNat = (i : Int) := (okTab_all url).1 i h
theorem tab_cases (url : Bool) {x : Nat} (h : x < 256) : gi (tab url) x = 255 ∨ (0 ≤ gi (tab url) x ∧ gi (tab url) x < 64 ∧ gi (alpha url) (gi (tab url) x).toNat = (x : Int)) := (okTab_all url).2.1 x h
theorem alpha_at (url : Bool) {i : Nat} (h : i < 64) : 0 ≤ gi (alpha url) i ∧ gi (alpha url) i < 128 ∧ gi (alpha url) i ≠ 10 ∧ gi (alpha url) i ≠ 13 ∧ gi (alpha url) i ≠ 61 ∧ gi (alpha url) i ≠ 46 := (okTab_all url).2.2.1 i h
theorem tabUpto_at (url : Bool) {i : Nat} (h : i < 64) : gi (tabUpto url i) (gi (alpha url) i).toNat = 255 := (okTab_all url).2.2.2 i h

/-! Written. -/
def val3 (a b c : Int) : Int := a * 65536 + b * 256 + c
def encF (al : List Int) : List Int → List Int
  | [] => []
  | [a] => [gi al (val3 a 0 0 / 262144).toNat, gi al (val3 a 0 0 / 4096 % 64).toNat]
  | [a, b] => [gi al (val3 a b 0 / 262144).toNat, gi al (val3 a b 0 / 4096 % 64).toNat, gi al (val3 a b 0 / 64 % 64).toNat]
  | a :: b :: c :: r => gi al (val3 a b c / 262144).toNat :: gi al (val3 a b c / 4096 % 64).toNat :: gi al (val3 a b c / 64 % 64).toNat :: gi al (val3 a b c % 64).toNat :: encF al r
theorem encF_len (al : List Int) : ∀ l : List Int, (encF al l).length = l.length / 3 * 4 + (l.length % 3 * 8 + 5) / 6
  | [] => rfl
  | [a] => by simp [encF]
  | [a, b] => by simp [encF]
  | a :: b :: c :: r => by
    simp only [encF, List.length_cons, encF_len al r]
    omega
theorem encF_mem (al : List Int) : ∀ l : List Int, IsB l → ∀ x ∈ encF al l, ∃ i, i < 64 ∧ x = gi al i
  | [], _, x, h => by simp [encF] at h
  | [a], hb, x, h => by
    have ha := hb a (by simp)
    simp only [encF, List.mem_cons, List.not_mem_nil, or_false, val3] at h
    rcases h with rfl | rfl
    · exact ⟨_, by omega, rfl⟩
    · exact ⟨_, by omega, rfl⟩
  | [a, b], hb, x, h => by
    have ha := hb a (by simp)
    have hb1 := hb b (by simp)
    simp only [encF, List.mem_cons, List.not_mem_nil, or_false, val3] at h
    rcases h with rfl | rfl | rfl
    · exact ⟨_, by omega, rfl⟩
    · exact ⟨_, by omega, rfl⟩
    · exact ⟨_, by omega, rfl⟩
  | a :: b :: c :: r, hb, x, h => by
    have ha := hb a (by simp)
    have hb1 := hb b (by simp)
    have hc := hb c (by simp)
    simp only [encF, List.mem_cons, val3] at h
    rcases h with rfl | rfl | rfl | rfl | h
    · exact ⟨_, by omega, rfl⟩
    · exact ⟨_, by omega, rfl⟩
    · exact ⟨_, by omega, rfl⟩
    · exact ⟨_, by omega, rfl⟩
    · exact encF_mem al r (fun y hy => hb y (by simp [hy])) x h

/-! Read. -/
def skipNL (l : List Int) : List Int := l.dropWhile fun x => x == 10 || x == 13
/-- The bytes that some digits make. -/
def val4 (d : List Int) : Int := gi d 0 * 262144 + gi d 1 * 4096 + gi d 2 * 64 + gi d 3
def outB (d : List Int) : List Int := [val4 d / 65536 % 256, val4 d / 256 % 256, val4 d % 256].take (d.length - 1)
def padEnd (pad : Int) (d r : List Int) : Option (List Int) :=
  if d.length < 2 then none
  else if d.length = 2 then
    (match skipNL r with
     | [] => none
     | y :: r' => if y = pad ∧ skipNL r' = [] then some (outB d) else none)
  else if skipNL r = [] then some (outB d) else none
def atEnd (pad : Int) (d : List Int) : Option (List Int) :=
  if d.length = 0 then some [] else if d.length = 1 then none else if pad = -1 then some (outB d) else none
def decA (dm : List Int) (pad : Int) : List Int → List Int → Option (List Int)
  | [], d => atEnd pad d
  | x :: r, d =>
    if gi dm x.toNat ≠ 255 then
      (if d.length = 3 then (decA dm pad r []).map (outB (d ++ [gi dm x.toNat]) ++ ·) else decA dm pad r (d ++ [gi dm x.toNat]))
    else if x = 10 ∨ x = 13 then decA dm pad r d
    else if x = pad then padEnd pad d r
    else none
theorem outB_isB (d : List Int) : IsB (outB d) := by
  intro x hx
  have := List.mem_of_mem_take hx
  simp only [List.mem_cons, List.not_mem_nil, or_false] at this
  rcases this with rfl | rfl | rfl <;> omega
theorem outB_len (d : List Int) (h : d.length ≤ 4) : (outB d).length = d.length - 1 := by
  unfold outB; rw [List.length_take]; simp only [List.length_cons, List.length_nil]; omega
theorem atEnd_some {pad : Int} {d out : List Int} (hd : d.length ≤ 3) (h : atEnd pad d = some out) : IsB out ∧ out.length ≤ d.length := by
  unfold atEnd at h
  by_cases h0 : d.length = 0
  · rw [if_pos h0] at h
    cases h
    exact ⟨fun x hx => by simp at hx, by simp⟩
  · rw [if_neg h0] at h
    by_cases h1 : d.length = 1
    · rw [if_pos h1] at h; cases h
    · rw [if_neg h1] at h
      by_cases h2 : pad = -1
      · rw [if_pos h2] at h
        cases h
        exact ⟨outB_isB d, by rw [outB_len d (by omega)]; omega⟩
      · rw [if_neg h2] at h; cases h
theorem skipNL_nil {l : List Int} (h : skipNL l = []) : ∀ x ∈ l, x = 10 ∨ x = 13 := by
  induction l with
  | nil => intro x hx; cases hx
  | cons a l ih =>
    unfold skipNL at h
    rw [List.dropWhile_cons] at h
    by_cases ha : (a == 10 || a == 13) = true
    · rw [if_pos ha] at h
      intro x hx
      rcases List.mem_cons.1 hx with rfl | hx
      · simpa using ha
      · exact ih h x hx
    · rw [if_neg ha] at h; cases h
theorem skipNL_mem : ∀ (l : List Int) (x : Int), x ∈ l → x ∈ skipNL l ∨ x = 10 ∨ x = 13
  | [], x, h => by cases h
  | a :: l, x, h => by
    unfold skipNL
    rw [List.dropWhile_cons]
    by_cases ha : (a == 10 || a == 13) = true
    · rw [if_pos ha]
      rcases List.mem_cons.1 h with rfl | h
      · right; simpa using ha
      · exact skipNL_mem l x h
    · rw [if_neg ha]; exact .inl h
theorem padEnd_some {pad : Int} {d r out : List Int} (hd : d.length ≤ 3) (h : padEnd pad d r = some out) : IsB out ∧ out.length ≤ d.length ∧ ∀ x ∈ r, x = 10 ∨ x = 13 ∨ x = pad := by
  unfold padEnd at h
  by_cases h2 : d.length < 2
  · rw [if_pos h2] at h; cases h
  · rw [if_neg h2] at h
    by_cases h3 : d.length = 2
    · rw [if_pos h3] at h
      cases hs : skipNL r with
      | nil => rw [hs] at h; cases h
      | cons y r' =>
        rw [hs] at h
        simp only at h
        by_cases hy : y = pad ∧ skipNL r' = []
        · rw [if_pos hy] at h
          cases h
          refine ⟨outB_isB d, by rw [outB_len d (by omega)]; omega, fun x hx => ?_⟩
          rcases skipNL_mem r x hx with h | h | h
          · rw [hs] at h
            rcases List.mem_cons.1 h with rfl | h
            · exact .inr (.inr hy.1)
            · rcases skipNL_nil hy.2 x h with h | h
              · exact .inl h
              · exact .inr (.inl h)
          · exact .inl h
          · exact .inr (.inl h)
        · rw [if_neg hy] at h; cases h
    · rw [if_neg h3] at h
      by_cases hs : skipNL r = []
      · rw [if_pos hs] at h
        cases h
        refine ⟨outB_isB d, by rw [outB_len d (by omega)]; omega, fun x hx => ?_⟩
        rcases skipNL_nil hs x hx with h | h
        · exact .inl h
        · exact .inr (.inl h)
      · rw [if_neg hs] at h; cases h
/-- What is read are bytes, no more than the text has, and each sign of the text is a letter, an end of a line, or the padding. -/
theorem decA_some (dm : List Int) (pad : Int) : ∀ (r d out : List Int), d.length ≤ 3 → decA dm pad r d = some out → IsB out ∧ out.length ≤ d.length + r.length ∧ ∀ x ∈ r, gi dm x.toNat ≠ 255 ∨ x = 10 ∨ x = 13 ∨ x = pad
  | [], d, out, hd, h => by
    obtain ⟨h1, h2⟩ := atEnd_some hd h
    exact ⟨h1, by simpa using h2, fun x hx => by cases hx⟩
  | x :: r, d, out, hd, h => by
    unfold decA at h
    by_cases hx : gi dm x.toNat ≠ 255
    · rw [if_pos hx] at h
      by_cases h3 : d.length = 3
      · rw [if_pos h3] at h
        obtain ⟨o, ho, rfl⟩ := Option.map_eq_some_iff.1 h
        obtain ⟨h1, h2, h4⟩ := decA_some dm pad r [] o (by simp) ho
        refine ⟨fun y hy => ?_, ?_, fun y hy => ?_⟩
        · rcases List.mem_append.1 hy with hy | hy
          · exact outB_isB _ y hy
          · exact h1 y hy
        · rw [List.length_append, outB_len _ (by simp; omega)]
          simp only [List.length_append, List.length_cons, List.length_nil] at *
          omega
        · rcases List.mem_cons.1 hy with rfl | hy
          · exact .inl hx
          · exact h4 y hy
      · rw [if_neg h3] at h
        obtain ⟨h1, h2, h4⟩ := decA_some dm pad r _ out (by simp; omega) h
        refine ⟨h1, ?_, fun y hy => ?_⟩
        · simp only [List.length_append, List.length_cons, List.length_nil] at *; omega
        · rcases List.mem_cons.1 hy with rfl | hy
          · exact .inl hx
          · exact h4 y hy
    · rw [if_neg hx] at h
      by_cases hn : x = 10 ∨ x = 13
      · rw [if_pos hn] at h
        obtain ⟨h1, h2, h4⟩ := decA_some dm pad r d out hd h
        refine ⟨h1, ?_, fun y hy => ?_⟩
        · simp only [List.length_cons]; omega
        · rcases List.mem_cons.1 hy with rfl | hy
          · rcases hn with h | h
            · exact .inr (.inl h)
            · exact .inr (.inr (.inl h))
          · exact h4 y hy
      · rw [if_neg hn] at h
        by_cases hp : x = pad
        · rw [if_pos hp] at h
          obtain ⟨h1, h2, h4⟩ := padEnd_some hd h
          refine ⟨h1, ?_, fun y hy => ?_⟩
          · simp only [List.length_cons]; omega
          · rcases List.mem_cons.1 hy with rfl | hy
            · exact .inr (.inr (.inr hp))
            · rcases h4 y hy with h | h | h
              · exact .inr (.inl h)
              · exact .inr (.inr (.inl h))
              · exact .inr (.inr (.inr h))
        · rw [if_neg hp] at h; cases h
theorem outB_2 (k0 k1 : Int) : outB [k0, k1] = [(k0 * 262144 + k1 * 4096) / 65536 % 256] := by simp [outB, val4, gi]
theorem outB_3 (k0 k1 k2 : Int) : outB [k0, k1, k2] = [(k0 * 262144 + k1 * 4096 + k2 * 64) / 65536 % 256, (k0 * 262144 + k1 * 4096 + k2 * 64) / 256 % 256] := by simp [outB, val4, gi]
theorem outB_4 (k0 k1 k2 k3 : Int) : outB [k0, k1, k2, k3] = [(k0 * 262144 + k1 * 4096 + k2 * 64 + k3) / 65536 % 256, (k0 * 262144 + k1 * 4096 + k2 * 64 + k3) / 256 % 256, (k0 * 262144 + k1 * 4096 + k2 * 64 + k3) % 256] := by simp [outB, val4, gi]
/-- One more digit. -/
theorem decA_digit (url : Bool) (pad : Int) (k : Int) (h0 : 0 ≤ k) (hk : k < 64) (r d : List Int) :
    decA (tab url) pad (gi (alpha url) k.toNat :: r) d = if d.length = 3 then (decA (tab url) pad r []).map (outB (d ++ [k]) ++ ·) else decA (tab url) pad r (d ++ [k]) := by
  have h := tab_alpha url (i := k.toNat) (by omega)
  rw [Int.toNat_of_nonneg h0] at h
  rw [decA, h, if_pos (by omega)]
theorem decA_encF (url : Bool) : ∀ l : List Int, IsB l → decA (tab url) (-1) (encF (alpha url) l) [] = some l
  | [], _ => rfl
  | [a], hb => by
    have ha := hb a (by simp)
    unfold encF
    rw [decA_digit _ _ _ (by unfold val3; omega) (by unfold val3; omega), if_neg (by simp), decA_digit _ _ _ (by unfold val3; omega) (by unfold val3; omega), if_neg (by simp)]
    rw [decA, atEnd, if_neg (by simp), if_neg (by simp), if_pos rfl]
    simp only [List.nil_append, List.cons_append, outB_2, val3, Option.some.injEq, List.cons.injEq, and_true]
    omega
  | [a, b], hb => by
    have ha := hb a (by simp)
    have hb1 := hb b (by simp)
    unfold encF
    rw [decA_digit _ _ _ (by unfold val3; omega) (by unfold val3; omega), if_neg (by simp), decA_digit _ _ _ (by unfold val3; omega) (by unfold val3; omega), if_neg (by simp), decA_digit _ _ _ (by unfold val3; omega) (by unfold val3; omega), if_neg (by simp)]
    rw [decA, atEnd, if_neg (by simp), if_neg (by simp), if_pos rfl]
    simp only [List.nil_append, List.cons_append, outB_3, val3, Option.some.injEq, List.cons.injEq, and_true]
    omega
  | a :: b :: c :: r, hb => by
    have ha := hb a (by simp)
    have hb1 := hb b (by simp)
    have hc := hb c (by simp)
    unfold encF
    rw [decA_digit _ _ _ (by unfold val3; omega) (by unfold val3; omega), if_neg (by simp), decA_digit _ _ _ (by unfold val3; omega) (by unfold val3; omega), if_neg (by simp), decA_digit _ _ _ (by unfold val3; omega) (by unfold val3; omega), if_neg (by simp),
      decA_digit _ _ _ (by unfold val3; omega) (by unfold val3; omega), if_pos (by simp), decA_encF url r (fun y hy => hb y (by simp [hy]))]
    simp only [List.nil_append, List.cons_append, outB_4, val3, Option.map_some, Option.some.injEq, List.cons.injEq, and_true]
    omega
end Go.Proofs.YtbdmdajbdmdknaaGreatDoor
namespace Go.Proofs.YtbdmdajbdmdknaaGreatDoor
open Go.RowKit
set_option linter.unusedVariables false
set_option linter.unusedSimpArgs false

/-- The cells of an encoding: the letters, the reading table, the padding, and that it is not strict. -/
def encCells (al dm : List Int) (pad : Int) : List Value := nums .u8 al ++ (nums .u8 dm ++ [.int .i32 pad, .bool false])
theorem encCells_len {al dm : List Int} {pad : Int} (h : al.length = 64) (h' : dm.length = 256) : (encCells al dm pad).length = 322 := by
  simp [encCells, nums_len, h, h']
structure EncAt (w : World) (g : Nat) (al dm : List Int) (pad : Int) : Prop where
  la : al.length = 64
  ld : dm.length = 256
  row : Row w g 188 (encCells al dm pad)
section
variable {w w1 : World} {g : Nat} {al dm : List Int} {pad : Int}
theorem EncAt.letter (h : EncAt w g al dm pad) (i : Nat) (hi : i < 64) : w.cell? ⟨g, i, none⟩ = some (.int .u8 (gi al i)) := by
  rw [h.row.cell, encCells, List.getElem?_append_left (by rw [nums_len, h.la]; exact hi), nums_at _ _ _ (by rw [h.la]; exact hi)]
theorem EncAt.digit (h : EncAt w g al dm pad) (i : Nat) (hi : i < 256) : w.cell? ⟨g, 64 + i, none⟩ = some (.int .u8 (gi dm i)) := by
  rw [h.row.cell, encCells, List.getElem?_append_right (by rw [nums_len, h.la]; omega), nums_len, h.la, show 64 + i - 64 = i by omega, List.getElem?_append_left (by rw [nums_len, h.ld]; exact hi), nums_at _ _ _ (by rw [h.ld]; exact hi)]
theorem EncAt.padc (h : EncAt w g al dm pad) : w.cell? ⟨g, 320, none⟩ = some (.int .i32 pad) := by
  rw [h.row.cell, encCells, List.getElem?_append_right (by rw [nums_len, h.la]; omega), nums_len, h.la, List.getElem?_append_right (by rw [nums_len, h.ld]; omega), nums_len, h.ld]; rfl
theorem EncAt.lax (h : EncAt w g al dm pad) : w.cell? ⟨g, 321, none⟩ = some (.bool false) := by
  rw [h.row.cell, encCells, List.getElem?_append_right (by rw [nums_len, h.la]; omega), nums_len, h.la, List.getElem?_append_right (by rw [nums_len, h.ld]; omega), nums_len, h.ld]; rfl
theorem EncAt.below {B : Nat} (h : EncAt w g al dm pad) (hb : Below B w w1) (hg : g < B) : EncAt w1 g al dm pad := ⟨h.la, h.ld, h.row.below hb hg⟩
theorem EncAt.lt (h : EncAt w g al dm pad) : g < w.heap.size := h.row.lt
theorem EncAt.alloc (h : EncAt w g al dm pad) (o : Obj) : EncAt (w.alloc o) g al dm pad := ⟨h.la, h.ld, h.row.alloc o⟩
theorem EncAt.grown {r : Option Nat} (h : EncAt w g al dm pad) (hg : w.grownBy w1 r) (hne : some g ≠ r) : EncAt w1 g al dm pad := ⟨h.la, h.ld, h.row.grown hg hne⟩
theorem EncAt.drewN (h : EncAt w g al dm pad) (n : Nat) : EncAt (w.drewN n) g al dm pad := ⟨h.la, h.ld, h.row⟩
theorem EncAt.setDigit (h : EncAt w g al dm pad) (i : Nat) (hi : i < 256) (v : Int) : EncAt (w.setCell ⟨g, 64 + i, none⟩ (.int .u8 v)) g al (dm.set i v) pad := by
  refine ⟨h.la, by simp [h.ld], ?_⟩
  have := h.row.set (64 + i) (.int .u8 v)
  rw [encCells, List.set_append_right _ _ (by rw [nums_len, h.la]; omega), nums_len, h.la, show 64 + i - 64 = i by omega, List.set_append_left _ _ (by rw [nums_len, h.ld]; exact hi)] at this
  rwa [nums, nums, ← List.map_set] at this
end

section
variable {P : Program}
/-- new(T), the cells of the zero value known. -/
theorem walk_alloc {ops : Array Oper} {rest : List Oper} {o : Oper} {a : Act} {Q : Exit → Act → World → Prop} {w : World} (hg : o.guard = none) {e : TypeId} (hop : o.op = Op.alloc e) {zs : List Value} (hinfo : (P.info? e).map (fun i => i.zero.map Value.cells) = some (some zs.toArray)) (h : wpList P ops Q rest (a.put o.dst (.pointer (some ⟨w.heap.size, 0, none⟩))) (w.alloc (.cells zs.toArray e))) : wpList P ops Q (o :: rest) a w := by
  refine wpList_plain hg fun K hK => ?_
  obtain ⟨i0, hi, hz⟩ := Option.map_eq_some_iff.1 hinfo
  obtain ⟨z, hz0, hz1⟩ := Option.map_eq_some_iff.1 hz
  have hr : (Instr.alloc e true (.tuple #[])).run P w = .ok (.pointer (some ⟨w.heap.size, 0, none⟩)) (w.alloc (.cells zs.toArray e)) := by
    rw [← hz1]
    simp [Instr.alloc, zeroValue, typeInfo, hi, hz0, newVar, newRow]
  unfold Oper.wp execOp
  simp only [hop, hr, Sem.run_bind, Sem.run_pure, Result.andThen_ok]
  exact hK _ _ h
/-- Some cells of a block, read whole. -/
theorem run_loadVar_at (w : World) (g o : Nat) (ty : TypeId) (cs : List Value) (d : TypeDesc) (hc : ∀ j v, cs[j]? = some v → w.cell? ⟨g, o + j, none⟩ = some v)
    (hu : P.underlying ty = some d) (hd : (match d with | .struct _ | .array _ _ => true | _ => false) = true) (hi : (P.info? ty).map (·.size) = some cs.length) :
    (loadVar ty ⟨g, o, none⟩).run P w = .ok (.agg cs.toArray) w := by
  have hl : (loadCells ⟨g, o, none⟩ cs.length).run P w = .ok cs.toArray w :=
    run_loadCells_list (P := P) w ⟨g, o, none⟩ cs (fun j v hv => by rw [addr_add]; exact hc j v hv)
  cases hq : P.info? ty with
  | none => simp [hq] at hi
  | some i =>
    have hs : i.size = cs.length := by simpa [hq] using hi
    cases d <;> simp at hd <;> simp [loadVar, isAgg, run_underlying hu, sizeOf, typeInfo, hq, hs, hl]
theorem walk_load_at {ops : Array Oper} {rest : List Oper} {o : Oper} {a : Act} {w : World} {Q : Exit → Act → World → Prop} (hgd : o.guard = none) (ty : TypeId) (x : Operand) (ho : o.op = .load ty x)
    {g off : Nat} {cs : List Value} (hc : ∀ j v, cs[j]? = some v → w.cell? ⟨g, off + j, none⟩ = some v) (hx : a.eval x = .pointer (some ⟨g, off, none⟩)) {d : TypeDesc} (hu : P.underlying ty = some d) (hd : (match d with | .struct _ | .array _ _ => true | _ => false) = true) (hi : (P.info? ty).map (·.size) = some cs.length)
    (h : wpList P ops Q rest (a.put o.dst (.agg cs.toArray)) w) : wpList P ops Q (o :: rest) a w := by
  refine wpList_plain hgd fun K hK => ?_
  unfold Oper.wp execOp
  simp only [ho, hx, Instr.loadAt, Instr.sureAddr, Sem.run_bind, Sem.run_pure, Result.andThen_ok, run_loadVar_at w g off ty cs d hc hu hd hi]
  exact hK _ _ h
/-- copy from a text onto a block that is known whole. -/
theorem run_copy_text {w : World} {dT sT ty elem : Nat} (hu : P.underlying dT = some (.slice elem)) (hsz : (P.info? elem).map (·.size) = some 1) {L : List Value} {M : List Int} {s : ByteArray} {g t off dLen dCap : Nat}
    (HR : Row w g t L) (hs : s.data.toList.map (fun b => (b.toNat : Int)) = M) (hd : s.size = dLen) (hfit : off + dLen ≤ L.length) :
    ∃ w1, (Builtin.copy_ #[dT, sT] ty #[.slice (some ⟨g, off, none⟩) dLen dCap, .string s]).run P w = .ok (goInt (s.size : Int)) w1 ∧ Row w1 g t (L.take off ++ nums .u8 M ++ L.drop (off + dLen)) ∧ w.grownBy w1 (some g) ∧ w1.heap.size = w.heap.size := by
  subst hd
  have hlen : (nums .u8 M).length = s.size := by rw [nums_len, ← hs, List.length_map]; rfl
  have hst := run_storeCells_at (P := P) g off t (nums .u8 M) 0 L.toArray w HR (by rw [hlen]; simpa using hfit) (nums_one _ _)
  rw [hlen] at hst
  simp only [Nat.add_zero] at hst
  have htk : List.take s.size (List.map (fun b : UInt8 => Value.int IntKind.u8 (b.toNat : Int)) s.data.toList) = nums .u8 M := by
    rw [List.take_of_length_le (by rw [List.length_map]; exact Nat.le_refl _), ← hs, nums, List.map_map]; rfl
  obtain ⟨i0, hi, hz⟩ := Option.map_eq_some_iff.1 hsz
  refine ⟨w.setRow g (L.take off ++ nums .u8 M ++ L.drop (off + s.size)).toArray, ?_, setRow_heap w g _ _ t _ HR, ⟨rfl, rfl, rfl, by simp, fun i hi hne => setRow_other w g i _ (fun e => hne (by rw [e]))⟩, by simp⟩
  simp [Builtin.copy_, run_underlying hu, Builtin.lenOf, Builtin.firstCells, sizeOf, typeInfo, hi]
  rw [htk, hst]
  simp [Result.andThen]
theorem walk_copy_text {ops : Array Oper} {rest : List Oper} {o : Oper} {a : Act} {w : World} {Q : Exit → Act → World → Prop} (hgd : o.guard = none) (d s : Operand) {dT sT elem : Nat}
    (ho : o.op = .call { callee := .builtin .copy, args := #[d, s], argTypes := #[dT, sT] }) (hu : P.underlying dT = some (.slice elem)) (hsz : (P.info? elem).map (·.size) = some 1) {L : List Value} {M : List Int} {x : ByteArray} {g t off dLen dCap : Nat}
    (hd : a.eval d = .slice (some ⟨g, off, none⟩) dLen dCap) (hs : a.eval s = .string x) (HR : Row w g t L) (hM : x.data.toList.map (fun b => (b.toNat : Int)) = M) (hx : x.size = dLen) (hfit : off + dLen ≤ L.length)
    (h : ∀ w1, Row w1 g t (L.take off ++ nums .u8 M ++ L.drop (off + dLen)) → w.grownBy w1 (some g) → w1.heap.size = w.heap.size → wpList P ops Q rest (a.put o.dst (goInt (x.size : Int))) w1) : wpList P ops Q (o :: rest) a w := by
  obtain ⟨w1, hrun, h1, h2, h3⟩ := run_copy_text (P := P) (sT := sT) (ty := o.type) (dCap := dCap) hu hsz HR hM hx hfit
  refine wpList_plain hgd fun K hK => ?_
  unfold Oper.wp execOp
  simp only [ho, resolve, invoke, builtin, Sem.run_bind, Sem.run_pure, Result.andThen_ok, List.map_toArray, List.map_cons, List.map_nil, hd, hs, hrun]
  exact hK _ _ (h w1 h1 h2 h3)
end
theorem size_u8' : (Tryz.prog.info? 5).map (·.size) = some 1 := by kernel_rfl
theorem info_enc : (Tryz.prog.info? 188).map (fun i => i.zero.map Value.cells) = some (some (encCells (List.replicate 64 0) (List.replicate 256 0) 0).toArray) := by kernel_rfl
end Go.Proofs.YtbdmdajbdmdknaaGreatDoor
namespace Go.Proofs.YtbdmdajbdmdknaaGreatDoor
open Go.RowKit
set_option linter.unusedVariables false
set_option linter.unusedSimpArgs false

theorem enc_setPad {al dm : List Int} {pad v : Int} (h : al.length = 64) (h' : dm.length = 256) : (encCells al dm pad).set 320 (.int .i32 v) = encCells al dm v := by
  rw [encCells, List.set_append_right _ _ (by rw [nums_len, h]; omega), nums_len, h, List.set_append_right _ _ (by rw [nums_len, h']; omega), nums_len, h']
  rfl
theorem EncAt.setPad {w : World} {g : Nat} {al dm : List Int} {pad : Int} (h : EncAt w g al dm pad) (v : Int) : EncAt (w.setCell ⟨g, 320, none⟩ (.int .i32 v)) g al dm v := by
  refine ⟨h.la, h.ld, ?_⟩
  have := h.row.set 320 (.int .i32 v)
  rwa [enc_setPad h.la h.ld] at this
theorem enc_splice1 {al dm M : List Int} {pad : Int} (h : al.length = 64) : (encCells al dm pad).take 0 ++ nums .u8 M ++ (encCells al dm pad).drop (0 + 64) = encCells M dm pad := by
  rw [List.take_zero, List.nil_append, Nat.zero_add, encCells, List.drop_append_of_le_length (by rw [nums_len, h]; omega), List.drop_of_length_le (by rw [nums_len, h]; omega), List.nil_append]; rfl
theorem enc_splice2 {al dm M : List Int} {pad : Int} (h : al.length = 64) (h' : dm.length = 256) : (encCells al dm pad).take 64 ++ nums .u8 M ++ (encCells al dm pad).drop (64 + 256) = encCells al M pad := by
  have h1 : (encCells al dm pad).take 64 = nums .u8 al := List.take_left' (by rw [nums_len, h])
  have h2 : (encCells al dm pad).drop (64 + 256) = [.int .i32 pad, .bool false] := by
    rw [encCells, ← List.append_assoc]; exact List.drop_left' (by rw [List.length_append, nums_len, nums_len, h, h'])
  rw [h1, h2, List.append_assoc]; rfl
theorem text_at {s : ByteArray} {M : List Int} (h : s.data.toList.map (fun b => (b.toNat : Int)) = M) (k : Nat) (hk : k < s.size) : ((s[k]'hk).toNat : Int) = gi M k := by
  subst h
  have h2 : k < s.data.size := hk
  simp only [gi, List.getD_eq_getElem?_getD, List.getElem?_map, Array.getElem?_toList, Array.getElem?_eq_getElem h2, Option.map_some, Option.getD_some]
  rfl
set_option maxRecDepth 100000 in
set_option maxHeartbeats 1000000 in
theorem newEnc_calls (url : Bool) (s : ByteArray) (hs : s.size = 64) (hS : s.data.toList.map (fun b => (b.toNat : Int)) = alpha url) (w : World) :
    Calls Tryz.prog 98 #[.string s] w fun e w' => e = .returned (.pointer (some ⟨w.heap.size, 0, none⟩)) ∧ EncAt w' w.heap.size (alpha url) (tab url) 61 ∧ Below w.heap.size w w' := by
  have HS := hidden hS
  clear hS
  go_enter Tryz.func98, Tryz.ntmps98
  go_wp2_with (first
    | (with_reducible refine at_dst 9 ?_; go_must (refine walk_alloc rfl rfl info_enc ?_; refine wpAbsL (fun W => EncAt W w.heap.size (List.replicate 64 0) (List.replicate 256 0) 0 ∧ Below w.heap.size w W) ⟨⟨List.length_replicate, List.length_replicate, Row.new w _ _⟩, below_alloc0 w _⟩ ?_; rintro w1 ⟨hE1, hB1⟩; have c1 := hE1.padc; have f1 := hE1.row.free 320))
    | (with_reducible refine at_dst 18 ?_; go_must (refine walk_copy_text rfl _ _ rfl Tryz.underlying31 size_u8' rfl rfl (hE1.setPad 61).row HS.out hs (by rw [encCells_len List.length_replicate List.length_replicate]; omega) ?_; intro w2 hR2 hg2 hz2; clear c1 f1))
    | (with_reducible refine at_dst 23 ?_; go_must (refine walk_copy_text rfl _ _ rfl Tryz.underlying31 size_u8' rfl rfl hR2 (M := List.replicate 256 255) (by kernel_rfl) (by kernel_rfl) (by rw [enc_splice1 List.length_replicate, encCells_len (alpha_len url) List.length_replicate]; omega) ?_; intro w3 hR3 hg3 hz3)))
  rw [enc_splice1 List.length_replicate, enc_splice2 (alpha_len url) List.length_replicate] at hR3
  have hE3 : EncAt w3 w.heap.size (alpha url) (tabUpto url 0) 61 := ⟨alpha_len url, List.length_replicate, hR3⟩
  have hB3 : Below w.heap.size w w3 := ((hB1.setCell (Nat.le_refl _) _).grown hg2 (by simp; exact hB1.size) (by rintro k ⟨⟩; exact Nat.le_refl _)).grown hg3 (by rw [hz2]; simp; exact hB1.size) (by rintro k ⟨⟩; exact Nat.le_refl _)
  clear hE1 hR2 hg2 hz2 hR3 hg3 hz3
  go_loopw [4] (fun i wr => ∃ k : Nat, k ≤ 64 ∧ i = .int .i64 k ∧ EncAt wr w.heap.size (alpha url) (tabUpto url k) 61 ∧ Below w.heap.size w wr) (fun i _ => 64 - (intOf i).toNat)
  case atStart => exact ⟨0, by omega, rfl, hE3, hB3⟩
  case round =>
    obtain ⟨k, hk, rfl, hE, hB⟩ := hrel
    clear hE3 hB3 hB1
    by_cases hlt : k < 64
    · obtain ⟨c, hc⟩ : ∃ c, s[k]'(by omega) = c := ⟨_, rfl⟩
      have hca := text_at HS.out k (by omega)
      rw [hc] at hca
      obtain ⟨a, ha⟩ : ∃ a : Nat, c.toNat = a := ⟨_, rfl⟩
      rw [ha] at hca
      obtain ⟨h0, h1, h2, h3, h4, h5⟩ := alpha_at url hlt
      have htb := tabUpto_at url hlt
      have HE : Hid (EncAt (wr.setCell ⟨w.heap.size, 64 + a, none⟩ (.int .u8 (k : Int))) w.heap.size (alpha url) (tabUpto url (k + 1)) 61) := hidden (by
        have := hE.setDigit a (by omega) (k : Int)
        rw [tabUpto, ← hca, Int.toNat_natCast]; exact this)
      rw [← hca] at h0 h1 h2 h3 h4 h5 htb
      rw [Int.toNat_natCast] at htb
      have hd := hE.digit a (by omega)
      rw [htb] at hd
      have hfz := hE.row.free (64 + a)
      have hn10 : ¬ a = 10 := by omega
      have hn13 : ¬ a = 13 := by omega
      have hq10 : ((a : Int) == 10) = false := by simpa using h2
      have hq13 : ((a : Int) == 13) = false := by simpa using h3
      have ha256 : a < 256 := by omega
      have ha256i : (a : Int) < 256 := by omega
      have HB := hidden (hB.setCell (p := ⟨w.heap.size, 64 + a, none⟩) (Nat.le_refl w.heap.size) (.int .u8 (k : Int)))
      clear hE hB hca h0 h1 h2 h3 h4 h5 htb
      go_wp2
      go_quiet (fail)
      go_wp2
      refine wpAbs (fun W => W.cell? ⟨w.heap.size, 64 + a, none⟩ = some (.int .u8 255) ∧ W.frozen? ⟨w.heap.size, 64 + a, none⟩ = false ∧ Hid (EncAt (W.setCell ⟨w.heap.size, 64 + a, none⟩ (.int .u8 (k : Int))) w.heap.size (alpha url) (tabUpto url (k + 1)) 61) ∧ Hid (Below w.heap.size w (W.setCell ⟨w.heap.size, 64 + a, none⟩ (.int .u8 (k : Int))))) ⟨hd, hfz, hidden (HE.out.drewN _), hidden (below_drewN0 HB.out _)⟩ ?_
      clear hd hfz HE HB
      rintro W ⟨hd, hfz, HE, HB⟩
      have hku : IntKind.u8.wrap (k : Int) = (k : Int) := by rw [IntKind.wrap_u8]; omega
      go_still_tail 9, (by kernel_rfl)
      change wpList _ _ _ _ _ W.drew
      go_wp2
      go_roundw
      case rel => exact ⟨k + 1, by omega, by go_num, HE.out.drewN 1, below_drewN0 HB.out 1⟩
      case measure => simp [intOf]; omega
    · obtain rfl : k = 64 := by omega
      go_wp2
      go_ret
      exact ⟨rfl, hE, hB⟩
end Go.Proofs.YtbdmdajbdmdknaaGreatDoor
namespace Go.Proofs.YtbdmdajbdmdknaaGreatDoor
open Go.RowKit
set_option linter.unusedVariables false
set_option linter.unusedSimpArgs false

theorem size_enc : (Tryz.prog.info? 188).map (·.size) = some 322 := by kernel_rfl
/-- An encoding in memory of the call's own. -/
structure NewEnc (w : World) (url : Bool) (pad : Int) (e : Ending) (w' : World) (g : Nat) : Prop where
  e_eq : e = .returned (.pointer (some ⟨g, 0, none⟩))
  enc : EncAt w' g (alpha url) (tab url) pad
  own : w.heap.size ≤ g
  below : Below w.heap.size w w'
set_option maxRecDepth 100000 in
set_option maxHeartbeats 1000000 in
theorem withPad_calls (url : Bool) (w : World) :
    Calls Tryz.prog 99 #[.agg (encCells (alpha url) (tab url) 61).toArray, .int .i32 (-1)] w fun e w' => NewEnc w url (-1) e w' w.heap.size := by
  have hE : EncAt (w.alloc (.cells (encCells (alpha url) (tab url) 61).toArray 188)) w.heap.size (alpha url) (tab url) 61 := ⟨alpha_len url, tab_len url, Row.new w _ _⟩
  have hB := below_alloc0 w (.cells (encCells (alpha url) (tab url) 61).toArray 188)
  go_enter Tryz.func99, Tryz.ntmps99
  have hset := hidden (enc_setPad (pad := 61) (v := -1) (alpha_len url) (tab_len url))
  generalize encCells (alpha url) (tab url) 61 = cs at *
  have c1 := hE.padc
  have f1 := hE.row.free 320
  go_wp2
  go_ret
  rw [hset.out]
  exact ⟨rfl, ⟨alpha_len url, tab_len url, Row.new w _ _⟩, Nat.le_refl _, below_alloc0 w _⟩
set_option maxRecDepth 100000 in
set_option maxHeartbeats 1000000 in
theorem zzRawURL_calls (w : World) : Calls Tryz.prog 86 #[] w fun e w' => ∃ g, NewEnc w true (-1) e w' g := by
  have hS : Hid (List.map (fun b : UInt8 => (b.toNat : Int)) (ByteArray.mk #[65, 66, 67, 68, 69, 70, 71, 72, 73, 74, 75, 76, 77, 78, 79, 80, 81, 82, 83, 84, 85, 86, 87, 88, 89, 90, 97, 98, 99, 100, 101, 102, 103, 104, 105, 106, 107, 108, 109, 110, 111, 112, 113, 114, 115, 116, 117, 118, 119, 120, 121, 122, 48, 49, 50, 51, 52, 53, 54, 55, 56, 57, 45, 95]).data.toList = alpha true) := hidden (by kernel_rfl)
  have hn := encCells_len (pad := 61) (alpha_len true) (tab_len true)
  go_enter Tryz.func86, Tryz.ntmps86
  go_wp2_with (first
    | (go_at_call 98; go_must (refine (newEnc_calls true _ rfl hS.out _).mono ?_; rintro e w1 ⟨rfl, hE1, hB1⟩; have c1 := hE1.row.cell 0; have f1 := hE1.row.free 0))
    | (with_reducible refine at_dst 3 ?_; go_must (refine walk_load_row rfl _ _ rfl hE1.row rfl Tryz.underlying188 rfl (by rw [hn]; exact size_enc) ?_))
    | (go_at_call 99; go_must (refine (withPad_calls true _).mono ?_; rintro e w2 ⟨rfl, hE2, hg2, hB2⟩)))
  go_ret
  exact ⟨_, rfl, hE2, Nat.le_trans hB1.size hg2, below_next hB1 hB2⟩
set_option maxRecDepth 100000 in
set_option maxHeartbeats 1000000 in
theorem zzRawStd_calls (w : World) : Calls Tryz.prog 161 #[] w fun e w' => ∃ g, NewEnc w false (-1) e w' g := by
  have hS : Hid (List.map (fun b : UInt8 => (b.toNat : Int)) (ByteArray.mk #[65, 66, 67, 68, 69, 70, 71, 72, 73, 74, 75, 76, 77, 78, 79, 80, 81, 82, 83, 84, 85, 86, 87, 88, 89, 90, 97, 98, 99, 100, 101, 102, 103, 104, 105, 106, 107, 108, 109, 110, 111, 112, 113, 114, 115, 116, 117, 118, 119, 120, 121, 122, 48, 49, 50, 51, 52, 53, 54, 55, 56, 57, 43, 47]).data.toList = alpha false) := hidden (by kernel_rfl)
  have hn := encCells_len (pad := 61) (alpha_len false) (tab_len false)
  go_enter Tryz.func161, Tryz.ntmps161
  go_wp2_with (first
    | (go_at_call 98; go_must (refine (newEnc_calls false _ rfl hS.out _).mono ?_; rintro e w1 ⟨rfl, hE1, hB1⟩; have c1 := hE1.row.cell 0; have f1 := hE1.row.free 0))
    | (with_reducible refine at_dst 3 ?_; go_must (refine walk_load_row rfl _ _ rfl hE1.row rfl Tryz.underlying188 rfl (by rw [hn]; exact size_enc) ?_))
    | (go_at_call 99; go_must (refine (withPad_calls false _).mono ?_; rintro e w2 ⟨rfl, hE2, hg2, hB2⟩)))
  go_ret
  exact ⟨_, rfl, hE2, Nat.le_trans hB1.size hg2, below_next hB1 hB2⟩
set_option maxRecDepth 100000 in
set_option maxHeartbeats 1000000 in
theorem zzURL_calls (w : World) : Calls Tryz.prog 160 #[] w fun e w' => ∃ g, NewEnc w true 61 e w' g := by
  have hS : Hid (List.map (fun b : UInt8 => (b.toNat : Int)) (ByteArray.mk #[65, 66, 67, 68, 69, 70, 71, 72, 73, 74, 75, 76, 77, 78, 79, 80, 81, 82, 83, 84, 85, 86, 87, 88, 89, 90, 97, 98, 99, 100, 101, 102, 103, 104, 105, 106, 107, 108, 109, 110, 111, 112, 113, 114, 115, 116, 117, 118, 119, 120, 121, 122, 48, 49, 50, 51, 52, 53, 54, 55, 56, 57, 45, 95]).data.toList = alpha true) := hidden (by kernel_rfl)
  go_enter Tryz.func160, Tryz.ntmps160
  go_wp2_with (go_at_call 98; go_must (refine (newEnc_calls true _ rfl hS.out _).mono ?_; rintro e w1 ⟨rfl, hE1, hB1⟩))
  go_ret
  exact ⟨_, rfl, hE1, Nat.le_refl _, hB1⟩
set_option maxRecDepth 100000 in
set_option maxHeartbeats 1000000 in
theorem zzStdPadded_calls (w : World) : Calls Tryz.prog 162 #[] w fun e w' => ∃ g, NewEnc w false 61 e w' g := by
  have hS : Hid (List.map (fun b : UInt8 => (b.toNat : Int)) (ByteArray.mk #[65, 66, 67, 68, 69, 70, 71, 72, 73, 74, 75, 76, 77, 78, 79, 80, 81, 82, 83, 84, 85, 86, 87, 88, 89, 90, 97, 98, 99, 100, 101, 102, 103, 104, 105, 106, 107, 108, 109, 110, 111, 112, 113, 114, 115, 116, 117, 118, 119, 120, 121, 122, 48, 49, 50, 51, 52, 53, 54, 55, 56, 57, 43, 47]).data.toList = alpha false) := hidden (by kernel_rfl)
  go_enter Tryz.func162, Tryz.ntmps162
  go_wp2_with (go_at_call 98; go_must (refine (newEnc_calls false _ rfl hS.out _).mono ?_; rintro e w1 ⟨rfl, hE1, hB1⟩))
  go_ret
  exact ⟨_, rfl, hE1, Nat.le_refl _, hB1⟩
end Go.Proofs.YtbdmdajbdmdknaaGreatDoor
