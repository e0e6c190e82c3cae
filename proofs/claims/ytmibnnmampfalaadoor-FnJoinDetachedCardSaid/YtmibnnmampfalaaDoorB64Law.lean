/- Base64 as plain lists of numbers: how bytes are written, and what a text is read as. Nothing here speaks of the program. -/
import Derived.Test.YtmibnnmampfalaaDoorBase
namespace Go.Proofs.YtmibnnmampfalaaDoor
open Go.RowKit
set_option linter.unusedVariables false
set_option linter.unusedSimpArgs false

def rangeI (n : Nat) : List Int := (List.range n).map Int.ofNat
/-- The letters. -/
def alpha (url : Bool) : List Int := (rangeI 26).map (65 + ·) ++ ((rangeI 26).map (97 + ·) ++ ((rangeI 10).map (48 + ·) ++ (if url then [45, 95] else [43, 47])))
/-- The reading table when the letters below 'k' have been written into it. -/
def tabUpto (url : Bool) : Nat → List Int
  | 0 => List.replicate 256 255
  | k + 1 => (tabUpto url k).set (gi (alpha url) k).toNat (k : Int)
def tab (url : Bool) : List Int := tabUpto url 64
theorem alpha_len (url : Bool) : (alpha url).length = 64 := by cases url <;> rfl
theorem tabUpto_len (url : Bool) (k : Nat) : (tabUpto url k).length = 256 := by
  induction k with
  | zero => exact List.length_replicate
  | succ k ih => simp [tabUpto, ih]
theorem tab_len (url : Bool) : (tab url).length = 256 := tabUpto_len url 64
def okTab (url : Bool) : Bool :=
  ((List.range 64).all fun i => gi (tab url) (gi (alpha url) i).toNat == (i : Int)) &&
  ((List.range 256).all fun x => gi (tab url) x == 255 || (decide (0 ≤ gi (tab url) x) && decide (gi (tab url) x < 64) && gi (alpha url) (gi (tab url) x).toNat == (x : Int))) &&
  ((List.range 64).all fun i => decide (0 ≤ gi (alpha url) i) && decide (gi (alpha url) i < 128) && !(gi (alpha url) i == 10) && !(gi (alpha url) i == 13) && !(gi (alpha url) i == 61) && !(gi (alpha url) i == 46)) &&
  ((List.range 64).all fun i => gi (tabUpto url i) (gi (alpha url) i).toNat == 255)
theorem okTab_true (url : Bool) : okTab url = true := by cases url <;> kernel_rfl
theorem okTab_all (url : Bool) :
    (∀ i, i < 64 → gi (tab url) (gi (alpha url) i).toNat = (i : Int)) ∧
    (∀ x, x < 256 → gi (tab url) x = 255 ∨ (0 ≤ gi (tab url) x ∧ gi (tab url) x < 64 ∧ gi (alpha url) (gi (tab url) x).toNat = (x : Int))) ∧
    (∀ i, i < 64 → 0 ≤ gi (alpha url) i ∧ gi (alpha url) i < 128 ∧ gi (alpha url) i ≠ 10 ∧ gi (alpha url) i ≠ 13 ∧ gi (alpha url) i ≠ 61 ∧ gi (alpha url) i ≠ 46) ∧
    (∀ i, i < 64 → gi (tabUpto url i) (gi (alpha url) i).toNat = 255) := by
  have h := okTab_true url
  simp only [okTab, Bool.and_eq_true, List.all_eq_true, List.mem_range, beq_iff_eq, Bool.or_eq_true, decide_eq_true_iff, Bool.not_eq_true', beq_eq_false_iff_ne, and_assoc] at h
  obtain ⟨h1, h2, h3, h4⟩ := h
  exact ⟨h1, h2, h3, h4⟩
theorem tab_alpha (url : Bool) {i : Nat} (h : i < 64) : gi (tab url) (gi (alpha url) i).toNat = (i : Int) := (okTab_all url).1 i h
theorem tab_cases (url : Bool) {x : Nat} (h : x < 256) : gi (tab url) x = 255 ∨ (0 ≤ gi (tab url) x ∧ gi (tab url) x < 64 ∧ gi (alpha url) (gi (tab url) x).toNat = (x : Int)) := (okTab_all url).2.1 x h
theorem alpha_at (url : Bool) {i : Nat} (h : i < 64) : 0 ≤ gi (alpha url) i ∧ gi (alpha url) i < 128 ∧ gi (alpha url) i ≠ 10 ∧ gi (alpha url) i ≠ 13 ∧ gi (alpha url) i ≠ 61 ∧ gi (alpha url) i ≠ 46 := (okTab_all url).2.2.1 i h
theorem tabUpto_at (url : Bool) {i : Nat} (h : i < 64) : gi (tabUpto url i) (gi (alpha url) i).toNat = 255 := (okTab_all url).2.2.2 i h

/-! Written. -/
def val3 (a b c : Int) : Int := a * 65536 + b * 256 + c
def encF (al : List Int) : List Int → List Int
  | [] => []
  | [a] => [gi al (val3 a 0 0 / 262144).toNat, gi al (val3 a 0 0 / 4096 % 64).toNat]
  | [a, b] => [gi al (val3 a b 0 / 262144).toNat, gi al (val3 a b 0 / 4096 % 64).toNat, gi al (val3 a b 0 / 64 % 64).toNat]
  | a :: b :: c :: r => gi al (val3 a b c / 262144).toNat :: gi al (val3 a b c / 4096 % 64).toNat :: gi al (val3 a b c / 64 % 64).toNat :: gi al (val3 a b c % 64).toNat :: encF al r
theorem encF_len (al : List Int) : ∀ l : List Int, (encF al l).length = l.length / 3 * 4 + (l.length % 3 * 8 + 5) / 6
  | [] => rfl
  | [a] => by simp [encF]
  | [a, b] => by simp [encF]
  | a :: b :: c :: r => by
    simp only [encF, List.length_cons, encF_len al r]
    omega
theorem encF_mem (al : List Int) : ∀ l : List Int, IsB l → ∀ x ∈ encF al l, ∃ i, i < 64 ∧ x = gi al i
  | [], _, x, h => by simp [encF] at h
  | [a], hb, x, h => by
    have ha := hb a (by simp)
    simp only [encF, List.mem_cons, List.not_mem_nil, or_false, val3] at h
    rcases h with rfl | rfl
    · exact ⟨_, by omega, rfl⟩
    · exact ⟨_, by omega, rfl⟩
  | [a, b], hb, x, h => by
    have ha := hb a (by simp)
    have hb1 := hb b (by simp)
    simp only [encF, List.mem_cons, List.not_mem_nil, or_false, val3] at h
    rcases h with rfl | rfl | rfl
    · exact ⟨_, by omega, rfl⟩
    · exact ⟨_, by omega, rfl⟩
    · exact ⟨_, by omega, rfl⟩
  | a :: b :: c :: r, hb, x, h => by
    have ha := hb a (by simp)
    have hb1 := hb b (by simp)
    have hc := hb c (by simp)
    simp only [encF, List.mem_cons, val3] at h
    rcases h with rfl | rfl | rfl | rfl | h
    · exact ⟨_, by omega, rfl⟩
    · exact ⟨_, by omega, rfl⟩
    · exact ⟨_, by omega, rfl⟩
    · exact ⟨_, by omega, rfl⟩
    · exact encF_mem al r (fun y hy => hb y (by simp [hy])) x h

/-! Read. -/
def skipNL (l : List Int) : List Int := l.dropWhile fun x => x == 10 || x == 13
/-- The bytes that some digits make. -/
def val4 (d : List Int) : Int := gi d 0 * 262144 + gi d 1 * 4096 + gi d 2 * 64 + gi d 3
def outB (d : List Int) : List Int := [val4 d / 65536 % 256, val4 d / 256 % 256, val4 d % 256].take (d.length - 1)
def padEnd (pad : Int) (d r : List Int) : Option (List Int) :=
  if d.length < 2 then none
  else if d.length = 2 then
    (match skipNL r with
     | [] => none
     | y :: r' => if y = pad ∧ skipNL r' = [] then some (outB d) else none)
  else if skipNL r = [] then some (outB d) else none
def atEnd (pad : Int) (d : List Int) : Option (List Int) :=
  if d.length = 0 then some [] else if d.length = 1 then none else if pad = -1 then some (outB d) else none
def decA (dm : List Int) (pad : Int) : List Int → List Int → Option (List Int)
  | [], d => atEnd pad d
  | x :: r, d =>
    if gi dm x.toNat ≠ 255 then
      (if d.length = 3 then (decA dm pad r []).map (outB (d ++ [gi dm x.toNat]) ++ ·) else decA dm pad r (d ++ [gi dm x.toNat]))
    else if x = 10 ∨ x = 13 then decA dm pad r d
    else if x = pad then padEnd pad d r
    else none
theorem outB_isB (d : List Int) : IsB (outB d) := by
  intro x hx
  have := List.mem_of_mem_take hx
  simp only [List.mem_cons, List.not_mem_nil, or_false] at this
  rcases this with rfl | rfl | rfl <;> omega
theorem outB_len (d : List Int) (h : d.length ≤ 4) : (outB d).length = d.length - 1 := by
  unfold outB; rw [List.length_take]; simp only [List.length_cons, List.length_nil]; omega
theorem atEnd_some {pad : Int} {d out : List Int} (hd : d.length ≤ 3) (h : atEnd pad d = some out) : IsB out ∧ out.length ≤ d.length := by
  unfold atEnd at h
  by_cases h0 : d.length = 0
  · rw [if_pos h0] at h
    cases h
    exact ⟨fun x hx => by simp at hx, by simp⟩
  · rw [if_neg h0] at h
    by_cases h1 : d.length = 1
    · rw [if_pos h1] at h; cases h
    · rw [if_neg h1] at h
      by_cases h2 : pad = -1
      · rw [if_pos h2] at h
        cases h
        exact ⟨outB_isB d, by rw [outB_len d (by omega)]; omega⟩
      · rw [if_neg h2] at h; cases h
theorem skipNL_nil {l : List Int} (h : skipNL l = []) : ∀ x ∈ l, x = 10 ∨ x = 13 := by
  induction l with
  | nil => intro x hx; cases hx
  | cons a l ih =>
    unfold skipNL at h
    rw [List.dropWhile_cons] at h
    by_cases ha : (a == 10 || a == 13) = true
    · rw [if_pos ha] at h
      intro x hx
      rcases List.mem_cons.1 hx with rfl | hx
      · simpa using ha
      · exact ih h x hx
    · rw [if_neg ha] at h; cases h
theorem skipNL_mem : ∀ (l : List Int) (x : Int), x ∈ l → x ∈ skipNL l ∨ x = 10 ∨ x = 13
  | [], x, h => by cases h
  | a :: l, x, h => by
    unfold skipNL
    rw [List.dropWhile_cons]
    by_cases ha : (a == 10 || a == 13) = true
    · rw [if_pos ha]
      rcases List.mem_cons.1 h with rfl | h
      · right; simpa using ha
      · exact skipNL_mem l x h
    · rw [if_neg ha]; exact .inl h
theorem padEnd_some {pad : Int} {d r out : List Int} (hd : d.length ≤ 3) (h : padEnd pad d r = some out) : IsB out ∧ out.length ≤ d.length ∧ ∀ x ∈ r, x = 10 ∨ x = 13 ∨ x = pad := by
  unfold padEnd at h
  by_cases h2 : d.length < 2
  · rw [if_pos h2] at h; cases h
  · rw [if_neg h2] at h
    by_cases h3 : d.length = 2
    · rw [if_pos h3] at h
      cases hs : skipNL r with
      | nil => rw [hs] at h; cases h
      | cons y r' =>
        rw [hs] at h
        simp only at h
        by_cases hy : y = pad ∧ skipNL r' = []
        · rw [if_pos hy] at h
          cases h
          refine ⟨outB_isB d, by rw [outB_len d (by omega)]; omega, fun x hx => ?_⟩
          rcases skipNL_mem r x hx with h | h | h
          · rw [hs] at h
            rcases List.mem_cons.1 h with rfl | h
            · exact .inr (.inr hy.1)
            · rcases skipNL_nil hy.2 x h with h | h
              · exact .inl h
              · exact .inr (.inl h)
          · exact .inl h
          · exact .inr (.inl h)
        · rw [if_neg hy] at h; cases h
    · rw [if_neg h3] at h
      by_cases hs : skipNL r = []
      · rw [if_pos hs] at h
        cases h
        refine ⟨outB_isB d, by rw [outB_len d (by omega)]; omega, fun x hx => ?_⟩
        rcases skipNL_nil hs x hx with h | h
        · exact .inl h
        · exact .inr (.inl h)
      · rw [if_neg hs] at h; cases h
/-- What is read are bytes, no more than the text has, and each sign of the text is a letter, an end of a line, or the padding. -/
theorem decA_some (dm : List Int) (pad : Int) : ∀ (r d out : List Int), d.length ≤ 3 → decA dm pad r d = some out → IsB out ∧ out.length ≤ d.length + r.length ∧ ∀ x ∈ r, gi dm x.toNat ≠ 255 ∨ x = 10 ∨ x = 13 ∨ x = pad
  | [], d, out, hd, h => by
    obtain ⟨h1, h2⟩ := atEnd_some hd h
    exact ⟨h1, by simpa using h2, fun x hx => by cases hx⟩
  | x :: r, d, out, hd, h => by
    unfold decA at h
    by_cases hx : gi dm x.toNat ≠ 255
    · rw [if_pos hx] at h
      by_cases h3 : d.length = 3
      · rw [if_pos h3] at h
        obtain ⟨o, ho, rfl⟩ := Option.map_eq_some_iff.1 h
        obtain ⟨h1, h2, h4⟩ := decA_some dm pad r [] o (by simp) ho
        refine ⟨fun y hy => ?_, ?_, fun y hy => ?_⟩
        · rcases List.mem_append.1 hy with hy | hy
          · exact outB_isB _ y hy
          · exact h1 y hy
        · rw [List.length_append, outB_len _ (by simp; omega)]
          simp only [List.length_append, List.length_cons, List.length_nil] at *
          omega
        · rcases List.mem_cons.1 hy with rfl | hy
          · exact .inl hx
          · exact h4 y hy
      · rw [if_neg h3] at h
        obtain ⟨h1, h2, h4⟩ := decA_some dm pad r _ out (by simp; omega) h
        refine ⟨h1, ?_, fun y hy => ?_⟩
        · simp only [List.length_append, List.length_cons, List.length_nil] at *; omega
        · rcases List.mem_cons.1 hy with rfl | hy
          · exact .inl hx
          · exact h4 y hy
    · rw [if_neg hx] at h
      by_cases hn : x = 10 ∨ x = 13
      · rw [if_pos hn] at h
        obtain ⟨h1, h2, h4⟩ := decA_some dm pad r d out hd h
        refine ⟨h1, ?_, fun y hy => ?_⟩
        · simp only [List.length_cons]; omega
        · rcases List.mem_cons.1 hy with rfl | hy
          · rcases hn with h | h
            · exact .inr (.inl h)
            · exact .inr (.inr (.inl h))
          · exact h4 y hy
      · rw [if_neg hn] at h
        by_cases hp : x = pad
        · rw [if_pos hp] at h
          obtain ⟨h1, h2, h4⟩ := padEnd_some hd h
          refine ⟨h1, ?_, fun y hy => ?_⟩
          · simp only [List.length_cons]; omega
          · rcases List.mem_cons.1 hy with rfl | hy
            · exact .inr (.inr (.inr hp))
            · rcases h4 y hy with h | h | h
              · exact .inr (.inl h)
              · exact .inr (.inr (.inl h))
              · exact .inr (.inr (.inr h))
        · rw [if_neg hp] at h; cases h
theorem outB_2 (k0 k1 : Int) : outB [k0, k1] = [(k0 * 262144 + k1 * 4096) / 65536 % 256] := by simp [outB, val4, gi]
theorem outB_3 (k0 k1 k2 : Int) : outB [k0, k1, k2] = [(k0 * 262144 + k1 * 4096 + k2 * 64) / 65536 % 256, (k0 * 262144 + k1 * 4096 + k2 * 64) / 256 % 256] := by simp [outB, val4, gi]
theorem outB_4 (k0 k1 k2 k3 : Int) : outB [k0, k1, k2, k3] = [(k0 * 262144 + k1 * 4096 + k2 * 64 + k3) / 65536 % 256, (k0 * 262144 + k1 * 4096 + k2 * 64 + k3) / 256 % 256, (k0 * 262144 + k1 * 4096 + k2 * 64 + k3) % 256] := by simp [outB, val4, gi]
/-- One more digit. -/
theorem decA_digit (url : Bool) (pad : Int) (k : Int) (h0 : 0 ≤ k) (hk : k < 64) (r d : List Int) :
    decA (tab url) pad (gi (alpha url) k.toNat :: r) d = if d.length = 3 then (decA (tab url) pad r []).map (outB (d ++ [k]) ++ ·) else decA (tab url) pad r (d ++ [k]) := by
  have h := tab_alpha url (i := k.toNat) (by omega)
  rw [Int.toNat_of_nonneg h0] at h
  rw [decA, h, if_pos (by omega)]
theorem decA_encF (url : Bool) : ∀ l : List Int, IsB l → decA (tab url) (-1) (encF (alpha url) l) [] = some l
  | [], _ => rfl
  | [a], hb => by
    have ha := hb a (by simp)
    unfold encF
    rw [decA_digit _ _ _ (by unfold val3; omega) (by unfold val3; omega), if_neg (by simp), decA_digit _ _ _ (by unfold val3; omega) (by unfold val3; omega), if_neg (by simp)]
    rw [decA, atEnd, if_neg (by simp), if_neg (by simp), if_pos rfl]
    simp only [List.nil_append, List.cons_append, outB_2, val3, Option.some.injEq, List.cons.injEq, and_true]
    omega
  | [a, b], hb => by
    have ha := hb a (by simp)
    have hb1 := hb b (by simp)
    unfold encF
    rw [decA_digit _ _ _ (by unfold val3; omega) (by unfold val3; omega), if_neg (by simp), decA_digit _ _ _ (by unfold val3; omega) (by unfold val3; omega), if_neg (by simp), decA_digit _ _ _ (by unfold val3; omega) (by unfold val3; omega), if_neg (by simp)]
    rw [decA, atEnd, if_neg (by simp), if_neg (by simp), if_pos rfl]
    simp only [List.nil_append, List.cons_append, outB_3, val3, Option.some.injEq, List.cons.injEq, and_true]
    omega
  | a :: b :: c :: r, hb => by
    have ha := hb a (by simp)
    have hb1 := hb b (by simp)
    have hc := hb c (by simp)
    unfold encF
    rw [decA_digit _ _ _ (by unfold val3; omega) (by unfold val3; omega), if_neg (by simp), decA_digit _ _ _ (by unfold val3; omega) (by unfold val3; omega), if_neg (by simp), decA_digit _ _ _ (by unfold val3; omega) (by unfold val3; omega), if_neg (by simp),
      decA_digit _ _ _ (by unfold val3; omega) (by unfold val3; omega), if_pos (by simp), decA_encF url r (fun y hy => hb y (by simp [hy]))]
    simp only [List.nil_append, List.cons_append, outB_4, val3, Option.map_some, Option.some.injEq, List.cons.injEq, and_true]
    omega
end Go.Proofs.YtmibnnmampfalaaDoor
