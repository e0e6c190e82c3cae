/- Numbers: how they are written, and what they are read as. -/
import Derived.Test.YtmibnnmampfalaaDoorAgain
import Derived.Test.YtmibnnmampfalaaDoorPartOf
import Derived.Lib.ConvBytes
namespace Go.Proofs.YtmibnnmampfalaaDoor
open Go.RowKit
set_option linter.unusedVariables false
set_option linter.unusedSimpArgs false

def bytes8 (V : Nat) : List Int := [((V / 72057594037927936 % 256 : Nat) : Int), ((V / 281474976710656 % 256 : Nat) : Int), ((V / 1099511627776 % 256 : Nat) : Int), ((V / 4294967296 % 256 : Nat) : Int), ((V / 16777216 % 256 : Nat) : Int), ((V / 65536 % 256 : Nat) : Int), ((V / 256 % 256 : Nat) : Int), ((V % 256 : Nat) : Int)]
theorem bytes8_len (V : Nat) : (bytes8 V).length = 8 := rfl
theorem bytes8_isB (V : Nat) : IsB (bytes8 V) := by
  intro x hx
  simp only [bytes8, List.mem_cons, List.not_mem_nil, or_false] at hx
  rcases hx with rfl | rfl | rfl | rfl | rfl | rfl | rfl | rfl <;> omega
def numD (V : Nat) : List Int := (bytes8 V).dropWhile (· == 0)
def numOf (l : List Int) : Nat := l.foldl (fun a x => a * 256 + x.toNat) 0
theorem numOf_drop (l : List Int) (a : Nat) (h : a = 0) : (l.dropWhile (· == 0)).foldl (fun a x => a * 256 + x.toNat) a = l.foldl (fun a x => a * 256 + x.toNat) a := by
  subst h
  induction l with
  | nil => rfl
  | cons x l ih =>
    rw [List.dropWhile_cons]
    by_cases hx : (x == 0) = true
    · rw [if_pos hx, ih, List.foldl_cons, eq_of_beq hx]; rfl
    · rw [if_neg hx]
theorem numOf_numD (V : Nat) (hV : V < 18446744073709551616) : numOf (numD V) = V := by
  unfold numOf numD
  rw [numOf_drop _ _ rfl]
  simp only [bytes8, List.foldl_cons, List.foldl_nil, Int.toNat_natCast]
  omega
theorem numD_isB (V : Nat) : IsB (numD V) := fun x hx => bytes8_isB V x (by
  have h : List.dropWhile (· == 0) (bytes8 V) <:+ bytes8 V := List.dropWhile_suffix _
  exact h.subset hx)
theorem numD_len (V : Nat) : (numD V).length ≤ 8 := by
  have h : List.dropWhile (· == 0) (bytes8 V) <:+ bytes8 V := List.dropWhile_suffix _
  exact h.length_le
theorem dw_head (l : List Int) (x : Int) (r : List Int) (h : l.dropWhile (· == 0) = x :: r) : x ≠ 0 := by
  induction l with
  | nil => cases h
  | cons a l ih =>
    rw [List.dropWhile_cons] at h
    by_cases ha : (a == 0) = true
    · rw [if_pos ha] at h; exact ih h
    · rw [if_neg ha] at h
      cases h
      simpa using ha
theorem numD_head (V : Nat) (hV : V < 18446744073709551616) (h0 : 0 < V) : 0 < (numD V).length ∧ gi (numD V) 0 ≠ 0 := by
  have h := numOf_numD V hV
  cases hn : numD V with
  | nil => rw [hn] at h; simp [numOf] at h; omega
  | cons x r => exact ⟨by simp, by simpa [gi] using dw_head _ x r hn⟩
theorem drop_dw (l : List Int) (k : Nat) (hk : k ≤ l.length) (h : ∀ j, j < k → gi l j = 0) (hs : k = l.length ∨ gi l k ≠ 0) : l.drop k = l.dropWhile (· == 0) := by
  induction l generalizing k with
  | nil => simp
  | cons a l ih =>
    cases k with
    | zero =>
      rcases hs with h | h
      · simp at h
      · rw [List.drop_zero, List.dropWhile_cons, if_neg (by simpa [gi] using h)]
    | succ k =>
      have ha : a = 0 := by have := h 0 (by omega); simpa [gi] using this
      rw [List.drop_succ_cons, List.dropWhile_cons, if_pos (by simp [ha])]
      refine ih k (by simpa using hk) (fun j hj => ?_) ?_
      · have := h (j + 1) (by omega)
        simpa [gi] using this
      · rcases hs with h | h
        · left; simpa using h
        · right; simpa [gi] using h

end Go.Proofs.YtmibnnmampfalaaDoor
