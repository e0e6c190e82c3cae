/- What FnKeySetOrder asks, out of what its steps give. Nothing here speaks of the program. -/
import Derived.Test.YthgklpkkcaiehaaDoorKBackL
namespace Go.Proofs.YthgklpkkcaiehaaDoor
set_option linter.unusedVariables false
set_option linter.unusedSimpArgs false

def ordW (n a j : Nat) : List Nat := (List.range j).map (fun i => (i + a) % n)
def ordA (n a j : Nat) : List KSt := (List.range j).map (fun i => kst 0 ((i + a) % n) 0)
def ordL (n a b : Nat) : List KSt := ordA n a n ++ [kst 1 (b % n) 0, kst 0 (b % n) 0]
theorem ordW_succ (n a j : Nat) : ordW n a (j + 1) = ordW n a j ++ [(j + a) % n] := by simp [ordW, List.range_succ]
theorem ordA_succ (n a j : Nat) : ordA n a (j + 1) = ordA n a j ++ [kst 0 ((j + a) % n) 0] := by simp [ordA, List.range_succ]
theorem ordW_len (n a j : Nat) : (ordW n a j).length = j := by simp [ordW]
theorem ordA_len (n a j : Nat) : (ordA n a j).length = j := by simp [ordA]
theorem ordL_len (n a b : Nat) : (ordL n a b).length = n + 2 := by simp [ordL, ordA_len]
theorem mod_two {n x : Nat} (h : x < 2 * n) : x % n = if x < n then x else x - n := by
  split
  · exact Nat.mod_eq_of_lt (by assumption)
  · rw [Nat.mod_eq_sub_mod (by omega), Nat.mod_eq_of_lt (by omega)]
theorem mod_inj {n a i j : Nat} (hi : i < n) (hj : j < n) (h : (i + a) % n = (j + a) % n) : i = j := by
  have hr : a % n < n := Nat.mod_lt _ (by omega)
  rw [← Nat.add_mod_mod i a n, ← Nat.add_mod_mod j a n] at h
  generalize a % n = r at h hr
  rw [mod_two (x := i + r) (by omega), mod_two (x := j + r) (by omega)] at h
  split at h <;> split at h <;> omega
theorem ordW_not {n a j : Nat} (hj : j < n) : (j + a) % n ∉ ordW n a j := by
  intro h
  simp only [ordW, List.mem_map, List.mem_range] at h
  obtain ⟨i, hi, e⟩ := h
  have := mod_inj (a := a) (by omega) hj e
  omega
theorem ordW_nd {n a : Nat} : ∀ j, j ≤ n → (ordW n a j).Nodup
  | 0, _ => by simp [ordW]
  | j + 1, h => by
    rw [ordW_succ, List.nodup_append]
    refine ⟨ordW_nd j (by omega), by simp, ?_⟩
    intro x hx y hy e
    simp at hy
    subst hy
    subst e
    exact ordW_not (by omega) hx
theorem stK_ordA {n a : Nat} (hn : 1 ≤ n) (ids : Nat → Option ByteArray) : ∀ j, j ≤ n → stK n ids [] (ordA n a j) = ordW n a j
  | 0, _ => rfl
  | j + 1, h => by
    rw [ordA_succ, stK_snoc, stK_ordA hn ids j (by omega), ordW_succ]
    unfold stepK
    rw [if_pos ⟨rfl, Nat.mod_lt _ hn⟩, if_neg (show ¬ (kst 0 ((j + a) % n) 0).key ∈ ordW n a j from ordW_not (by omega))]
    rfl
theorem ordW_all {n a b : Nat} (hn : 1 ≤ n) : b % n ∈ ordW n a n := by
  have hr : a % n < n := Nat.mod_lt _ hn
  have hq : b % n < n := Nat.mod_lt _ hn
  simp only [ordW, List.mem_map, List.mem_range]
  by_cases h : a % n ≤ b % n
  · refine ⟨b % n - a % n, by omega, ?_⟩
    rw [← Nat.add_mod_mod, Nat.sub_add_cancel h, Nat.mod_mod]
  · refine ⟨b % n + n - a % n, by omega, ?_⟩
    rw [← Nat.add_mod_mod, Nat.sub_add_cancel (by omega), Nat.add_mod_right, Nat.mod_mod]
theorem seen_all (m : Nat) (ids : Nat → Option ByteArray) : ∀ (l : List KSt) (s : List Nat) (j : Nat), j < l.length → (seenAt (runK m ids s l) j).all = stK m ids s (l.take (j + 1))
  | [], _, _, h => by simp at h
  | x :: l, s, 0, _ => by simp [seenAt, runK, stK]
  | x :: l, s, j + 1, h => by
    have := seen_all m ids l (stepK m ids s x).all j (by simpa using h)
    simp only [seenAt, runK, List.getD_cons_succ] at this ⊢
    rw [this]
    rfl
theorem ord_first {n a b : Nat} (hn : 1 ≤ n) (ids : Nat → Option ByteArray) : (seenAt (runK n ids [] (ordL n a b)) (n - 1)).all = ordW n a n := by
  rw [seen_all _ _ _ _ _ (by rw [ordL_len]; omega)]
  have : (ordL n a b).take (n - 1 + 1) = ordA n a n := by
    rw [show n - 1 + 1 = n by omega, ordL, List.take_left' (ordA_len n a n)]
  rw [this]
  exact stK_ordA hn ids n (Nat.le_refl n)
theorem ord_last {n a b : Nat} (hn : 1 ≤ n) (ids : Nat → Option ByteArray) : (seenAt (runK n ids [] (ordL n a b)) (n + 1)).all = (ordW n a n).filter (fun x => decide (x ≠ b % n)) ++ [b % n] := by
  rw [seen_all _ _ _ _ _ (by rw [ordL_len]; omega), List.take_of_length_le (by rw [ordL_len]; omega)]
  have e : ordL n a b = ordA n a n ++ [kst 1 (b % n) 0] ++ [kst 0 (b % n) 0] := by simp [ordL]
  have hk : b % n < n := Nat.mod_lt _ hn
  have hin : b % n ∈ ordW n a n := ordW_all hn
  have hnd := ordW_nd (a := a) n (Nat.le_refl n)
  have h1 : stK n ids [] (ordA n a n ++ [kst 1 (b % n) 0]) = (ordW n a n).erase (b % n) := by
    rw [stK_snoc, stK_ordA hn ids n (Nat.le_refl n)]
    unfold stepK
    rw [if_neg (by simp [kst]), if_pos ⟨rfl, hk⟩, if_pos (show (kst 1 (b % n) 0).key ∈ ordW n a n from hin)]
    rfl
  have hno : b % n ∉ (ordW n a n).erase (b % n) := fun h => by
    have := hnd.mem_erase_iff.1 h
    exact this.1 rfl
  rw [e, stK_snoc, h1]
  unfold stepK
  rw [if_pos ⟨rfl, hk⟩, if_neg (show ¬ (kst 0 (b % n) 0).key ∈ (ordW n a n).erase (b % n) from hno)]
  show (ordW n a n).erase (b % n) ++ [b % n] = _
  rw [hnd.erase_eq_filter]
  congr 1
  apply List.filter_congr
  intro x _
  by_cases h9 : x = b % n <;> simp [h9]
theorem ord_rem {n a b : Nat} (hn : 1 ≤ n) (ids : Nat → Option ByteArray) (p : Nat) (hp : p < (ordL n a b).length) (hk : (ordL n a b)[p].kind = 1) : (ordL n a b)[p].key ∈ stK n ids [] ((ordL n a b).take p) := by
  rw [ordL_len] at hp
  rcases Nat.lt_trichotomy p n with h | rfl | h
  · exfalso
    have e : (ordL n a b)[p]'(by rw [ordL_len]; exact hp) = kst 0 ((p + a) % n) 0 := by
      simp only [ordL]
      rw [List.getElem_append_left (by rw [ordA_len]; exact h)]
      simp [ordA]
    rw [e] at hk
    simp [kst] at hk
  · have e : (ordL p a b)[p]'(by rw [ordL_len]; exact hp) = kst 1 (b % p) 0 := by
      simp only [ordL]
      rw [List.getElem_append_right (by rw [ordA_len]; exact Nat.le_refl _)]
      simp [ordA_len]
    rw [e, ordL, List.take_left' (ordA_len p a p), stK_ordA hn ids p (Nat.le_refl p)]
    exact ordW_all hn
  · exfalso
    obtain rfl : p = n + 1 := by omega
    have e : (ordL n a b)[n + 1]'(by rw [ordL_len]; exact hp) = kst 0 (b % n) 0 := by
      simp only [ordL]
      rw [List.getElem_append_right (by rw [ordA_len]; omega)]
      simp [ordA_len]
    rw [e] at hk
    simp [kst] at hk
theorem ordL_mem {n a b : Nat} (hn : 1 ≤ n) : ∀ x ∈ ordL n a b, x.kind ≤ 4 ∧ x.key < n ∧ x.at_ ≤ 1000 := by
  intro x hx
  simp only [ordL, ordA, kst, List.mem_append, List.mem_map, List.mem_range, List.mem_cons, List.not_mem_nil, or_false] at hx
  rcases hx with ⟨i, hi, rfl⟩ | rfl | rfl <;> simp <;> exact Nat.mod_lt _ hn
end Go.Proofs.YthgklpkkcaiehaaDoor
