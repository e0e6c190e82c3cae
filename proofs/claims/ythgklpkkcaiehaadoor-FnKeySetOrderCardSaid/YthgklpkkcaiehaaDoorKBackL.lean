/- What FnKeySetBack asks, out of what its steps give. Nothing here speaks of the program. -/
import Derived.Test.YthgklpkkcaiehaaDoorKPlain
namespace Go.Proofs.YthgklpkkcaiehaaDoor
set_option linter.unusedVariables false
set_option linter.unusedSimpArgs false

theorem tmod_nat (a b n : Nat) : ((a : Int) + (b : Int)).tmod (n : Int) = (((a + b) % n : Nat) : Int) := by
  rw [← Int.natCast_add]
  rw [Int.tmod_eq_emod_of_nonneg (by omega), Int.natCast_emod]
theorem stepK_ids (m : Nat) (ids : Nat → Option ByteArray) (s : List Nat) (x : KSt) (h : x.kind ≠ 4) : stepK m ids s x = stepK m (fun _ => none) s x := by
  unfold stepK
  simp only [h, if_false]
theorem runK_ids (m : Nat) (ids : Nat → Option ByteArray) : ∀ (l : List KSt) (s : List Nat), (∀ x ∈ l, x.kind ≠ 4) → runK m ids s l = runK m (fun _ => none) s l
  | [], _, _ => rfl
  | x :: l, s, h => by
    unfold runK
    rw [stepK_ids m ids s x (h x List.mem_cons_self), runK_ids m ids l _ (fun y hy => h y (List.mem_cons_of_mem _ hy))]
theorem stK_ids (m : Nat) (ids : Nat → Option ByteArray) : ∀ (l : List KSt) (s : List Nat), (∀ x ∈ l, x.kind ≠ 4) → stK m ids s l = stK m (fun _ => none) s l
  | [], _, _ => rfl
  | x :: l, s, h => by
    show stK m ids (stepK m ids s x).all l = stK m (fun _ => none) (stepK m (fun _ => none) s x).all l
    rw [stepK_ids m ids s x (h x List.mem_cons_self), stK_ids m ids l _ (fun y hy => h y (List.mem_cons_of_mem _ hy))]
theorem backL_mod (n t : Nat) : backL n t = backL n (t % n) := by
  unfold backL
  simp only [Nat.add_mod_mod]
theorem backL_mem {n t : Nat} (hn : 1 ≤ n) : ∀ x ∈ backL n t, x.kind ≤ 3 ∧ x.key < n ∧ x.at_ < n ∧ x.id = ByteArray.empty := by
  intro x hx
  simp only [backL, kst, List.mem_append, List.mem_map, List.mem_flatMap, List.mem_range, List.mem_cons, List.not_mem_nil, or_false] at hx
  rcases hx with (⟨i, hi, rfl⟩ | ⟨i, hi, rfl | rfl | rfl⟩) | ⟨i, hi, rfl⟩ <;> simp <;> first | omega | (have := Nat.mod_lt (i + t) hn; omega)
theorem backL_len (n t : Nat) : (backL n t).length = 5 * n := by
  have h : ∀ k, ((List.range k).flatMap (fun i => [kst 2 i 0, kst 3 0 i, kst 0 i 0])).length = 3 * k := by
    intro k
    induction k with
    | zero => rfl
    | succ k ih => rw [List.range_succ, List.flatMap_append, List.length_append, ih]; simp; omega
  simp only [backL, List.length_append, List.length_map, List.length_range, h]
  omega
def remOk (n t : Nat) : Bool := (List.range (backL n t).length).all fun p => ((backL n t).getD p (kst 0 0 0)).kind != 1 || (stK n (fun _ => none) [] ((backL n t).take p)).contains ((backL n t).getD p (kst 0 0 0)).key
theorem rem_all : ((List.range 9).all fun n => (List.range n).all fun t => remOk n t) = true := by decide +kernel
theorem back_rem {n t : Nat} (hn : 1 ≤ n) (h8 : n ≤ 8) (ids : Nat → Option ByteArray) (p : Nat) (hp : p < (backL n t).length) (hk : (backL n t)[p].kind = 1) : (backL n t)[p].key ∈ stK n ids [] ((backL n t).take p) := by
  have h1 := List.all_eq_true.1 rem_all n (List.mem_range.2 (by omega))
  have h2 := List.all_eq_true.1 h1 (t % n) (List.mem_range.2 (Nat.mod_lt _ hn))
  unfold remOk at h2
  rw [← backL_mod] at h2
  have h3 := List.all_eq_true.1 h2 p (List.mem_range.2 hp)
  rw [List.getD_eq_getElem?_getD, List.getElem?_eq_getElem hp, Option.getD_some, hk] at h3
  rw [stK_ids n ids _ _ (fun x hx => by have := (backL_mem hn x (List.mem_of_mem_take hx)).1; omega)]
  simpa using h3
/-- What the law asks at one place. -/
structure BackF (n t i : Nat) (xs : List Seen) : Prop where
  a0 : (seenAt xs i).ok = true
  a1 : (seenAt xs i).all.length = i + 1
  b0 : (seenAt xs (n + 3 * i)).index = (i : Int)
  c0 : (seenAt xs (n + 3 * i + 1)).ok = true
  c1 : (seenAt xs (n + 3 * i + 1)).found = (i : Int)
  d0 : (seenAt xs (n + 3 * i + 2)).ok = false
  d1 : (seenAt xs (n + 3 * i + 2)).all.length = n
  e0 : (seenAt xs (4 * n + i)).ok = true
  e1 : (seenAt xs (4 * n + i)).all.length = n - 1 - i
  e2 : (i + t) % n ∉ (seenAt xs (4 * n + i)).all
theorem back_facts {n t : Nat} (hn : 1 ≤ n) (h8 : n ≤ 8) (ids : Nat → Option ByteArray) (i : Nat) (hi : i < n) : BackF n t i (runK n ids [] (backL n t)) := by
  have h1 := List.all_eq_true.1 back_all n (List.mem_range.2 (by omega))
  have h2 := List.all_eq_true.1 h1 (t % n) (List.mem_range.2 (Nat.mod_lt _ hn))
  unfold backOk at h2
  have h3 := List.all_eq_true.1 h2 i (List.mem_range.2 hi)
  rw [← backL_mod] at h3
  rw [runK_ids n ids _ _ (fun x hx => by have := (backL_mem hn x hx).1; omega)]
  simp only [Bool.and_eq_true, beq_iff_eq, Bool.not_eq_true', Nat.add_mod_mod] at h3
  obtain ⟨⟨⟨⟨⟨⟨⟨⟨⟨k0, k1⟩, k2⟩, k3⟩, k4⟩, k5⟩, k6⟩, k7⟩, k8⟩, k9⟩ := h3
  exact ⟨k0, k1, k2, k3, k4, k5, k6, k7, k8, by simpa using k9⟩
end Go.Proofs.YthgklpkkcaiehaaDoor
