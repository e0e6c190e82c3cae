/- The equality of slices, the fixed input of the laws about options, and the value behind steps. -/
import Derived.Test.YticgdbcnknhndaaOpt
namespace Go.Proofs.Yticgdbcnknhndaa
open Go.RowKit
set_option linter.unusedVariables false
set_option linter.unusedSimpArgs false

theorem Rd.cellv {w : World} {A : Option Addr} {vs : List Value} (h : Rd w A vs) (i : Nat) (hi : i < vs.length) : ∃ b o, A = some ⟨b, o, none⟩ ∧ w.cell? ⟨b, o + i, none⟩ = some (vs[i]'hi) := by
  obtain ⟨b, o, e, _, hc⟩ := h i _ (List.getElem?_eq_getElem hi)
  exact ⟨b, o, e, hc⟩
set_option maxHeartbeats 400000 in
theorem equal64_calls (A B : Option Addr) (n c n' c' : Nat) (l l' : List Int) (w : World) (h : Rd w A (nums .u64 l)) (hn : l.length = n) (h' : Rd w B (nums .u64 l')) (hn' : l'.length = n') (hb : n ≤ 140737488355328) :
    Calls Try.prog 42 #[.slice A n c, .slice B n' c'] w fun e w' => e = .returned (.bool (decide (l = l'))) ∧ Below w.heap.size w w' := by
  by_cases hne : n = n'
  · go_enter Try.func42, Try.ntmps42
    subst hne
    go_wp2
    go_loopw [13] (fun i wr => ∃ k : Nat, k ≤ n ∧ i = .int .i64 k ∧ (∀ j, j < k → gi l j = gi l' j) ∧ ∃ m, wr = w.drewN m) (fun i _ => n - (intOf i).toNat)
    case atStart => exact ⟨0, by omega, rfl, by omega, 0, rfl⟩
    case round =>
      obtain ⟨k, hk, rfl, heq, m, rfl⟩ := hrel
      by_cases hlt : k < n
      · obtain ⟨b0, o0, rfl, _, c0⟩ := h.at k (by omega)
        obtain ⟨b1, o1, rfl, _, c1⟩ := h'.at k (by omega)
        have Heq := hidden heq
        clear heq h h'
        by_cases hg : gi l k = gi l' k
        · rw [← hg] at c1
          go_wp2
          go_quiet (fail)
          go_wp2
          go_roundw
          case rel => exact ⟨k + 1, by omega, by go_num, fun j hj => by rcases Nat.lt_succ_iff_lt_or_eq.1 hj with h | rfl; exact Heq.out j h; exact hg, _, rfl⟩
          case measure => simp [intOf]; omega
        · have hgn := hidden hg
          go_wp2
          go_quiet (fail)
          go_wp2
          go_ret
          exact ⟨by rw [decide_eq_false (fun e => hgn.out (by rw [e]))]; rfl, below_drewN0 (below_drewN0 (Below.refl _ _) _) _⟩
      · obtain rfl : k = n := by omega
        clear h h'
        have Heq := hidden heq
        clear heq
        go_wp2
        go_ret
        exact ⟨by rw [decide_eq_true (gi_ext (by omega) fun i hi => Heq.out i (by omega))]; rfl, below_drewN0 (Below.refl _ _) _⟩
  · have : decide (l = l') = false := decide_eq_false fun e => hne (by rw [← hn, ← hn', e])
    rw [this]
    clear this h h' hn hn'
    go_enter Try.func42, Try.ntmps42
    go_wp2
    go_ret
    exact ⟨rfl, Below.refl _ _⟩
def bi (l : List Bool) (i : Nat) : Bool := l.getD i false
theorem bi_ext {a b : List Bool} (hl : a.length = b.length) (h : ∀ i, i < a.length → bi a i = bi b i) : a = b := by
  apply List.ext_getElem hl
  intro i h1 h2
  have := h i h1
  simpa [bi, List.getD_eq_getElem?_getD, h1, h2] using this
theorem bools_at (l : List Bool) (i : Nat) (hi : i < l.length) : (bools l)[i]? = some (.bool (bi l i)) := by
  simp [bools, bi, List.getD_eq_getElem?_getD, hi]
theorem Rd.atB {w : World} {A : Option Addr} {l : List Bool} (h : Rd w A (bools l)) (i : Nat) (hi : i < l.length) : ∃ b o, A = some ⟨b, o, none⟩ ∧ b < w.heap.size ∧ w.cell? ⟨b, o + i, none⟩ = some (.bool (bi l i)) :=
  h i _ (bools_at l i hi)
set_option maxHeartbeats 400000 in
theorem equalB_calls (A B : Option Addr) (n c n' c' : Nat) (l l' : List Bool) (w : World) (h : Rd w A (bools l)) (hn : l.length = n) (h' : Rd w B (bools l')) (hn' : l'.length = n') (hb : n ≤ 140737488355328) :
    Calls Try.prog 43 #[.slice A n c, .slice B n' c'] w fun e w' => e = .returned (.bool (decide (l = l'))) ∧ Below w.heap.size w w' := by
  by_cases hne : n = n'
  · go_enter Try.func43, Try.ntmps43
    subst hne
    go_wp2
    go_loopw [13] (fun i wr => ∃ k : Nat, k ≤ n ∧ i = .int .i64 k ∧ (∀ j, j < k → bi l j = bi l' j) ∧ ∃ m, wr = w.drewN m) (fun i _ => n - (intOf i).toNat)
    case atStart => exact ⟨0, by omega, rfl, by omega, 0, rfl⟩
    case round =>
      obtain ⟨k, hk, rfl, heq, m, rfl⟩ := hrel
      by_cases hlt : k < n
      · obtain ⟨b0, o0, rfl, _, c0⟩ := h.atB k (by omega)
        obtain ⟨b1, o1, rfl, _, c1⟩ := h'.atB k (by omega)
        have Heq := hidden heq
        clear heq h h'
        by_cases hg : bi l k = bi l' k
        · rw [← hg] at c1
          go_wp2
          go_quiet (fail)
          go_wp2
          go_roundw
          case rel => exact ⟨k + 1, by omega, by go_num, fun j hj => by rcases Nat.lt_succ_iff_lt_or_eq.1 hj with h | rfl; exact Heq.out j h; exact hg, _, rfl⟩
          case measure => simp [intOf]; omega
        · have hgn := hidden hg
          go_wp2
          go_quiet (fail)
          go_wp2
          case roundEnd =>
            exfalso; rename_i hbad
            have h3 := hgn.out
            revert hbad h3
            cases bi l k <;> cases bi l' k <;> decide
          go_ret
          exact ⟨by rw [decide_eq_false (fun e => hgn.out (by rw [e]))]; rfl, below_drewN0 (below_drewN0 (Below.refl _ _) _) _⟩
      · obtain rfl : k = n := by omega
        clear h h'
        have Heq := hidden heq
        clear heq
        go_wp2
        go_ret
        exact ⟨by rw [decide_eq_true (bi_ext (by omega) fun i hi => Heq.out i (by omega))]; rfl, below_drewN0 (Below.refl _ _) _⟩
  · have : decide (l = l') = false := decide_eq_false fun e => hne (by rw [← hn, ← hn', e])
    rw [this]
    clear this h h' hn hn'
    go_enter Try.func43, Try.ntmps43
    go_wp2
    go_ret
    exact ⟨rfl, Below.refl _ _⟩

set_option maxRecDepth 10000 in
set_option maxHeartbeats 400000 in
theorem optionAwake_calls (w : World) : Calls Try.prog 15 #[] w fun e w' => e = .returned (.bool true) ∧ Below w.heap.size w w' := by
  go_enter Try.func15, Try.ntmps15
  have e1 : valsO 0 [(0, 1), (0, 4), (4, 4)] = [1, 5, 5] := by decide
  have e2 : toldO 0 [(0, 1), (0, 4), (4, 4)] = [false, false, true] := by decide
  have E1 := hidden e1
  have E2 := hidden e2
  clear e1 e2
  have x1 := below_alloc0 w (.cells #[.int .i64 0, .int .u64 1, .int .i64 0, .int .u64 4, .int .i64 4, .int .u64 4] 26)
  go_wp2_with (first
    | (go_at_call 16; refine (optioned_calls _ 3 3 [(0, 1), (0, 4), (4, 4)] _ (Rd.row (Row.new w _ [.int .i64 0, .int .u64 1, .int .i64 0, .int .u64 4, .int .i64 4, .int .u64 4])) rfl (by omega)).mono ?_; rintro e w1 ⟨v1, v2, rfl, hO1, hO2, hB⟩; rw [E1.out] at hO1; rw [E2.out] at hO2; obtain ⟨A1, c1, q1, _, hr1, _⟩ := hO1.read; obtain ⟨A2, c2, q2, _, hr2, _⟩ := hO2.read; rw [show (nums .u64 [1, 5, 5]).length = 3 from rfl] at q1; rw [show (bools [false, false, true]).length = 3 from rfl] at q2; subst q1 q2)
    | (go_at_call 42; refine (equal64_calls A1 _ 3 c1 3 3 [1, 5, 5] [1, 5, 5] _ (hr1.alloc _) rfl (Rd.new _ _ (nums .u64 [1, 5, 5]) _ rfl) rfl (by omega)).mono ?_; rintro e w2 ⟨rfl, hB2⟩; rw [show decide (([1, 5, 5] : List Int) = [1, 5, 5]) = true from rfl])
    | (go_at_call 43; refine (equalB_calls A2 _ 3 c2 3 3 [false, false, true] [false, false, true] _ (((hr2.alloc _).below hB2 (Nat.le_refl _)).alloc _) rfl (Rd.new _ _ (bools [false, false, true]) _ rfl) rfl (by omega)).mono ?_; rintro e w3 ⟨rfl, hB3⟩; rw [show decide (([false, false, true] : List Bool) = [false, false, true]) = true from rfl]))
  go_ret
  exact ⟨rfl, below_next (below_next (below_next (below_next (below_next x1 hB) (below_alloc0 _ _)) hB2) (below_alloc0 _ _)) hB3⟩

/-- The steps, laid as a slice's cells. -/
def lastO (l : List (Int × Int)) : Int := curO 0 l
theorem curO_last (l : List (Int × Int)) (h : 0 < l.length) (v : Int) : gi (valsO v l) (l.length - 1) = curO v l := by
  induction l generalizing v with
  | nil => simp at h
  | cons s l ih =>
    cases l with
    | nil => rfl
    | cons s2 l =>
      have := ih (by simp) (stepO v s)
      simpa [valsO, gi, curO] using this
set_option maxHeartbeats 400000 in
theorem optionLast_calls (A : Option Addr) (n c : Nat) (l : List (Int × Int)) (w : World) (h : Rd w A (stepVs l)) (hn : l.length = n) (hb : n ≤ 100000) (h0 : 0 < n) :
    Calls Try.prog 17 #[.slice A n c] w fun e w' => e = .returned (.tuple #[.int .u64 (curO 0 l), .bool true]) ∧ Below w.heap.size w w' := by
  have hlen : (nums .u64 (valsO 0 l)).length = n := by rw [nums_len, valsO_len, hn]
  have hlast := hidden (curO_last l (by omega) 0)
  have hL := hidden hlen
  have hvl := hidden (valsO_len l 0)
  clear hlen
  go_enter Try.func17, Try.ntmps17
  go_wp2_with (go_at_call 16; refine (optioned_calls A n c l _ h hn hb).mono ?_; rintro e w1 ⟨v1, v2, rfl, hO1, hO2, hB⟩; obtain ⟨A1, c1, q1, _, hr1, _⟩ := hO1.read; rw [hL.out] at q1; subst q1; obtain ⟨b1, o1, rfl, _, hc⟩ := hr1.at (l.length - 1) (by rw [hvl.out]; omega); rw [hlast.out, hn] at hc)
  go_ret2
  exact ⟨rfl, hB⟩
end Go.Proofs.Yticgdbcnknhndaa
