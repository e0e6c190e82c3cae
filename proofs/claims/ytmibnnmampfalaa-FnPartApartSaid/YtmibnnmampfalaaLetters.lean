/- The walk of FnPartLetters. -/
import Derived.Test.YtmibnnmampfalaaPart0
namespace Go.Proofs.Ytmibnnmampfalaa
open Go.RowKit
set_option linter.unusedVariables false
set_option linter.unusedSimpArgs false

def isUrl (a : Int) : Prop := (65 ≤ a ∧ a ≤ 90) ∨ (97 ≤ a ∧ a ≤ 122) ∨ (48 ≤ a ∧ a ≤ 57) ∨ a = 45 ∨ a = 95
def okUrl : Bool := (List.range 64).all fun i => (decide (65 ≤ gi (alpha true) i) && decide (gi (alpha true) i ≤ 90)) || (decide (97 ≤ gi (alpha true) i) && decide (gi (alpha true) i ≤ 122)) || (decide (48 ≤ gi (alpha true) i) && decide (gi (alpha true) i ≤ 57)) || gi (alpha true) i == 45 || gi (alpha true) i == 95
theorem okUrl_true : okUrl = true := by kernel_rfl
theorem alpha_url {i : Nat} (h : i < 64) : isUrl (gi (alpha true) i) := by
  have := okUrl_true
  simp only [okUrl, List.all_eq_true, List.mem_range, Bool.or_eq_true, Bool.and_eq_true, decide_eq_true_iff, beq_iff_eq] at this
  have := this i h
  unfold isUrl
  omega
theorem encF_url {l : List Int} (hb : IsB l) {x : Int} (hx : x ∈ encF (alpha true) l) : isUrl x := by
  obtain ⟨i, hi, rfl⟩ := encF_mem _ l hb x hx
  exact alpha_url hi
set_option maxHeartbeats 1000000 in
theorem letter_calls (a : Nat) (h : isUrl (a : Int)) (w : World) :
    Calls Try.prog 19 #[.int .u8 a] w fun e w' => e = .returned (.bool true) ∧ w = w' := by
  unfold isUrl at h
  rcases h with ⟨h1, h2⟩ | ⟨h1, h2⟩ | ⟨h1, h2⟩ | h | h
  · go_enter Try.func19, Try.ntmps19
    go_wp2
    go_ret
    exact ⟨rfl, rfl⟩
  · have e1 : (65 : Int) ≤ (a : Int) := by omega
    have e2 : ¬ (a : Int) ≤ 90 := by omega
    go_enter Try.func19, Try.ntmps19
    go_wp2
    go_ret
    exact ⟨rfl, rfl⟩
  · have e1 : ¬ (65 : Int) ≤ (a : Int) := by omega
    have e2 : ¬ (97 : Int) ≤ (a : Int) := by omega
    go_enter Try.func19, Try.ntmps19
    go_wp2
    go_ret
    exact ⟨rfl, rfl⟩
  · obtain rfl : a = 45 := by omega
    clear h
    go_enter Try.func19, Try.ntmps19
    go_wp2
    go_ret
    exact ⟨rfl, rfl⟩
  · obtain rfl : a = 95 := by omega
    clear h
    go_enter Try.func19, Try.ntmps19
    go_wp2
    go_ret
    exact ⟨rfl, rfl⟩
set_option maxRecDepth 10000 in
set_option maxHeartbeats 2000000 in
theorem letters_walk (A : Option Addr) (n c : Nat) (zs : List Int) (w : World) (hrow : IsRow .u8 w A n c zs) (hy : n * 1 ≤ 140737488351232) :
    Calls Try.prog 4 #[.slice A n c] w fun e w' => e = .returned (.bool true) ∧ Below w.heap.size w w' := by
  have hcame := hrow.came
  generalize zs.take n = a at hcame
  have HC := hidden hcame
  clear hcame hrow
  obtain ⟨r, hr⟩ : ∃ r : Bool, r = true ↔ ∀ x ∈ [(A, n, c)], x.2.1 ≤ 2000 := ⟨decide (∀ x ∈ [(A, n, c)], x.2.1 ≤ 2000), by simp⟩
  have Hr := hidden hr
  clear hr
  by_cases hbig : n ≤ 2147483647
  · cases r with
    | false =>
      go_enter Try.func4, Try.ntmps4
      go_wp2_with (first
        | (go_at_call 13; go_must (refine (partShort_calls _ 1 1 [(A, n, c)] _ (Rd.new w _ (slvs [(A, n, c)]) _ rfl) rfl (by omega) false Hr.out).mono ?_; rintro e w1 ⟨rfl, rfl⟩))
        | (go_at_call 14; go_must (refine (partAwake_calls _).mono ?_; rintro e w2 ⟨rfl, hB2⟩)))
      go_ret
      exact ⟨rfl, below_next (below_alloc0 _ _) hB2⟩
    | true =>
      have hn2 : n ≤ 2000 := by have := Hr.out.1 rfl; simpa using this
      have HL : Hid (a.length = n) := hidden HC.out.hlen
      have HIB : Hid (IsB a) := hidden HC.out.isB
      obtain ⟨m, hm⟩ : ∃ m, m = encLen n := ⟨_, rfl⟩
      have hmb : m ≤ 5000 := by rw [hm]; unfold encLen; omega
      have HM : Hid ((encF (alpha true) a).length = m) := hidden (by rw [encLen_eq, HL.out, hm])
      clear hm
      go_enter Try.func4, Try.ntmps4
      go_wp2_with (first
        | (go_at_call 13; go_must (refine (partShort_calls _ 1 1 [(A, n, c)] _ (Rd.new w _ (slvs [(A, n, c)]) _ rfl) rfl (by omega) true Hr.out).mono ?_; rintro e w1 ⟨rfl, rfl⟩))
        | (go_at_call 16; go_must (refine (partOwn_calls A n c a _ (HC.out.rd.alloc _) HL.out (by omega)).mono ?_; rintro e w2 ⟨v2, rfl, hO2, hB2⟩; obtain ⟨A2, c2, rfl, hc2, hr2, hA2⟩ := hO2.read; rw [nums_len, HL.out]; rw [nums_len, HL.out] at hc2; have hB2' := below_next (below_alloc0 w _) hB2; clear hB2))
        | (go_at_call 17; go_must (refine (encoded_calls A2 n c2 a _ hr2 HL.out HIB.out hc2 hA2 (by omega)).mono ?_; rintro e w3 ⟨v3, rfl, hO3, hB3⟩; obtain ⟨A3, c3, rfl, hc3, hr3, hA3⟩ := hO3.read; rw [nums_len, HM.out]; rw [nums_len, HM.out] at hc3; have hB3' := below_next hB2' hB3; clear hB3)))
      have HR3 := hidden hr3
      have HB3 := hidden hB3'
      clear hr3 hB3' hB2' hr2
      go_loop [17] (fun i => ∃ k : Nat, k ≤ m ∧ i = .int .i64 k) (fun i => m - (intOf i).toNat)
      case atStart => exact ⟨0, by omega, rfl⟩
      case round =>
        obtain ⟨k, hk, rfl⟩ := hrel
        by_cases hlt : k < m
        · have hlti : (k : Int) < (m : Int) := by omega
          obtain ⟨b0, o0, rfl, _, c0⟩ := HR3.out.at k (by rw [HM.out]; exact hlt)
          have hu : isUrl (gi (encF (alpha true) a) k) := encF_url HIB.out (gi_mem (by rw [HM.out]; exact hlt))
          obtain ⟨x, hx⟩ : ∃ x : Nat, gi (encF (alpha true) a) k = (x : Int) := ⟨(gi (encF (alpha true) a) k).toNat, (Int.toNat_of_nonneg (gi_byte (encF_isB true HIB.out) k).1).symm⟩
          rw [hx] at c0 hu
          have h43 : ((x : Int) == 43) = false := beq_eq_false_iff_ne.2 (by unfold isUrl at hu; omega)
          have h47 : ((x : Int) == 47) = false := beq_eq_false_iff_ne.2 (by unfold isUrl at hu; omega)
          have hn43 : ¬ x = 43 := by unfold isUrl at hu; omega
          have hn47 : ¬ x = 47 := by unfold isUrl at hu; omega
          have HU := hidden hu
          clear hx hu
          go_wp2_with (go_at_call 19; go_must (refine (letter_calls x HU.out _).mono ?_; rintro e w4 ⟨rfl, rfl⟩))
          go_round
          case rel => exact ⟨k + 1, by omega, by go_num⟩
          case measure => simp [intOf]; omega
        · obtain rfl : k = m := by omega
          go_wp2_with (go_at_call 14; go_must (refine (partAwake_calls _).mono ?_; rintro e w4 ⟨rfl, hB4⟩))
          go_ret
          exact ⟨rfl, below_next HB3.out hB4⟩
  · have hbi : (2147483647 : Int) < (n : Int) := by omega
    go_enter Try.func4, Try.ntmps4
    go_wp2
    go_ret
    exact ⟨rfl, Below.refl _ _⟩
end Go.Proofs.Ytmibnnmampfalaa
