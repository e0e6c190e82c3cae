/- The walk of the law FnWrapBack. -/
import Derived.Test.YticgdbcnknhndaaWrapM
namespace Go.Proofs.Yticgdbcnknhndaa
open Go.RowKit
set_option linter.unusedVariables false
set_option linter.unusedSimpArgs false

set_option maxRecDepth 10000 in
set_option maxHeartbeats 2000000 in
theorem back_walk (seed : Int) (A : Option Addr) (n c : Nat) (zs : List Int) (w : World) (ws : (Lit.int .u64 seed).wf = true) (hrow : IsRow .u8 w A n c zs) (hy : n * 1 ≤ 140737488351232) :
    Calls Try.prog 8 #[.int .u64 seed, .slice A n c] w fun e w' => e = .returned (.bool true) ∧ Below w.heap.size w w' := by
  clear ws
  have hcame := hrow.came
  generalize zs.take n = l at hcame
  have HC := hidden hcame
  clear hcame hrow
  obtain ⟨q, hqq⟩ : ∃ q, q = n / 8 := ⟨_, rfl⟩
  obtain ⟨key, hkey⟩ : ∃ key, key = l.take (8 * q) := ⟨_, rfl⟩
  have hb : Hid (IsB key) := hidden (hkey ▸ take_isB HC.out.isB _)
  have Hqq := hidden hqq
  have Hkey := hidden hkey
  clear hqq hkey
  by_cases hbig : n ≤ 2147483647
  · by_cases h24 : 3 ≤ q
    · obtain ⟨m, rfl⟩ : ∃ m, q = m + 1 := ⟨q - 1, by omega⟩
      go_enter Try.func8, Try.ntmps8
      have h24i : ¬ ((8 * (m + 1) : Nat) : Int) < 24 := by omega
      have h24j : ¬ 8 * ((m : Int) + 1) < 24 := by omega
      go_wp2_with (go_at_call 29; go_must (refine (whole_calls A n c l _ HC.out.rd HC.out.hlen HC.out.hcap hbig (m + 1) Hqq.out key Hkey.out).mono ?_; rintro e w1 ⟨A1, c1, b, rfl, hq, hN1⟩; have Hq := hidden hq; clear hq; rcases b with _ | _))
      · go_wp2_with (go_at_call 30; go_must (refine (wrapAwake_calls _).mono ?_; rintro e w2 ⟨rfl, hB2⟩))
        go_ret
        exact ⟨rfl, below_next hN1.bel hB2⟩
      · have hq2 : 2 ≤ m + 1 ∧ m + 1 ≤ 50 := by simpa using Hq.out
        clear Hq
        go_wp2_with (first
          | (go_at_call 22; go_must (refine (partOwn_calls A1 (8 * (m + 1)) c1 key _ hN1.rd hN1.len (by omega)).mono ?_; rintro e w2 hN; obtain ⟨A2, c2, rfl, hN2⟩ := RetB.of hN (8 * (m + 1)) hN1.len; clear hN))
          | (go_at_call 31; go_must (refine (unwrapped_calls seed A2 m c2 key _ hN2.rd hN1.len (by omega) (by omega) hN2.cap hN2.nil hb.out).mono ?_; rintro e w3 (⟨hiv, A3, c3, rfl, hN3⟩ | ⟨hiv, rfl, hB3⟩))))
        · have hol := hidden (WrapPlain.openB_len (mixC seed) (n := m) (by omega) hb.out hN1.len)
          have hob := hidden (WrapPlain.openB_isB (mixC seed) (n := m) (by omega) hb.out hN1.len)
          have hwo := hidden (WrapPlain.wrapB_open (mixC seed) (n := m) (by omega) hb.out hN1.len hiv)
          generalize WrapPlain.openB (mixC seed) m key = x at *
          clear hiv
          go_wp2_with (first
            | (go_at_call 32; go_must (refine (wrapped_calls seed A3 m c3 x _ hN3.rd hol.out (by omega) (by omega) hN3.cap hN3.nil hob.out).mono ?_; rintro e w4 ⟨A4, c4, rfl, hN4⟩; rw [hwo.out] at hN4))
            | (go_at_call 20; go_must (refine (partSame_calls A4 A1 (8 * (m + 1)) c4 (8 * (m + 1)) c1 key key _ hN4.rd hN1.len (((hN1.rd.below hN2.bel (Nat.le_refl _)).below hN3.bel (Nat.le_refl _)).below hN4.bel (Nat.le_refl _)) hN1.len hb.out hb.out).mono ?_; rintro e w6 ⟨rfl, rfl⟩; rw [decide_eq_true rfl]))
            | (go_at_call 30; go_must (refine (wrapAwake_calls _).mono ?_; rintro e w14 ⟨rfl, hB14⟩)))
          go_ret
          exact ⟨rfl, below_next (below_next (below_next (below_next hN1.bel hN2.bel) hN3.bel) hN4.bel) hB14⟩
        · go_wp2_with (go_at_call 30; go_must (refine (wrapAwake_calls _).mono ?_; rintro e w14 ⟨rfl, hB14⟩))
          go_ret
          exact ⟨rfl, below_next (below_next (below_next hN1.bel hN2.bel) hB3) hB14⟩
    · go_enter Try.func8, Try.ntmps8
      have h24i : ((8 * q : Nat) : Int) < 24 := by omega
      have h24j : 8 * (q : Int) < 24 := by omega
      go_wp2_with (go_at_call 29; go_must (refine (whole_calls A n c l _ HC.out.rd HC.out.hlen HC.out.hcap hbig q Hqq.out key Hkey.out).mono ?_; rintro e w1 ⟨A1, c1, b, rfl, hq, hN1⟩; have Hq := hidden hq; clear hq; rcases b with _ | _))
      · go_wp2_with (go_at_call 30; go_must (refine (wrapAwake_calls _).mono ?_; rintro e w2 ⟨rfl, hB2⟩))
        go_ret
        exact ⟨rfl, below_next hN1.bel hB2⟩
      · go_wp2_with (go_at_call 30; go_must (refine (wrapAwake_calls _).mono ?_; rintro e w2 ⟨rfl, hB2⟩))
        go_ret
        exact ⟨rfl, below_next hN1.bel hB2⟩
  · go_enter Try.func8, Try.ntmps8
    go_wp2
    go_ret
    exact ⟨rfl, Below.refl _ _⟩
end Go.Proofs.Yticgdbcnknhndaa
