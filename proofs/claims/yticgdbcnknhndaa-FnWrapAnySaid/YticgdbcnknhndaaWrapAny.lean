/- The walk of the law FnWrapAny. -/
import Derived.Test.YticgdbcnknhndaaWrapM
import Derived.Test.YticgdbcnknhndaaPadAwake
namespace Go.Proofs.Yticgdbcnknhndaa
open Go.RowKit
set_option linter.unusedVariables false
set_option linter.unusedSimpArgs false

set_option maxRecDepth 10000 in
set_option maxHeartbeats 2000000 in
theorem any_walk (seed : Int) (A : Option Addr) (n c : Nat) (zs : List Int) (w : World) (ws : (Lit.int .u64 seed).wf = true) (hrow : IsRow .u8 w A n c zs) (hy : n * 1 ≤ 140737488351232) :
    Calls Try.prog 12 #[.int .u64 seed, .slice A n c] w fun e w' => e = .returned (.bool true) ∧ Below w.heap.size w w' := by
  clear ws
  have hcame := hrow.came
  generalize zs.take n = b at hcame
  have HC := hidden hcame
  clear hcame hrow
  by_cases hbig : n ≤ 2147483647
  · by_cases hsz : 8 ≤ n ∧ n ≤ 380
    · obtain ⟨h8, h380⟩ := hsz
      have h8i : ¬ (n : Int) < 8 := by omega
      have h380i : ¬ (380 : Int) < (n : Int) := by omega
      obtain ⟨r, hr⟩ : ∃ r, r = 8 - n % 8 := ⟨_, rfl⟩
      obtain ⟨m, hm⟩ : ∃ m, 8 * m = n + r := ⟨(n + r) / 8, by omega⟩
      have hsub : 8 * (m : Int) - (r : Int) = (n : Int) := by omega
      have hle : (r : Int) ≤ 8 * (m : Int) := by omega
      have hm1 : 0 < m ∧ m ≤ 1000 := by omega
      have hr1 : 1 ≤ r ∧ r ≤ 8 := by omega
      have hrm : r ≤ 8 * m := by omega
      have HP : Hid (padded b 8 = padBy b r) := hidden (by rw [padded, HC.out.hlen, hr])
      have hpl : Hid ((padBy b r).length = 8 * m) := hidden (by rw [padBy_len, HC.out.hlen]; exact hm.symm)
      have hpb : Hid (IsB (padBy b r)) := hidden (padBy_isB HC.out.isB (by omega))
      have hbr : Hid (b.length + r = 8 * m) := hidden (by rw [HC.out.hlen]; exact hm.symm)
      have hnm : n ≤ 8 * m := by omega
      have hb3 : Hid (IsB b) := hidden HC.out.isB
      clear hr hm
      go_enter Try.func12, Try.ntmps12
      go_wp2_with (first
        | (go_at_call 22; first
            | (with_reducible refine (partOwn_calls A n c b _ HC.out.rd HC.out.hlen (by omega)).mono ?_; rintro e w1 hN; obtain ⟨A1, c1, rfl, hN1⟩ := RetB.of hN n HC.out.hlen; clear hN)
            | (with_reducible refine (partOwn_calls A2 (8 * m) c2 (padBy b r) _ hN2.rd hpl.out (by omega)).mono ?_; rintro e w3 hN; obtain ⟨A3, c3, rfl, hN3⟩ := RetB.of hN (8 * m) hpl.out; clear hN)
            | (with_reducible refine (partOwn_calls A5 (8 * m) c5 (padBy b r) _ hN5.rd hpl.out (by omega)).mono ?_; rintro e w6 hN; obtain ⟨A6, c6, rfl, hN6⟩ := RetB.of hN (8 * m) hpl.out; clear hN))
        | (go_at_call 21; go_must (refine (padded_calls A1 n c1 8 b _ hN1.rd HC.out.hlen hN1.cap hN1.nil (by omega) (by omega) (by omega)).mono ?_; rintro e w2 hN; rw [HP.out] at hN; obtain ⟨A2, c2, rfl, hN2⟩ := RetB.of hN (8 * m) hpl.out; clear hN))
        | (go_at_call 32; go_must (refine (wrapped_calls seed A3 m c3 (padBy b r) _ hN3.rd hpl.out hm1.1 hm1.2 hN3.cap hN3.nil hpb.out).mono ?_; rintro e w4 ⟨A4, c4, rfl, hN4⟩))
        | (go_at_call 31; go_must (refine (reopened_calls seed A4 m c4 (padBy b r) _ hN4.rd hpl.out hm1.1 hm1.2 hN4.cap hN4.nil hpb.out).mono ?_; rintro e w5 ⟨A5, c5, rfl, hN5⟩; have hu := fun W' => run_upto (P := Try.prog) (W := W') Try.underlying35 size_u8p A5 (8 * m) c5 (n : Int) n rfl (Nat.le_trans hnm hN5.cap)))
        | (go_at_call 37; go_must (refine (unpadded_calls A6 (8 * m) c6 r b _ hN6.rd hbr.out hN6.cap hN6.nil hr1.1 (by omega) (by omega)).mono ?_; rintro e w7 ⟨rfl, hB7⟩))
        | (go_at_call 20; go_must (refine (partSame_calls A5 A n c5 n c b b _ (Rd.left (ys := nums .u8 (List.replicate r (r : Int))) (by rw [← nums_app]; exact (hN5.rd.below hN6.bel (Nat.le_refl _)).below hB7 (Nat.le_refl _))) HC.out.hlen (((((((HC.out.rd.below hN1.bel (Nat.le_refl _)).below hN2.bel (Nat.le_refl _)).below hN3.bel (Nat.le_refl _)).below hN4.bel (Nat.le_refl _)).below hN5.bel (Nat.le_refl _)).below hN6.bel (Nat.le_refl _)).below hB7 (Nat.le_refl _)) HC.out.hlen hb3.out hb3.out).mono ?_; rintro e w8 ⟨rfl, rfl⟩; rw [decide_eq_true rfl]))
        | (go_at_call 30; go_must (refine (wrapAwake_calls _).mono ?_; rintro e w9 ⟨rfl, hB9⟩)))
      go_ret
      exact ⟨rfl, below_next (below_next (below_next (below_next (below_next (below_next (below_next hN1.bel hN2.bel) hN3.bel) hN4.bel) hN5.bel) hN6.bel) hB7) hB9⟩
    · by_cases h380 : n ≤ 380
      · have h8i : (n : Int) < 8 := by omega
        have h380i : ¬ (380 : Int) < (n : Int) := by omega
        go_enter Try.func12, Try.ntmps12
        go_wp2_with (go_at_call 30; go_must (refine (wrapAwake_calls _).mono ?_; rintro e w9 ⟨rfl, hB9⟩))
        go_ret
        exact ⟨rfl, hB9⟩
      · have h380i : (380 : Int) < (n : Int) := by omega
        go_enter Try.func12, Try.ntmps12
        go_wp2_with (go_at_call 30; go_must (refine (wrapAwake_calls _).mono ?_; rintro e w9 ⟨rfl, hB9⟩))
        go_ret
        exact ⟨rfl, hB9⟩
  · go_enter Try.func12, Try.ntmps12
    go_wp2
    go_ret
    exact ⟨rfl, Below.refl _ _⟩
end Go.Proofs.Yticgdbcnknhndaa
