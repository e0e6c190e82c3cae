/- The walk of the law FnWrapTwice. -/
import Derived.Test.YticgdbcnknhndaaWrapM
namespace Go.Proofs.Yticgdbcnknhndaa
open Go.RowKit
set_option linter.unusedVariables false
set_option linter.unusedSimpArgs false

set_option maxRecDepth 10000 in
set_option maxHeartbeats 2000000 in
theorem twice_walk (seed other : Int) (A : Option Addr) (n c : Nat) (zs : List Int) (w : World) (ws : (Lit.int .u64 seed).wf = true) (wo : (Lit.int .u64 other).wf = true) (hrow : IsRow .u8 w A n c zs) (hy : n * 1 ≤ 140737488351232) :
    Calls Try.prog 11 #[.int .u64 seed, .int .u64 other, .slice A n c] w fun e w' => e = .returned (.bool true) ∧ Below w.heap.size w w' := by
  clear ws wo
  have hcame := hrow.came
  generalize zs.take n = l at hcame
  have HC := hidden hcame
  clear hcame hrow
  obtain ⟨q, hqq⟩ : ∃ q, q = n / 8 := ⟨_, rfl⟩
  obtain ⟨key, hkey⟩ : ∃ key, key = l.take (8 * q) := ⟨_, rfl⟩
  have hb : Hid (IsB key) := hidden (hkey ▸ take_isB HC.out.isB _)
  have Hqq := hidden hqq
  have Hkey := hidden hkey
  clear hqq hkey
  by_cases hbig : n ≤ 2147483647
  · go_enter Try.func11, Try.ntmps11
    go_wp2_with (go_at_call 29; go_must (refine (whole_calls A n c l _ HC.out.rd HC.out.hlen HC.out.hcap hbig q Hqq.out key Hkey.out).mono ?_; rintro e w1 ⟨A1, c1, b, rfl, hq, hN1⟩; have Hq := hidden hq; clear hq; rcases b with _ | _))
    · go_wp2_with (go_at_call 30; go_must (refine (wrapAwake_calls _).mono ?_; rintro e w2 ⟨rfl, hB2⟩))
      go_ret
      exact ⟨rfl, below_next hN1.bel hB2⟩
    · have hq2 : 2 ≤ q ∧ q ≤ 50 := by simpa using Hq.out
      clear Hq
      have hwl := hidden (WrapPlain.wrapB_len (mixC seed) (n := q) (by omega) hb.out hN1.len)
      have hwb : Hid (IsB (WrapPlain.wrapB (mixC seed) q key)) := hidden (WrapPlain.wrapB_isB (mixC seed) (n := q) (by omega) hb.out hN1.len)
      generalize hwr : WrapPlain.wrapB (mixC seed) q key = wr at hwl hwb
      have Hwr := hidden hwr
      clear hwr
      have hxl := hidden (WrapPlain.wrapB_len (mixC other) (n := q + 1) (by omega) hwb.out hwl.out)
      have hyl := hidden (WrapPlain.wrapB_len (mixC other) (n := q) (by omega) hb.out hN1.len)
      go_wp2_with (first
        | (go_at_call 22; first
            | (with_reducible refine (partOwn_calls A1 (8 * q) c1 key _ hN1.rd hN1.len (by omega)).mono ?_; rintro e w2 hN; obtain ⟨A2, c2, rfl, hN2⟩ := RetB.of hN (8 * q) hN1.len; clear hN)
            | (with_reducible refine (partOwn_calls A3 (8 * (q + 1)) c3 wr _ hN3.rd hwl.out (by omega)).mono ?_; rintro e w4 hN; obtain ⟨A4, c4, rfl, hN4⟩ := RetB.of hN (8 * (q + 1)) hwl.out; clear hN)
            | (with_reducible refine (partOwn_calls A5 (8 * (q + 1 + 1)) c5 (WrapPlain.wrapB (mixC other) (q + 1) wr) _ hN5.rd hxl.out (by omega)).mono ?_; rintro e w6 hN; obtain ⟨A6, c6, rfl, hN6⟩ := RetB.of hN (8 * (q + 1 + 1)) hxl.out; clear hN)
            | (with_reducible refine (partOwn_calls A1 (8 * q) c1 key _ (((((((hN1.rd.below hN2.bel (Nat.le_refl _)).below hN3.bel (Nat.le_refl _)).below hN4.bel (Nat.le_refl _)).below hN5.bel (Nat.le_refl _)).below hN6.bel (Nat.le_refl _)).below hN7.bel (Nat.le_refl _)).below hN8.bel (Nat.le_refl _)) hN1.len (by omega)).mono ?_; rintro e w9 hN; obtain ⟨A9, c9, rfl, hN9⟩ := RetB.of hN (8 * q) hN1.len; clear hN))
        | (go_at_call 32; first
            | (with_reducible refine (wrapped_calls seed A2 q c2 key _ hN2.rd hN1.len (by omega) (by omega) hN2.cap hN2.nil hb.out).mono ?_; rintro e w3 ⟨A3, c3, rfl, hN3⟩; rw [Hwr.out] at hN3)
            | (with_reducible refine (wrapped_calls other A4 (q + 1) c4 wr _ hN4.rd hwl.out (by omega) (by omega) hN4.cap hN4.nil hwb.out).mono ?_; rintro e w5 ⟨A5, c5, rfl, hN5⟩)
            | (with_reducible refine (wrapped_calls other A9 q c9 key _ hN9.rd hN1.len (by omega) (by omega) hN9.cap hN9.nil hb.out).mono ?_; rintro e w10 ⟨A10, c10, rfl, hN10⟩))
        | (go_at_call 31; first
            | (with_reducible refine (reopened_calls other A6 (q + 1) c6 wr _ hN6.rd hwl.out (by omega) (by omega) hN6.cap hN6.nil hwb.out).mono ?_; rintro e w7 ⟨A7, c7, rfl, hN7⟩)
            | (with_reducible refine (reopened_calls seed A7 q c7 key _ (by rw [Hwr.out]; exact hN7.rd) hN1.len (by omega) (by omega) hN7.cap hN7.nil hb.out).mono ?_; rintro e w8 ⟨A8, c8, rfl, hN8⟩)
            | (with_reducible refine (reopened_calls other A10 q c10 key _ hN10.rd hN1.len (by omega) (by omega) hN10.cap hN10.nil hb.out).mono ?_; rintro e w11 ⟨A11, c11, rfl, hN11⟩))
        | (go_at_call 20; first
            | (with_reducible refine (partSame_calls A8 A1 (8 * q) c8 (8 * q) c1 key key _ (((hN8.rd.below hN9.bel (Nat.le_refl _)).below hN10.bel (Nat.le_refl _)).below hN11.bel (Nat.le_refl _)) hN1.len ((((((((((hN1.rd.below hN2.bel (Nat.le_refl _)).below hN3.bel (Nat.le_refl _)).below hN4.bel (Nat.le_refl _)).below hN5.bel (Nat.le_refl _)).below hN6.bel (Nat.le_refl _)).below hN7.bel (Nat.le_refl _)).below hN8.bel (Nat.le_refl _)).below hN9.bel (Nat.le_refl _)).below hN10.bel (Nat.le_refl _)).below hN11.bel (Nat.le_refl _)) hN1.len hb.out hb.out).mono ?_; rintro e w12 ⟨rfl, rfl⟩; rw [decide_eq_true rfl])
            | (with_reducible refine (partSame_calls A11 A1 (8 * q) c11 (8 * q) c1 key key _ hN11.rd hN1.len ((((((((((hN1.rd.below hN2.bel (Nat.le_refl _)).below hN3.bel (Nat.le_refl _)).below hN4.bel (Nat.le_refl _)).below hN5.bel (Nat.le_refl _)).below hN6.bel (Nat.le_refl _)).below hN7.bel (Nat.le_refl _)).below hN8.bel (Nat.le_refl _)).below hN9.bel (Nat.le_refl _)).below hN10.bel (Nat.le_refl _)).below hN11.bel (Nat.le_refl _)) hN1.len hb.out hb.out).mono ?_; rintro e w13 ⟨rfl, rfl⟩; rw [decide_eq_true rfl]))
        | (go_at_call 30; go_must (refine (wrapAwake_calls _).mono ?_; rintro e w14 ⟨rfl, hB14⟩)))
      go_ret
      have hB : Below w.heap.size w w11 := below_next (below_next (below_next (below_next (below_next (below_next (below_next (below_next (below_next (below_next hN1.bel hN2.bel) hN3.bel) hN4.bel) hN5.bel) hN6.bel) hN7.bel) hN8.bel) hN9.bel) hN10.bel) hN11.bel
      exact ⟨rfl, below_next hB hB14⟩
  · go_enter Try.func11, Try.ntmps11
    go_wp2
    go_ret
    exact ⟨rfl, Below.refl _ _⟩
end Go.Proofs.Yticgdbcnknhndaa
