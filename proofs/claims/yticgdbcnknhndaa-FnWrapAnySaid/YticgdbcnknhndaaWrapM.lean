/- The walks of the laws about wrapped keys: FnWrapRoad, FnWrapBack, FnWrapTwice. -/
import Derived.Test.YticgdbcnknhndaaWrapL
import Derived.Test.YticgdbcnknhndaaRowkit
namespace Go.Proofs.Yticgdbcnknhndaa
open Go.RowKit
set_option linter.unusedVariables false
set_option linter.unusedSimpArgs false

theorem take_isB {l : List Int} (h : IsB l) (n : Nat) : IsB (l.take n) := fun x hx => h x (List.mem_of_mem_take hx)
set_option maxRecDepth 10000 in
set_option maxHeartbeats 1000000 in
theorem road_walk (seed : Int) (A : Option Addr) (n c : Nat) (zs : List Int) (w : World) (ws : (Lit.int .u64 seed).wf = true) (hrow : IsRow .u8 w A n c zs) (hy : n * 1 ≤ 140737488351232) :
    Calls Try.prog 10 #[.int .u64 seed, .slice A n c] w fun e w' => e = .returned (.bool true) ∧ Below w.heap.size w w' := by
  have hcame := hrow.came
  generalize zs.take n = l at hcame
  have HC := hidden hcame
  clear hcame hrow ws
  obtain ⟨q, hqq⟩ : ∃ q, q = n / 8 := ⟨_, rfl⟩
  obtain ⟨key, hkey⟩ : ∃ key, key = l.take (8 * q) := ⟨_, rfl⟩
  have hb : Hid (IsB key) := hidden (hkey ▸ take_isB HC.out.isB _)
  have Hqq := hidden hqq
  have Hkey := hidden hkey
  clear hqq hkey
  by_cases hbig : n ≤ 2147483647
  · go_enter Try.func10, Try.ntmps10
    go_wp2_with (go_at_call 29; go_must (refine (whole_calls A n c l _ HC.out.rd HC.out.hlen HC.out.hcap hbig q Hqq.out key Hkey.out).mono ?_; rintro e w1 ⟨A1, c1, b, rfl, hq, hN1⟩; have Hq := hidden hq; clear hq; rcases b with _ | _))
    · go_wp2_with (go_at_call 30; go_must (refine (wrapAwake_calls _).mono ?_; rintro e w2 ⟨rfl, hB2⟩))
      go_ret
      exact ⟨rfl, below_next hN1.bel hB2⟩
    · have hq2 : 2 ≤ q ∧ q ≤ 50 := by simpa using Hq.out
      clear Hq
      have hwl := hidden (WrapPlain.wrapB_len (mixC seed) (n := q) (by omega) hb.out hN1.len)
      have hwb := hidden (WrapPlain.wrapB_isB (mixC seed) (n := q) (by omega) hb.out hN1.len)
      go_wp2_with (first
        | (go_at_call 22; first
            | (refine (partOwn_calls A1 (8 * q) c1 key _ hN1.rd hN1.len (by omega)).mono ?_; rintro e w2 hN; obtain ⟨A2, c2, rfl, hN2⟩ := RetB.of hN (8 * q) hN1.len; clear hN)
            | (refine (partOwn_calls A3 (8 * (q + 1)) c3 (WrapPlain.wrapB (mixC seed) q key) _ hN3.rd hwl.out (by omega)).mono ?_; rintro e w4 hN; obtain ⟨A4, c4, rfl, hN4⟩ := RetB.of hN (8 * (q + 1)) hwl.out; clear hN))
        | (go_at_call 32; go_must (refine (wrapped_calls seed A2 q c2 key _ hN2.rd hN1.len (by omega) (by omega) hN2.cap hN2.nil hb.out).mono ?_; rintro e w3 ⟨A3, c3, rfl, hN3⟩))
        | (go_at_call 31; go_must (refine (reopened_calls seed A4 q c4 key _ hN4.rd hN1.len (by omega) (by omega) hN4.cap hN4.nil hb.out).mono ?_; rintro e w5 ⟨A5, c5, rfl, hN5⟩))
        | (go_at_call 20; go_must (refine (partSame_calls A5 A1 (8 * q) c5 (8 * q) c1 key key _ hN5.rd hN1.len ((((hN1.rd.below hN2.bel (Nat.le_refl _)).below hN3.bel (Nat.le_refl _)).below hN4.bel (Nat.le_refl _)).below hN5.bel (Nat.le_refl _)) hN1.len hb.out hb.out).mono ?_; rintro e w6 ⟨rfl, rfl⟩; rw [decide_eq_true rfl]))
        | (go_at_call 30; go_must (refine (wrapAwake_calls _).mono ?_; rintro e w7 ⟨rfl, hB7⟩)))
      go_ret
      exact ⟨rfl, below_next (below_next (below_next (below_next (below_next hN1.bel hN2.bel) hN3.bel) hN4.bel) hN5.bel) hB7⟩
  · go_enter Try.func10, Try.ntmps10
    go_wp2
    go_ret
    exact ⟨rfl, Below.refl _ _⟩
end Go.Proofs.Yticgdbcnknhndaa
