/- The walk of FnPartAgain. -/
import Derived.Test.YtmibnnmampfalaaLetters
namespace Go.Proofs.Ytmibnnmampfalaa
open Go.RowKit
set_option linter.unusedVariables false
set_option linter.unusedSimpArgs false

/-- What is written is taken for what it is. -/
theorem guess_enc {l : List Int} (hb : IsB l) : stdIn (encF (alpha true) l) = false ∧ padded? (encF (alpha true) l) = false := by
  constructor
  · rw [Bool.eq_false_iff]
    intro h
    obtain ⟨x, hx, hx2⟩ := List.any_eq_true.1 h
    have := encF_url hb hx
    unfold isUrl at this
    simp at hx2
    omega
  · unfold padded?
    by_cases h0 : 0 < (encF (alpha true) l).length
    · have := encF_url hb (gi_mem (l := encF (alpha true) l) (i := (encF (alpha true) l).length - 1) (by omega))
      rw [decide_eq_true h0, Bool.true_and, beq_eq_false_iff_ne]
      unfold isUrl at this
      omega
    · rw [decide_eq_false h0]; rfl
theorem decOf_enc {l : List Int} (hb : IsB l) : decOf (encF (alpha true) l) = some l := by
  unfold decOf padOf
  rw [(guess_enc hb).1, (guess_enc hb).2]
  exact decA_encF true l hb
theorem decOf_len {l out : List Int} (h : decOf l = some out) : out.length ≤ l.length := by
  have := (decA_some _ _ l [] out (by simp) h).2.1
  simpa using this
/-- What is read of letters that were written. -/
structure ImpBack (w : World) (l : List Int) (e : Ending) (w' : World) : Prop where
  below : Below w.heap.size w w'
  res : ∃ v, e = .returned (.tuple #[v, .bool true]) ∧ Own w' w.heap.size 5 v (nums .u8 l)
theorem ImpPost.back {w w' : World} {l : List Int} {e : Ending} (hb : IsB l) (h : ImpPost w (encF (alpha true) l) e w') : ImpBack w l e w' := by
  refine ⟨h.below, ?_⟩
  rcases h.res with ⟨v, out, h1, h2, h3, h4⟩ | ⟨h1, h2⟩
  · rw [decOf_enc hb] at h2; cases h2
    exact ⟨v, h1, h3⟩
  · rw [decOf_enc hb] at h2; cases h2
set_option maxRecDepth 10000 in
set_option maxHeartbeats 2000000 in
theorem again_walk (A : Option Addr) (n c : Nat) (zs : List Int) (w : World) (hrow : IsRow .u8 w A n c zs) (hy : n * 1 ≤ 140737488351232) :
    Calls Try.prog 3 #[.slice A n c] w fun e w' => e = .returned (.bool true) ∧ Below w.heap.size w w' := by
  have hcame := hrow.came
  generalize zs.take n = a at hcame
  have HC := hidden hcame
  clear hcame hrow
  obtain ⟨r, hr⟩ : ∃ r : Bool, r = true ↔ ∀ x ∈ [(A, n, c)], x.2.1 ≤ 2000 := ⟨decide (∀ x ∈ [(A, n, c)], x.2.1 ≤ 2000), by simp⟩
  have Hr := hidden hr
  clear hr
  by_cases hbig : n ≤ 2147483647
  · cases r with
    | false =>
      go_enter Try.func3, Try.ntmps3
      go_wp2_with (first
        | (go_at_call 13; go_must (refine (partShort_calls _ 1 1 [(A, n, c)] _ (Rd.new w _ (slvs [(A, n, c)]) _ rfl) rfl (by omega) false Hr.out).mono ?_; rintro e w1 ⟨rfl, rfl⟩))
        | (go_at_call 14; go_must (refine (partAwake_calls _).mono ?_; rintro e w2 ⟨rfl, hB2⟩)))
      go_ret
      exact ⟨rfl, below_next (below_alloc0 _ _) hB2⟩
    | true =>
      have hn2 : n ≤ 2000 := by have := Hr.out.1 rfl; simpa using this
      have HL : Hid (a.length = n) := hidden HC.out.hlen
      have HIB : Hid (IsB a) := hidden HC.out.isB
      cases hdo : decOf a with
      | none =>
        have HD := hidden hdo
        clear hdo
        go_enter Try.func3, Try.ntmps3
        go_wp2_with (first
          | (go_at_call 13; go_must (refine (partShort_calls _ 1 1 [(A, n, c)] _ (Rd.new w _ (slvs [(A, n, c)]) _ rfl) rfl (by omega) true Hr.out).mono ?_; rintro e w1 ⟨rfl, rfl⟩))
          | (go_at_call 16; go_must (refine (partOwn_calls A n c a _ (HC.out.rd.alloc _) HL.out (by omega)).mono ?_; rintro e w2 ⟨v2, rfl, hO2, hB2⟩; obtain ⟨A2, c2, rfl, hc2, hr2, hA2⟩ := hO2.read; rw [nums_len, HL.out]; rw [nums_len, HL.out] at hc2; have hB2' := below_next (below_alloc0 w _) hB2; clear hB2))
          | (go_at_call 15; go_must (refine (decoded_calls A2 n c2 a _ hr2 HL.out hc2 hA2 HIB.out (by omega)).mono ?_; intro e w3 hq; have hB3 := below_next hB2' hq.below; obtain rfl : e = .returned (.tuple #[.slice none 0 0, .bool false]) := (by rcases hq.res with ⟨v, out, h1, h2, h3, h4⟩ | ⟨h1, h2⟩; (rw [HD.out] at h2; cases h2); exact h1); clear hq; dsimp only))
          | (go_at_call 14; go_must (refine (partAwake_calls _).mono ?_; rintro e w4 ⟨rfl, hB4⟩)))
        go_ret
        exact ⟨rfl, below_next hB3 hB4⟩
      | some b =>
        have HD := hidden hdo
        have hbl : b.length ≤ n := by rw [← HL.out]; exact decOf_len hdo
        have HBB : Hid (IsB b) := hidden (decA_some _ _ a [] b (by simp) hdo).1
        obtain ⟨k, hk⟩ : ∃ k, b.length = k := ⟨_, rfl⟩
        have HK := hidden hk
        rw [hk] at hbl
        have hbli : (k : Int) ≤ (n : Int) := by omega
        obtain ⟨m, hm⟩ : ∃ m, (encF (alpha true) b).length = m := ⟨_, rfl⟩
        have hmb : m ≤ 5000 := by rw [← hm, encLen_eq, hk]; unfold encLen; omega
        have HM := hidden hm
        have HEB : Hid (IsB (encF (alpha true) b)) := hidden (encF_isB true HBB.out)
        have hdd : decide (b = b) = true := by simp
        have HDD := hidden hdd
        have G1 := hidden (fun (W : World) (h : Rd W A (nums .u8 a)) => partOwn_calls A n c a W h HL.out (by omega))
        have G2 := hidden (fun (A3 : Option Addr) (c3 : Nat) (W : World) (h : Rd W A3 (nums .u8 b)) => partOwn_calls A3 k c3 b W h HK.out (by omega))
        have G3 := hidden (fun (A2 : Option Addr) (c2 : Nat) (W : World) (h : Rd W A2 (nums .u8 a)) (hc2 : n ≤ c2) (hA2 : A2 = none → c2 = 0) => decoded_calls A2 n c2 a W h HL.out hc2 hA2 HIB.out (by omega))
        have G4 := hidden (fun (A5 : Option Addr) (c5 : Nat) (W : World) (h : Rd W A5 (nums .u8 (encF (alpha true) b))) (hc5 : m ≤ c5) (hA5 : A5 = none → c5 = 0) => decoded_calls A5 m c5 (encF (alpha true) b) W h HM.out hc5 hA5 HEB.out (by omega))
        clear hdo hk hm hdd
        go_enter Try.func3, Try.ntmps3
        go_wp2_with (first
          | (go_at_call 13; go_must (refine (partShort_calls _ 1 1 [(A, n, c)] _ (Rd.new w _ (slvs [(A, n, c)]) _ rfl) rfl (by omega) true Hr.out).mono ?_; rintro e w1 ⟨rfl, rfl⟩))
          | ((with_reducible refine (G1.out _ (HC.out.rd.alloc _)).mono ?_); rintro e w2 ⟨v2, rfl, hO2, hB2⟩; obtain ⟨A2, c2, rfl, hc2, hr2, hA2⟩ := hO2.read; rw [nums_len, HL.out]; rw [nums_len, HL.out] at hc2; have hB2' := below_next (below_alloc0 w _) hB2; clear hB2)
          | ((with_reducible refine (G3.out A2 c2 _ hr2 hc2 hA2).mono ?_); intro e w3 hq; have hB3 := below_next hB2' hq.below; obtain ⟨v3, rfl, hO3⟩ : ∃ v, e = .returned (.tuple #[v, .bool true]) ∧ Own w3 _ 5 v (nums .u8 b) := (by rcases hq.res with ⟨v, out, h1, h2, h3, h4⟩ | ⟨h1, h2⟩; (rw [HD.out] at h2; cases h2; exact ⟨v, h1, h3⟩); (rw [HD.out] at h2; cases h2)); obtain ⟨A3, c3, rfl, hc3, hr3, hA3⟩ := hO3.read; rw [nums_len, HK.out]; rw [nums_len, HK.out] at hc3; clear hq; dsimp only)
          | ((with_reducible refine (G2.out A3 c3 _ hr3).mono ?_); rintro e w4 ⟨v4, rfl, hO4, hB4⟩; obtain ⟨A4, c4, rfl, hc4, hr4, hA4⟩ := hO4.read; rw [nums_len, HK.out]; rw [nums_len, HK.out] at hc4; have hB4' := below_next hB3 hB4; have hr3' := hr3.below hB4 (Nat.le_refl _); clear hB4 hr3)
          | (go_at_call 17; go_must (refine (encoded_calls A4 k c4 b _ hr4 HK.out HBB.out hc4 hA4 (by omega)).mono ?_; rintro e w5 ⟨v5, rfl, hO5, hB5⟩; obtain ⟨A5, c5, rfl, hc5, hr5, hA5⟩ := hO5.read; rw [nums_len, HM.out]; rw [nums_len, HM.out] at hc5; have hB5' := below_next hB4' hB5; have hr3'' := hr3'.below hB5 (Nat.le_refl _); clear hB5))
          | ((with_reducible refine (G4.out A5 c5 _ hr5 hc5 hA5).mono ?_); intro e w6 hq; have hq2 := hq.back HBB.out; have hB6 := below_next hB5' hq2.below; have hr3f := hr3''.below hq2.below (Nat.le_refl _); obtain ⟨v6, rfl, hO6⟩ := hq2.res; obtain ⟨A6, c6, rfl, hc6, hr6, hA6⟩ := hO6.read; rw [nums_len, HK.out]; clear hq hq2; dsimp only)
          | (go_at_call 18; go_must (refine (partSame_calls A6 A3 k c6 k c3 b b _ hr6 HK.out hr3f HK.out HBB.out HBB.out).mono ?_; rintro e w7 ⟨rfl, rfl⟩; rw [decide_eq_true (rfl : b = b)]))
          | (go_at_call 14; go_must (refine (partAwake_calls _).mono ?_; rintro e w8 ⟨rfl, hB8⟩)))
        go_ret
        exact ⟨rfl, below_next hB6 hB8⟩
  · have hbi : (2147483647 : Int) < (n : Int) := by omega
    go_enter Try.func3, Try.ntmps3
    go_wp2
    go_ret
    exact ⟨rfl, Below.refl _ _⟩
end Go.Proofs.Ytmibnnmampfalaa
