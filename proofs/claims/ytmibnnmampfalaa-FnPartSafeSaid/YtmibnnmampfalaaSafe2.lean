/- The walk of FnPartSafe. -/
import Derived.Test.YtmibnnmampfalaaSafe
namespace Go.Proofs.Ytmibnnmampfalaa
open Go.RowKit
set_option linter.unusedVariables false
set_option linter.unusedSimpArgs false

set_option maxRecDepth 100000 in
set_option maxHeartbeats 2000000 in
theorem safe_walk (s : ByteArray) (w : World) (hs : s.size ≤ 140737488351232) :
    Calls Try.prog 6 #[.string s] w fun e w' => e = .returned (.bool true) ∧ Below w.heap.size w w' := by
  by_cases h1 : s.size ≤ 2000
  · have h1i : ¬ (2000 : Int) < (s.size : Int) := by omega
    have h1j : ¬ (2147483647 : Int) < (s.size : Int) := by omega
    obtain ⟨r, hr⟩ : ∃ r, r = safeS s := ⟨_, rfl⟩
    have Hr := hidden hr
    have gs := hidden (safeText_calls s w (by omega) r Hr.out)
    clear hr
    go_enter Try.func6, Try.ntmps6
    go_wp2
    go_loop [3, 4] (fun p i => ∃ (k : Nat) (q : Bool), k ≤ s.size ∧ i = .int .i64 k ∧ p = .bool q ∧ Hid (q = safeL (s.data.toList.take k))) (fun _ i => s.size - (intOf i).toNat)
    case atStart => exact ⟨0, true, by omega, rfl, rfl, hidden rfl⟩
    case round =>
      obtain ⟨k, q, hk, rfl, rfl, Hall⟩ := hrel
      by_cases hlt : k < s.size
      · have hlti : (k : Int) < (s.size : Int) := by omega
        have Ht := hidden (safe_take hlt)
        obtain ⟨c, hc⟩ : ∃ c, s[k]'hlt = c := ⟨_, rfl⟩
        rw [hc] at Ht
        obtain ⟨a, ha⟩ : ∃ a : Nat, c.toNat = a := ⟨_, rfl⟩
        have Hnext : Hid (safeL (s.data.toList.take (k + 1)) = (q && okN a)) := hidden (by rw [Ht.out, ← Hall.out, ha])
        clear Ht
        by_cases h127 : a = 127
        · subst h127
          go_wp2_with (go_at_call 14; go_must (refine (partAwake_calls _).mono ?_; rintro e w2 ⟨rfl, hB2⟩))
          go_ret
          exact ⟨rfl, hB2⟩
        · have h127i : ((a : Int) == 127) = false := beq_eq_false_iff_ne.2 (by omega)
          cases q with
          | false =>
            have HN : Hid (false = safeL (s.data.toList.take (k + 1))) := hidden (by rw [Hnext.out]; rfl)
            go_wp2
            go_round
            case rel => exact ⟨k + 1, false, by omega, by go_num, rfl, HN⟩
            case measure => simp [intOf]; omega
          | true =>
            by_cases h2 : 32 ≤ a
            · have h2i : (32 : Int) ≤ (a : Int) := by omega
              by_cases h3 : a < 127
              · have h3i : (a : Int) < 127 := by omega
                by_cases h4 : a = 34
                · subst h4
                  have HN : Hid (false = safeL (s.data.toList.take (k + 1))) := hidden (by rw [Hnext.out]; rfl)
                  go_wp2
                  go_round
                  case rel => exact ⟨k + 1, false, by omega, by go_num, rfl, HN⟩
                  case measure => simp [intOf]; omega
                · have h4i : ((a : Int) == 34) = false := beq_eq_false_iff_ne.2 (by omega)
                  by_cases h5 : a = 92
                  · subst h5
                    have HN : Hid (false = safeL (s.data.toList.take (k + 1))) := hidden (by rw [Hnext.out]; rfl)
                    go_wp2
                    go_round
                    case rel => exact ⟨k + 1, false, by omega, by go_num, rfl, HN⟩
                    case measure => simp [intOf]; omega
                  · have h5i : ((a : Int) == 92) = false := beq_eq_false_iff_ne.2 (by omega)
                    have h4n : ((a : Int) != 34) = true := by rw [bne, h4i]; rfl
                    have h5n : ((a : Int) != 92) = true := by rw [bne, h5i]; rfl
                    have HN : Hid (true = safeL (s.data.toList.take (k + 1))) := hidden (by
                      rw [Hnext.out, okN, decide_eq_true h2, decide_eq_true h3, beq_eq_false_iff_ne.2 h4, beq_eq_false_iff_ne.2 h5]; rfl)
                    go_wp2
                    go_round
                    case rel => exact ⟨k + 1, true, by omega, by go_num, rfl, HN⟩
                    case measure => simp [intOf]; omega
              · have h3i : ¬ (a : Int) < 127 := by omega
                have HN : Hid (false = safeL (s.data.toList.take (k + 1))) := hidden (by rw [Hnext.out, okN, decide_eq_false h3]; simp)
                go_wp2
                go_round
                case rel => exact ⟨k + 1, false, by omega, by go_num, rfl, HN⟩
                case measure => simp [intOf]; omega
            · have h2i : ¬ (32 : Int) ≤ (a : Int) := by omega
              have HN : Hid (false = safeL (s.data.toList.take (k + 1))) := hidden (by rw [Hnext.out, okN, decide_eq_false h2]; rfl)
              go_wp2
              go_round
              case rel => exact ⟨k + 1, false, by omega, by go_num, rfl, HN⟩
              case measure => simp [intOf]; omega
      · obtain rfl : k = s.size := by omega
        obtain rfl : q = r := by rw [Hr.out, Hall.out, safe_all]
        cases q
        all_goals
          go_wp2_with (first
            | (with_reducible refine (gs.out).mono ?_; rintro e w1 ⟨rfl, rfl⟩)
            | (go_at_call 14; go_must (refine (partAwake_calls _).mono ?_; rintro e w2 ⟨rfl, hB2⟩)))
          go_ret
          exact ⟨rfl, hB2⟩
  · have h1i : (2000 : Int) < (s.size : Int) := by omega
    by_cases h2 : s.size ≤ 2147483647
    · have h2i : ¬ (2147483647 : Int) < (s.size : Int) := by omega
      go_enter Try.func6, Try.ntmps6
      go_wp2_with (go_at_call 14; go_must (refine (partAwake_calls _).mono ?_; rintro e w2 ⟨rfl, hB2⟩))
      go_ret
      exact ⟨rfl, hB2⟩
    · have h2i : (2147483647 : Int) < (s.size : Int) := by omega
      go_enter Try.func6, Try.ntmps6
      go_wp2
      go_ret
      exact ⟨rfl, Below.refl _ _⟩
end Go.Proofs.Ytmibnnmampfalaa
