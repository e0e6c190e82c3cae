/- Texts that may stand within a header: the walk of joinSafe. -/
import Derived.Test.YtmibnnmampfalaaDoorJoinA
import Derived.Test.YtmibnnmampfalaaDoorSafe
namespace Go.Proofs.YtmibnnmampfalaaDoor
open Go.RowKit
set_option linter.unusedVariables false
set_option linter.unusedSimpArgs false

def okS (s : ByteArray) : Bool := decide (s.size ≤ 60) && safeS s
theorem okS_all {ss : List ByteArray} {n : Nat} (hn : ss.length = n) (h : ∀ j, j < n → okS (si ss j) = true) : ss.all okS = true := by
  rw [List.all_eq_true]
  intro x hx
  obtain ⟨j, hj, rfl⟩ := List.mem_iff_getElem.1 hx
  have := h j (by omega)
  simpa [si, List.getD_eq_getElem?_getD, hj] using this
theorem okS_not {ss : List ByteArray} {j : Nat} (hj : j < ss.length) (h : okS (si ss j) = false) : ss.all okS = false := by
  rw [List.all_eq_false]
  refine ⟨ss[j], List.getElem_mem _, ?_⟩
  have : si ss j = ss[j] := by simp [si, List.getD_eq_getElem?_getD, hj]
  rw [← this, h]; simp
set_option maxRecDepth 100000 in
set_option maxHeartbeats 2000000 in
theorem joinSafe_calls (X : Option Addr) (n c : Nat) (ss : List ByteArray) (w : World) (h : Rd w X (strs ss)) (hn : ss.length = n) (hb : n ≤ 1000) (r : Bool) (hr : r = ss.all okS) :
    Calls Tryd.prog 13 #[.slice X n c] w fun e w' => e = .returned (.bool r) ∧ w = w' := by
  have Hr := hidden hr
  clear hr
  go_enter Tryd.func13, Tryd.ntmps13
  go_wp2
  go_loop [8] (fun i => ∃ k : Nat, k ≤ n ∧ i = .int .i64 k ∧ Hid (∀ j, j < k → okS (si ss j) = true)) (fun i => n - (intOf i).toNat)
  case atStart => exact ⟨0, by omega, rfl, hidden (by omega)⟩
  case round =>
    obtain ⟨k, hk, rfl, hle⟩ := hrel
    by_cases hlt : k < n
    · have hlt' : k < ss.length := by omega
      obtain ⟨b0, o0, rfl, _, c0⟩ := h.atS k hlt'
      have HF : Hid (okS (si ss k) = false → ss.all okS = false) := hidden (okS_not hlt')
      have HN : Hid (okS (si ss k) = true → ∀ j, j < k + 1 → okS (si ss j) = true) := hidden (fun e j hj => by
        rcases Nat.lt_succ_iff_lt_or_eq.1 hj with h | rfl
        · exact hle.out j h
        · exact e)
      generalize si ss k = s at c0 HF HN
      by_cases h2 : s.size ≤ 60
      · have h2i : ¬ (60 : Int) < (s.size : Int) := by omega
        clear h
        go_wp2
        go_loop [5] (fun i => ∃ j : Nat, j ≤ s.size ∧ i = .int .i64 j ∧ Hid (safeL (s.data.toList.take j) = true)) (fun i => s.size - (intOf i).toNat)
        case atStart => exact ⟨0, by omega, rfl, hidden rfl⟩
        case round =>
          obtain ⟨j, hj, rfl, Hall⟩ := hrel
          by_cases hlj : j < s.size
          · have hlji : (j : Int) < (s.size : Int) := by omega
            have Ht := hidden (safe_take hlj)
            have HB : Hid (safeL (s.data.toList.take (j + 1)) = false → r = false) := hidden (fun h => by rw [Hr.out, HF.out (by rw [okS, safe_false (s := s) (k := j + 1) (by omega) h]; simp)])
            obtain ⟨x, hx⟩ : ∃ x, s[j]'hlj = x := ⟨_, rfl⟩
            rw [hx] at Ht
            obtain ⟨a, ha⟩ : ∃ a : Nat, x.toNat = a := ⟨_, rfl⟩
            have Hnext : Hid (safeL (s.data.toList.take (j + 1)) = okN a) := hidden (by rw [Ht.out, Hall.out, ha]; rfl)
            clear Ht
            by_cases h1 : a < 32
            · have h1i : (a : Int) < 32 := by omega
              have hrf : r = false := HB.out (by rw [Hnext.out, okN, decide_eq_false (by omega)]; rfl)
              subst hrf
              go_wp2
              go_ret
              exact ⟨rfl, rfl⟩
            · have h1i : ¬ (a : Int) < 32 := by omega
              by_cases h2 : 127 ≤ a
              · have h2i : (126 : Int) < (a : Int) := by omega
                have hrf : r = false := HB.out (by rw [Hnext.out, okN, decide_eq_false (show ¬ a < 127 by omega)]; simp)
                subst hrf
                go_wp2
                go_ret
                exact ⟨rfl, rfl⟩
              · have h2i : ¬ (126 : Int) < (a : Int) := by omega
                by_cases h3 : a = 34
                · subst h3
                  have hrf : r = false := HB.out (by rw [Hnext.out]; rfl)
                  subst hrf
                  go_wp2
                  go_ret
                  exact ⟨rfl, rfl⟩
                · have h3i : ((a : Int) == 34) = false := beq_eq_false_iff_ne.2 (by omega)
                  by_cases h4 : a = 92
                  · subst h4
                    have hrf : r = false := HB.out (by rw [Hnext.out]; rfl)
                    subst hrf
                    go_wp2
                    go_ret
                    exact ⟨rfl, rfl⟩
                  · have h4i : ((a : Int) == 92) = false := beq_eq_false_iff_ne.2 (by omega)
                    have HNN : Hid (safeL (s.data.toList.take (j + 1)) = true) := hidden (by
                      rw [Hnext.out, okN, decide_eq_true (show 32 ≤ a by omega), decide_eq_true (show a < 127 by omega), beq_eq_false_iff_ne.2 h3, beq_eq_false_iff_ne.2 h4]; rfl)
                    go_wp2
                    go_round
                    case rel => exact ⟨j + 1, by omega, by go_num, HNN⟩
                    case measure => simp [intOf]; omega
          · obtain rfl : j = s.size := by omega
            have HO : Hid (∀ j, j < k + 1 → okS (si ss j) = true) := hidden (HN.out (by rw [okS, decide_eq_true h2, ← safe_all, Hall.out]; rfl))
            go_wp2
            go_round
            case rel => exact ⟨k + 1, by omega, by go_num, HO⟩
            case measure => simp [intOf]; omega
      · have h2i : (60 : Int) < (s.size : Int) := by omega
        have hrf : r = false := by rw [Hr.out, HF.out (by rw [okS, decide_eq_false h2]; rfl)]
        subst hrf
        go_wp2
        go_ret
        exact ⟨rfl, rfl⟩
    · obtain rfl : k = n := by omega
      have hrt : r = true := by rw [Hr.out, okS_all hn hle.out]
      subst hrt
      go_wp2
      go_ret
      exact ⟨rfl, rfl⟩
end Go.Proofs.YtmibnnmampfalaaDoor
