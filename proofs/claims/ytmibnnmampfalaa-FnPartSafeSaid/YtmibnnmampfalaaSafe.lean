/- Texts that may stand as they are: the walks of FnPartSafeJoined and FnPartSafe. -/
import Derived.Test.YtmibnnmampfalaaPart0
namespace Go.Proofs.Ytmibnnmampfalaa
open Go.RowKit
set_option linter.unusedVariables false
set_option linter.unusedSimpArgs false

def okN (n : Nat) : Bool := decide (32 ≤ n) && decide (n < 127) && !(n == 34) && !(n == 92)
def safeL (l : List UInt8) : Bool := l.all fun b => okN b.toNat
def safeS (s : ByteArray) : Bool := safeL s.data.toList
theorem safeS_app (a b : ByteArray) : safeS (a ++ b) = (safeS a && safeS b) := by
  unfold safeS safeL
  rw [ByteArray.data_append, Array.toList_append, List.all_append]
theorem safe_take {s : ByteArray} {k : Nat} (hk : k < s.size) : safeL (s.data.toList.take (k + 1)) = (safeL (s.data.toList.take k) && okN (s[k]'hk).toNat) := by
  have hk2 : k < s.data.toList.length := hk
  unfold safeL
  rw [List.take_succ_eq_append_getElem hk2, List.all_append]
  simp
  rfl
theorem safe_all (s : ByteArray) : safeL (s.data.toList.take s.size) = safeS s := by
  have : s.data.toList.length = s.size := rfl
  rw [safeS, ← this, List.take_length]
theorem safe_false {s : ByteArray} {k : Nat} (h : k ≤ s.size) (hf : safeL (s.data.toList.take k) = false) : safeS s = false := by
  rw [Bool.eq_false_iff] at hf ⊢
  intro hs
  apply hf
  unfold safeS safeL at *
  rw [List.all_eq_true] at *
  exact fun x hx => hs x (List.mem_of_mem_take hx)
set_option maxHeartbeats 1000000 in
theorem safe_calls (s : ByteArray) (w : World) (hN : s.size ≤ 100000) (r : Bool) (hr : r = safeS s) :
    Calls Try.prog 50 #[.string s] w fun e w' => e = .returned (.bool r) ∧ w = w' := by
  have Hr := hidden hr
  clear hr
  obtain ⟨n, hn⟩ : ∃ n, n = s.size := ⟨_, rfl⟩
  go_enter Try.func50, Try.ntmps50
  go_wp2
  go_loop [7] (fun i => ∃ k : Nat, k ≤ s.size ∧ i = .int .i64 k ∧ Hid (safeL (s.data.toList.take k) = true)) (fun i => s.size - (intOf i).toNat)
  case atStart => exact ⟨0, by omega, rfl, hidden rfl⟩
  case round =>
    obtain ⟨k, hk, rfl, Hall⟩ := hrel
    clear hn
    by_cases hlt : k < s.size
    · have hlti : (k : Int) < (s.size : Int) := by omega
      have Ht := hidden (safe_take hlt)
      have HF := hidden (fun h => safe_false (s := s) (k := k + 1) (by omega) h)
      obtain ⟨c, hc⟩ : ∃ c, s[k]'hlt = c := ⟨_, rfl⟩
      rw [hc] at Ht
      obtain ⟨a, ha⟩ : ∃ a : Nat, c.toNat = a := ⟨_, rfl⟩
      have Hnext : Hid (safeL (s.data.toList.take (k + 1)) = okN a) := hidden (by rw [Ht.out, Hall.out, ha]; rfl)
      clear Ht
      by_cases h1 : a < 32
      · have h1i : (a : Int) < 32 := by omega
        have hrf : r = false := by rw [Hr.out, HF.out (by rw [Hnext.out, okN, decide_eq_false (by omega)]; rfl)]
        subst hrf
        go_wp2
        go_ret
        exact ⟨rfl, rfl⟩
      · have h1i : ¬ (a : Int) < 32 := by omega
        by_cases h2 : 127 ≤ a
        · have h2i : (127 : Int) ≤ (a : Int) := by omega
          have hrf : r = false := by rw [Hr.out, HF.out (by rw [Hnext.out, okN, decide_eq_false (show ¬ a < 127 by omega)]; simp)]
          subst hrf
          go_wp2
          go_ret
          exact ⟨rfl, rfl⟩
        · have h2i : ¬ (127 : Int) ≤ (a : Int) := by omega
          by_cases h3 : a = 34
          · subst h3
            have hrf : r = false := by rw [Hr.out, HF.out (by rw [Hnext.out]; rfl)]
            subst hrf
            go_wp2
            go_ret
            exact ⟨rfl, rfl⟩
          · have h3i : ((a : Int) == 34) = false := beq_eq_false_iff_ne.2 (by omega)
            by_cases h4 : a = 92
            · subst h4
              have hrf : r = false := by rw [Hr.out, HF.out (by rw [Hnext.out]; rfl)]
              subst hrf
              go_wp2
              go_ret
              exact ⟨rfl, rfl⟩
            · have h4i : ((a : Int) == 92) = false := beq_eq_false_iff_ne.2 (by omega)
              have HN : Hid (safeL (s.data.toList.take (k + 1)) = true) := hidden (by
                rw [Hnext.out, okN, decide_eq_true (show 32 ≤ a by omega), decide_eq_true (show a < 127 by omega), beq_eq_false_iff_ne.2 h3, beq_eq_false_iff_ne.2 h4]; rfl)
              go_wp2
              go_round
              case rel => exact ⟨k + 1, by omega, by go_num, HN⟩
              case measure => simp [intOf]; omega
    · obtain rfl : k = s.size := by omega
      have hrt : r = true := by rw [Hr.out, ← safe_all]; exact Hall.out
      subst hrt
      go_wp2
      go_ret
      exact ⟨rfl, rfl⟩
theorem safeText_calls (s : ByteArray) (w : World) (hN : s.size ≤ 100000) (r : Bool) (hr : r = safeS s) :
    Calls Try.prog 22 #[.string s] w fun e w' => e = .returned (.bool r) ∧ w = w' := by
  have Hr := hidden hr
  clear hr
  go_enter Try.func22, Try.ntmps22
  go_wp2_with (go_at_call 50; go_must (refine (safe_calls s _ hN r Hr.out).mono ?_; rintro e w1 ⟨rfl, rfl⟩))
  go_ret
  exact ⟨rfl, rfl⟩
set_option maxHeartbeats 2000000 in
theorem safeJoined_walk (a b : ByteArray) (w : World) (ha : a.size ≤ 140737488351232) (hb : b.size ≤ 140737488351232) :
    Calls Try.prog 7 #[.string a, .string b] w fun e w' => e = .returned (.bool true) ∧ Below w.heap.size w w' := by
  by_cases h1 : a.size ≤ 2000
  · have h1i : ¬ (2000 : Int) < (a.size : Int) := by omega
    have h1j : ¬ (2147483647 : Int) < (a.size : Int) := by omega
    by_cases h2 : b.size ≤ 2000
    · have h2i : ¬ (2000 : Int) < (b.size : Int) := by omega
      have h2j : ¬ (2147483647 : Int) < (b.size : Int) := by omega
      have hab : (a ++ b).size ≤ 100000 := by rw [ByteArray.size_append]; omega
      obtain ⟨r1, hr1⟩ : ∃ r, r = safeS (a ++ b) := ⟨_, rfl⟩
      obtain ⟨r2, hr2⟩ : ∃ r, r = safeS a := ⟨_, rfl⟩
      obtain ⟨r3, hr3⟩ : ∃ r, r = safeS b := ⟨_, rfl⟩
      have hr : r1 = (r2 && r3) := by rw [hr1, hr2, hr3, safeS_app]
      have H1 := hidden hr1
      have H2 := hidden hr2
      have H3 := hidden hr3
      clear hr1 hr2 hr3
      obtain ⟨ab, hab2⟩ : ∃ ab, ab = a ++ b := ⟨_, rfl⟩
      rw [← hab2] at hab
      have H1' : Hid (r1 = safeS ab) := hidden (by rw [hab2]; exact H1.out)
      have ga := safeText_calls a w (by omega) r2 H2.out
      have gb := safeText_calls b w (by omega) r3 H3.out
      have gab := safeText_calls ab w hab r1 H1'.out
      have g0 := safeText_calls ⟨#[]⟩ w (by decide) true rfl
      rw [hab2] at gab
      clear hab2 H1' H1
      cases r2 <;> cases r3 <;> (simp only [Bool.and_true, Bool.and_false] at hr) <;> subst hr
      all_goals
        have Ga := hidden ga
        have Gb := hidden gb
        have Gab := hidden gab
        have G0 := hidden g0
        clear ga gb gab g0
        go_enter Try.func7, Try.ntmps7
        go_wp2_with (first
          | (with_reducible refine (Gab.out).mono ?_; rintro e w1 ⟨rfl, rfl⟩)
          | (with_reducible refine (Ga.out).mono ?_; rintro e w1 ⟨rfl, rfl⟩)
          | (with_reducible refine (Gb.out).mono ?_; rintro e w1 ⟨rfl, rfl⟩)
          | (with_reducible refine (G0.out).mono ?_; rintro e w1 ⟨rfl, rfl⟩)
          | (go_at_call 14; go_must (refine (partAwake_calls _).mono ?_; rintro e w2 ⟨rfl, hB2⟩)))
        go_ret
        exact ⟨rfl, hB2⟩
    · have h2i : (2000 : Int) < (b.size : Int) := by omega
      by_cases h3 : b.size ≤ 2147483647
      · have h3i : ¬ (2147483647 : Int) < (b.size : Int) := by omega
        go_enter Try.func7, Try.ntmps7
        go_wp2_with (go_at_call 14; go_must (refine (partAwake_calls _).mono ?_; rintro e w2 ⟨rfl, hB2⟩))
        go_ret
        exact ⟨rfl, hB2⟩
      · have h3i : (2147483647 : Int) < (b.size : Int) := by omega
        go_enter Try.func7, Try.ntmps7
        go_wp2
        go_ret
        exact ⟨rfl, Below.refl _ _⟩
  · have h1i : (2000 : Int) < (a.size : Int) := by omega
    by_cases h2 : a.size ≤ 2147483647
    · have h2i : ¬ (2147483647 : Int) < (a.size : Int) := by omega
      by_cases h3 : b.size ≤ 2147483647
      · have h3i : ¬ (2147483647 : Int) < (b.size : Int) := by omega
        go_enter Try.func7, Try.ntmps7
        go_wp2_with (go_at_call 14; go_must (refine (partAwake_calls _).mono ?_; rintro e w2 ⟨rfl, hB2⟩))
        go_ret
        exact ⟨rfl, hB2⟩
      · have h3i : (2147483647 : Int) < (b.size : Int) := by omega
        go_enter Try.func7, Try.ntmps7
        go_wp2
        go_ret
        exact ⟨rfl, Below.refl _ _⟩
    · have h2i : (2147483647 : Int) < (a.size : Int) := by omega
      go_enter Try.func7, Try.ntmps7
      go_wp2
      go_ret
      exact ⟨rfl, Below.refl _ _⟩
end Go.Proofs.Ytmibnnmampfalaa
