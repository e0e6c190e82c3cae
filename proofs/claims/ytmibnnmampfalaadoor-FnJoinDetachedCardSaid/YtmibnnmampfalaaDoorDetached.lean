/- The walk of FnJoinDetached. -/
import Derived.Test.YtmibnnmampfalaaDoorJoinC
namespace Go.Proofs.YtmibnnmampfalaaDoor
open Go.RowKit
set_option linter.unusedVariables false
set_option linter.unusedSimpArgs false

set_option maxRecDepth 100000 in
set_option maxHeartbeats 8000000 in
theorem detached_walk (A0 : Option Addr) (n0 d0 : Nat) (z0 : List Int) (s1 s2 : ByteArray) (A3 : Option Addr) (n3 d3 : Nat) (z3 : List Int) (A4 : Option Addr) (n4 d4 : Nat) (z4 : List Int) (enc : Bool) (w : World) (r0 : IsRow .u8 w A0 n0 d0 z0) (y0 : n0 * 1 ≤ 140737488351232) (x1 : s1.size ≤ 140737488351232) (x2 : s2.size ≤ 140737488351232) (r3 : IsRow .u8 w A3 n3 d3 z3) (y3 : n3 * 1 ≤ 140737488351232) (r4 : IsRow .u8 w A4 n4 d4 z4) (y4 : n4 * 1 ≤ 140737488351232) (ae : Addr) (hE : ErrAt w ae) :
    Calls Tryd.prog 4 #[.slice A0 n0 d0, .string s1, .string s2, .slice A3 n3 d3, .slice A4 n4 d4, .bool enc] w fun e w' => e = .returned (.bool true) ∧ Below w.heap.size w w' := by
  clear hE
  have e0 := r0.came.arg
  generalize z0.take n0 = l0 at e0
  have E0 := hidden e0
  clear r0 e0 y0
  have e3 := r3.came.arg
  generalize z3.take n3 = l3 at e3
  have E3 := hidden e3
  clear r3 e3 y3
  have e4 := r4.came.arg
  generalize z4.take n4 = l4 at e4
  have E4 := hidden e4
  clear r4 e4 y4
  by_cases hz0 : n0 ≤ 2147483647
  case neg =>
    have hi0 : (2147483647 : Int) < (n0 : Int) := by omega
    go_enter Tryd.func4, Tryd.ntmps4
    go_wp2
    go_ret
    exact ⟨rfl, Below.refl _ _⟩
  by_cases hz1 : s1.size ≤ 2147483647
  case neg =>
    have hi1 : (2147483647 : Int) < (s1.size : Int) := by omega
    have hi0 : ¬ (2147483647 : Int) < (n0 : Int) := by omega
    go_enter Tryd.func4, Tryd.ntmps4
    go_wp2
    go_ret
    exact ⟨rfl, Below.refl _ _⟩
  by_cases hz2 : s2.size ≤ 2147483647
  case neg =>
    have hi2 : (2147483647 : Int) < (s2.size : Int) := by omega
    have hi0 : ¬ (2147483647 : Int) < (n0 : Int) := by omega
    have hi1 : ¬ (2147483647 : Int) < (s1.size : Int) := by omega
    go_enter Tryd.func4, Tryd.ntmps4
    go_wp2
    go_ret
    exact ⟨rfl, Below.refl _ _⟩
  by_cases hz3 : n3 ≤ 2147483647
  case neg =>
    have hi3 : (2147483647 : Int) < (n3 : Int) := by omega
    have hi0 : ¬ (2147483647 : Int) < (n0 : Int) := by omega
    have hi1 : ¬ (2147483647 : Int) < (s1.size : Int) := by omega
    have hi2 : ¬ (2147483647 : Int) < (s2.size : Int) := by omega
    go_enter Tryd.func4, Tryd.ntmps4
    go_wp2
    go_ret
    exact ⟨rfl, Below.refl _ _⟩
  by_cases hz4 : n4 ≤ 2147483647
  case neg =>
    have hi4 : (2147483647 : Int) < (n4 : Int) := by omega
    have hi0 : ¬ (2147483647 : Int) < (n0 : Int) := by omega
    have hi1 : ¬ (2147483647 : Int) < (s1.size : Int) := by omega
    have hi2 : ¬ (2147483647 : Int) < (s2.size : Int) := by omega
    have hi3 : ¬ (2147483647 : Int) < (n3 : Int) := by omega
    go_enter Tryd.func4, Tryd.ntmps4
    go_wp2
    go_ret
    exact ⟨rfl, Below.refl _ _⟩
  have hi0 : ¬ (2147483647 : Int) < (n0 : Int) := by omega
  have hi1 : ¬ (2147483647 : Int) < (s1.size : Int) := by omega
  have hi2 : ¬ (2147483647 : Int) < (s2.size : Int) := by omega
  have hi3 : ¬ (2147483647 : Int) < (n3 : Int) := by omega
  have hi4 : ¬ (2147483647 : Int) < (n4 : Int) := by omega
  obtain ⟨r, hr⟩ : ∃ r : Bool, r = true ↔ ∀ x ∈ [(A0, n0, d0), (A3, n3, d3), (A4, n4, d4)], x.2.1 ≤ 2000 := ⟨decide (∀ x ∈ [(A0, n0, d0), (A3, n3, d3), (A4, n4, d4)], x.2.1 ≤ 2000), by simp⟩
  have Hr := hidden hr
  have KR : Hid (∀ (W : World) X, Rd W X (slvs [(A0, n0, d0), (A3, n3, d3), (A4, n4, d4)]) → Calls Tryd.prog 5 #[.slice X 3 3] W fun e w' => e = .returned (.bool r) ∧ W = w') := hidden (fun W X h => partShort_calls X 3 3 _ W h rfl (by omega) r hr)
  clear hr
  cases r with
  | false =>
    go_enter Tryd.func4, Tryd.ntmps4
    go_wp2_with (first
      | (go_at_call 5; go_must (refine (KR.out _ _ (Rd.new w _ (slvs [(A0, n0, d0), (A3, n3, d3), (A4, n4, d4)]) _ rfl)).mono ?_; rintro e w1 ⟨rfl, rfl⟩))
      | (go_at_call 6; go_must (refine (partAwake_calls _).mono ?_; rintro e w2 ⟨rfl, hB2⟩)))
    go_ret
    exact ⟨rfl, below_next (below_alloc0 _ _) hB2⟩
  | true =>
    obtain ⟨q0, q3, q4⟩ : n0 ≤ 2000 ∧ n3 ≤ 2000 ∧ n4 ≤ 2000 := by have := Hr.out.1 rfl; simpa using this
    obtain ⟨q, hq⟩ : ∃ q : Bool, q = [s1, s2].all okS := ⟨_, rfl⟩
    have Hq := hidden hq
    have KQ : Hid (∀ (W : World) X, Rd W X (strs [s1, s2]) → Calls Tryd.prog 13 #[.slice X 2 2] W fun e w' => e = .returned (.bool q) ∧ W = w') := hidden (fun W X h => joinSafe_calls X 2 2 [s1, s2] W h rfl (by omega) q hq)
    clear hq
    cases q with
    | false =>
      go_enter Tryd.func4, Tryd.ntmps4
      go_wp2_with (first
        | (go_at_call 5; go_must (refine (KR.out _ _ (Rd.new w _ (slvs [(A0, n0, d0), (A3, n3, d3), (A4, n4, d4)]) _ rfl)).mono ?_; rintro e w1 ⟨rfl, rfl⟩))
        | (go_at_call 13; go_must (refine (KQ.out _ _ (Rd.new (w.alloc _) _ (strs [s1, s2]) _ (by simp))).mono ?_; rintro e w1 ⟨rfl, rfl⟩))
        | (go_at_call 6; go_must (refine (partAwake_calls _).mono ?_; rintro e w2 ⟨rfl, hB2⟩)))
      go_ret
      exact ⟨rfl, below_next (below_next (below_alloc0 _ _) (below_alloc0 _ _)) hB2⟩
    | true =>
      have hs12 : s1.size ≤ 60 ∧ s2.size ≤ 60 := by
        have := Hq.out
        simp [okS] at this
        omega
      obtain ⟨q1, q2⟩ := hs12
      obtain ⟨hd, hhd⟩ : ∃ hd, hd = bts (headS s1 s2) := ⟨_, rfl⟩
      obtain ⟨nH, hnH⟩ : ∃ nH, nH = s1.size + s2.size + 19 := ⟨_, rfl⟩
      have lhd : hd.length = nH := by rw [hhd, headS_len, hnH]
      have bhd : IsB hd := by rw [hhd]; exact bts_isB _
      have KH : Hid (∀ W, Calls Tryd.prog 14 #[.string s1, .string s2] W (HeadB W nH hd)) := hidden (fun W => joinHead_calls s1 s2 nH hd hhd hnH W (by omega) (by omega))
      have hnHb : nH ≤ 139 := by omega
      obtain ⟨S1, hS1⟩ : ∃ S, S = signF enc hd l3 := ⟨_, rfl⟩
      obtain ⟨S2, hS2⟩ : ∃ S, S = signF enc hd l4 := ⟨_, rfl⟩
      obtain ⟨p1, hp1⟩ : ∃ n, S1.length = n := ⟨_, rfl⟩
      obtain ⟨p2, hp2⟩ : ∃ n, S2.length = n := ⟨_, rfl⟩
      have bp1 : p1 ≤ 20000 := by have := signF_len (enc := enc) (Nat.le_of_eq lhd) (Nat.le_of_eq E3.out.len); rw [← hS1, hp1] at this; omega
      have bp2 : p2 ≤ 20000 := by have := signF_len (enc := enc) (Nat.le_of_eq lhd) (Nat.le_of_eq E4.out.len); rw [← hS2, hp2] at this; omega
      obtain ⟨m1, hm1⟩ : ∃ m, SumIs (markL l0 S1) m := ⟨_, ⟨rfl⟩⟩
      obtain ⟨m2, hm2⟩ : ∃ m, SumIs (markL l0 S2) m := ⟨_, ⟨rfl⟩⟩
      obtain ⟨J, hJ⟩ : ∃ J, J = joinF true hd [] m1 := ⟨_, rfl⟩
      obtain ⟨P, hP⟩ : ∃ P, P = encF (alpha true) hd := ⟨_, rfl⟩
      obtain ⟨T, hT⟩ : ∃ T, T = encF (alpha true) m1 := ⟨_, rfl⟩
      obtain ⟨pJ, hpJ⟩ : ∃ n, J.length = n := ⟨_, rfl⟩
      obtain ⟨pP, hpP⟩ : ∃ n, P.length = n := ⟨_, rfl⟩
      obtain ⟨pT, hpT⟩ : ∃ n, T.length = n := ⟨_, rfl⟩
      have eJ : J = P ++ 46 :: ([] ++ 46 :: T) := by rw [hJ, hP, hT, joinF_parts]; rfl
      have bJ : pJ ≤ 100000 := by have := joinF_len (enc := true) (Nat.le_of_eq lhd) (Nat.le_refl ([] : List Int).length) (Nat.le_of_eq hm1.len); rw [← hJ, hpJ] at this; simp at this; omega
      have bPT : pP ≤ 100000 ∧ pT ≤ 100000 := by rw [← hpJ, eJ] at bJ; simp [hpP, hpT] at bJ; omega
      have nP : (46 : Int) ∉ P := by rw [hP]; exact encF_no46 bhd
      have nT : (46 : Int) ∉ T := by rw [hT]; exact encF_no46 hm1.isB
      obtain ⟨D, hD⟩ : ∃ D : Bool, D = decide (m1 = m2) := ⟨_, rfl⟩
      have KS1 : Hid (∀ W A c B c', ArgB W A 32 c m1 → ArgB W B 32 c' m1 → Calls Tryd.prog 11 #[.slice A 32 c, .slice B 32 c'] W fun e w' => e = .returned (.bool true) ∧ W = w') := hidden (fun W A c B c' a b => sameB_calls W A B 32 c 32 c' m1 m1 a b true (by simp))
      have KS2 : Hid (∀ W A c B c', ArgB W A 32 c m1 → ArgB W B 32 c' m2 → Calls Tryd.prog 11 #[.slice A 32 c, .slice B 32 c'] W fun e w' => e = .returned (.bool D) ∧ W = w') := hidden (fun W A c B c' a b => sameB_calls W A B 32 c 32 c' m1 m2 a b D hD)
      have HX := hidden (And.intro hS1 (And.intro hS2 (And.intro hp1 (And.intro hp2 (And.intro hJ hpJ)))))
      have HY := hidden (And.intro hP (And.intro hT (And.intro hpP (And.intro hpT (And.intro eJ (And.intro nP (And.intro nT (And.intro lhd bhd))))))))
      have HM1 := hidden hm1
      have HM2 := hidden hm2
      have HE0 := hidden (show ([] : List Int).length = 0 from rfl)
      obtain ⟨bP, bT⟩ := bPT
      clear hS1 hS2 hp1 hp2 hJ hpJ hD hP hT hpP hpT eJ nP nT lhd bhd hm1 hm2 hhd hnH
      have HZ0 := hidden (below_next (below_alloc0 w (.cells (slvs [(A0, n0, d0), (A3, n3, d3), (A4, n4, d4)]).toArray 22)) (below_alloc0 _ (.cells (strs [s1, s2]).toArray 9)))
      have F0 := hidden (E0.out.below HZ0.out (Nat.le_refl _))
      have F3 := hidden (E3.out.below HZ0.out (Nat.le_refl _))
      have F4 := hidden (E4.out.below HZ0.out (Nat.le_refl _))
      cases D <;> (
        go_enter Tryd.func4, Tryd.ntmps4
        go_wp2_with (first
          | (go_at_call 5; go_must (refine (KR.out _ _ (Rd.new w _ (slvs [(A0, n0, d0), (A3, n3, d3), (A4, n4, d4)]) _ rfl)).mono ?_; rintro e w1 ⟨rfl, rfl⟩))
          | (go_at_call 13; go_must (refine (KQ.out _ _ (Rd.new (w.alloc _) _ (strs [s1, s2]) _ (by simp))).mono ?_; rintro e w1 ⟨rfl, rfl⟩))
          | (go_at_call 14; ((with_reducible refine (KH.out _).mono ?_); rintro e w1x ⟨hB, Ah, ch, rfl, ha⟩; have HB1 := hidden (below_next HZ0.out hB); have Hk_1 := hidden (F0.out.below hB (Nat.le_refl _)); have Hp_1 := hidden (F3.out.below hB (Nat.le_refl _)); have Ho_1 := hidden (F4.out.below hB (Nat.le_refl _)); have Hh_1 := hidden ha; clear hB ha))
          | (go_at_call 10; first
            | ((with_reducible refine (ownB_calls w1x _ _ _ _ Hh_1.out (by omega)).mono ?_); rintro e w2x ⟨hB, Ah1, ch1, rfl, ha⟩; have HB2 := hidden (below_next HB1.out hB); have Hk_2 := hidden (Hk_1.out.below hB (Nat.le_refl _)); have Hp_2 := hidden (Hp_1.out.below hB (Nat.le_refl _)); have Ho_2 := hidden (Ho_1.out.below hB (Nat.le_refl _)); have Hh_2 := hidden (Hh_1.out.below hB (Nat.le_refl _)); have Hh1_2 := hidden ha; clear hB ha)
            | ((with_reducible refine (ownB_calls w2x _ _ _ _ Hp_2.out (by omega)).mono ?_); rintro e w3x ⟨hB, Ap1, cp1, rfl, ha⟩; have HB3 := hidden (below_next HB2.out hB); have Hk_3 := hidden (Hk_2.out.below hB (Nat.le_refl _)); have Hp_3 := hidden (Hp_2.out.below hB (Nat.le_refl _)); have Ho_3 := hidden (Ho_2.out.below hB (Nat.le_refl _)); have Hh_3 := hidden (Hh_2.out.below hB (Nat.le_refl _)); have Hh1_3 := hidden (Hh1_2.out.below hB (Nat.le_refl _)); have Hp1_3 := hidden ha; clear hB ha)
            | ((with_reducible refine (ownB_calls w5x _ _ _ _ Hh_5.out (by omega)).mono ?_); rintro e w6x ⟨hB, Ah2, ch2, rfl, ha⟩; have HB6 := hidden (below_next HB5.out hB); have Hk_6 := hidden (Hk_5.out.below hB (Nat.le_refl _)); have Hp_6 := hidden (Hp_5.out.below hB (Nat.le_refl _)); have Ho_6 := hidden (Ho_5.out.below hB (Nat.le_refl _)); have Hh_6 := hidden (Hh_5.out.below hB (Nat.le_refl _)); have Hm_6 := hidden (Hm_5.out.below hB (Nat.le_refl _)); have Hh2_6 := hidden ha; clear hB ha)
            | ((with_reducible refine (ownB_calls w6x _ _ _ _ Hm_6.out (by omega)).mono ?_); rintro e w7x ⟨hB, Am2, cm2, rfl, ha⟩; have HB7 := hidden (below_next HB6.out hB); have Hk_7 := hidden (Hk_6.out.below hB (Nat.le_refl _)); have Hp_7 := hidden (Hp_6.out.below hB (Nat.le_refl _)); have Ho_7 := hidden (Ho_6.out.below hB (Nat.le_refl _)); have Hh_7 := hidden (Hh_6.out.below hB (Nat.le_refl _)); have Hm_7 := hidden (Hm_6.out.below hB (Nat.le_refl _)); have Hh2_7 := hidden (Hh2_6.out.below hB (Nat.le_refl _)); have Hm2_7 := hidden ha; clear hB ha)
            | ((with_reducible refine (ownB_calls w11x _ _ _ _ Hdh_11.out (by omega)).mono ?_); rintro e w12x ⟨hB, Ah3, ch3, rfl, ha⟩; have HB12 := hidden (below_next HB11.out hB); have Hk_12 := hidden (Hk_11.out.below hB (Nat.le_refl _)); have Hp_12 := hidden (Hp_11.out.below hB (Nat.le_refl _)); have Ho_12 := hidden (Ho_11.out.below hB (Nat.le_refl _)); have Hh_12 := hidden (Hh_11.out.below hB (Nat.le_refl _)); have Hdh_12 := hidden (Hdh_11.out.below hB (Nat.le_refl _)); have Hdm_12 := hidden (Hdm_11.out.below hB (Nat.le_refl _)); have Hh3_12 := hidden ha; clear hB ha)
            | ((with_reducible refine (ownB_calls w12x _ _ _ _ Hp_12.out (by omega)).mono ?_); rintro e w13x ⟨hB, Ap3, cp3, rfl, ha⟩; have HB13 := hidden (below_next HB12.out hB); have Hk_13 := hidden (Hk_12.out.below hB (Nat.le_refl _)); have Hp_13 := hidden (Hp_12.out.below hB (Nat.le_refl _)); have Ho_13 := hidden (Ho_12.out.below hB (Nat.le_refl _)); have Hh_13 := hidden (Hh_12.out.below hB (Nat.le_refl _)); have Hdh_13 := hidden (Hdh_12.out.below hB (Nat.le_refl _)); have Hdm_13 := hidden (Hdm_12.out.below hB (Nat.le_refl _)); have Hh3_13 := hidden (Hh3_12.out.below hB (Nat.le_refl _)); have Hp3_13 := hidden ha; clear hB ha)
            | ((with_reducible refine (ownB_calls w15x _ _ _ _ Hdh_15.out (by omega)).mono ?_); rintro e w16x ⟨hB, Ah4, ch4, rfl, ha⟩; have HB16 := hidden (below_next HB15.out hB); have Hk_16 := hidden (Hk_15.out.below hB (Nat.le_refl _)); have Hp_16 := hidden (Hp_15.out.below hB (Nat.le_refl _)); have Ho_16 := hidden (Ho_15.out.below hB (Nat.le_refl _)); have Hh_16 := hidden (Hh_15.out.below hB (Nat.le_refl _)); have Hdh_16 := hidden (Hdh_15.out.below hB (Nat.le_refl _)); have Hdm_16 := hidden (Hdm_15.out.below hB (Nat.le_refl _)); have Hh4_16 := hidden ha; clear hB ha)
            | ((with_reducible refine (ownB_calls w16x _ _ _ _ Ho_16.out (by omega)).mono ?_); rintro e w17x ⟨hB, Ap4, cp4, rfl, ha⟩; have HB17 := hidden (below_next HB16.out hB); have Hk_17 := hidden (Hk_16.out.below hB (Nat.le_refl _)); have Hp_17 := hidden (Hp_16.out.below hB (Nat.le_refl _)); have Ho_17 := hidden (Ho_16.out.below hB (Nat.le_refl _)); have Hh_17 := hidden (Hh_16.out.below hB (Nat.le_refl _)); have Hdh_17 := hidden (Hdh_16.out.below hB (Nat.le_refl _)); have Hdm_17 := hidden (Hdm_16.out.below hB (Nat.le_refl _)); have Hh4_17 := hidden (Hh4_16.out.below hB (Nat.le_refl _)); have Hp4_17 := hidden ha; clear hB ha))
          | (go_at_call 16; first
            | ((with_reducible refine (signB_calls w3x _ _ _ _ _ _ _ _ enc S1 p1 HX.out.1 HX.out.2.2.1 Hh1_3.out (by omega) Hp1_3.out (by omega)).mono ?_); rintro e w4x ⟨hB, As1, cs1, rfl, ha⟩; have HB4 := hidden (below_next HB3.out hB); have Hk_4 := hidden (Hk_3.out.below hB (Nat.le_refl _)); have Hp_4 := hidden (Hp_3.out.below hB (Nat.le_refl _)); have Ho_4 := hidden (Ho_3.out.below hB (Nat.le_refl _)); have Hh_4 := hidden (Hh_3.out.below hB (Nat.le_refl _)); have Hh1_4 := hidden (Hh1_3.out.below hB (Nat.le_refl _)); have Hp1_4 := hidden (Hp1_3.out.below hB (Nat.le_refl _)); have Hs1_4 := hidden ha; clear hB ha)
            | ((with_reducible refine (signB_calls w13x _ _ _ _ _ _ _ _ enc S1 p1 HX.out.1 HX.out.2.2.1 Hh3_13.out (by omega) Hp3_13.out (by omega)).mono ?_); rintro e w14x ⟨hB, As3, cs3, rfl, ha⟩; have HB14 := hidden (below_next HB13.out hB); have Hk_14 := hidden (Hk_13.out.below hB (Nat.le_refl _)); have Hp_14 := hidden (Hp_13.out.below hB (Nat.le_refl _)); have Ho_14 := hidden (Ho_13.out.below hB (Nat.le_refl _)); have Hh_14 := hidden (Hh_13.out.below hB (Nat.le_refl _)); have Hdh_14 := hidden (Hdh_13.out.below hB (Nat.le_refl _)); have Hdm_14 := hidden (Hdm_13.out.below hB (Nat.le_refl _)); have Hh3_14 := hidden (Hh3_13.out.below hB (Nat.le_refl _)); have Hp3_14 := hidden (Hp3_13.out.below hB (Nat.le_refl _)); have Hs3_14 := hidden ha; clear hB ha)
            | ((with_reducible refine (signB_calls w17x _ _ _ _ _ _ _ _ enc S2 p2 HX.out.2.1 HX.out.2.2.2.1 Hh4_17.out (by omega) Hp4_17.out (by omega)).mono ?_); rintro e w18x ⟨hB, As4, cs4, rfl, ha⟩; have HB18 := hidden (below_next HB17.out hB); have Hk_18 := hidden (Hk_17.out.below hB (Nat.le_refl _)); have Hp_18 := hidden (Hp_17.out.below hB (Nat.le_refl _)); have Ho_18 := hidden (Ho_17.out.below hB (Nat.le_refl _)); have Hh_18 := hidden (Hh_17.out.below hB (Nat.le_refl _)); have Hdh_18 := hidden (Hdh_17.out.below hB (Nat.le_refl _)); have Hdm_18 := hidden (Hdm_17.out.below hB (Nat.le_refl _)); have Hh4_18 := hidden (Hh4_17.out.below hB (Nat.le_refl _)); have Hp4_18 := hidden (Hp4_17.out.below hB (Nat.le_refl _)); have Hs4_18 := hidden ha; clear hB ha))
          | (go_at_call 15; first
            | ((with_reducible refine (joinMark_calls _ _ _ _ _ _ _ _ m1 w4x Hk_4.out (by omega) Hs1_4.out (by omega) HM1.out).mono ?_); rintro e w5x ⟨hB, Am, cm, rfl, ha⟩; have HB5 := hidden (below_next HB4.out hB); have Hk_5 := hidden (Hk_4.out.below hB (Nat.le_refl _)); have Hp_5 := hidden (Hp_4.out.below hB (Nat.le_refl _)); have Ho_5 := hidden (Ho_4.out.below hB (Nat.le_refl _)); have Hh_5 := hidden (Hh_4.out.below hB (Nat.le_refl _)); have Hs1_5 := hidden (Hs1_4.out.below hB (Nat.le_refl _)); have Hm_5 := hidden ha; clear hB ha)
            | ((with_reducible refine (joinMark_calls _ _ _ _ _ _ _ _ m1 w14x Hk_14.out (by omega) Hs3_14.out (by omega) HM1.out).mono ?_); rintro e w15x ⟨hB, Am3, cm3, rfl, ha⟩; have HB15 := hidden (below_next HB14.out hB); have Hk_15 := hidden (Hk_14.out.below hB (Nat.le_refl _)); have Hp_15 := hidden (Hp_14.out.below hB (Nat.le_refl _)); have Ho_15 := hidden (Ho_14.out.below hB (Nat.le_refl _)); have Hh_15 := hidden (Hh_14.out.below hB (Nat.le_refl _)); have Hdh_15 := hidden (Hdh_14.out.below hB (Nat.le_refl _)); have Hdm_15 := hidden (Hdm_14.out.below hB (Nat.le_refl _)); have Hs3_15 := hidden (Hs3_14.out.below hB (Nat.le_refl _)); have Hm3_15 := hidden ha; clear hB ha)
            | ((with_reducible refine (joinMark_calls _ _ _ _ _ _ _ _ m2 w18x Hk_18.out (by omega) Hs4_18.out (by omega) HM2.out).mono ?_); rintro e w19x ⟨hB, Am4, cm4, rfl, ha⟩; have HB19 := hidden (below_next HB18.out hB); have Hk_19 := hidden (Hk_18.out.below hB (Nat.le_refl _)); have Hp_19 := hidden (Hp_18.out.below hB (Nat.le_refl _)); have Ho_19 := hidden (Ho_18.out.below hB (Nat.le_refl _)); have Hh_19 := hidden (Hh_18.out.below hB (Nat.le_refl _)); have Hdm_19 := hidden (Hdm_18.out.below hB (Nat.le_refl _)); have Hs4_19 := hidden (Hs4_18.out.below hB (Nat.le_refl _)); have Hm4_19 := hidden ha; clear hB ha)
            | ((with_reducible refine (joinMark_calls _ _ _ _ _ _ _ _ m1 w20x Hk_20.out (by omega) Hs5_20.out (by omega) HM1.out).mono ?_); rintro e w21x ⟨hB, Am5, cm5, rfl, ha⟩; have HB21 := hidden (below_next HB20.out hB); have Hk_21 := hidden (Hk_20.out.below hB (Nat.le_refl _)); have Hp_21 := hidden (Hp_20.out.below hB (Nat.le_refl _)); have Ho_21 := hidden (Ho_20.out.below hB (Nat.le_refl _)); have Hh_21 := hidden (Hh_20.out.below hB (Nat.le_refl _)); have Hs5_21 := hidden (Hs5_20.out.below hB (Nat.le_refl _)); have Hm5_21 := hidden ha; clear hB ha)
            | ((with_reducible refine (joinMark_calls _ _ _ _ _ _ _ _ m2 w22x Hk_22.out (by omega) Hs6_22.out (by omega) HM2.out).mono ?_); rintro e w23x ⟨hB, Am6, cm6, rfl, ha⟩; have HB23 := hidden (below_next HB22.out hB); have Hk_23 := hidden (Hk_22.out.below hB (Nat.le_refl _)); have Hm5_23 := hidden (Hm5_22.out.below hB (Nat.le_refl _)); have Hs6_23 := hidden (Hs6_22.out.below hB (Nat.le_refl _)); have Hm6_23 := hidden ha; clear hB ha))
          | (go_at_call 17; ((with_reducible refine (joinB_calls w7x _ _ _ _ _ _ _ _ J pJ HX.out.2.2.2.2.1 HX.out.2.2.2.2.2 Hh2_7.out (by omega) Hm2_7.out (by omega)).mono ?_); rintro e w8x ⟨hB, At, ct, rfl, ha⟩; have HB8 := hidden (below_next HB7.out hB); have Hk_8 := hidden (Hk_7.out.below hB (Nat.le_refl _)); have Hp_8 := hidden (Hp_7.out.below hB (Nat.le_refl _)); have Ho_8 := hidden (Ho_7.out.below hB (Nat.le_refl _)); have Hh_8 := hidden (Hh_7.out.below hB (Nat.le_refl _)); have Hm_8 := hidden (Hm_7.out.below hB (Nat.le_refl _)); have Hh2_8 := hidden (Hh2_7.out.below hB (Nat.le_refl _)); have Hm2_8 := hidden (Hm2_7.out.below hB (Nat.le_refl _)); have Ht_8 := hidden ha; clear hB ha; dsimp only))
          | (go_at_call 9; ((with_reducible refine (splitB_calls w8x _ _ _ J P [] T pP 0 pT HY.out.2.2.1 HE0.out HY.out.2.2.2.1 HY.out.2.2.2.2.1 HY.out.2.2.2.2.2.1 (by simp) HY.out.2.2.2.2.2.2.1 Ht_8.out (by omega)).mono ?_); rintro e w9x ⟨hB, Aa, ca, Ab, cb, Ac, cc, rfl, ha, hb, hc⟩; have HB9 := hidden (below_next HB8.out hB); have Hk_9 := hidden (Hk_8.out.below hB (Nat.le_refl _)); have Hp_9 := hidden (Hp_8.out.below hB (Nat.le_refl _)); have Ho_9 := hidden (Ho_8.out.below hB (Nat.le_refl _)); have Hh_9 := hidden (Hh_8.out.below hB (Nat.le_refl _)); have Ht_9 := hidden (Ht_8.out.below hB (Nat.le_refl _)); have Ha_9 := hidden ha; have Hb_9 := hidden hb; have Hc_9 := hidden hc; clear hB ha hb hc; dsimp only))
          | (go_at_call 18; first
            | ((with_reducible refine (decodeB_back w9x _ _ _ P hd nH HY.out.2.2.2.2.2.2.2.2 HY.out.2.2.2.2.2.2.2.1 HY.out.1 Ha_9.out (by omega)).mono ?_); rintro e w10x ⟨hB, Adh, cdh, rfl, ha⟩; have HB10 := hidden (below_next HB9.out hB); have Hk_10 := hidden (Hk_9.out.below hB (Nat.le_refl _)); have Hp_10 := hidden (Hp_9.out.below hB (Nat.le_refl _)); have Ho_10 := hidden (Ho_9.out.below hB (Nat.le_refl _)); have Hh_10 := hidden (Hh_9.out.below hB (Nat.le_refl _)); have Ha_10 := hidden (Ha_9.out.below hB (Nat.le_refl _)); have Hc_10 := hidden (Hc_9.out.below hB (Nat.le_refl _)); have Hdh_10 := hidden ha; clear hB ha; dsimp only)
            | ((with_reducible refine (decodeB_back w10x _ _ _ T m1 32 HM1.out.isB HM1.out.len HY.out.2.1 Hc_10.out (by omega)).mono ?_); rintro e w11x ⟨hB, Adm, cdm, rfl, ha⟩; have HB11 := hidden (below_next HB10.out hB); have Hk_11 := hidden (Hk_10.out.below hB (Nat.le_refl _)); have Hp_11 := hidden (Hp_10.out.below hB (Nat.le_refl _)); have Ho_11 := hidden (Ho_10.out.below hB (Nat.le_refl _)); have Hh_11 := hidden (Hh_10.out.below hB (Nat.le_refl _)); have Hc_11 := hidden (Hc_10.out.below hB (Nat.le_refl _)); have Hdh_11 := hidden (Hdh_10.out.below hB (Nat.le_refl _)); have Hdm_11 := hidden ha; clear hB ha; dsimp only))
          | (go_at_call 11; first
            | ((with_reducible refine (KS1.out w15x _ _ _ _ Hdm_15.out Hm3_15.out).mono ?_); rintro e w' ⟨rfl, rfl⟩)
            | ((with_reducible refine (KS2.out w19x _ _ _ _ Hdm_19.out Hm4_19.out).mono ?_); rintro e w' ⟨rfl, rfl⟩)
            | ((with_reducible refine (KS2.out w23x _ _ _ _ Hm5_23.out Hm6_23.out).mono ?_); rintro e w' ⟨rfl, rfl⟩))
          | (go_at_call 8; first
            | ((with_reducible refine (psignB_calls w19x _ _ _ _ _ _ _ _ enc S1 p1 HX.out.1 HX.out.2.2.1 Hh_19.out (by omega) Hp_19.out (by omega)).mono ?_); rintro e w20x ⟨hB, As5, cs5, rfl, ha⟩; have HB20 := hidden (below_next HB19.out hB); have Hk_20 := hidden (Hk_19.out.below hB (Nat.le_refl _)); have Hp_20 := hidden (Hp_19.out.below hB (Nat.le_refl _)); have Ho_20 := hidden (Ho_19.out.below hB (Nat.le_refl _)); have Hh_20 := hidden (Hh_19.out.below hB (Nat.le_refl _)); have Hs5_20 := hidden ha; clear hB ha)
            | ((with_reducible refine (psignB_calls w21x _ _ _ _ _ _ _ _ enc S2 p2 HX.out.2.1 HX.out.2.2.2.1 Hh_21.out (by omega) Ho_21.out (by omega)).mono ?_); rintro e w22x ⟨hB, As6, cs6, rfl, ha⟩; have HB22 := hidden (below_next HB21.out hB); have Hk_22 := hidden (Hk_21.out.below hB (Nat.le_refl _)); have Ho_22 := hidden (Ho_21.out.below hB (Nat.le_refl _)); have Hh_22 := hidden (Hh_21.out.below hB (Nat.le_refl _)); have Hm5_22 := hidden (Hm5_21.out.below hB (Nat.le_refl _)); have Hs6_22 := hidden ha; clear hB ha))
          | (go_at_call 6; go_must (refine (partAwake_calls _).mono ?_; rintro e wZ ⟨rfl, hBZ⟩)))
        go_ret
        exact ⟨rfl, below_next HB23.out hBZ⟩)
end Go.Proofs.YtmibnnmampfalaaDoor
