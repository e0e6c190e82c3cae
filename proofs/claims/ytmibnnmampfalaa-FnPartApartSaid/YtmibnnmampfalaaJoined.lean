/- The walk of FnPartJoined. -/
import Derived.Test.YtmibnnmampfalaaB64Y
namespace Go.Proofs.Ytmibnnmampfalaa
open Go.RowKit
set_option linter.unusedVariables false
set_option linter.unusedSimpArgs false

theorem Came.arg {w : World} {a : Option Addr} {len cap : Nat} {l : List Int} (h : Came .u8 w a len cap l) : ArgB w a len cap l := ⟨h.rd, h.hlen, h.hcap, h.nil, h.isB⟩
set_option maxRecDepth 100000 in
set_option maxHeartbeats 4000000 in
theorem joined_walk (A0 : Option Addr) (n0 d0 : Nat) (z0 : List Int) (A1 : Option Addr) (n1 d1 : Nat) (z1 : List Int) (A2 : Option Addr) (n2 d2 : Nat) (z2 : List Int) (A3 : Option Addr) (n3 d3 : Nat) (z3 : List Int) (enc : Bool) (w : World) (r0 : IsRow .u8 w A0 n0 d0 z0) (y0 : n0 * 1 ≤ 140737488351232) (r1 : IsRow .u8 w A1 n1 d1 z1) (y1 : n1 * 1 ≤ 140737488351232) (r2 : IsRow .u8 w A2 n2 d2 z2) (y2 : n2 * 1 ≤ 140737488351232) (r3 : IsRow .u8 w A3 n3 d3 z3) (y3 : n3 * 1 ≤ 140737488351232) :
    Calls Try.prog 10 #[.slice A0 n0 d0, .slice A1 n1 d1, .slice A2 n2 d2, .slice A3 n3 d3, .bool enc] w fun e w' => e = .returned (.bool true) ∧ Below w.heap.size w w' := by
  have e0 := r0.came.arg
  generalize z0.take n0 = l0 at e0
  have E0 := hidden e0
  clear r0 e0 y0
  have e1 := r1.came.arg
  generalize z1.take n1 = l1 at e1
  have E1 := hidden e1
  clear r1 e1 y1
  have e2 := r2.came.arg
  generalize z2.take n2 = l2 at e2
  have E2 := hidden e2
  clear r2 e2 y2
  have e3 := r3.came.arg
  generalize z3.take n3 = l3 at e3
  have E3 := hidden e3
  clear r3 e3 y3
  by_cases hb0 : n0 ≤ 2147483647
  case neg =>
    have hi0 : (2147483647 : Int) < (n0 : Int) := by omega
    go_enter Try.func10, Try.ntmps10
    go_wp2
    go_ret
    exact ⟨rfl, Below.refl _ _⟩
  by_cases hb1 : n1 ≤ 2147483647
  case neg =>
    have hi1 : (2147483647 : Int) < (n1 : Int) := by omega
    have hi0 : ¬ (2147483647 : Int) < (n0 : Int) := by omega
    go_enter Try.func10, Try.ntmps10
    go_wp2
    go_ret
    exact ⟨rfl, Below.refl _ _⟩
  by_cases hb2 : n2 ≤ 2147483647
  case neg =>
    have hi2 : (2147483647 : Int) < (n2 : Int) := by omega
    have hi0 : ¬ (2147483647 : Int) < (n0 : Int) := by omega
    have hi1 : ¬ (2147483647 : Int) < (n1 : Int) := by omega
    go_enter Try.func10, Try.ntmps10
    go_wp2
    go_ret
    exact ⟨rfl, Below.refl _ _⟩
  by_cases hb3 : n3 ≤ 2147483647
  case neg =>
    have hi3 : (2147483647 : Int) < (n3 : Int) := by omega
    have hi0 : ¬ (2147483647 : Int) < (n0 : Int) := by omega
    have hi1 : ¬ (2147483647 : Int) < (n1 : Int) := by omega
    have hi2 : ¬ (2147483647 : Int) < (n2 : Int) := by omega
    go_enter Try.func10, Try.ntmps10
    go_wp2
    go_ret
    exact ⟨rfl, Below.refl _ _⟩
  have hi0 : ¬ (2147483647 : Int) < (n0 : Int) := by omega
  have hi1 : ¬ (2147483647 : Int) < (n1 : Int) := by omega
  have hi2 : ¬ (2147483647 : Int) < (n2 : Int) := by omega
  have hi3 : ¬ (2147483647 : Int) < (n3 : Int) := by omega
  obtain ⟨r, hr⟩ : ∃ r : Bool, r = true ↔ ∀ x ∈ [(A0, n0, d0), (A1, n1, d1), (A2, n2, d2), (A3, n3, d3)], x.2.1 ≤ 2000 := ⟨decide (∀ x ∈ [(A0, n0, d0), (A1, n1, d1), (A2, n2, d2), (A3, n3, d3)], x.2.1 ≤ 2000), by simp⟩
  have Hr := hidden hr
  clear hr
  cases r with
  | false =>
    go_enter Try.func10, Try.ntmps10
    go_wp2_with (first
      | (go_at_call 13; go_must (refine (partShort_calls _ 4 4 [(A0, n0, d0), (A1, n1, d1), (A2, n2, d2), (A3, n3, d3)] _ (Rd.new w _ (slvs [(A0, n0, d0), (A1, n1, d1), (A2, n2, d2), (A3, n3, d3)]) _ rfl) rfl (by omega) false Hr.out).mono ?_; rintro e w1 ⟨rfl, rfl⟩))
      | (go_at_call 14; go_must (refine (partAwake_calls _).mono ?_; rintro e w2 ⟨rfl, hB2⟩)))
    go_ret
    exact ⟨rfl, below_next (below_alloc0 _ _) hB2⟩
  | true =>
    obtain ⟨s0, s1, s2, s3⟩ : n0 ≤ 2000 ∧ n1 ≤ 2000 ∧ n2 ≤ 2000 ∧ n3 ≤ 2000 := by have := Hr.out.1 rfl; simpa using this
    obtain ⟨J, hJ⟩ : ∃ J, J = joinF enc l1 l2 l3 := ⟨_, rfl⟩
    obtain ⟨S, hS⟩ : ∃ S, S = signF enc l1 l2 := ⟨_, rfl⟩
    obtain ⟨nJ, hnJ⟩ : ∃ nJ, J.length = nJ := ⟨_, rfl⟩
    obtain ⟨nS, hnS⟩ : ∃ nS, S.length = nS := ⟨_, rfl⟩
    have IJ : Hid (IsB J ∧ J.length = nJ) := hidden ⟨by rw [hJ]; exact joinF_isB E1.out.isB E2.out.isB E3.out.isB, hnJ⟩
    have IS : Hid (IsB S ∧ S.length = nS) := hidden ⟨by rw [hS]; exact signF_isB E1.out.isB E2.out.isB, hnS⟩
    have hSb : nS ≤ 100000 := by have := signF_len (enc := enc) (Nat.le_of_eq E1.out.len) (Nat.le_of_eq E2.out.len); rw [← hS, hnS] at this; omega
    have hJb : nJ ≤ 100000 := by have := joinF_len (enc := enc) (Nat.le_of_eq E1.out.len) (Nat.le_of_eq E2.out.len) (Nat.le_of_eq E3.out.len); rw [← hJ, hnJ] at this; omega
    have HJS : Hid (S ++ [46] ++ encF (alpha true) l3 = J) := hidden (by rw [hJ, hS]; rfl)
    have HDD : Hid (decide (J = J) = true) := hidden (by simp)
    have I0 : Hid (IsB l0 ∧ l0.length = n0) := hidden ⟨E0.out.isB, E0.out.len⟩
    have Q0 : Hid (∀ W, Below w.heap.size w W → Calls Try.prog 16 #[.slice A0 n0 d0] W (NewB W l0)) := hidden (fun W hB => partOwn_calls A0 n0 d0 l0 W (E0.out.rd.below hB (Nat.le_refl _)) E0.out.len (by omega))
    have I1 : Hid (IsB l1 ∧ l1.length = n1) := hidden ⟨E1.out.isB, E1.out.len⟩
    have Q1 : Hid (∀ W, Below w.heap.size w W → Calls Try.prog 16 #[.slice A1 n1 d1] W (NewB W l1)) := hidden (fun W hB => partOwn_calls A1 n1 d1 l1 W (E1.out.rd.below hB (Nat.le_refl _)) E1.out.len (by omega))
    have I2 : Hid (IsB l2 ∧ l2.length = n2) := hidden ⟨E2.out.isB, E2.out.len⟩
    have Q2 : Hid (∀ W, Below w.heap.size w W → Calls Try.prog 16 #[.slice A2 n2 d2] W (NewB W l2)) := hidden (fun W hB => partOwn_calls A2 n2 d2 l2 W (E2.out.rd.below hB (Nat.le_refl _)) E2.out.len (by omega))
    have I3 : Hid (IsB l3 ∧ l3.length = n3) := hidden ⟨E3.out.isB, E3.out.len⟩
    have Q3 : Hid (∀ W, Below w.heap.size w W → Calls Try.prog 16 #[.slice A3 n3 d3] W (NewB W l3)) := hidden (fun W hB => partOwn_calls A3 n3 d3 l3 W (E3.out.rd.below hB (Nat.le_refl _)) E3.out.len (by omega))
    have QJ : Hid (∀ W, Below w.heap.size w W → Calls Try.prog 28 #[.slice A1 n1 d1, .slice A2 n2 d2, .slice A3 n3 d3, .bool enc] W fun e w' => ∃ v, e = .returned v ∧ OB W w' v J) := hidden (fun W hB => by rw [hJ]; exact partJoined_calls W A1 n1 d1 l1 A2 n2 d2 l2 A3 n3 d3 l3 enc (E1.out.below hB (Nat.le_refl _)) (by omega) (E2.out.below hB (Nat.le_refl _)) (by omega) (E3.out.below hB (Nat.le_refl _)) (by omega))
    have QG : Hid (∀ W B0 f0 B1 f1 B2 f2 B3 f3, ArgB W B0 n0 f0 l0 → ArgB W B1 n1 f1 l1 → ArgB W B2 n2 f2 l2 → ArgB W B3 n3 f3 l3 → Calls Try.prog 27 #[.slice B0 n0 f0, .slice B1 n1 f1, .slice B2 n2 f2, .slice B3 n3 f3, .bool enc] W fun e w' => ∃ v, e = .returned (.tuple #[v, .bool true]) ∧ Own w' W.heap.size 5 v (nums .u8 J) ∧ Below W.heap.size W w') := hidden (fun W B0 f0 B1 f1 B2 f2 B3 f3 a0 a1 a2 a3 => by rw [hJ]; exact joined_calls W B0 n0 f0 l0 B1 n1 f1 l1 B2 n2 f2 l2 B3 n3 f3 l3 enc a0 (by omega) a1 (by omega) a2 (by omega) a3 (by omega))
    have QS : Hid (∀ W B1 f1 B2 f2, ArgB W B1 n1 f1 l1 → ArgB W B2 n2 f2 l2 → Calls Try.prog 24 #[.slice none 0 0, .slice B1 n1 f1, .slice B2 n2 f2, .bool enc] W (NewB W S)) := hidden (fun W B1 f1 B2 f2 a1 a2 => by rw [hS]; exact signing_calls W none 0 0 [] B1 n1 f1 l1 B2 n2 f2 l2 enc (ArgB.nilB W) (by omega) a1 (by omega) a2 (by omega))
    have QW : Hid (∀ W B1 f1 B2 f2, ArgB W B1 nS f1 S → ArgB W B2 n3 f2 l3 → Calls Try.prog 29 #[.slice B1 nS f1, .slice B2 n3 f2] W (NewB W J)) := hidden (fun W B1 f1 B2 f2 a1 a2 => by rw [← HJS.out]; exact withSig_calls W B1 nS f1 S B2 n3 f2 l3 a1 hSb a2 (by omega))
    have QP : Hid (∀ W B1 f1 B2 f2, ArgB W B1 nJ f1 J → ArgB W B2 nJ f2 J → Calls Try.prog 18 #[.slice B1 nJ f1, .slice B2 nJ f2] W fun e w' => e = .returned (.bool true) ∧ W = w') := hidden (fun W B1 f1 B2 f2 a1 a2 => by have := partSame_calls B1 B2 nJ f1 nJ f2 J J W a1.rd a1.len a2.rd a2.len a1.isB a2.isB; rw [HDD.out] at this; exact this)
    clear hJ hS hnJ hnS
    go_enter Try.func10, Try.ntmps10
    go_wp2_with (first
      | (go_at_call 13; go_must (refine (partShort_calls _ 4 4 [(A0, n0, d0), (A1, n1, d1), (A2, n2, d2), (A3, n3, d3)] _ (Rd.new w _ (slvs [(A0, n0, d0), (A1, n1, d1), (A2, n2, d2), (A3, n3, d3)]) _ rfl) rfl (by omega) true Hr.out).mono ?_; rintro e w1 ⟨rfl, rfl⟩))
      | (go_at_call 16; first
        | ((with_reducible refine (Q0.out _ (below_alloc0 w _)).mono ?_); rintro e w1x ⟨v1x, rfl, hO, hB⟩; have HB1 := hidden (below_next (below_alloc0 w _) hB); obtain ⟨Ao0, co0, hv, ha⟩ := own_arg hO I0.out.1; rw [I0.out.2] at hv ha; subst hv; have Ho0_1 := hidden ha; clear hO hB ha)
        | ((with_reducible refine (Q1.out w1x HB1.out).mono ?_); rintro e w2x ⟨v2x, rfl, hO, hB⟩; have HB2 := hidden (below_next HB1.out hB); have Ho0_2 := hidden (Ho0_1.out.below hB (Nat.le_refl _)); obtain ⟨Ao1, co1, hv, ha⟩ := own_arg hO I1.out.1; rw [I1.out.2] at hv ha; subst hv; have Ho1_2 := hidden ha; clear hO hB ha)
        | ((with_reducible refine (Q2.out w2x HB2.out).mono ?_); rintro e w3x ⟨v3x, rfl, hO, hB⟩; have HB3 := hidden (below_next HB2.out hB); have Ho0_3 := hidden (Ho0_2.out.below hB (Nat.le_refl _)); have Ho1_3 := hidden (Ho1_2.out.below hB (Nat.le_refl _)); obtain ⟨Ao2, co2, hv, ha⟩ := own_arg hO I2.out.1; rw [I2.out.2] at hv ha; subst hv; have Ho2_3 := hidden ha; clear hO hB ha)
        | ((with_reducible refine (Q3.out w3x HB3.out).mono ?_); rintro e w4x ⟨v4x, rfl, hO, hB⟩; have HB4 := hidden (below_next HB3.out hB); have Ho0_4 := hidden (Ho0_3.out.below hB (Nat.le_refl _)); have Ho1_4 := hidden (Ho1_3.out.below hB (Nat.le_refl _)); have Ho2_4 := hidden (Ho2_3.out.below hB (Nat.le_refl _)); obtain ⟨Ao3, co3, hv, ha⟩ := own_arg hO I3.out.1; rw [I3.out.2] at hv ha; subst hv; have Ho3_4 := hidden ha; clear hO hB ha)
        | ((with_reducible refine (Q1.out w6x HB6.out).mono ?_); rintro e w7x ⟨v7x, rfl, hO, hB⟩; have HB7 := hidden (below_next HB6.out hB); have Hgot_7 := hidden (Hgot_6.out.below hB (Nat.le_refl _)); have Hwant_7 := hidden (Hwant_6.out.below hB (Nat.le_refl _)); obtain ⟨Ap1, cp1, hv, ha⟩ := own_arg hO I1.out.1; rw [I1.out.2] at hv ha; subst hv; have Hp1_7 := hidden ha; clear hO hB ha)
        | ((with_reducible refine (Q2.out w7x HB7.out).mono ?_); rintro e w8x ⟨v8x, rfl, hO, hB⟩; have HB8 := hidden (below_next HB7.out hB); have Hgot_8 := hidden (Hgot_7.out.below hB (Nat.le_refl _)); have Hwant_8 := hidden (Hwant_7.out.below hB (Nat.le_refl _)); have Hp1_8 := hidden (Hp1_7.out.below hB (Nat.le_refl _)); obtain ⟨Ap2, cp2, hv, ha⟩ := own_arg hO I2.out.1; rw [I2.out.2] at hv ha; subst hv; have Hp2_8 := hidden ha; clear hO hB ha)
        | ((with_reducible refine (Q3.out w9x HB9.out).mono ?_); rintro e w10x ⟨v10x, rfl, hO, hB⟩; have HB10 := hidden (below_next HB9.out hB); have Hgot_10 := hidden (Hgot_9.out.below hB (Nat.le_refl _)); have Hwant_10 := hidden (Hwant_9.out.below hB (Nat.le_refl _)); have Hsgn_10 := hidden (Hsgn_9.out.below hB (Nat.le_refl _)); obtain ⟨Ap3, cp3, hv, ha⟩ := own_arg hO I3.out.1; rw [I3.out.2] at hv ha; subst hv; have Hp3_10 := hidden ha; clear hO hB ha))
      | (go_at_call 27; ((with_reducible refine (QG.out w4x _ _ _ _ _ _ _ _ Ho0_4.out Ho1_4.out Ho2_4.out Ho3_4.out).mono ?_); rintro e w5x ⟨v5x, rfl, hO, hB⟩; have HB5 := hidden (below_next HB4.out hB); have Ho0_5 := hidden (Ho0_4.out.below hB (Nat.le_refl _)); have Ho1_5 := hidden (Ho1_4.out.below hB (Nat.le_refl _)); have Ho2_5 := hidden (Ho2_4.out.below hB (Nat.le_refl _)); have Ho3_5 := hidden (Ho3_4.out.below hB (Nat.le_refl _)); obtain ⟨Agot, cgot, hv, ha⟩ := own_arg hO IJ.out.1; rw [IJ.out.2] at hv ha; subst hv; have Hgot_5 := hidden ha; clear hO hB ha; dsimp only))
      | (go_at_call 28; ((with_reducible refine (QJ.out w5x HB5.out).mono ?_); rintro e w6x ⟨v6x, rfl, hO, hB⟩; have HB6 := hidden (below_next HB5.out hB); have Hgot_6 := hidden (Hgot_5.out.below hB (Nat.le_refl _)); obtain ⟨Awant, cwant, hv, ha⟩ := own_arg hO IJ.out.1; rw [IJ.out.2] at hv ha; subst hv; have Hwant_6 := hidden ha; clear hO hB ha))
      | (go_at_call 24; ((with_reducible refine (QS.out w8x _ _ _ _ Hp1_8.out Hp2_8.out).mono ?_); rintro e w9x ⟨v9x, rfl, hO, hB⟩; have HB9 := hidden (below_next HB8.out hB); have Hgot_9 := hidden (Hgot_8.out.below hB (Nat.le_refl _)); have Hwant_9 := hidden (Hwant_8.out.below hB (Nat.le_refl _)); have Hp1_9 := hidden (Hp1_8.out.below hB (Nat.le_refl _)); have Hp2_9 := hidden (Hp2_8.out.below hB (Nat.le_refl _)); obtain ⟨Asgn, csgn, hv, ha⟩ := own_arg hO IS.out.1; rw [IS.out.2] at hv ha; subst hv; have Hsgn_9 := hidden ha; clear hO hB ha))
      | (go_at_call 29; ((with_reducible refine (QW.out w10x _ _ _ _ Hsgn_10.out Hp3_10.out).mono ?_); rintro e w11x ⟨v11x, rfl, hO, hB⟩; have HB11 := hidden (below_next HB10.out hB); have Hgot_11 := hidden (Hgot_10.out.below hB (Nat.le_refl _)); have Hwant_11 := hidden (Hwant_10.out.below hB (Nat.le_refl _)); have Hsgn_11 := hidden (Hsgn_10.out.below hB (Nat.le_refl _)); have Hp3_11 := hidden (Hp3_10.out.below hB (Nat.le_refl _)); obtain ⟨Aby, cby, hv, ha⟩ := own_arg hO IJ.out.1; rw [IJ.out.2] at hv ha; subst hv; have Hby_11 := hidden ha; clear hO hB ha))
      | (go_at_call 18; first
        | ((with_reducible refine (QP.out _ _ _ _ _ Hgot_11.out Hwant_11.out).mono ?_); rintro e wPgot ⟨rfl, rfl⟩)
        | ((with_reducible refine (QP.out _ _ _ _ _ Hby_11.out Hwant_11.out).mono ?_); rintro e wPby ⟨rfl, rfl⟩))
      | (go_at_call 14; go_must (refine (partAwake_calls _).mono ?_; rintro e wZ ⟨rfl, hBZ⟩)))
    go_ret
    exact ⟨rfl, below_next HB11.out hBZ⟩
end Go.Proofs.Ytmibnnmampfalaa
