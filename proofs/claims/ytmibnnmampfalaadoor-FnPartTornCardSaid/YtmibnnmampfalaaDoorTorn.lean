/- The walk of FnPartTorn. -/
import Derived.Test.YtmibnnmampfalaaDoorSplit2
namespace Go.Proofs.YtmibnnmampfalaaDoor
open Go.RowKit
set_option linter.unusedVariables false
set_option linter.unusedSimpArgs false

theorem torn_no {P Q S : List Int} (hP : (46 : Int) ∉ P) (hQ : (46 : Int) ∉ Q) {k : Nat} (hk : k ≤ P.length + 1 + Q.length) :
    (46 : Int) ∉ (P ++ 46 :: (Q ++ 46 :: S)).take k ∨ ∃ p t, (P ++ 46 :: (Q ++ 46 :: S)).take k = p ++ 46 :: t ∧ (46 : Int) ∉ p ∧ (46 : Int) ∉ t := by
  by_cases h : k ≤ P.length
  · left
    rw [List.take_append_of_le_length h]
    exact fun hm => hP (List.mem_of_mem_take hm)
  · right
    obtain ⟨j, rfl⟩ : ∃ j, k = P.length + (j + 1) := ⟨k - P.length - 1, by omega⟩
    refine ⟨P, Q.take j, ?_, hP, fun hm => hQ (List.mem_of_mem_take hm)⟩
    rw [List.take_length_add_append, List.take_succ_cons, List.take_append_of_le_length (by omega)]
theorem torn_yes {P Q S : List Int} {k : Nat} (hk : P.length + 1 + Q.length < k) : (P ++ 46 :: (Q ++ 46 :: S)).take k = P ++ 46 :: (Q ++ 46 :: S.take (k - (P.length + 1 + Q.length + 1))) := by
  obtain ⟨j, rfl⟩ : ∃ j, k = P.length + ((Q.length + (j + 1)) + 1) := ⟨k - P.length - 2 - Q.length, by omega⟩
  rw [List.take_length_add_append, List.take_succ_cons, List.take_length_add_append, List.take_succ_cons]
  congr 5
  omega
set_option maxRecDepth 100000 in
set_option maxHeartbeats 4000000 in
theorem torn_walk (A0 : Option Addr) (n0 d0 : Nat) (z0 : List Int) (A1 : Option Addr) (n1 d1 : Nat) (z1 : List Int) (A2 : Option Addr) (n2 d2 : Nat) (z2 : List Int) (at0 : Int) (w : World) (r0 : IsRow .u8 w A0 n0 d0 z0) (y0 : n0 * 1 ≤ 140737488351232) (r1 : IsRow .u8 w A1 n1 d1 z1) (y1 : n1 * 1 ≤ 140737488351232) (r2 : IsRow .u8 w A2 n2 d2 z2) (y2 : n2 * 1 ≤ 140737488351232) (wat : (Lit.int .u16 at0).wf = true) (ae : Addr) (hE : ErrAt w ae) :
    Calls Tryd.prog 3 #[.slice A0 n0 d0, .slice A1 n1 d1, .slice A2 n2 d2, .int .u16 at0] w fun e w' => e = .returned (.bool true) ∧ Below w.heap.size w w' := by
  obtain ⟨V, rfl, hV⟩ : ∃ V : Nat, at0 = (V : Int) ∧ V < 65536 := by
    simp [Lit.wf, IntKind.min, IntKind.max, IntKind.bits, IntKind.signed] at wat
    exact ⟨at0.toNat, by omega, by omega⟩
  clear wat
  have e0 := r0.came.arg
  generalize z0.take n0 = l0 at e0
  have E0 := hidden e0
  clear r0 e0 y0
  have e1 := r1.came.arg
  generalize z1.take n1 = l1 at e1
  have E1 := hidden e1
  clear r1 e1 y1
  have e2 := r2.came.arg
  generalize z2.take n2 = l2 at e2
  have E2 := hidden e2
  clear r2 e2 y2
  have HE := hidden hE
  clear hE
  by_cases hb0 : n0 ≤ 2147483647
  case neg =>
    have hi0 : (2147483647 : Int) < (n0 : Int) := by omega
    go_enter Tryd.func3, Tryd.ntmps3
    go_wp2
    go_ret
    exact ⟨rfl, Below.refl _ _⟩
  by_cases hb1 : n1 ≤ 2147483647
  case neg =>
    have hi1 : (2147483647 : Int) < (n1 : Int) := by omega
    have hi0 : ¬ (2147483647 : Int) < (n0 : Int) := by omega
    go_enter Tryd.func3, Tryd.ntmps3
    go_wp2
    go_ret
    exact ⟨rfl, Below.refl _ _⟩
  by_cases hb2 : n2 ≤ 2147483647
  case neg =>
    have hi2 : (2147483647 : Int) < (n2 : Int) := by omega
    have hi0 : ¬ (2147483647 : Int) < (n0 : Int) := by omega
    have hi1 : ¬ (2147483647 : Int) < (n1 : Int) := by omega
    go_enter Tryd.func3, Tryd.ntmps3
    go_wp2
    go_ret
    exact ⟨rfl, Below.refl _ _⟩
  have hi0 : ¬ (2147483647 : Int) < (n0 : Int) := by omega
  have hi1 : ¬ (2147483647 : Int) < (n1 : Int) := by omega
  have hi2 : ¬ (2147483647 : Int) < (n2 : Int) := by omega
  obtain ⟨r, hr⟩ : ∃ r : Bool, r = true ↔ ∀ x ∈ [(A0, n0, d0), (A1, n1, d1), (A2, n2, d2)], x.2.1 ≤ 2000 := ⟨decide (∀ x ∈ [(A0, n0, d0), (A1, n1, d1), (A2, n2, d2)], x.2.1 ≤ 2000), by simp⟩
  have Hr := hidden hr
  clear hr
  cases r with
  | false =>
    go_enter Tryd.func3, Tryd.ntmps3
    go_wp2_with (first
      | (go_at_call 5; go_must (refine (partShort_calls _ 3 3 [(A0, n0, d0), (A1, n1, d1), (A2, n2, d2)] _ (Rd.new w _ (slvs [(A0, n0, d0), (A1, n1, d1), (A2, n2, d2)]) _ rfl) rfl (by omega) false Hr.out).mono ?_; rintro e w1 ⟨rfl, rfl⟩))
      | (go_at_call 6; go_must (refine (partAwake_calls _).mono ?_; rintro e w2 ⟨rfl, hB2⟩)))
    go_ret
    exact ⟨rfl, below_next (below_alloc0 _ _) hB2⟩
  | true =>
    obtain ⟨s0, s1, s2⟩ : n0 ≤ 2000 ∧ n1 ≤ 2000 ∧ n2 ≤ 2000 := by have := Hr.out.1 rfl; simpa using this
    obtain ⟨P, hP⟩ : ∃ P, P = encF (alpha true) l0 := ⟨_, rfl⟩
    obtain ⟨Q, hQ⟩ : ∃ Q, Q = encF (alpha true) l1 := ⟨_, rfl⟩
    obtain ⟨S, hS⟩ : ∃ S, S = encF (alpha true) l2 := ⟨_, rfl⟩
    have nP : (46 : Int) ∉ P := by rw [hP]; exact encF_no46 E0.out.isB
    have nQ : (46 : Int) ∉ Q := by rw [hQ]; exact encF_no46 E1.out.isB
    have nS : (46 : Int) ∉ S := by rw [hS]; exact encF_no46 E2.out.isB
    have bP : IsB P := by rw [hP]; exact encF_isB true E0.out.isB
    have bQ : IsB Q := by rw [hQ]; exact encF_isB true E1.out.isB
    have bS : IsB S := by rw [hS]; exact encF_isB true E2.out.isB
    have eJ : joinF true l0 l1 l2 = P ++ 46 :: (Q ++ 46 :: S) := by rw [hP, hQ, hS]; simp [joinF, signF, tailF]
    have eG : signF true l0 l1 = P ++ 46 :: Q := by rw [hP, hQ]; simp [signF, tailF]
    obtain ⟨J, hJ⟩ : ∃ J, J = P ++ 46 :: (Q ++ 46 :: S) := ⟨_, rfl⟩
    obtain ⟨nJ, hnJ⟩ : ∃ nJ, J.length = nJ := ⟨_, rfl⟩
    have hJb : nJ ≤ 100000 := by have := joinF_len (enc := true) (Nat.le_of_eq E0.out.len) (Nat.le_of_eq E1.out.len) (Nat.le_of_eq E2.out.len); rw [eJ, ← hJ, hnJ] at this; omega
    obtain ⟨g, hg⟩ : ∃ g, g = P.length + 1 + Q.length := ⟨_, rfl⟩
    have hgJ : g < nJ := by rw [← hnJ, hJ, hg]; simp; omega
    obtain ⟨k, hk⟩ : ∃ k, k = V % (nJ + 1) := ⟨_, rfl⟩
    have hkJ : k ≤ nJ := by have := Nat.mod_lt V (show 0 < nJ + 1 by omega); omega
    have hmod : (V : Int) % ((nJ : Int) + 1) = (k : Int) := by rw [hk]; simp
    have bJ : IsB J := by rw [hJ]; exact isB_app bP (fun x hx => (List.mem_cons.1 hx).elim (fun e => by omega) (isB_app bQ (fun x hx => (List.mem_cons.1 hx).elim (fun e => by omega) (bS x)) x))
    obtain ⟨T, hT⟩ : ∃ T, T = J.take k := ⟨_, rfl⟩
    have lT : T.length = k := by rw [hT, List.length_take]; omega
    have bT : IsB T := by rw [hT]; exact fun x hx => bJ x (List.mem_of_mem_take hx)
    have KJ : Hid (∀ W, Below w.heap.size w W → Calls Tryd.prog 7 #[.slice A0 n0 d0, .slice A1 n1 d1, .slice A2 n2 d2, .bool true] W fun e w' => ∃ AJ cJ, e = .returned (.slice AJ nJ cJ) ∧ ArgB w' AJ nJ cJ J ∧ Below W.heap.size W w') := hidden (fun W hB => (partJoined_calls W A0 n0 d0 l0 A1 n1 d1 l1 A2 n2 d2 l2 true (E0.out.below hB (Nat.le_refl _)) (by omega) (E1.out.below hB (Nat.le_refl _)) (by omega) (E2.out.below hB (Nat.le_refl _)) (by omega)).mono fun e w' ⟨v, he, hO⟩ => by
      rw [eJ, ← hJ] at hO
      obtain ⟨A, c, rfl, ha⟩ := own_arg hO.own bJ
      rw [hnJ] at ha he
      exact ⟨A, c, he, ha, hO.below⟩)
    have KG : Hid (∀ W, Below w.heap.size w W → Calls Tryd.prog 8 #[.slice A0 n0 d0, .slice A1 n1 d1, .bool true] W fun e w' => ∃ AG cG, e = .returned (.slice AG g cG) ∧ Below W.heap.size W w') := hidden (fun W hB => (partSigning_calls W A0 n0 d0 l0 A1 n1 d1 l1 true (E0.out.below hB (Nat.le_refl _)) (by omega) (E1.out.below hB (Nat.le_refl _)) (by omega)).mono fun e w' ⟨v, he, hO⟩ => by
      rw [eG] at hO
      obtain ⟨A, c, rfl, ha⟩ := own_arg hO.own (isB_app bP (fun x hx => (List.mem_cons.1 hx).elim (fun e => by omega) (bQ x)))
      have : (P ++ 46 :: Q).length = g := by rw [hg]; simp; omega
      rw [this] at he
      exact ⟨A, c, he, hO.below⟩)
    have hupto : ∀ (AJ : Option Addr) (cJ : Nat), nJ ≤ cJ → ∀ W : World, (Instr.slice 22 (.slice AJ nJ cJ) none (some (.int .i64 (k : Int))) none).run Tryd.prog W = .ok (.slice AJ k cJ) W := fun AJ cJ hc W => run_upto Tryd.underlying22 (by kernel_rfl) AJ nJ cJ (k : Int) k rfl (by omega)
    have KO : Hid (∀ W AJ cJ, ArgB W AJ nJ cJ J → Calls Tryd.prog 10 #[.slice AJ k cJ] W (NewB W T)) := hidden (fun W AJ cJ ha => partOwn_calls AJ k cJ T W (by have := ha.rd.take k; rw [nums, ← List.map_take, ← hT] at this; exact this) lT (by omega))
    have HU := hidden hupto
    have HTB := hidden bT
    have HTl := hidden lT
    by_cases hkg : k ≤ g
    · have hkgi : (k : Int) ≤ (g : Int) := by omega
      have KS : Hid (∀ W A c, ErrAt W ae → ArgB W A k c T → Calls Tryd.prog 9 #[.slice A k c] W (Parts0 W (.bool false))) := hidden (fun W A c he ha => split_no A k c T W ae he ha (by rw [hT, hJ]; exact torn_no nP nQ (by rw [← hg]; exact hkg)) (by omega))
      clear hP hQ hS nP nQ nS bP bQ bS eJ eG hJ hnJ hg hk bJ hT lT bT hupto
      go_enter Tryd.func3, Tryd.ntmps3
      go_wp2_with (first
        | (go_at_call 5; go_must (refine (partShort_calls _ 3 3 [(A0, n0, d0), (A1, n1, d1), (A2, n2, d2)] _ (Rd.new w _ (slvs [(A0, n0, d0), (A1, n1, d1), (A2, n2, d2)]) _ rfl) rfl (by omega) true Hr.out).mono ?_; rintro e w1 ⟨rfl, rfl⟩))
        | (go_at_call 7; go_must (refine (KJ.out _ (below_alloc0 w _)).mono ?_; rintro e w2 ⟨AJ, cJ, rfl, ha, hB⟩; have HJ2 := hidden ha; have HB2 := hidden (below_next (below_alloc0 w _) hB); clear ha hB))
        | (go_at_call 8; go_must (refine (KG.out w2 HB2.out).mono ?_; rintro e w3 ⟨AG, cG, rfl, hB⟩; have HJ3 := hidden (HJ2.out.below hB (Nat.le_refl _)); have HB3 := hidden (below_next HB2.out hB); have hs3 := HU.out AJ cJ HJ3.out.cap; clear hB))
        | (go_at_call 10; go_must (refine (KO.out w3 AJ cJ HJ3.out).mono ?_; rintro e w4 ⟨v4, rfl, hO, hB⟩; have HB4 := hidden (below_next HB3.out hB); obtain ⟨A4, c4, rfl, ha⟩ := own_arg hO HTB.out; rw [HTl.out] at ha; rw [HTl.out]; have HA4 := hidden ha; clear hO hB ha))
        | (go_at_call 9; go_must (refine (KS.out w4 A4 c4 (HE.out.below HB4.out) HA4.out).mono ?_; rintro e w5 ⟨rfl, hB⟩; have HB5 := hidden (below_next HB4.out hB); clear hB; dsimp only))
        | (go_at_call 6; go_must (refine (partAwake_calls _).mono ?_; rintro e w6 ⟨rfl, hB6⟩)))
      go_ret
      exact ⟨rfl, below_next HB5.out hB6⟩
    · have hkgi : ¬ (k : Int) ≤ (g : Int) := by omega
      obtain ⟨S', hS'⟩ : ∃ S', S' = S.take (k - (P.length + 1 + Q.length + 1)) := ⟨_, rfl⟩
      have nS' : (46 : Int) ∉ S' := by rw [hS']; exact fun hm => nS (List.mem_of_mem_take hm)
      have eT : T = P ++ 46 :: (Q ++ 46 :: S') := by rw [hT, hJ, hS']; exact torn_yes (by rw [← hg]; omega)
      obtain ⟨lP, hlP⟩ : ∃ n, P.length = n := ⟨_, rfl⟩
      obtain ⟨lQ, hlQ⟩ : ∃ n, Q.length = n := ⟨_, rfl⟩
      have hDP : decide (P = P) = true := by simp
      have hDQ : decide (Q = Q) = true := by simp
      have KS : Hid (∀ W A c, ArgB W A k c T → Calls Tryd.prog 9 #[.slice A k c] W fun e w' => ∃ X x Y y z, e = .returned (.tuple #[.slice X lP x, .slice Y lQ y, z, .bool true]) ∧ ArgB w' X lP x P ∧ ArgB w' Y lQ y Q ∧ Below W.heap.size W w') := hidden (fun W A c ha => by
        rw [eT] at ha
        refine (split_yes A k c P Q S' W ha nP nQ nS' (by omega)).mono ?_
        rintro e w' ⟨X, x, Y, y, Z, z, rfl, hx, hy, _, hB⟩
        rw [hlP] at hx ⊢
        rw [hlQ] at hy ⊢
        exact ⟨X, x, Y, y, _, rfl, hx, hy, hB⟩)
      have KP : Hid (∀ W, Below w.heap.size w W → Calls Tryd.prog 12 #[.slice A0 n0 d0] W fun e w' => ∃ B b, e = .returned (.slice B lP b) ∧ ArgB w' B lP b P ∧ Below W.heap.size W w') := hidden (fun W hB => by
        have hx := E0.out.below hB (Nat.le_refl _)
        refine (partOf_calls A0 n0 d0 l0 W hx.rd hx.len hx.isB hx.cap (by omega)).mono ?_
        rintro e w' ⟨v, rfl, hO, hB2⟩
        rw [← hP] at hO
        obtain ⟨B, b, rfl, ha⟩ := own_arg hO bP
        rw [hlP] at ha ⊢
        exact ⟨B, b, rfl, ha, hB2⟩)
      have KQ : Hid (∀ W, Below w.heap.size w W → Calls Tryd.prog 12 #[.slice A1 n1 d1] W fun e w' => ∃ B b, e = .returned (.slice B lQ b) ∧ ArgB w' B lQ b Q ∧ Below W.heap.size W w') := hidden (fun W hB => by
        have hx := E1.out.below hB (Nat.le_refl _)
        refine (partOf_calls A1 n1 d1 l1 W hx.rd hx.len hx.isB hx.cap (by omega)).mono ?_
        rintro e w' ⟨v, rfl, hO, hB2⟩
        rw [← hQ] at hO
        obtain ⟨B, b, rfl, ha⟩ := own_arg hO bQ
        rw [hlQ] at ha ⊢
        exact ⟨B, b, rfl, ha, hB2⟩)
      have KEP : Hid (∀ W X x Y y, ArgB W X lP x P → ArgB W Y lP y P → Calls Tryd.prog 11 #[.slice X lP x, .slice Y lP y] W fun e w' => e = .returned (.bool true) ∧ W = w') := hidden (fun W X x Y y a b => by have := partSame_calls X Y lP x lP y P P W a.rd a.len b.rd b.len a.isB b.isB; rw [hDP] at this; exact this)
      have KEQ : Hid (∀ W X x Y y, ArgB W X lQ x Q → ArgB W Y lQ y Q → Calls Tryd.prog 11 #[.slice X lQ x, .slice Y lQ y] W fun e w' => e = .returned (.bool true) ∧ W = w') := hidden (fun W X x Y y a b => by have := partSame_calls X Y lQ x lQ y Q Q W a.rd a.len b.rd b.len a.isB b.isB; rw [hDQ] at this; exact this)
      clear hDP hDQ hlP hlQ eT hS' nS'
      clear hP hQ hS nP nQ nS bP bQ bS eJ eG hJ hnJ hg hk bJ hT lT bT hupto
      go_enter Tryd.func3, Tryd.ntmps3
      go_wp2_with (first
        | (go_at_call 5; go_must (refine (partShort_calls _ 3 3 [(A0, n0, d0), (A1, n1, d1), (A2, n2, d2)] _ (Rd.new w _ (slvs [(A0, n0, d0), (A1, n1, d1), (A2, n2, d2)]) _ rfl) rfl (by omega) true Hr.out).mono ?_; rintro e w1 ⟨rfl, rfl⟩))
        | (go_at_call 7; go_must (refine (KJ.out _ (below_alloc0 w _)).mono ?_; rintro e w2 ⟨AJ, cJ, rfl, ha, hB⟩; have HJ2 := hidden ha; have HB2 := hidden (below_next (below_alloc0 w _) hB); clear ha hB))
        | (go_at_call 8; go_must (refine (KG.out w2 HB2.out).mono ?_; rintro e w3 ⟨AG, cG, rfl, hB⟩; have HJ3 := hidden (HJ2.out.below hB (Nat.le_refl _)); have HB3 := hidden (below_next HB2.out hB); have hs3 := HU.out AJ cJ HJ3.out.cap; clear hB))
        | (go_at_call 10; go_must (refine (KO.out w3 AJ cJ HJ3.out).mono ?_; rintro e w4 ⟨v4, rfl, hO, hB⟩; have HB4 := hidden (below_next HB3.out hB); obtain ⟨A4, c4, rfl, ha⟩ := own_arg hO HTB.out; rw [HTl.out] at ha; rw [HTl.out]; have HA4 := hidden ha; clear hO hB ha))
        | (go_at_call 9; go_must (refine (KS.out w4 A4 c4 HA4.out).mono ?_; rintro e w5 ⟨X, x, Y, y, z, rfl, hx, hy, hB⟩; have HB5 := hidden (below_next HB4.out hB); have HX5 := hidden hx; have HY5 := hidden hy; clear hB hx hy; dsimp only))
        | (go_at_call 12; first
          | ((with_reducible refine (KP.out w5 HB5.out).mono ?_); rintro e w6 ⟨B, b, rfl, ha, hB⟩; have HB6 := hidden (below_next HB5.out hB); have HX6 := hidden (HX5.out.below hB (Nat.le_refl _)); have HY6 := hidden (HY5.out.below hB (Nat.le_refl _)); have HP6 := hidden ha; clear hB ha)
          | ((with_reducible refine (KQ.out w6 HB6.out).mono ?_); rintro e w7 ⟨C, c7, rfl, ha, hB⟩; have HB7 := hidden (below_next HB6.out hB); have HY7 := hidden (HY6.out.below hB (Nat.le_refl _)); have HQ7 := hidden ha; clear hB ha))
        | (go_at_call 11; first
          | ((with_reducible refine (KEP.out _ _ _ _ _ HX6.out HP6.out).mono ?_); rintro e w8 ⟨rfl, rfl⟩)
          | ((with_reducible refine (KEQ.out _ _ _ _ _ HY7.out HQ7.out).mono ?_); rintro e w8 ⟨rfl, rfl⟩))
        | (go_at_call 6; go_must (refine (partAwake_calls _).mono ?_; rintro e w9 ⟨rfl, hB9⟩)))
      go_ret
      exact ⟨rfl, below_next HB7.out hB9⟩
end Go.Proofs.YtmibnnmampfalaaDoor
