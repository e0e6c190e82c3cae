/- SignBuffer, JoinCompact, AppendSignature. -/
import Derived.Test.YtbdmdajbdmdknaaGreatDoorM15
namespace Go.Proofs.YtbdmdajbdmdknaaGreatDoor
open Go.RowKit
set_option linter.unusedVariables false
set_option linter.unusedSimpArgs false

set_option maxRecDepth 100000 in
set_option maxHeartbeats 4000000 in
theorem signBuf_calls (g base : Nat) (v : Value) (l0 hd pl : List Int) (A : Option Addr) (n c : Nat) (B : Option Addr) (m d : Nat) (enc : Bool) (w : World) (HO : Own w base 5 v (nums .u8 l0)) (hbase : base ≤ w.heap.size) (hE : EncOff w v g) (hA : RdOff w v A n c hd) (hB : RdOff w v B m d pl) (hn : n ≤ 50000) (hm : m ≤ 50000) :
    Calls Tryz.prog 57 #[v, .slice A n c, .slice B m d, .iface 161 (.pointer (some ⟨g, 0, none⟩)), .bool enc] w fun e w' => ∃ v', e = .returned v' ∧ AppP w base v (encF (alpha true) hd ++ [46] ++ tailF enc pl) v' w' := by
  obtain ⟨M, hM⟩ : ∃ M, M = encLen (n + m) := ⟨_, rfl⟩
  have hMb : M ≤ 200000 := by rw [hM]; unfold encLen; omega
  have HL : Hid (∀ W, EncAt W g (alpha true) (tab true) (-1) → Calls Tryz.prog 177 #[.pointer (some ⟨g, 0, none⟩), .int .i64 ((n : Int) + (m : Int))] W fun e w' => e = .returned (.int .i64 M) ∧ w' = W) := hidden (fun W h => by
    have := encodedLen_calls g _ _ (n + m) M (by omega) hM W h
    rwa [Int.natCast_add] at this)
  clear hM
  have hx1 : (encF (alpha true) hd).length ≤ 200000 := by rw [encLen_eq, hA.len]; unfold encLen; omega
  have hx2 : (encF (alpha true) pl).length ≤ 200000 := by rw [encLen_eq, hB.len]; unfold encLen; omega
  have S1 : Hid (∀ v1 w1 l1, AppP w base v l1 v1 w1 → l1.length ≤ 1000000 → Calls Tryz.prog 174 #[.pointer (some ⟨g, 0, none⟩), v1, .slice A n c] w1 fun e w' => ∃ v', e = .returned v' ∧ AppP w base v (l1 ++ encF (alpha true) hd) v' w') := hidden (fun v1 w1 l1 a hl => appStep g base v v1 l1 hd A n c w w1 a hE hA (by omega) hbase hl)
  have S2 : Hid (∀ v1 w1 l1, AppP w base v l1 v1 w1 → l1.length ≤ 1000000 → Calls Tryz.prog 174 #[.pointer (some ⟨g, 0, none⟩), v1, .slice B m d] w1 fun e w' => ∃ v', e = .returned v' ∧ AppP w base v (l1 ++ encF (alpha true) pl) v' w') := hidden (fun v1 w1 l1 a hl => appStep g base v v1 l1 pl B m d w w1 a hE hB (by omega) hbase hl)
  obtain ⟨x1, hX1⟩ : ∃ x, x = encF (alpha true) hd := ⟨_, rfl⟩
  obtain ⟨x2, hX2⟩ : ∃ x, x = encF (alpha true) pl := ⟨_, rfl⟩
  rw [← hX1] at S1 hx1
  rw [← hX2] at S2 hx2
  have hb2 : (x1 ++ [46]).length ≤ 1000000 := by simp only [List.length_append, List.length_cons, List.length_nil]; omega
  have HX2 := hidden hX2
  rw [← hX1]
  unfold tailF
  rw [← hX2]
  clear hX1 hX2
  have HE := hidden hE
  have HB := hidden hB
  obtain ⟨A0, c0, hv, hc0, _, _⟩ := HO.read
  rw [nums_len] at hv hc0
  obtain ⟨k, hk⟩ : ∃ k, k = l0.length := ⟨_, rfl⟩
  rw [← hk] at hv hc0
  subst hv
  by_cases hroom : c0 < (M + 1)
  · have hri : (c0 : Int) < (M : Int) + 1 := by omega
    have q1 := fun W A => run_upto (W := W) Tryz.underlying31 size_u8' A 0 (M + 1) 0 0 rfl (by omega)
    clear HO hE hA hB hk
    cases enc with
    | true =>
      simp only [if_true, Bool.false_eq_true, if_false]
      go_enter Tryz.func57, Tryz.ntmps57
      go_wp2_with (first
        | (go_at_call 177; go_must (refine (HL.out _ HE.out.enc).mono ?_; rintro e w0 ⟨rfl, rfl⟩))
        | (with_reducible refine at_dst 25 ?_; go_must (refine walk_makeP (base := base) (n := (M + 1)) (.slice A0 k c0) rfl _ _ rfl rfl rfl (by omega) hbase (by omega) ?_; intro W0 hP0; have HP0 := hidden hP0; clear hP0))
        | (go_at_call 174; first | ((with_reducible refine (S1.out _ _ _ HP0.out (by simp)).mono ?_); rintro e w1 ⟨v1, rfl, hP1⟩; rw [List.nil_append] at hP1; have HP1 := hidden hP1; clear hP1) | ((with_reducible refine (S2.out _ _ _ HP2.out hb2).mono ?_); rintro e w3 ⟨v3, rfl, hP3⟩; have HP3 := hidden hP3; clear hP3))
        | (at_builtin; refine walk_app (base := base) rfl (.tmp 32) (.tmp 33) rfl Tryz.underlying31 info_u8 rfl (by decide) rfl rfl (HP1.out.own.alloc _) (Rd.new w1 5 (nums .u8 [46]) _ rfl) rfl (nums_one _ _) (Nat.le_trans hbase (Nat.le_trans HP1.out.grown.size (World.grownBy_alloc w1 _ none).size)) (by simp only [List.length_append, nums_len, List.length_cons, List.length_nil]; omega) ?_; intro v2 w2 hO2 hg2 hk2; have HP2 := hidden (HP1.out.put (World.grownBy_alloc w1 _ none) hO2 hg2 hk2); clear hO2 hg2 hk2))
      go_ret
      exact ⟨v3, rfl, HP3.out⟩
    | false =>
      simp only [if_true, Bool.false_eq_true, if_false]
      go_enter Tryz.func57, Tryz.ntmps57
      go_wp2_with (first
        | (go_at_call 177; go_must (refine (HL.out _ HE.out.enc).mono ?_; rintro e w0 ⟨rfl, rfl⟩))
        | (with_reducible refine at_dst 25 ?_; go_must (refine walk_makeP (base := base) (n := (M + 1)) (.slice A0 k c0) rfl _ _ rfl rfl rfl (by omega) hbase (by omega) ?_; intro W0 hP0; have HP0 := hidden hP0; clear hP0))
        | (go_at_call 174; first | ((with_reducible refine (S1.out _ _ _ HP0.out (by simp)).mono ?_); rintro e w1 ⟨v1, rfl, hP1⟩; rw [List.nil_append] at hP1; have HP1 := hidden hP1; clear hP1))
        | (at_builtin; refine walk_app (base := base) rfl (.tmp 32) (.tmp 33) rfl Tryz.underlying31 info_u8 rfl (by decide) rfl rfl (HP1.out.own.alloc _) (Rd.new w1 5 (nums .u8 [46]) _ rfl) rfl (nums_one _ _) (Nat.le_trans hbase (Nat.le_trans HP1.out.grown.size (World.grownBy_alloc w1 _ none).size)) (by simp only [List.length_append, nums_len, List.length_cons, List.length_nil]; omega) ?_; intro v2 w2 hO2 hg2 hk2; have HP2 := hidden (HP1.out.put (World.grownBy_alloc w1 _ none) hO2 hg2 hk2); clear hO2 hg2 hk2)
        | (at_builtin; refine walk_app (base := base) rfl (.tmp 40) (.tmp 41) rfl Tryz.underlying31 info_u8 rfl (by decide) rfl rfl HP2.out.own (HB.out.next HP2.out).rd (by rw [nums_len]; exact HB.out.len) (nums_one _ _) (Nat.le_trans hbase HP2.out.grown.size) (by have := HB.out.len; simp only [List.length_append, nums_len, List.length_cons, List.length_nil]; omega) ?_; intro v3 w3 hO3 hg3 hk3; have HP3 := hidden (HP2.out.put (World.grownBy.refl _ _) hO3 hg3 hk3); clear hO3 hg3 hk3))
      go_ret
      exact ⟨v3, rfl, HP3.out⟩
  · have HP0 : Hid (AppP w base (.slice A0 k c0) [] (.slice A0 0 c0) w) := hidden (appP_cut HO)
    have hri : ¬ (c0 : Int) < (M : Int) + 1 := by omega
    have q1 := fun W => run_upto (W := W) Tryz.underlying31 size_u8' A0 k c0 0 0 rfl (by omega)
    clear HO hE hA hB hk
    cases enc with
    | true =>
      simp only [if_true, Bool.false_eq_true, if_false]
      go_enter Tryz.func57, Tryz.ntmps57
      go_wp2_with (first
        | (go_at_call 177; go_must (refine (HL.out _ HE.out.enc).mono ?_; rintro e w0 ⟨rfl, rfl⟩))
        | (go_at_call 174; first | ((with_reducible refine (S1.out _ _ _ HP0.out (by simp)).mono ?_); rintro e w1 ⟨v1, rfl, hP1⟩; rw [List.nil_append] at hP1; have HP1 := hidden hP1; clear hP1) | ((with_reducible refine (S2.out _ _ _ HP2.out hb2).mono ?_); rintro e w3 ⟨v3, rfl, hP3⟩; have HP3 := hidden hP3; clear hP3))
        | (at_builtin; refine walk_app (base := base) rfl (.tmp 32) (.tmp 33) rfl Tryz.underlying31 info_u8 rfl (by decide) rfl rfl (HP1.out.own.alloc _) (Rd.new w1 5 (nums .u8 [46]) _ rfl) rfl (nums_one _ _) (Nat.le_trans hbase (Nat.le_trans HP1.out.grown.size (World.grownBy_alloc w1 _ none).size)) (by simp only [List.length_append, nums_len, List.length_cons, List.length_nil]; omega) ?_; intro v2 w2 hO2 hg2 hk2; have HP2 := hidden (HP1.out.put (World.grownBy_alloc w1 _ none) hO2 hg2 hk2); clear hO2 hg2 hk2))
      go_ret
      exact ⟨v3, rfl, HP3.out⟩
    | false =>
      simp only [if_true, Bool.false_eq_true, if_false]
      go_enter Tryz.func57, Tryz.ntmps57
      go_wp2_with (first
        | (go_at_call 177; go_must (refine (HL.out _ HE.out.enc).mono ?_; rintro e w0 ⟨rfl, rfl⟩))
        | (go_at_call 174; first | ((with_reducible refine (S1.out _ _ _ HP0.out (by simp)).mono ?_); rintro e w1 ⟨v1, rfl, hP1⟩; rw [List.nil_append] at hP1; have HP1 := hidden hP1; clear hP1))
        | (at_builtin; refine walk_app (base := base) rfl (.tmp 32) (.tmp 33) rfl Tryz.underlying31 info_u8 rfl (by decide) rfl rfl (HP1.out.own.alloc _) (Rd.new w1 5 (nums .u8 [46]) _ rfl) rfl (nums_one _ _) (Nat.le_trans hbase (Nat.le_trans HP1.out.grown.size (World.grownBy_alloc w1 _ none).size)) (by simp only [List.length_append, nums_len, List.length_cons, List.length_nil]; omega) ?_; intro v2 w2 hO2 hg2 hk2; have HP2 := hidden (HP1.out.put (World.grownBy_alloc w1 _ none) hO2 hg2 hk2); clear hO2 hg2 hk2)
        | (at_builtin; refine walk_app (base := base) rfl (.tmp 40) (.tmp 41) rfl Tryz.underlying31 info_u8 rfl (by decide) rfl rfl HP2.out.own (HB.out.next HP2.out).rd (by rw [nums_len]; exact HB.out.len) (nums_one _ _) (Nat.le_trans hbase HP2.out.grown.size) (by have := HB.out.len; simp only [List.length_append, nums_len, List.length_cons, List.length_nil]; omega) ?_; intro v3 w3 hO3 hg3 hk3; have HP3 := hidden (HP2.out.put (World.grownBy.refl _ _) hO3 hg3 hk3); clear hO3 hg3 hk3))
      go_ret
      exact ⟨v3, rfl, HP3.out⟩
end Go.Proofs.YtbdmdajbdmdknaaGreatDoor
