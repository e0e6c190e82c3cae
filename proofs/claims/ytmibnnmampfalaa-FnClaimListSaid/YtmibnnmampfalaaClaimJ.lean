/- The law about lists, walked. -/
import Derived.Test.YtmibnnmampfalaaClaimI
namespace Go.Proofs.Ytmibnnmampfalaa
open Go.RowKit
set_option linter.unusedVariables false
set_option linter.unusedSimpArgs false

set_option maxRecDepth 10000 in
set_option maxHeartbeats 2000000 in
theorem claimOther_walk (k : Int) (hk : ¬ (0 ≤ k ∧ k ≤ 3)) (t : ByteArray) (b : Bool) (m : Int) (A : Option Addr) (n c : Nat) (l : List ByteArray) (w : World) (Hh : Hid (Rd w A (strs l))) (hn : l.length = n) (hb : n ≤ 9223372036854775807) (Hr0 : Hid (true = true ↔ t.size ≤ 2147483647 ∧ n ≤ 2147483647 ∧ ∀ x ∈ l, x.size ≤ 2147483647)) :
    Calls Try.prog 11 #[plainV k t b m A n c] w (fun e w' => e = .returned (.bool true) ∧ Below w.heap.size w w') := by
  have HW : Hid (Below w.heap.size w (w.alloc (.cells #[.int .i64 k, .string t, .bool b, .int .i32 m, .slice A n c] 50))) := hidden (below_alloc0 _ _)
  unfold plainV
  go_enter Try.func11, Try.ntmps11
  go_wp2_with (first
    | (go_at_call 30; go_must (refine (fits1_calls k t b m A n c l _ (Hh.out.alloc _) hn true Hr0.out hb).mono ?_; rintro e w1 ⟨rfl, hB1⟩; have hRw1 := (Row.new w 50 [.int .i64 k, .string t, .bool b, .int .i32 m, .slice A n c]).below hB1 (by simp); have c0 := hRw1.cell 0; have c1 := hRw1.cell 1; have c2 := hRw1.cell 2; have c3 := hRw1.cell 3; have c4 := hRw1.cell 4; simp only [List.getElem?_cons_zero, List.getElem?_cons_succ, Nat.zero_add] at c0 c1 c2 c3 c4; have HRw1 := hidden hRw1; clear hRw1; have HB1 := hidden (below_next HW.out hB1); clear hB1))
    | (go_at_call 31; go_must (refine (claimShort_calls k t b m A n c l _ (Hh.out.below HB1.out (Nat.le_refl _)) hn).mono ?_; rintro e w2 ⟨⟨r, rfl, hs, hB2⟩⟩; obtain rfl : r = false := (by cases r with | false => rfl | true => exact absurd ⟨(hs.out rfl).1, (hs.out rfl).2.1⟩ hk); clear hs; have hRw2 := HRw1.out.below hB2 HRw1.out.lt; have d0 := hRw2.cell 0; have d1 := hRw2.cell 1; have d2 := hRw2.cell 2; have d3 := hRw2.cell 3; have d4 := hRw2.cell 4; simp only [List.getElem?_cons_zero, List.getElem?_cons_succ, Nat.zero_add] at d0 d1 d2 d3 d4; have HRw2 := hidden hRw2; clear hRw2; have HB2 := hidden (below_next HB1.out hB2); clear hB2))
    | (go_at_call 32; go_must (refine (claimAwake_calls _).mono ?_; rintro e wA ⟨rfl, hBA⟩)))
  go_ret
  exact ⟨rfl, below_next HB2.out hBA⟩
set_option maxRecDepth 10000 in
set_option maxHeartbeats 2000000 in
theorem claim1_walk (t : ByteArray) (b : Bool) (m : Int) (A : Option Addr) (n c : Nat) (l : List ByteArray) (w : World) (Hh : Hid (Rd w A (strs l))) (hn : l.length = n) (hb : n ≤ 9223372036854775807) (Hr0 : Hid (true = true ↔ t.size ≤ 2147483647 ∧ n ≤ 2147483647 ∧ ∀ x ∈ l, x.size ≤ 2147483647)) :
    Calls Try.prog 11 #[plainV 1 t b m A n c] w (fun e w' => e = .returned (.bool true) ∧ Below w.heap.size w w') := by
  have HW : Hid (Below w.heap.size w (w.alloc (.cells #[.int .i64 1, .string t, .bool b, .int .i32 m, .slice A n c] 50))) := hidden (below_alloc0 _ _)
  unfold plainV
  go_enter Try.func11, Try.ntmps11
  go_wp2_with (first
    | (go_at_call 30; go_must (refine (fits1_calls 1 t b m A n c l _ (Hh.out.alloc _) hn true Hr0.out hb).mono ?_; rintro e w1 ⟨rfl, hB1⟩; have hRw1 := (Row.new w 50 [.int .i64 1, .string t, .bool b, .int .i32 m, .slice A n c]).below hB1 (by simp); have c0 := hRw1.cell 0; have c1 := hRw1.cell 1; have c2 := hRw1.cell 2; have c3 := hRw1.cell 3; have c4 := hRw1.cell 4; simp only [List.getElem?_cons_zero, List.getElem?_cons_succ, Nat.zero_add] at c0 c1 c2 c3 c4; have HRw1 := hidden hRw1; clear hRw1; have HB1 := hidden (below_next HW.out hB1); clear hB1))
    | (go_at_call 31; go_must (refine (claimShort_calls 1 t b m A n c l _ (Hh.out.below HB1.out (Nat.le_refl _)) hn).mono ?_; rintro e w2 ⟨⟨r, rfl, hs, hB2⟩⟩; have hRw2 := HRw1.out.below hB2 HRw1.out.lt; have d0 := hRw2.cell 0; have d1 := hRw2.cell 1; have d2 := hRw2.cell 2; have d3 := hRw2.cell 3; have d4 := hRw2.cell 4; simp only [List.getElem?_cons_zero, List.getElem?_cons_succ, Nat.zero_add] at d0 d1 d2 d3 d4; have HRw2 := hidden hRw2; clear hRw2; have HB2 := hidden (below_next HB1.out hB2); clear hB2))
    | (go_at_call 32; go_must (refine (claimAwake_calls _).mono ?_; rintro e wA ⟨rfl, hBA⟩))
    | (go_at_call 33; go_must (refine (accepted1_calls t b m A n c _).mono ?_; rintro e w3 ⟨rfl, hB3⟩; have hRw3 := HRw2.out.below hB3 HRw2.out.lt; have e0 := hRw3.cell 0; have e1 := hRw3.cell 1; have e2 := hRw3.cell 2; have e3 := hRw3.cell 3; have e4 := hRw3.cell 4; simp only [List.getElem?_cons_zero, List.getElem?_cons_succ, Nat.zero_add] at e0 e1 e2 e3 e4; have HRw3 := hidden hRw3; clear hRw3; have HB3 := hidden (below_next HB2.out hB3); clear hB3))
    | (go_at_call 34; go_must (refine (listN_calls 1 (by decide) (by decide) t b m A n c _).mono ?_; rintro e w4 ⟨rfl, hB4⟩; have HB4 := hidden (below_next HB3.out hB4); clear hB4)))
  all_goals go_ret
  · exact ⟨rfl, below_next HB2.out hBA⟩
  · exact ⟨rfl, below_next HB4.out hBA⟩
set_option maxRecDepth 10000 in
set_option maxHeartbeats 2000000 in
theorem claim2_walk (t : ByteArray) (b : Bool) (m : Int) (A : Option Addr) (n c : Nat) (l : List ByteArray) (w : World) (Hh : Hid (Rd w A (strs l))) (hn : l.length = n) (hb : n ≤ 9223372036854775807) (Hr0 : Hid (true = true ↔ t.size ≤ 2147483647 ∧ n ≤ 2147483647 ∧ ∀ x ∈ l, x.size ≤ 2147483647)) :
    Calls Try.prog 11 #[plainV 2 t b m A n c] w (fun e w' => e = .returned (.bool true) ∧ Below w.heap.size w w') := by
  have HW : Hid (Below w.heap.size w (w.alloc (.cells #[.int .i64 2, .string t, .bool b, .int .i32 m, .slice A n c] 50))) := hidden (below_alloc0 _ _)
  unfold plainV
  go_enter Try.func11, Try.ntmps11
  go_wp2_with (first
    | (go_at_call 30; go_must (refine (fits1_calls 2 t b m A n c l _ (Hh.out.alloc _) hn true Hr0.out hb).mono ?_; rintro e w1 ⟨rfl, hB1⟩; have hRw1 := (Row.new w 50 [.int .i64 2, .string t, .bool b, .int .i32 m, .slice A n c]).below hB1 (by simp); have c0 := hRw1.cell 0; have c1 := hRw1.cell 1; have c2 := hRw1.cell 2; have c3 := hRw1.cell 3; have c4 := hRw1.cell 4; simp only [List.getElem?_cons_zero, List.getElem?_cons_succ, Nat.zero_add] at c0 c1 c2 c3 c4; have HRw1 := hidden hRw1; clear hRw1; have HB1 := hidden (below_next HW.out hB1); clear hB1))
    | (go_at_call 31; go_must (refine (claimShort_calls 2 t b m A n c l _ (Hh.out.below HB1.out (Nat.le_refl _)) hn).mono ?_; rintro e w2 ⟨⟨r, rfl, hs, hB2⟩⟩; have hRw2 := HRw1.out.below hB2 HRw1.out.lt; have d0 := hRw2.cell 0; have d1 := hRw2.cell 1; have d2 := hRw2.cell 2; have d3 := hRw2.cell 3; have d4 := hRw2.cell 4; simp only [List.getElem?_cons_zero, List.getElem?_cons_succ, Nat.zero_add] at d0 d1 d2 d3 d4; have HRw2 := hidden hRw2; clear hRw2; have HB2 := hidden (below_next HB1.out hB2); clear hB2))
    | (go_at_call 32; go_must (refine (claimAwake_calls _).mono ?_; rintro e wA ⟨rfl, hBA⟩))
    | (go_at_call 33; go_must (refine (accepted2_calls t b m A n c _).mono ?_; rintro e w3 ⟨rfl, hB3⟩; have hRw3 := HRw2.out.below hB3 HRw2.out.lt; have e0 := hRw3.cell 0; have e1 := hRw3.cell 1; have e2 := hRw3.cell 2; have e3 := hRw3.cell 3; have e4 := hRw3.cell 4; simp only [List.getElem?_cons_zero, List.getElem?_cons_succ, Nat.zero_add] at e0 e1 e2 e3 e4; have HRw3 := hidden hRw3; clear hRw3; have HB3 := hidden (below_next HB2.out hB3); clear hB3))
    | (go_at_call 34; go_must (refine (listN_calls 2 (by decide) (by decide) t b m A n c _).mono ?_; rintro e w4 ⟨rfl, hB4⟩; have HB4 := hidden (below_next HB3.out hB4); clear hB4)))
  all_goals go_ret
  · exact ⟨rfl, below_next HB2.out hBA⟩
  · exact ⟨rfl, below_next HB4.out hBA⟩
set_option maxRecDepth 10000 in
set_option maxHeartbeats 2000000 in
theorem claim0_walk (t : ByteArray) (b : Bool) (m : Int) (A : Option Addr) (n c : Nat) (l : List ByteArray) (w : World) (Hh : Hid (Rd w A (strs l))) (hn : l.length = n) (hb : n ≤ 9223372036854775807) (Hr0 : Hid (true = true ↔ t.size ≤ 2147483647 ∧ n ≤ 2147483647 ∧ ∀ x ∈ l, x.size ≤ 2147483647)) :
    Calls Try.prog 11 #[plainV 0 t b m A n c] w (fun e w' => e = .returned (.bool true) ∧ Below w.heap.size w w') := by
  have HW : Hid (Below w.heap.size w (w.alloc (.cells #[.int .i64 0, .string t, .bool b, .int .i32 m, .slice A n c] 50))) := hidden (below_alloc0 _ _)
  unfold plainV
  go_enter Try.func11, Try.ntmps11
  go_wp2_with (first
    | (go_at_call 30; go_must (refine (fits1_calls 0 t b m A n c l _ (Hh.out.alloc _) hn true Hr0.out hb).mono ?_; rintro e w1 ⟨rfl, hB1⟩; have hRw1 := (Row.new w 50 [.int .i64 0, .string t, .bool b, .int .i32 m, .slice A n c]).below hB1 (by simp); have c0 := hRw1.cell 0; have c1 := hRw1.cell 1; have c2 := hRw1.cell 2; have c3 := hRw1.cell 3; have c4 := hRw1.cell 4; simp only [List.getElem?_cons_zero, List.getElem?_cons_succ, Nat.zero_add] at c0 c1 c2 c3 c4; have HRw1 := hidden hRw1; clear hRw1; have HB1 := hidden (below_next HW.out hB1); clear hB1))
    | (go_at_call 31; go_must (refine (claimShort_calls 0 t b m A n c l _ (Hh.out.below HB1.out (Nat.le_refl _)) hn).mono ?_; rintro e w2 ⟨⟨r, rfl, hs, hB2⟩⟩; have hRw2 := HRw1.out.below hB2 HRw1.out.lt; have d0 := hRw2.cell 0; have d1 := hRw2.cell 1; have d2 := hRw2.cell 2; have d3 := hRw2.cell 3; have d4 := hRw2.cell 4; simp only [List.getElem?_cons_zero, List.getElem?_cons_succ, Nat.zero_add] at d0 d1 d2 d3 d4; have HRw2 := hidden hRw2; clear hRw2; have HB2 := hidden (below_next HB1.out hB2); clear hB2))
    | (go_at_call 32; go_must (refine (claimAwake_calls _).mono ?_; rintro e wA ⟨rfl, hBA⟩))
    | (go_at_call 33; go_must (refine (accepted0_calls t b m A n c _).mono ?_; rintro e w3 ⟨v3, rfl, hO3, hB3⟩; obtain ⟨A3, x3, q3, hx3, hr3, hA3⟩ := hO3.read; rw [show (strs [t]).length = 1 from rfl] at q3 hx3; subst q3; have Hr3 := hidden hr3; clear hO3 hr3; have hRw3 := HRw2.out.below hB3 HRw2.out.lt; have e0 := hRw3.cell 0; have e1 := hRw3.cell 1; have e2 := hRw3.cell 2; have e3 := hRw3.cell 3; have e4 := hRw3.cell 4; simp only [List.getElem?_cons_zero, List.getElem?_cons_succ, Nat.zero_add] at e0 e1 e2 e3 e4; have HRw3 := hidden hRw3; clear hRw3; have HB3 := hidden (below_next HB2.out hB3); clear hB3))
    | (go_at_call 34; go_must (refine (list0_calls t b m A n c _).mono ?_; rintro e w4 ⟨rfl, hL4, hB4⟩; have HL4 := hidden (Rd.row hL4); have Hq3 := hidden (Hr3.out.below hB4 (Nat.le_refl _)); clear hL4; have HB4 := hidden (below_next HB3.out hB4); clear hB4))
    | (go_at_call 35; go_must (refine (equalS_calls A3 _ 1 x3 1 1 [t] [t] _ Hq3.out rfl HL4.out rfl (by omega) true (by simp)).mono ?_; rintro e w5 ⟨rfl, hB5⟩; have HB5 := hidden (below_next HB4.out hB5); clear hB5)))
  all_goals go_ret
  · exact ⟨rfl, below_next HB2.out hBA⟩
  · exact ⟨rfl, below_next HB5.out hBA⟩
set_option maxRecDepth 10000 in
set_option maxHeartbeats 2000000 in
theorem claim3_walk (t : ByteArray) (b : Bool) (m : Int) (A : Option Addr) (n c : Nat) (l : List ByteArray) (w : World) (Hh : Hid (Rd w A (strs l))) (hn : l.length = n) (hb : n ≤ 9223372036854775807) (Hr0 : Hid (true = true ↔ t.size ≤ 2147483647 ∧ n ≤ 2147483647 ∧ ∀ x ∈ l, x.size ≤ 2147483647)) :
    Calls Try.prog 11 #[plainV 3 t b m A n c] w (fun e w' => e = .returned (.bool true) ∧ Below w.heap.size w w') := by
  have HW : Hid (Below w.heap.size w (w.alloc (.cells #[.int .i64 3, .string t, .bool b, .int .i32 m, .slice A n c] 50))) := hidden (below_alloc0 _ _)
  unfold plainV
  go_enter Try.func11, Try.ntmps11
  go_wp2_with (first
    | (go_at_call 30; go_must (refine (fits1_calls 3 t b m A n c l _ (Hh.out.alloc _) hn true Hr0.out hb).mono ?_; rintro e w1 ⟨rfl, hB1⟩; have hRw1 := (Row.new w 50 [.int .i64 3, .string t, .bool b, .int .i32 m, .slice A n c]).below hB1 (by simp); have c0 := hRw1.cell 0; have c1 := hRw1.cell 1; have c2 := hRw1.cell 2; have c3 := hRw1.cell 3; have c4 := hRw1.cell 4; simp only [List.getElem?_cons_zero, List.getElem?_cons_succ, Nat.zero_add] at c0 c1 c2 c3 c4; have HRw1 := hidden hRw1; clear hRw1; have HB1 := hidden (below_next HW.out hB1); clear hB1))
    | (go_at_call 31; go_must (refine (claimShort_calls 3 t b m A n c l _ (Hh.out.below HB1.out (Nat.le_refl _)) hn).mono ?_; rintro e w2 ⟨⟨r, rfl, hs, hB2⟩⟩; have hRw2 := HRw1.out.below hB2 HRw1.out.lt; have d0 := hRw2.cell 0; have d1 := hRw2.cell 1; have d2 := hRw2.cell 2; have d3 := hRw2.cell 3; have d4 := hRw2.cell 4; simp only [List.getElem?_cons_zero, List.getElem?_cons_succ, Nat.zero_add] at d0 d1 d2 d3 d4; have HRw2 := hidden hRw2; clear hRw2; have HB2 := hidden (below_next HB1.out hB2); clear hB2))
    | (go_at_call 32; go_must (refine (claimAwake_calls _).mono ?_; rintro e wA ⟨rfl, hBA⟩))
    | (go_at_call 33; have hn20 : n ≤ 100000 := (by have hrt : r = true := (by simpa using ‹(!r) = false›); have := (hs.out hrt).2.2; omega); go_must (refine (accepted3_calls t b m A n c l _ (Hh.out.below HB2.out (Nat.le_refl _)) hn hn20).mono ?_; rintro e w3 ⟨v3, rfl, hO3, hB3⟩; obtain ⟨A3, x3, q3, hx3, hr3, hA3⟩ := hO3.read; rw [strs_len, hn] at q3 hx3; subst q3; have Hr3 := hidden hr3; clear hO3 hr3; have hRw3 := HRw2.out.below hB3 HRw2.out.lt; have e0 := hRw3.cell 0; have e1 := hRw3.cell 1; have e2 := hRw3.cell 2; have e3 := hRw3.cell 3; have e4 := hRw3.cell 4; simp only [List.getElem?_cons_zero, List.getElem?_cons_succ, Nat.zero_add] at e0 e1 e2 e3 e4; have HRw3 := hidden hRw3; clear hRw3; have HB3 := hidden (below_next HB2.out hB3); clear hB3))
    | (go_at_call 34; go_must (refine (list3_calls t b m A n c _).mono ?_; rintro e w4 ⟨rfl, hB4⟩; have Hq3 := hidden (Hr3.out.below hB4 (Nat.le_refl _)); have HB4 := hidden (below_next HB3.out hB4); clear hB4))
    | (go_at_call 35; go_must (refine (equalS_calls A3 A n x3 n c l l _ Hq3.out hn (Hh.out.below HB4.out (Nat.le_refl _)) hn (by omega) true (by simp)).mono ?_; rintro e w5 ⟨rfl, hB5⟩; have HB5 := hidden (below_next HB4.out hB5); clear hB5)))
  all_goals go_ret
  · exact ⟨rfl, below_next HB2.out hBA⟩
  · exact ⟨rfl, below_next HB5.out hBA⟩
set_option maxRecDepth 10000 in
set_option maxHeartbeats 2000000 in
theorem claimList_walk (k : Int) (t : ByteArray) (b : Bool) (m : Int) (A : Option Addr) (n c : Nat) (l : List ByteArray) (w : World) (h : Rd w A (strs l)) (hn : l.length = n) (hb : n ≤ 9223372036854775807) :
    Calls Try.prog 11 #[plainV k t b m A n c] w (fun e w' => e = .returned (.bool true) ∧ Below w.heap.size w w') := by
  obtain ⟨r0, hr0⟩ : ∃ r : Bool, r = true ↔ t.size ≤ 2147483647 ∧ n ≤ 2147483647 ∧ ∀ x ∈ l, x.size ≤ 2147483647 := ⟨decide _, decide_eq_true_iff⟩
  have Hr0 := hidden hr0
  have Hh := hidden h
  clear h hr0
  cases r0 with
  | false =>
    unfold plainV
    go_enter Try.func11, Try.ntmps11
    go_wp2_with (go_at_call 30; go_must (refine (fits1_calls k t b m A n c l _ (Hh.out.alloc _) hn false Hr0.out hb).mono ?_; rintro e w1 ⟨rfl, hB1⟩))
    go_ret
    exact ⟨rfl, below_next (below_alloc0 _ _) hB1⟩
  | true =>
    by_cases hk : 0 ≤ k ∧ k ≤ 3
    · obtain rfl | rfl | rfl | rfl : k = 0 ∨ k = 1 ∨ k = 2 ∨ k = 3 := by omega
      · exact claim0_walk t b m A n c l w Hh hn hb Hr0
      · exact claim1_walk t b m A n c l w Hh hn hb Hr0
      · exact claim2_walk t b m A n c l w Hh hn hb Hr0
      · exact claim3_walk t b m A n c l w Hh hn hb Hr0
    · exact claimOther_walk k hk t b m A n c l w Hh hn hb Hr0
end Go.Proofs.Ytmibnnmampfalaa
