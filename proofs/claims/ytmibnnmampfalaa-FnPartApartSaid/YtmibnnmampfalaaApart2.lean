/- The walk of FnPartApart. -/
import Derived.Test.YtmibnnmampfalaaApart
namespace Go.Proofs.Ytmibnnmampfalaa
open Go.RowKit
set_option linter.unusedVariables false
set_option linter.unusedSimpArgs false

theorem opIdx0 {ρ : Operand → Value} {t : Nat} {g : Nat} {ty : TypeId} {W : World} (h : ρ (.tmp t) = .pointer (some ⟨g, 0, none⟩)) (hc : ρ (.const (.int .i64 0)) = .int .i64 0) : opRun Try.prog ρ (.indexAddr 36 (.tmp t) (.const (.int .i64 0))) ty W = .ok (.value (.pointer (some ⟨g, 0, none⟩))) W := by
  obtain ⟨i0, hi, hs⟩ := Option.map_eq_some_iff.1 (show (Try.prog.info? 22).map (·.size) = some 1 by kernel_rfl)
  unfold opRun execOp
  simp [h, hc, Instr.indexAt, asIntOf, run_underlying Try.underlying36, Instr.sureAddr, sizeOf, typeInfo, hi, hs, Addr.add]
theorem opIdx1 {ρ : Operand → Value} {t : Nat} {g : Nat} {ty : TypeId} {W : World} (h : ρ (.tmp t) = .pointer (some ⟨g, 0, none⟩)) (hc : ρ (.const (.int .i64 1)) = .int .i64 1) : opRun Try.prog ρ (.indexAddr 36 (.tmp t) (.const (.int .i64 1))) ty W = .ok (.value (.pointer (some ⟨g, 1, none⟩))) W := by
  obtain ⟨i0, hi, hs⟩ := Option.map_eq_some_iff.1 (show (Try.prog.info? 22).map (·.size) = some 1 by kernel_rfl)
  unfold opRun execOp
  simp [h, hc, Instr.indexAt, asIntOf, run_underlying Try.underlying36, Instr.sureAddr, sizeOf, typeInfo, hi, hs, Addr.add]
theorem short2_calls (g T : Nat) (A0 : Option Addr) (n0 d0 : Nat) (A1 : Option Addr) (n1 d1 : Nat) (w : World) (h : Row w g T [.slice A0 n0 d0, .slice A1 n1 d1]) (r : Bool) (hr : r = true ↔ n0 ≤ 2000 ∧ n1 ≤ 2000) :
    Calls Try.prog 13 #[.slice (some ⟨g, 0, none⟩) 2 2] w fun e w' => e = .returned (.bool r) ∧ w = w' :=
  partShort_calls (some ⟨g, 0, none⟩) 2 2 [(A0, n0, d0), (A1, n1, d1)] w (Rd.row h) rfl (by omega) r (by rw [hr]; simp)
set_option maxRecDepth 100000 in
set_option maxHeartbeats 4000000 in
theorem apart_walk (A0 : Option Addr) (n0 d0 : Nat) (l0 : List Int) (A1 : Option Addr) (n1 d1 : Nat) (l1 : List Int) (B0 : Option Addr) (m0 f0 : Nat) (k0 : List Int) (B1 : Option Addr) (m1 f1 : Nat) (k1 : List Int) (enc : Bool) (w : World) (e0 : ArgB w A0 n0 d0 l0) (e1 : ArgB w A1 n1 d1 l1) (g0 : ArgB w B0 m0 f0 k0) (g1 : ArgB w B1 m1 f1 k1) :
    Calls Try.prog 8 #[twoV A0 n0 d0 A1 n1 d1, twoV B0 m0 f0 B1 m1 f1, .bool enc] w fun e w' => e = .returned (.bool true) ∧ Below w.heap.size w w' := by
  obtain ⟨fa, hfa⟩ : ∃ r : Bool, r = true ↔ n0 ≤ 2147483647 ∧ n1 ≤ 2147483647 := ⟨decide (n0 ≤ 2147483647 ∧ n1 ≤ 2147483647), by simp⟩
  obtain ⟨fb, hfb⟩ : ∃ r : Bool, r = true ↔ m0 ≤ 2147483647 ∧ m1 ≤ 2147483647 := ⟨decide (m0 ≤ 2147483647 ∧ m1 ≤ 2147483647), by simp⟩
  have HFA := hidden hfa
  have HFB := hidden hfb
  clear hfa hfb
  have HB0 : Hid (Below w.heap.size w ((w.alloc (.cells #[.slice A0 n0 d0, .slice A1 n1 d1] 36)).alloc (.cells #[.slice B0 m0 f0, .slice B1 m1 f1] 36))) := hidden ((below_alloc0 w _).alloc (by simp) _)
  have HRA : Hid (Row ((w.alloc (.cells #[.slice A0 n0 d0, .slice A1 n1 d1] 36)).alloc (.cells #[.slice B0 m0 f0, .slice B1 m1 f1] 36)) w.heap.size 36 [.slice A0 n0 d0, .slice A1 n1 d1]) := hidden ((Row.new w _ [.slice A0 n0 d0, .slice A1 n1 d1]).alloc _)
  have HRB : Hid (Row ((w.alloc (.cells #[.slice A0 n0 d0, .slice A1 n1 d1] 36)).alloc (.cells #[.slice B0 m0 f0, .slice B1 m1 f1] 36)) (w.heap.size + 1) 36 [.slice B0 m0 f0, .slice B1 m1 f1]) := hidden (by
    have := Row.new (w.alloc (.cells #[.slice A0 n0 d0, .slice A1 n1 d1] 36)) 36 [.slice B0 m0 f0, .slice B1 m1 f1]
    simpa using this)
  have E0 := hidden e0
  have E1 := hidden e1
  have G0 := hidden g0
  have G1 := hidden g1
  clear e0 e1 g0 g1
  have F1 : Hid (∀ r, (r = true ↔ n0 ≤ 2147483647 ∧ n1 ≤ 2147483647) → ∀ W, Calls Try.prog 23 #[.agg #[.slice A0 n0 d0, .slice A1 n1 d1]] W fun e w' => e = .returned (.bool r) ∧ Below W.heap.size W w') := hidden (fun r hr W => fits7_calls A0 n0 d0 A1 n1 d1 r hr W)
  have F2 : Hid (∀ r, (r = true ↔ m0 ≤ 2147483647 ∧ m1 ≤ 2147483647) → ∀ W, Calls Try.prog 23 #[.agg #[.slice B0 m0 f0, .slice B1 m1 f1]] W fun e w' => e = .returned (.bool r) ∧ Below W.heap.size W w') := hidden (fun r hr W => fits7_calls B0 m0 f0 B1 m1 f1 r hr W)
  cases fa with
  | false =>
    unfold twoV
    go_enter Try.func8, Try.ntmps8
    go_wp2_with (first
      | (with_reducible refine at_dst 10 ?_; go_must (refine walk_load_row (vs := [.slice A0 n0 d0, .slice A1 n1 d1]) rfl _ _ rfl HRA.out rfl Try.underlying36 rfl (by kernel_rfl) ?_))
      | (go_at_call 23; go_must (refine (fits7_calls A0 n0 d0 A1 n1 d1 false HFA.out _).mono ?_; rintro e w1 ⟨rfl, hB1⟩; have HB1 := hidden hB1; clear hB1)))
    go_ret
    exact ⟨rfl, below_next HB0.out HB1.out⟩
  | true =>
    have C1 := hidden (F1.out true HFA.out)
    cases fb with
    | false =>
      have C2 := hidden (F2.out false HFB.out)
      clear F1 F2 HFA HFB
      unfold twoV
      go_enter Try.func8, Try.ntmps8
      go_wp2_with (first
        | (with_reducible refine at_dst 10 ?_; go_must (refine walk_load_row (vs := [.slice A0 n0 d0, .slice A1 n1 d1]) rfl _ _ rfl HRA.out rfl Try.underlying36 rfl (by kernel_rfl) ?_))
        | (go_at_call 23; first
          | ((with_reducible refine (C1.out _).mono ?_); rintro e w1 ⟨rfl, hB1⟩; have HB1 := hidden (below_next HB0.out hB1); have cb0 := ((HRB.out.below hB1 HRB.out.lt).cell 0); have cb1 := ((HRB.out.below hB1 HRB.out.lt).cell 1); clear hB1)
          | ((with_reducible refine (C2.out _).mono ?_); rintro e w2 ⟨rfl, hB2⟩; have HB2 := hidden (below_next HB1.out hB2); clear hB2)))
      go_ret
      exact ⟨rfl, HB2.out⟩
    | true =>
      have C2 := hidden (F2.out true HFB.out)
      clear F1 F2 HFA HFB
      obtain ⟨sa, hsa⟩ : ∃ r : Bool, r = true ↔ n0 ≤ 2000 ∧ n1 ≤ 2000 := ⟨decide (n0 ≤ 2000 ∧ n1 ≤ 2000), by simp⟩
      obtain ⟨sb, hsb⟩ : ∃ r : Bool, r = true ↔ m0 ≤ 2000 ∧ m1 ≤ 2000 := ⟨decide (m0 ≤ 2000 ∧ m1 ≤ 2000), by simp⟩
      have D1 : Hid (∀ W, Row W w.heap.size 36 [.slice A0 n0 d0, .slice A1 n1 d1] → Calls Try.prog 13 #[.slice (some ⟨w.heap.size, 0, none⟩) 2 2] W fun e w' => e = .returned (.bool sa) ∧ W = w') := hidden (fun W hR => short2_calls _ _ A0 n0 d0 A1 n1 d1 W hR sa hsa)
      have D2 : Hid (∀ W, Row W (w.heap.size + 1) 36 [.slice B0 m0 f0, .slice B1 m1 f1] → Calls Try.prog 13 #[.slice (some ⟨w.heap.size + 1, 0, none⟩) 2 2] W fun e w' => e = .returned (.bool sb) ∧ W = w') := hidden (fun W hR => short2_calls _ _ B0 m0 f0 B1 m1 f1 W hR sb hsb)
      by_cases hboth : sa = true ∧ sb = true
      case neg =>
        clear hsa hsb
        have hcase : sa = false ∨ (sa = true ∧ sb = false) := by cases sa <;> cases sb <;> simp at hboth ⊢
        clear hboth
        unfold twoV
        rcases hcase with rfl | ⟨rfl, rfl⟩
        all_goals
          go_enter Try.func8, Try.ntmps8
          go_wp2_with (first
            | (with_reducible refine at_dst 10 ?_; go_must (refine walk_load_row (vs := [.slice A0 n0 d0, .slice A1 n1 d1]) rfl _ _ rfl HRA.out rfl Try.underlying36 rfl (by kernel_rfl) ?_))
            | (go_at_call 23; first
              | ((with_reducible refine (C1.out _).mono ?_); rintro e w1 ⟨rfl, hB1⟩; have HB1 := hidden (below_next HB0.out hB1); have cb0 := ((HRB.out.below hB1 HRB.out.lt).cell 0); have cb1 := ((HRB.out.below hB1 HRB.out.lt).cell 1); have HRA1 := hidden (HRA.out.below hB1 HRA.out.lt); have HRB1 := hidden (HRB.out.below hB1 HRB.out.lt); clear hB1)
              | ((with_reducible refine (C2.out _).mono ?_); rintro e w2 ⟨rfl, hB2⟩; have HB2 := hidden (below_next HB1.out hB2); have HRA2 := hidden (HRA1.out.below hB2 HRA1.out.lt); have HRB2 := hidden (HRB1.out.below hB2 HRB1.out.lt); clear hB2))
            | (go_at_call 13; first
              | ((with_reducible refine (D1.out _ HRA2.out).mono ?_); rintro e w3 ⟨rfl, rfl⟩)
              | ((with_reducible refine (D2.out _ HRB2.out).mono ?_); rintro e w3 ⟨rfl, rfl⟩))
            | (go_at_call 14; go_must (refine (partAwake_calls _).mono ?_; rintro e w4 ⟨rfl, hB4⟩)))
          go_ret
          exact ⟨rfl, below_next HB2.out hB4⟩
      case pos =>
        obtain ⟨rfl, rfl⟩ := hboth
        obtain ⟨s0, s1⟩ := hsa.1 rfl
        obtain ⟨s2, s3⟩ := hsb.1 rfl
        clear hsa hsb
        obtain ⟨S, hS⟩ : ∃ S, S = signF enc l0 l1 := ⟨_, rfl⟩
        obtain ⟨nS, hnS⟩ : ∃ nS, S.length = nS := ⟨_, rfl⟩
        obtain ⟨T, hT⟩ : ∃ T, T = signF enc k0 k1 := ⟨_, rfl⟩
        obtain ⟨nT, hnT⟩ : ∃ nT, T.length = nT := ⟨_, rfl⟩
        have ES : Hid (signF enc l0 l1 = S) := hidden hS.symm
        have ET : Hid (signF enc k0 k1 = T) := hidden hT.symm
        have IS : Hid (IsB S ∧ S.length = nS) := hidden ⟨by rw [hS]; exact signF_isB E0.out.isB E1.out.isB, hnS⟩
        have IT : Hid (IsB T ∧ T.length = nT) := hidden ⟨by rw [hT]; exact signF_isB G0.out.isB G1.out.isB, hnT⟩
        have I0 : Hid (IsB l0 ∧ l0.length = n0) := hidden ⟨E0.out.isB, E0.out.len⟩
        have I1 : Hid (IsB l1 ∧ l1.length = n1) := hidden ⟨E1.out.isB, E1.out.len⟩
        have J0 : Hid (IsB k0 ∧ k0.length = m0) := hidden ⟨G0.out.isB, G0.out.len⟩
        have J1 : Hid (IsB k1 ∧ k1.length = m1) := hidden ⟨G1.out.isB, G1.out.len⟩
        have HQ : Hid (decide (S = T) = (decide (l0 = k0) && decide (l1 = k1))) := hidden (by
          have := signF_inj (enc := enc) E0.out.isB E1.out.isB G0.out.isB G1.out.isB
          rw [← hS, ← hT] at this
          rw [Bool.eq_iff_iff, Bool.and_eq_true, decide_eq_true_iff, decide_eq_true_iff, decide_eq_true_iff]
          exact this)
        obtain ⟨b0, hb0⟩ : ∃ b, b = decide (l0 = k0) := ⟨_, rfl⟩
        obtain ⟨b1, hb1⟩ : ∃ b, b = decide (l1 = k1) := ⟨_, rfl⟩
        obtain ⟨bS, hbS⟩ : ∃ b, b = decide (S = T) := ⟨_, rfl⟩
        have P0 : Hid (∀ W, Below w.heap.size w W → Calls Try.prog 18 #[.slice A0 n0 d0, .slice B0 m0 f0] W fun e w' => e = .returned (.bool b0) ∧ W = w') := hidden (fun W hB => by have x := E0.out.below hB (Nat.le_refl _); have y := G0.out.below hB (Nat.le_refl _); rw [hb0]; exact partSame_calls A0 B0 n0 d0 m0 f0 l0 k0 W x.rd x.len y.rd y.len x.isB y.isB)
        have P1 : Hid (∀ W, Below w.heap.size w W → Calls Try.prog 18 #[.slice A1 n1 d1, .slice B1 m1 f1] W fun e w' => e = .returned (.bool b1) ∧ W = w') := hidden (fun W hB => by have x := E1.out.below hB (Nat.le_refl _); have y := G1.out.below hB (Nat.le_refl _); rw [hb1]; exact partSame_calls A1 B1 n1 d1 m1 f1 l1 k1 W x.rd x.len y.rd y.len x.isB y.isB)
        have PS : Hid (∀ W X f Y g, ArgB W X nS f S → ArgB W Y nT g T → Calls Try.prog 18 #[.slice X nS f, .slice Y nT g] W fun e w' => e = .returned (.bool bS) ∧ W = w') := hidden (fun W X f Y g x y => by rw [hbS]; exact partSame_calls X Y nS f nT g S T W x.rd x.len y.rd y.len x.isB y.isB)
        have hcase : (b0 = false ∧ bS = false) ∨ (b0 = true ∧ b1 = false ∧ bS = false) ∨ (b0 = true ∧ b1 = true ∧ bS = true) := by
          have h := HQ.out
          rw [← hb0, ← hb1, ← hbS] at h
          cases b0 <;> cases b1 <;> simp at h <;> simp [h]
        have HC := hidden hcase
        clear hS hnS hT hnT hb0 hb1 hbS hcase HQ
        unfold twoV
        go_enter Try.func8, Try.ntmps8
        go_wp2_with (first
          | (with_reducible refine at_dst 10 ?_; go_must (refine walk_load_row (vs := [.slice A0 n0 d0, .slice A1 n1 d1]) rfl _ _ rfl HRA.out rfl Try.underlying36 rfl (by kernel_rfl) ?_))
          | (go_at_call 23; first
            | ((with_reducible refine (C1.out _).mono ?_); rintro e w1 ⟨rfl, hB1⟩; have HB1 := hidden (below_next HB0.out hB1); have cb0 := ((HRB.out.below hB1 HRB.out.lt).cell 0); have cb1 := ((HRB.out.below hB1 HRB.out.lt).cell 1); have HRA1 := hidden (HRA.out.below hB1 HRA.out.lt); have HRB1 := hidden (HRB.out.below hB1 HRB.out.lt); clear hB1)
            | ((with_reducible refine (C2.out _).mono ?_); rintro e w2 ⟨rfl, hB2⟩; have HB2 := hidden (below_next HB1.out hB2); have HRA2 := hidden (HRA1.out.below hB2 HRA1.out.lt); have HRB2 := hidden (HRB1.out.below hB2 HRB1.out.lt); clear hB2))
          | (go_at_call 13; first
            | ((with_reducible refine (D1.out _ HRA2.out).mono ?_); rintro e w3 ⟨rfl, rfl⟩)
            | ((with_reducible refine (D2.out _ HRB2.out).mono ?_); rintro e w3 ⟨rfl, rfl⟩)))
        clear cb0 cb1
        have hDa : dOk [(0, 27), (1, 28), (2, 29), (3, 30), (4, 31), (5, 32), (6, 33), (7, 34), (8, 7)] 63 = true := by kernel_rfl
        refine reg_flow [(0, 27), (1, 28), (2, 29), (3, 30), (4, 31), (5, 32), (6, 33), (7, 34), (8, 7)] (by kernel_rfl) (by kernel_rfl) hDa (by kernel_rfl) (by kernel_rfl)
          (fun j x wr => match j with
            | 0 => x = .pointer (some ⟨w.heap.size, 0, none⟩)
            | 1 => x = .slice A0 n0 d0
            | 2 => ∃ Y f, x = .slice Y n0 f ∧ ArgB wr Y n0 f l0
            | 3 => x = .pointer (some ⟨w.heap.size, 1, none⟩)
            | 4 => x = .slice A1 n1 d1
            | 5 => ∃ Y f, x = .slice Y n1 f ∧ ArgB wr Y n1 f l1
            | 6 => x = .bool enc
            | 7 => ∃ Y f, x = .slice Y nS f ∧ ArgB wr Y nS f S
            | 8 => ∃ Y f, x = .slice Y nS f ∧ ArgB wr Y nS f S
            | _ => True)
          (fun b v wr => Below w2.heap.size w2 wr)
          (fun w1 w2 => Below w1.heap.size w1 w2) ?_ ?_ ?_ ?_
        · intro j x w1 w2 hR h
          match j, h with
          | 0, h | 1, h | 3, h | 4, h | 6, h => exact h
          | 2, ⟨Y, f, h1, h2⟩ | 5, ⟨Y, f, h1, h2⟩ | 7, ⟨Y, f, h1, h2⟩ | 8, ⟨Y, f, h1, h2⟩ => exact ⟨Y, f, h1, h2.below hR (Nat.le_refl _)⟩
          | n + 9, _ => trivial
        · intro v
          exact (Below.refl _ _).drew
        · intro i hi
          match i, hi with
          | 0, _ => exact flow_pure hDa (fun w => Below.refl _ w) (.indexAddr 36 (.tmp 3) (.const (.int .i64 0))) 0 rfl fun b v w1 ρ h => ⟨_, opIdx0 (h.off 3 (by kernel_rfl)) (h.cst _), rfl, h.glob⟩
          | 3, _ => exact flow_pure hDa (fun w => Below.refl _ w) (.indexAddr 36 (.tmp 3) (.const (.int .i64 1))) 0 rfl fun b v w1 ρ h => ⟨_, opIdx1 (h.off 3 (by kernel_rfl)) (h.cst _), rfl, h.glob⟩
          | 1, _ => exact flow_pure hDa (fun w => Below.refl _ w) (.load 22 (.tmp 27)) 22 rfl fun b v w1 ρ h => ⟨_, by
              have e := (h.on 0 27 (by kernel_rfl) (h.dep 0 (by kernel_rfl))).trans (h.have_ 0 (by kernel_rfl))
              have c0 := (HRA2.out.below h.glob HRA2.out.lt).cell 0
              unfold opRun
              go_simp, rfl, h.glob⟩
          | 4, _ => exact flow_pure hDa (fun w => Below.refl _ w) (.load 22 (.tmp 30)) 22 rfl fun b v w1 ρ h => ⟨_, by
              have e := (h.on 3 30 (by kernel_rfl) (h.dep 3 (by kernel_rfl))).trans (h.have_ 3 (by kernel_rfl))
              have c0 := (HRA2.out.below h.glob HRA2.out.lt).cell 1
              unfold opRun
              go_simp, rfl, h.glob⟩
          | 2, _ =>
            exact flow_call hDa (.call { callee := .value (.func 16), args := #[.tmp 28], argTypes := #[22] }) 22 rfl 16 fun b v w1 ρ h => by
              have e1 := (h.on 1 28 (by kernel_rfl) (h.dep 1 (by kernel_rfl))).trans (h.have_ 1 (by kernel_rfl))
              have ea : (#[.tmp 28] : Array Operand).map ρ = #[.slice A0 n0 d0] := by simp only [List.map_toArray, List.map_cons, List.map_nil, e1]
              refine ⟨_, opRun_call (h.fn _) (by rw [ea]; exact Try.call16 _ _), ?_⟩
              rw [ea]
              have hx := E0.out.below (below_next HB2.out h.glob) (Nat.le_refl _)
              refine (partOwn_calls A0 n0 d0 l0 w1 hx.rd hx.len (by omega)).mono ?_
              rintro e w2 ⟨u, rfl, hO, hB⟩
              obtain ⟨Y, f, rfl, ha⟩ := own_arg hO I0.out.1
              rw [I0.out.2] at ha ⊢
              exact ⟨_, rfl, ⟨Y, f, rfl, ha⟩, hB, below_next h.glob hB⟩
          | 5, _ =>
            exact flow_call hDa (.call { callee := .value (.func 16), args := #[.tmp 31], argTypes := #[22] }) 22 rfl 16 fun b v w1 ρ h => by
              have e1 := (h.on 4 31 (by kernel_rfl) (h.dep 4 (by kernel_rfl))).trans (h.have_ 4 (by kernel_rfl))
              have ea : (#[.tmp 31] : Array Operand).map ρ = #[.slice A1 n1 d1] := by simp only [List.map_toArray, List.map_cons, List.map_nil, e1]
              refine ⟨_, opRun_call (h.fn _) (by rw [ea]; exact Try.call16 _ _), ?_⟩
              rw [ea]
              have hx := E1.out.below (below_next HB2.out h.glob) (Nat.le_refl _)
              refine (partOwn_calls A1 n1 d1 l1 w1 hx.rd hx.len (by omega)).mono ?_
              rintro e w2 ⟨u, rfl, hO, hB⟩
              obtain ⟨Y, f, rfl, ha⟩ := own_arg hO I1.out.1
              rw [I1.out.2] at ha ⊢
              exact ⟨_, rfl, ⟨Y, f, rfl, ha⟩, hB, below_next h.glob hB⟩
          | 6, _ => exact flow_pure hDa (fun w => Below.refl _ w) (.move (.tmp 2)) 4 rfl fun b v w1 ρ h => ⟨_, by
              have e := h.off 2 (by kernel_rfl)
              unfold opRun
              go_simp, rfl, h.glob⟩
          | 7, _ =>
            exact flow_call hDa (.call { callee := .value (.func 24), args := #[.const (.slice none 0 0), .tmp 29, .tmp 32, .tmp 33], argTypes := #[22, 22, 22, 4] }) 22 rfl 24 fun b v w1 ρ h => by
              obtain ⟨Y1, g1, h1, a1⟩ := h.have_ 2 (by kernel_rfl)
              obtain ⟨Y2, g2, h2, a2⟩ := h.have_ 5 (by kernel_rfl)
              have e1 := (h.on 2 29 (by kernel_rfl) (h.dep 2 (by kernel_rfl))).trans h1
              have e2 := (h.on 5 32 (by kernel_rfl) (h.dep 5 (by kernel_rfl))).trans h2
              have e3 := (h.on 6 33 (by kernel_rfl) (h.dep 6 (by kernel_rfl))).trans (h.have_ 6 (by kernel_rfl))
              have e0 := h.cst (.slice none 0 0)
              have ea : (#[.const (.slice none 0 0), .tmp 29, .tmp 32, .tmp 33] : Array Operand).map ρ = #[.slice none 0 0, .slice Y1 n0 g1, .slice Y2 n1 g2, .bool enc] := by simp only [List.map_toArray, List.map_cons, List.map_nil, e0, e1, e2, e3]
              refine ⟨_, opRun_call (h.fn _) (by rw [ea]; exact Try.call24 _ _), ?_⟩
              rw [ea]
              refine (signing_calls w1 none 0 0 [] Y1 n0 g1 l0 Y2 n1 g2 l1 enc (ArgB.nilB w1) (by omega) a1 (by omega) a2 (by omega)).mono ?_
              rintro e w2 ⟨u, rfl, hO, hB⟩
              rw [ES.out] at hO
              obtain ⟨Y, f, rfl, ha⟩ := own_arg hO IS.out.1
              rw [IS.out.2] at ha ⊢
              exact ⟨_, rfl, ⟨Y, f, rfl, ha⟩, hB, below_next h.glob hB⟩
          | 8, _ => exact flow_pure hDa (fun w => Below.refl _ w) (.assign (.tmp 34)) 22 rfl fun b v w1 ρ h => ⟨v 7, by
              have e := h.on 7 34 (by kernel_rfl) (h.dep 7 (by kernel_rfl))
              unfold opRun
              go_simp, h.have_ 7 (by kernel_rfl), h.glob⟩
        · intro b v wra hall hF hG
          have q0 : v 0 = _ := hF 0 (by decide)
          have q1 : v 1 = _ := hF 1 (by decide)
          have q3 : v 3 = _ := hF 3 (by decide)
          have q4 : v 4 = _ := hF 4 (by decide)
          have q6 : v 6 = _ := hF 6 (by decide)
          obtain ⟨Xa, xa, h8, ha8⟩ : ∃ Y f, v 8 = .slice Y nS f ∧ ArgB wra Y nS f S := hF 8 (by decide)
          generalize v 2 = v2a
          generalize v 5 = v5a
          generalize v 7 = v7a
          simp only [fr, if_true, q0, q1, q3, q4, q6, h8, Act.put, List.setIfInBounds_toArray, List.set_cons_zero, List.set_cons_succ]
          have HGa := hidden (below_next HB2.out hG)
          have HXa := hidden ha8
          have HRA3 := hidden (HRA2.out.below hG HRA2.out.lt)
          have HRB3 := hidden (HRB2.out.below hG HRB2.out.lt)
          clear hF hG hall q0 q1 q3 q4 q6 h8 ha8
          go_wp2
          have hDb : dOk [(0, 35), (1, 36), (2, 37), (3, 38), (4, 39), (5, 40), (6, 41), (7, 42), (8, 8)] 63 = true := by kernel_rfl
          refine reg_flow [(0, 35), (1, 36), (2, 37), (3, 38), (4, 39), (5, 40), (6, 41), (7, 42), (8, 8)] (by kernel_rfl) (by kernel_rfl) hDb (by kernel_rfl) (by kernel_rfl)
            (fun j x wr => match j with
              | 0 => x = .pointer (some ⟨(w.heap.size + 1), 0, none⟩)
              | 1 => x = .slice B0 m0 f0
              | 2 => ∃ Y f, x = .slice Y m0 f ∧ ArgB wr Y m0 f k0
              | 3 => x = .pointer (some ⟨(w.heap.size + 1), 1, none⟩)
              | 4 => x = .slice B1 m1 f1
              | 5 => ∃ Y f, x = .slice Y m1 f ∧ ArgB wr Y m1 f k1
              | 6 => x = .bool enc
              | 7 => ∃ Y f, x = .slice Y nT f ∧ ArgB wr Y nT f T
              | 8 => ∃ Y f, x = .slice Y nT f ∧ ArgB wr Y nT f T
              | _ => True)
            (fun b v wr => Below wra.heap.size wra wr)
            (fun w1 w2 => Below w1.heap.size w1 w2) ?_ ?_ ?_ ?_
          · intro j x w1 w2 hR h
            match j, h with
            | 0, h | 1, h | 3, h | 4, h | 6, h => exact h
            | 2, ⟨Y, f, h1, h2⟩ | 5, ⟨Y, f, h1, h2⟩ | 7, ⟨Y, f, h1, h2⟩ | 8, ⟨Y, f, h1, h2⟩ => exact ⟨Y, f, h1, h2.below hR (Nat.le_refl _)⟩
            | n + 9, _ => trivial
          · intro v
            exact (Below.refl _ _).drew
          · intro i hi
            match i, hi with
            | 0, _ => exact flow_pure hDb (fun w => Below.refl _ w) (.indexAddr 36 (.tmp 4) (.const (.int .i64 0))) 0 rfl fun b v w1 ρ h => ⟨_, opIdx0 (h.off 4 (by kernel_rfl)) (h.cst _), rfl, h.glob⟩
            | 3, _ => exact flow_pure hDb (fun w => Below.refl _ w) (.indexAddr 36 (.tmp 4) (.const (.int .i64 1))) 0 rfl fun b v w1 ρ h => ⟨_, opIdx1 (h.off 4 (by kernel_rfl)) (h.cst _), rfl, h.glob⟩
            | 1, _ => exact flow_pure hDb (fun w => Below.refl _ w) (.load 22 (.tmp 35)) 22 rfl fun b v w1 ρ h => ⟨_, by
                have e := (h.on 0 35 (by kernel_rfl) (h.dep 0 (by kernel_rfl))).trans (h.have_ 0 (by kernel_rfl))
                have c0 := (HRB3.out.below h.glob HRB3.out.lt).cell 0
                unfold opRun
                go_simp, rfl, h.glob⟩
            | 4, _ => exact flow_pure hDb (fun w => Below.refl _ w) (.load 22 (.tmp 38)) 22 rfl fun b v w1 ρ h => ⟨_, by
                have e := (h.on 3 38 (by kernel_rfl) (h.dep 3 (by kernel_rfl))).trans (h.have_ 3 (by kernel_rfl))
                have c0 := (HRB3.out.below h.glob HRB3.out.lt).cell 1
                unfold opRun
                go_simp, rfl, h.glob⟩
            | 2, _ =>
              exact flow_call hDb (.call { callee := .value (.func 16), args := #[.tmp 36], argTypes := #[22] }) 22 rfl 16 fun b v w1 ρ h => by
                have e1 := (h.on 1 36 (by kernel_rfl) (h.dep 1 (by kernel_rfl))).trans (h.have_ 1 (by kernel_rfl))
                have ea : (#[.tmp 36] : Array Operand).map ρ = #[.slice B0 m0 f0] := by simp only [List.map_toArray, List.map_cons, List.map_nil, e1]
                refine ⟨_, opRun_call (h.fn _) (by rw [ea]; exact Try.call16 _ _), ?_⟩
                rw [ea]
                have hx := G0.out.below (below_next HGa.out h.glob) (Nat.le_refl _)
                refine (partOwn_calls B0 m0 f0 k0 w1 hx.rd hx.len (by omega)).mono ?_
                rintro e w2 ⟨u, rfl, hO, hB⟩
                obtain ⟨Y, f, rfl, ha⟩ := own_arg hO J0.out.1
                rw [J0.out.2] at ha ⊢
                exact ⟨_, rfl, ⟨Y, f, rfl, ha⟩, hB, below_next h.glob hB⟩
            | 5, _ =>
              exact flow_call hDb (.call { callee := .value (.func 16), args := #[.tmp 39], argTypes := #[22] }) 22 rfl 16 fun b v w1 ρ h => by
                have e1 := (h.on 4 39 (by kernel_rfl) (h.dep 4 (by kernel_rfl))).trans (h.have_ 4 (by kernel_rfl))
                have ea : (#[.tmp 39] : Array Operand).map ρ = #[.slice B1 m1 f1] := by simp only [List.map_toArray, List.map_cons, List.map_nil, e1]
                refine ⟨_, opRun_call (h.fn _) (by rw [ea]; exact Try.call16 _ _), ?_⟩
                rw [ea]
                have hx := G1.out.below (below_next HGa.out h.glob) (Nat.le_refl _)
                refine (partOwn_calls B1 m1 f1 k1 w1 hx.rd hx.len (by omega)).mono ?_
                rintro e w2 ⟨u, rfl, hO, hB⟩
                obtain ⟨Y, f, rfl, ha⟩ := own_arg hO J1.out.1
                rw [J1.out.2] at ha ⊢
                exact ⟨_, rfl, ⟨Y, f, rfl, ha⟩, hB, below_next h.glob hB⟩
            | 6, _ => exact flow_pure hDb (fun w => Below.refl _ w) (.move (.tmp 2)) 4 rfl fun b v w1 ρ h => ⟨_, by
                have e := h.off 2 (by kernel_rfl)
                unfold opRun
                go_simp, rfl, h.glob⟩
            | 7, _ =>
              exact flow_call hDb (.call { callee := .value (.func 24), args := #[.const (.slice none 0 0), .tmp 37, .tmp 40, .tmp 41], argTypes := #[22, 22, 22, 4] }) 22 rfl 24 fun b v w1 ρ h => by
                obtain ⟨Y1, g1, h1, a1⟩ := h.have_ 2 (by kernel_rfl)
                obtain ⟨Y2, g2, h2, a2⟩ := h.have_ 5 (by kernel_rfl)
                have e1 := (h.on 2 37 (by kernel_rfl) (h.dep 2 (by kernel_rfl))).trans h1
                have e2 := (h.on 5 40 (by kernel_rfl) (h.dep 5 (by kernel_rfl))).trans h2
                have e3 := (h.on 6 41 (by kernel_rfl) (h.dep 6 (by kernel_rfl))).trans (h.have_ 6 (by kernel_rfl))
                have e0 := h.cst (.slice none 0 0)
                have ea : (#[.const (.slice none 0 0), .tmp 37, .tmp 40, .tmp 41] : Array Operand).map ρ = #[.slice none 0 0, .slice Y1 m0 g1, .slice Y2 m1 g2, .bool enc] := by simp only [List.map_toArray, List.map_cons, List.map_nil, e0, e1, e2, e3]
                refine ⟨_, opRun_call (h.fn _) (by rw [ea]; exact Try.call24 _ _), ?_⟩
                rw [ea]
                refine (signing_calls w1 none 0 0 [] Y1 m0 g1 k0 Y2 m1 g2 k1 enc (ArgB.nilB w1) (by omega) a1 (by omega) a2 (by omega)).mono ?_
                rintro e w2 ⟨u, rfl, hO, hB⟩
                rw [ET.out] at hO
                obtain ⟨Y, f, rfl, ha⟩ := own_arg hO IT.out.1
                rw [IT.out.2] at ha ⊢
                exact ⟨_, rfl, ⟨Y, f, rfl, ha⟩, hB, below_next h.glob hB⟩
            | 8, _ => exact flow_pure hDb (fun w => Below.refl _ w) (.assign (.tmp 42)) 22 rfl fun b v w1 ρ h => ⟨v 7, by
                have e := h.on 7 42 (by kernel_rfl) (h.dep 7 (by kernel_rfl))
                unfold opRun
                go_simp, h.have_ 7 (by kernel_rfl), h.glob⟩
          · intro b v wrb hall hF hG
            have q0 : v 0 = _ := hF 0 (by decide)
            have q1 : v 1 = _ := hF 1 (by decide)
            have q3 : v 3 = _ := hF 3 (by decide)
            have q4 : v 4 = _ := hF 4 (by decide)
            have q6 : v 6 = _ := hF 6 (by decide)
            obtain ⟨Xb, xb, h8, ha8⟩ : ∃ Y f, v 8 = .slice Y nT f ∧ ArgB wrb Y nT f T := hF 8 (by decide)
            generalize v 2 = v2b
            generalize v 5 = v5b
            generalize v 7 = v7b
            simp only [fr, if_true, q0, q1, q3, q4, q6, h8, Act.put, List.setIfInBounds_toArray, List.set_cons_zero, List.set_cons_succ]
            have HGb := hidden (below_next HGa.out hG)
            have HXb := hidden ha8
            have HRA4 := (HRA3.out.below hG HRA3.out.lt)
            have HRB4 := (HRB3.out.below hG HRB3.out.lt)
            have ca0 := HRA4.cell 0
            have ca1 := HRA4.cell 1
            have cb0 := HRB4.cell 0
            have cb1 := HRB4.cell 1
            have HXa' := hidden (HXa.out.below hG (Nat.le_refl _))
            clear HRA4 HRB4
            clear hF hG hall q0 q1 q3 q4 q6 h8 ha8
            rcases HC.out with ⟨rfl, rfl⟩ | ⟨rfl, rfl, rfl⟩ | ⟨rfl, rfl, rfl⟩
            all_goals
              clear HC
              go_wp2_with (first
                | (go_at_call 18; first
                  | ((with_reducible refine (P0.out _ HGb.out).mono ?_); rintro e w9 ⟨rfl, rfl⟩)
                  | ((with_reducible refine (P1.out _ HGb.out).mono ?_); rintro e w9 ⟨rfl, rfl⟩)
                  | ((with_reducible refine (PS.out _ _ _ _ _ HXa'.out HXb.out).mono ?_); rintro e w9 ⟨rfl, rfl⟩))
                | (go_at_call 14; go_must (refine (partAwake_calls _).mono ?_; rintro e w4 ⟨rfl, hB4⟩)))
              go_ret
              exact ⟨rfl, below_next HGb.out hB4⟩
end Go.Proofs.Ytmibnnmampfalaa
