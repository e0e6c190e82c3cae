/- The methods of the block cipher, and the numbers that the key wrap xors. -/
import Derived.Test.YticgdbcnknhndaaWrapG
import Derived.Test.YticgdbcnknhndaaFlow
namespace Go.Proofs.Yticgdbcnknhndaa
open Go.RowKit
open WrapPlain (xr xr8 num8 b8)
set_option linter.unusedVariables false
set_option linter.unusedSimpArgs false

theorem mixL_len (seed : Int) (l : List Int) : (mixL seed l).length = 16 := rfl
theorem unmixL_len (seed : Int) (l : List Int) : (unmixL seed l).length = 16 := rfl
theorem run_arrayAt (P : Program) (arr n e : Nat) (hu : P.underlying arr = some (.array n e)) (a : Option Addr) (len c : Nat) (hl : n ≤ len) (W : World) : (Instr.arrayAt arr (.slice a len c)).run P W = .ok (.pointer a) W := by
  simp [Instr.arrayAt, run_underlying hu]
  omega
theorem splice_all (l m : List Int) (h : l.length = 16) (hm : m.length = 16) : splice l 0 (m.take 16) = m := by
  rw [List.take_of_length_le (by omega)]
  unfold splice
  rw [List.take_zero, List.drop_of_length_le (by omega)]
  simp
theorem size_u8 : (Try.prog.info? 5).map (·.size) = some 1 := by kernel_rfl
theorem size_arr16 : (Try.prog.info? 53).map (·.size) = some 16 := by kernel_rfl


set_option maxRecDepth 100000 in
set_option maxHeartbeats 1000000 in
theorem encrypt_calls (seed : Int) (l : List Int) (hl : l.length = 16) (hb : IsB l) (w : World) (g : Nat) (HR : Row w g 5 (nums .u8 l)) :
    Calls Try.prog 108 #[.agg #[.int .u64 seed], .slice (some ⟨g, 0, none⟩) 16 16, .slice (some ⟨g, 0, none⟩) 16 16] w fun e w' =>
      e = .returned (.tuple #[]) ∧ Row w' g 5 (nums .u8 (mixL seed l)) ∧ w.grownBy w' (some g) := by
  have hB := below_alloc0 w (.cells #[.int .u64 seed] 88)
  have hR0 : Row (w.alloc (.cells #[.int .u64 seed] 88)) w.heap.size 88 [.int .u64 seed] := Row.new w _ [_]
  have hRg := HR.alloc (.cells #[.int .u64 seed] 88)
  go_enter Try.func108, Try.ntmps108
  go_wp2
  generalize w.alloc (.cells #[.int .u64 seed] 88) = W at *
  have hD : dOk [(0, 7), (1, 8), (2, 9), (3, 10), (4, 11), (5, 12), (6, 6)] 16 = true := by kernel_rfl
  refine reg_flow [(0, 7), (1, 8), (2, 9), (3, 10), (4, 11), (5, 12), (6, 6)] (by kernel_rfl) (by kernel_rfl) hD (by kernel_rfl) (by kernel_rfl)
    (fun j x wr => match j with
      | 0 => x = .pointer (some ⟨w.heap.size, 0, none⟩)
      | 1 => x = .int .u64 seed
      | 2 => x = .slice (some ⟨g, 0, none⟩) 16 16
      | 3 => x = .pointer (some ⟨g, 0, none⟩)
      | 4 => x = .agg (nums .u8 l).toArray
      | 5 => x = .agg (nums .u8 (mixL seed l)).toArray
      | 6 => ∃ q, x = .pointer (some ⟨q, 0, none⟩) ∧ W.heap.size ≤ q ∧ ∃ L : List Int, L.length = 16 ∧ Row wr q 53 (nums .u8 L)
      | _ => True)
    (fun b v wr => Below W.heap.size W wr ∧ (b 7 = true → ∃ q, v 6 = .pointer (some ⟨q, 0, none⟩) ∧ W.heap.size ≤ q ∧ Row wr q 53 (nums .u8 (mixL seed l))))
    (fun w1 w2 => ∀ q, W.heap.size ≤ q → (∃ L : List Int, L.length = 16 ∧ Row w1 q 53 (nums .u8 L)) → ∃ L : List Int, L.length = 16 ∧ Row w2 q 53 (nums .u8 L)) ?_ ?_ ?_ ?_
  · intro j x w1 w2 hR h
    match j, h with
    | 0, h | 1, h | 2, h | 3, h | 4, h | 5, h => exact h
    | 6, ⟨q, h1, h2, h3⟩ => exact ⟨q, h1, h2, hR q h2 h3⟩
    | n + 7, _ => trivial
  · intro v
    exact ⟨(Below.refl _ _).drew, fun h => by cases h⟩
  · intro i hi
    have later : ∀ {i : Nat} {b : Nat → Bool} {v : Nat → Value} {x : Value} {wr : World} (hn : i ≠ 7), (b 7 = false) → Below W.heap.size W wr → Below W.heap.size W wr ∧ (up b i 7 = true → ∃ q, upv v i x 6 = .pointer (some ⟨q, 0, none⟩) ∧ W.heap.size ≤ q ∧ Row wr q 53 (nums .u8 (mixL seed l))) := fun hn hb hB => ⟨hB, fun h7 => by rw [up_ne (Ne.symm hn), hb] at h7; cases h7⟩
    match i, hi with
    | 0, _ => exact flow_pure hD (fun _ _ _ h => h) (.fieldAddr 88 (.tmp 3) 0) 0 rfl fun b v w1 ρ h => ⟨_, by
        have e3 := h.off 3 (by kernel_rfl)
        unfold opRun
        go_simp, rfl, later (by decide) (h.later 7 (by kernel_rfl)) h.glob.1⟩
    | 1, _ => exact flow_pure hD (fun _ _ _ h => h) (.load 24 (.tmp 7)) 24 rfl fun b v w1 ρ h => ⟨_, by
        have e := (h.on 0 7 (by kernel_rfl) (h.dep 0 (by kernel_rfl))).trans (h.have_ 0 (by kernel_rfl))
        have hc : w1.cell? ⟨w.heap.size, 0, none⟩ = some (.int .u64 seed) := (hR0.below h.glob.1 hR0.lt).cell 0
        unfold opRun
        go_simp, rfl, later (by decide) (h.later 7 (by kernel_rfl)) h.glob.1⟩
    | 2, _ => exact flow_pure hD (fun _ _ _ h => h) (.move (.tmp 2)) 35 rfl fun b v w1 ρ h => ⟨_, by
        have e := h.off 2 (by kernel_rfl)
        unfold opRun
        go_simp, rfl, later (by decide) (h.later 7 (by kernel_rfl)) h.glob.1⟩
    | 3, _ => exact flow_pure hD (fun _ _ _ h => h) (.sliceToArrayPointer 53 (.tmp 9)) 0 rfl fun b v w1 ρ h => ⟨_, by
        have e := (h.on 2 9 (by kernel_rfl) (h.dep 2 (by kernel_rfl))).trans (h.have_ 2 (by kernel_rfl))
        have hat := run_arrayAt Try.prog 53 16 _ Try.underlying53 (some ⟨g, 0, none⟩) 16 16 (by omega) w1
        unfold opRun
        go_simp, rfl, later (by decide) (h.later 7 (by kernel_rfl)) h.glob.1⟩
    | 4, _ => exact flow_pure hD (fun _ _ _ h => h) (.load 53 (.tmp 10)) 53 rfl fun b v w1 ρ h => ⟨_,
        opRun_load_row (hRg.below h.glob.1 hRg.lt) ((h.on 3 10 (by kernel_rfl) (h.dep 3 (by kernel_rfl))).trans (h.have_ 3 (by kernel_rfl))) Try.underlying53 rfl (by rw [nums_len, hl]; exact size_arr16), rfl, later (by decide) (h.later 7 (by kernel_rfl)) h.glob.1⟩
    | 5, _ =>
      exact flow_call hD (.call { callee := .value (.func 33), args := #[.tmp 8, .tmp 11], argTypes := #[24, 53] }) 53 rfl 33 fun b v w1 ρ h => by
        have e1 := (h.on 1 8 (by kernel_rfl) (h.dep 1 (by kernel_rfl))).trans (h.have_ 1 (by kernel_rfl))
        have e2 := (h.on 4 11 (by kernel_rfl) (h.dep 4 (by kernel_rfl))).trans (h.have_ 4 (by kernel_rfl))
        have ea : (#[.tmp 8, .tmp 11] : Array Operand).map ρ = #[.int .u64 seed, blk l] := by simp only [List.map_toArray, List.map_cons, List.map_nil, e1, e2]; rfl
        refine ⟨_, opRun_call (h.fn _) (by rw [ea]; exact Try.call33 _ _), ?_⟩
        rw [ea]
        refine (mixed_calls seed l hl hb w1).mono ?_
        rintro e w2 ⟨rfl, hB2⟩
        refine ⟨_, rfl, rfl, ?_, later (by decide) (h.later 7 (by kernel_rfl)) (below_next h.glob.1 hB2)⟩
        rintro q hq ⟨L, hL, hrow⟩
        exact ⟨L, hL, hrow.below hB2 hrow.lt⟩
    | 6, _ =>
      exact flow_val hD (.alloc 53) 0 rfl fun b v w1 ρ h => by
        refine ⟨.pointer (some ⟨w1.heap.size, 0, none⟩), w1.alloc (.cells (nums .u8 (List.replicate 16 0)).toArray 53), by unfold opRun; go_simp; rfl, ⟨_, rfl, h.glob.1.size, _, by simp, Row.new w1 _ _⟩, ?_, later (by decide) (h.later 7 (by kernel_rfl)) (below_next h.glob.1 (below_alloc0 w1 _))⟩
        rintro q hq ⟨L, hL, hrow⟩
        exact ⟨L, hL, hrow.alloc _⟩
    | 7, _ =>
      exact flow_skip hD (.store 53 (.tmp 6) (.tmp 12)) 0 rfl fun b v w1 ρ h => by
        obtain ⟨q, hq, hWq, L, hL, hrow⟩ := h.have_ 6 (by kernel_rfl)
        have e6 := (h.on 6 6 (by kernel_rfl) (h.dep 6 (by kernel_rfl))).trans hq
        have e5 := (h.on 5 12 (by kernel_rfl) (h.dep 5 (by kernel_rfl))).trans (h.have_ 5 (by kernel_rfl))
        obtain ⟨w2, hrun, hrow2, hg2⟩ := opRun_store_row (P := Try.prog) (ty := 53) (ty' := 0) hrow e6 e5 (by rw [nums_len, mixL_len]; exact size_arr16) (by rw [nums_len, nums_len, hL, mixL_len]) (nums_one _ _)
        refine ⟨w2, hrun, trivial, ?_, h.glob.1.grown hg2 h.glob.1.size (by rintro k hk; cases hk; exact hWq), fun _ => ⟨q, by rw [upv_ne (by decide)]; exact hq, hWq, hrow2⟩⟩
        rintro q' hq' ⟨L', hL', hrow'⟩
        by_cases hqq : q' = q
        · subst hqq; exact ⟨_, mixL_len seed l, hrow2⟩
        · exact ⟨L', hL', hrow'.grown hg2 (by simpa using hqq)⟩
  · intro b v wr hall hF hG
    have f0 : v 0 = _ := hF 0 (by decide)
    have f1 : v 1 = _ := hF 1 (by decide)
    have f2 : v 2 = _ := hF 2 (by decide)
    have f3 : v 3 = _ := hF 3 (by decide)
    have f4 : v 4 = _ := hF 4 (by decide)
    have f5 : v 5 = _ := hF 5 (by decide)
    obtain ⟨q, f6, hWq, hrow⟩ := hG.2 (hall 7 (by decide))
    simp only [fr, if_true, f0, f1, f2, f3, f4, f5, f6, Act.put, List.setIfInBounds_toArray, List.set_cons_zero, List.set_cons_succ]
    have hRw := hRg.below hG.1 hRg.lt
    have hgB := hG.1
    clear hF hG hall f0 f1 f2 f3 f4 f5 f6 v b
    go_wp2_with (with_reducible refine at_dst 15 ?_; go_must (refine walk_copy rfl (.tmp 13) (.tmp 14) rfl Try.underlying35 size_u8 rfl rfl hRw (Rd.row hrow) (mixL_len seed l) (by omega) ?_); intro w3 hR3 hg3 hz3)
    go_end0
    rw [splice_all l _ hl (mixL_len seed l)] at hR3
    refine ⟨rfl, hR3, ?_⟩
    have hb2 : Below w.heap.size w wr := hB.trans (hgB.mono hB.size)
    exact ⟨hg3.os.trans hb2.os, hg3.tape.trans hb2.tape, hg3.output.trans hb2.output, Nat.le_trans hb2.size hg3.size, fun k hk hne => (hg3.block k (Nat.lt_of_lt_of_le hk hb2.size) hne).trans (hb2.block k hk)⟩
set_option maxRecDepth 100000 in
set_option maxHeartbeats 1000000 in
theorem decrypt_calls (seed : Int) (l : List Int) (hl : l.length = 16) (hb : IsB l) (w : World) (g : Nat) (HR : Row w g 5 (nums .u8 l)) :
    Calls Try.prog 107 #[.agg #[.int .u64 seed], .slice (some ⟨g, 0, none⟩) 16 16, .slice (some ⟨g, 0, none⟩) 16 16] w fun e w' =>
      e = .returned (.tuple #[]) ∧ Row w' g 5 (nums .u8 (unmixL seed l)) ∧ w.grownBy w' (some g) := by
  have hB := below_alloc0 w (.cells #[.int .u64 seed] 88)
  have hR0 : Row (w.alloc (.cells #[.int .u64 seed] 88)) w.heap.size 88 [.int .u64 seed] := Row.new w _ [_]
  have hRg := HR.alloc (.cells #[.int .u64 seed] 88)
  go_enter Try.func107, Try.ntmps107
  go_wp2
  generalize w.alloc (.cells #[.int .u64 seed] 88) = W at *
  have hD : dOk [(0, 7), (1, 8), (2, 9), (3, 10), (4, 11), (5, 12), (6, 6)] 16 = true := by kernel_rfl
  refine reg_flow [(0, 7), (1, 8), (2, 9), (3, 10), (4, 11), (5, 12), (6, 6)] (by kernel_rfl) (by kernel_rfl) hD (by kernel_rfl) (by kernel_rfl)
    (fun j x wr => match j with
      | 0 => x = .pointer (some ⟨w.heap.size, 0, none⟩)
      | 1 => x = .int .u64 seed
      | 2 => x = .slice (some ⟨g, 0, none⟩) 16 16
      | 3 => x = .pointer (some ⟨g, 0, none⟩)
      | 4 => x = .agg (nums .u8 l).toArray
      | 5 => x = .agg (nums .u8 (unmixL seed l)).toArray
      | 6 => ∃ q, x = .pointer (some ⟨q, 0, none⟩) ∧ W.heap.size ≤ q ∧ ∃ L : List Int, L.length = 16 ∧ Row wr q 53 (nums .u8 L)
      | _ => True)
    (fun b v wr => Below W.heap.size W wr ∧ (b 7 = true → ∃ q, v 6 = .pointer (some ⟨q, 0, none⟩) ∧ W.heap.size ≤ q ∧ Row wr q 53 (nums .u8 (unmixL seed l))))
    (fun w1 w2 => ∀ q, W.heap.size ≤ q → (∃ L : List Int, L.length = 16 ∧ Row w1 q 53 (nums .u8 L)) → ∃ L : List Int, L.length = 16 ∧ Row w2 q 53 (nums .u8 L)) ?_ ?_ ?_ ?_
  · intro j x w1 w2 hR h
    match j, h with
    | 0, h | 1, h | 2, h | 3, h | 4, h | 5, h => exact h
    | 6, ⟨q, h1, h2, h3⟩ => exact ⟨q, h1, h2, hR q h2 h3⟩
    | n + 7, _ => trivial
  · intro v
    exact ⟨(Below.refl _ _).drew, fun h => by cases h⟩
  · intro i hi
    have later : ∀ {i : Nat} {b : Nat → Bool} {v : Nat → Value} {x : Value} {wr : World} (hn : i ≠ 7), (b 7 = false) → Below W.heap.size W wr → Below W.heap.size W wr ∧ (up b i 7 = true → ∃ q, upv v i x 6 = .pointer (some ⟨q, 0, none⟩) ∧ W.heap.size ≤ q ∧ Row wr q 53 (nums .u8 (unmixL seed l))) := fun hn hb hB => ⟨hB, fun h7 => by rw [up_ne (Ne.symm hn), hb] at h7; cases h7⟩
    match i, hi with
    | 0, _ => exact flow_pure hD (fun _ _ _ h => h) (.fieldAddr 88 (.tmp 3) 0) 0 rfl fun b v w1 ρ h => ⟨_, by
        have e3 := h.off 3 (by kernel_rfl)
        unfold opRun
        go_simp, rfl, later (by decide) (h.later 7 (by kernel_rfl)) h.glob.1⟩
    | 1, _ => exact flow_pure hD (fun _ _ _ h => h) (.load 24 (.tmp 7)) 24 rfl fun b v w1 ρ h => ⟨_, by
        have e := (h.on 0 7 (by kernel_rfl) (h.dep 0 (by kernel_rfl))).trans (h.have_ 0 (by kernel_rfl))
        have hc : w1.cell? ⟨w.heap.size, 0, none⟩ = some (.int .u64 seed) := (hR0.below h.glob.1 hR0.lt).cell 0
        unfold opRun
        go_simp, rfl, later (by decide) (h.later 7 (by kernel_rfl)) h.glob.1⟩
    | 2, _ => exact flow_pure hD (fun _ _ _ h => h) (.move (.tmp 2)) 35 rfl fun b v w1 ρ h => ⟨_, by
        have e := h.off 2 (by kernel_rfl)
        unfold opRun
        go_simp, rfl, later (by decide) (h.later 7 (by kernel_rfl)) h.glob.1⟩
    | 3, _ => exact flow_pure hD (fun _ _ _ h => h) (.sliceToArrayPointer 53 (.tmp 9)) 0 rfl fun b v w1 ρ h => ⟨_, by
        have e := (h.on 2 9 (by kernel_rfl) (h.dep 2 (by kernel_rfl))).trans (h.have_ 2 (by kernel_rfl))
        have hat := run_arrayAt Try.prog 53 16 _ Try.underlying53 (some ⟨g, 0, none⟩) 16 16 (by omega) w1
        unfold opRun
        go_simp, rfl, later (by decide) (h.later 7 (by kernel_rfl)) h.glob.1⟩
    | 4, _ => exact flow_pure hD (fun _ _ _ h => h) (.load 53 (.tmp 10)) 53 rfl fun b v w1 ρ h => ⟨_,
        opRun_load_row (hRg.below h.glob.1 hRg.lt) ((h.on 3 10 (by kernel_rfl) (h.dep 3 (by kernel_rfl))).trans (h.have_ 3 (by kernel_rfl))) Try.underlying53 rfl (by rw [nums_len, hl]; exact size_arr16), rfl, later (by decide) (h.later 7 (by kernel_rfl)) h.glob.1⟩
    | 5, _ =>
      exact flow_call hD (.call { callee := .value (.func 35), args := #[.tmp 8, .tmp 11], argTypes := #[24, 53] }) 53 rfl 35 fun b v w1 ρ h => by
        have e1 := (h.on 1 8 (by kernel_rfl) (h.dep 1 (by kernel_rfl))).trans (h.have_ 1 (by kernel_rfl))
        have e2 := (h.on 4 11 (by kernel_rfl) (h.dep 4 (by kernel_rfl))).trans (h.have_ 4 (by kernel_rfl))
        have ea : (#[.tmp 8, .tmp 11] : Array Operand).map ρ = #[.int .u64 seed, blk l] := by simp only [List.map_toArray, List.map_cons, List.map_nil, e1, e2]; rfl
        refine ⟨_, opRun_call (h.fn _) (by rw [ea]; exact Try.call35 _ _), ?_⟩
        rw [ea]
        refine (mixedBack_calls seed l hl hb w1).mono ?_
        rintro e w2 ⟨rfl, hB2⟩
        refine ⟨_, rfl, rfl, ?_, later (by decide) (h.later 7 (by kernel_rfl)) (below_next h.glob.1 hB2)⟩
        rintro q hq ⟨L, hL, hrow⟩
        exact ⟨L, hL, hrow.below hB2 hrow.lt⟩
    | 6, _ =>
      exact flow_val hD (.alloc 53) 0 rfl fun b v w1 ρ h => by
        refine ⟨.pointer (some ⟨w1.heap.size, 0, none⟩), w1.alloc (.cells (nums .u8 (List.replicate 16 0)).toArray 53), by unfold opRun; go_simp; rfl, ⟨_, rfl, h.glob.1.size, _, by simp, Row.new w1 _ _⟩, ?_, later (by decide) (h.later 7 (by kernel_rfl)) (below_next h.glob.1 (below_alloc0 w1 _))⟩
        rintro q hq ⟨L, hL, hrow⟩
        exact ⟨L, hL, hrow.alloc _⟩
    | 7, _ =>
      exact flow_skip hD (.store 53 (.tmp 6) (.tmp 12)) 0 rfl fun b v w1 ρ h => by
        obtain ⟨q, hq, hWq, L, hL, hrow⟩ := h.have_ 6 (by kernel_rfl)
        have e6 := (h.on 6 6 (by kernel_rfl) (h.dep 6 (by kernel_rfl))).trans hq
        have e5 := (h.on 5 12 (by kernel_rfl) (h.dep 5 (by kernel_rfl))).trans (h.have_ 5 (by kernel_rfl))
        obtain ⟨w2, hrun, hrow2, hg2⟩ := opRun_store_row (P := Try.prog) (ty := 53) (ty' := 0) hrow e6 e5 (by rw [nums_len, unmixL_len]; exact size_arr16) (by rw [nums_len, nums_len, hL, unmixL_len]) (nums_one _ _)
        refine ⟨w2, hrun, trivial, ?_, h.glob.1.grown hg2 h.glob.1.size (by rintro k hk; cases hk; exact hWq), fun _ => ⟨q, by rw [upv_ne (by decide)]; exact hq, hWq, hrow2⟩⟩
        rintro q' hq' ⟨L', hL', hrow'⟩
        by_cases hqq : q' = q
        · subst hqq; exact ⟨_, unmixL_len seed l, hrow2⟩
        · exact ⟨L', hL', hrow'.grown hg2 (by simpa using hqq)⟩
  · intro b v wr hall hF hG
    have f0 : v 0 = _ := hF 0 (by decide)
    have f1 : v 1 = _ := hF 1 (by decide)
    have f2 : v 2 = _ := hF 2 (by decide)
    have f3 : v 3 = _ := hF 3 (by decide)
    have f4 : v 4 = _ := hF 4 (by decide)
    have f5 : v 5 = _ := hF 5 (by decide)
    obtain ⟨q, f6, hWq, hrow⟩ := hG.2 (hall 7 (by decide))
    simp only [fr, if_true, f0, f1, f2, f3, f4, f5, f6, Act.put, List.setIfInBounds_toArray, List.set_cons_zero, List.set_cons_succ]
    have hRw := hRg.below hG.1 hRg.lt
    have hgB := hG.1
    clear hF hG hall f0 f1 f2 f3 f4 f5 f6 v b
    go_wp2_with (with_reducible refine at_dst 15 ?_; go_must (refine walk_copy rfl (.tmp 13) (.tmp 14) rfl Try.underlying35 size_u8 rfl rfl hRw (Rd.row hrow) (unmixL_len seed l) (by omega) ?_); intro w3 hR3 hg3 hz3)
    go_end0
    rw [splice_all l _ hl (unmixL_len seed l)] at hR3
    refine ⟨rfl, hR3, ?_⟩
    have hb2 : Below w.heap.size w wr := hB.trans (hgB.mono hB.size)
    exact ⟨hg3.os.trans hb2.os, hg3.tape.trans hb2.tape, hg3.output.trans hb2.output, Nat.le_trans hb2.size hg3.size, fun k hk hne => (hg3.block k (Nat.lt_of_lt_of_le hk hb2.size) hne).trans (hb2.block k hk)⟩
end Go.Proofs.Yticgdbcnknhndaa
