/- Unwrap: what is wrapped is opened. -/
import Derived.Test.YticgdbcnknhndaaWrapJ
namespace Go.Proofs.Yticgdbcnknhndaa
open Go.RowKit
open WrapPlain (xr xr8 num8 b8)
set_option linter.unusedVariables false
set_option linter.unusedSimpArgs false

theorem newErr_calls (s : ByteArray) (w : World) :
    Calls Try.prog 73 #[.string s] w fun e w' => e = .returned (.iface 122 (.pointer (some ⟨w.heap.size, 0, none⟩))) ∧ Below w.heap.size w w' := by
  go_enter Try.func73, Try.ntmps73
  go_wp2
  go_ret
  exact ⟨rfl, below_alloc0 _ _⟩
theorem ws_start0 {w wr : World} {B n : Nat} {ws : List (List Int)} {C16 C8 : Array Value} (h16 : C16 = (nums .u8 (List.replicate 16 0)).toArray) (h8 : C8 = (nums .u8 (List.replicate 8 0)).toArray) (hBr : Below B w wr) (hS : SU wr B n n ws) :
    Below B w ((wr.alloc (.cells C16 5)).alloc (.cells C8 5)) ∧ WS ((wr.alloc (.cells C16 5)).alloc (.cells C8 5)) B n ws (List.replicate 16 0) (List.replicate 8 0) := by
  refine ws_start (w4 := (wr.alloc (.cells C16 5)).alloc (.cells C8 5)) h8 hBr hS (Below.refl _ _) ?_ (World.grownBy.refl _ _)
  subst h16
  have := (Row.new wr 5 (nums .u8 (List.replicate 16 0))).alloc (.cells C8 5)
  rwa [hS.size] at this

set_option maxRecDepth 10000 in
set_option maxHeartbeats 1000000 in
theorem unwrap_calls (seed : Int) (A : Option Addr) (m c : Nat) (l : List Int) (w : World) (h : Rd w A (nums .u8 l)) (hl : l.length = 8 * (m + 1)) (h0 : 0 < m) (hm : m ≤ 1000) (hc : 8 * (m + 1) ≤ c) (hb : IsB l) :
    Calls Try.prog 57 #[.iface 88 (.agg #[.int .u64 seed]), .slice A (8 * (m + 1)) c] w fun e w' => Below w.heap.size w w' ∧
      (((WrapPlain.openS (mixC seed) m l).1 = WrapPlain.iv ∧ ∃ v, e = .returned (.tuple #[v, .nilIface]) ∧ Own w' w.heap.size 5 v (nums .u8 (WrapPlain.openB (mixC seed) m l))) ∨
       ((WrapPlain.openS (mixC seed) m l).1 ≠ WrapPlain.iv ∧ ∃ a, e = .returned (.tuple #[.slice none 0 0, .iface 122 (.pointer (some a))]))) := by
  have hnn : Int.tmod (8 * ((m : Int) + 1)) 8 = 0 := by rw [Int.tmod_eq_emod_of_nonneg (by omega)]; omega
  have hqq : Int.tdiv (8 * ((m : Int) + 1)) 8 = (m : Int) + 1 := by rw [Int.tdiv_eq_ediv_of_nonneg (by omega)]; omega
  have hlen8 : ¬ (8 * ((m : Int) + 1) < 16) := by omega
  have hrS := hidden (WrapPlain.openS_ok (mixC seed) h0 hb hl)
  have hws : ((l.drop 8).length = 8 * m) := by rw [List.length_drop]; omega
  go_enter Try.func57, Try.ntmps57
  go_wp2_with (with_reducible refine at_dst 29 ?_; go_must (refine walk_make rfl _ _ (n := m) rfl Try.underlying58 info_bytes rfl rfl rfl (by omega) (by omega) (by omega) (by omega) ?_))
  refine wpAbs (fun W => Below w.heap.size w W ∧ SU W w.heap.size m 0 (WrapPlain.words m (l.drop 8))) ⟨below_alloc0 w _, ⟨by rw [slis_zero]; exact Row.new w _ _, by simp, by omega⟩⟩ ?_
  rintro W ⟨hB, hS⟩
  generalize hbb : w.heap.size = B at *
  have hBB := hidden hbb
  clear hbb
  go_loopw [32] (fun i wr => ∃ k : Nat, k ≤ m ∧ i = .int .i64 k ∧ Below B w wr ∧ SU wr B m k (WrapPlain.words m (l.drop 8))) (fun i _ => m - (intOf i).toNat)
  case atStart => exact ⟨0, by omega, rfl, hB, hS⟩
  case round =>
    obtain ⟨k, hk, rfl, hBr, hSr⟩ := hrel
    clear hB hS W
    by_cases hlt : k < m
    · have hsz := hSr.size
      have HS := hidden hSr
      have c1 : (wr.alloc (.cells #[.int .u8 0, .int .u8 0, .int .u8 0, .int .u8 0, .int .u8 0, .int .u8 0, .int .u8 0, .int .u8 0] 5)).cell? ⟨B, k, none⟩ = (slis B m k)[k]? := (hSr.row.alloc _).cell k
      have f1 : (wr.alloc (.cells #[.int .u8 0, .int .u8 0, .int .u8 0, .int .u8 0, .int .u8 0, .int .u8 0, .int .u8 0, .int .u8 0] 5)).frozen? ⟨B, k, none⟩ = false := (hSr.row.alloc _).free k
      rw [List.getElem?_eq_getElem (by rw [slis_len]; omega)] at c1
      clear hSr
      go_wp2_with (with_reducible refine at_dst 37 ?_; go_must (refine walk_make rfl _ _ (n := 8) rfl Try.underlying35 info_u8 rfl rfl rfl (by omega) (by omega) (by omega) (by omega) ?_))
      refine wpAbs (fun W => Below B w W ∧ Row W B 35 (slis B m (k + 1)) ∧ W.heap.size = B + 1 + (k + 1) ∧ Row W (B + 1 + k) 5 (nums .u8 (List.replicate 8 0)) ∧ ∀ i, i < k → Row W (B + 1 + i) 5 (nums .u8 ((WrapPlain.words m (l.drop 8)).getD i []))) ?_ ?_
      · have hSr := HS.out
        have hB2 : Below B w (wr.alloc (.cells #[.int .u8 0, .int .u8 0, .int .u8 0, .int .u8 0, .int .u8 0, .int .u8 0, .int .u8 0, .int .u8 0] 5)) := hBr.alloc (by omega) _
        refine ⟨hB2.grown (grown_set _ B k _) (by simp; omega) (by simp), ?_, by simp; omega, ?_, fun i hi => ?_⟩
        · have := (hSr.row.alloc (.cells #[.int .u8 0, .int .u8 0, .int .u8 0, .int .u8 0, .int .u8 0, .int .u8 0, .int .u8 0, .int .u8 0] 5)).set k (.slice (some ⟨B + 1 + k, 0, none⟩) 8 8)
          rwa [slis_set B m k hlt] at this
        · refine Row.grown ?_ (grown_set _ B k _) (by simp; omega)
          have := Row.new wr 5 (nums .u8 (List.replicate 8 0))
          rwa [hsz] at this
        · exact ((hSr.each i hi).alloc _).grown (grown_set _ B k _) (by simp; omega)
      rintro W ⟨hBW, hRG, hszW, hRk, hEach⟩
      have hAW := (h.below hBW (Nat.le_of_eq hBB.out))
      have d1 := hRG.cell k
      rw [slis_at B m (k + 1) k hlt (by omega)] at d1
      have hw : ((l.drop (8 * (k + 1))).take 8) = (WrapPlain.words m (l.drop 8)).getD k [] := by
        rw [WrapPlain.words_get m (l.drop 8) k hlt, List.drop_drop, show 8 + 8 * k = 8 * (k + 1) by omega]
      have hwk0 : IntKind.i64.wrap ((k : Int) + 1) = (k : Int) + 1 := by rw [IntKind.wrap_i64]; omega
      have hwk : IntKind.i64.wrap (((k : Int) + 1) * 8) = ((k : Int) + 1) * 8 := by rw [IntKind.wrap_i64]; omega
      have hsl := fun W' => run_from (W := W') Try.underlying35 size_u8 A (8 * (m + 1)) c (((k : Int) + 1) * 8) (8 * (k + 1)) (by omega) (by omega) hc
      clear c1 f1 hBr
      go_still_tail 9, (by kernel_rfl)
      change wpList _ _ _ _ _ W.drew
      have hRd := Rd.drop (vs := nums .u8 l) hAW (8 * (k + 1)) c (by rw [nums_len]; omega)
      rw [show (nums .u8 l).drop (8 * (k + 1)) = nums .u8 (l.drop (8 * (k + 1))) from (List.map_drop ..).symm] at hRd
      refine walk_copy (L := List.replicate 8 0) rfl (.tmp 42) (.tmp 47) rfl Try.underlying35 size_u8 rfl rfl hRk.drew hRd (by rw [List.length_drop]; omega) (by simp) ?_
      intro w3 hR3 hg3 hz3
      rw [splice8' _ _ (by simp) (by rw [List.length_drop]; omega), hw] at hR3
      have hSn : SU w3 B m (k + 1) (WrapPlain.words m (l.drop 8)) ∧ Below B w w3 := by
        have hg4 : W.grownBy w3 (some (B + 1 + k)) := ⟨hg3.os, hg3.tape, hg3.output, hg3.size, hg3.block⟩
        refine ⟨⟨hRG.grown hg4 (by simp; omega), hz3.trans hszW, fun i hi => ?_⟩, hBW.grown hg4 (by omega) (by rintro q hq; cases hq; omega)⟩
        by_cases hik : i = k
        · subst hik; exact hR3
        · exact (hEach i (by omega)).grown hg4 (by simp; omega)
      clear hz3 hR3 hg3 hRd hAW hRk hRG hEach d1 hsl hwk hwk0
      go_wp2
      go_roundw
      case rel => exact ⟨k + 1, by omega, by go_num, hSn.2, hSn.1⟩
      case measure => simp [intOf]; omega
    · obtain rfl : k = m := by omega
      have hS := hSr
      have hsz := hS.size
      clear hSr
      go_wp2_with (first
        | (with_reducible refine at_dst 50 ?_; go_must (refine walk_make rfl _ _ (n := 16) rfl Try.underlying35 info_u8 rfl rfl rfl (by omega) (by omega) (by omega) (by omega) ?_))
        | (with_reducible refine at_dst 51 ?_; go_must (refine walk_make rfl _ _ (n := 8) rfl Try.underlying35 info_u8 rfl rfl rfl (by omega) (by omega) (by omega) (by omega) ?_)))
      refine wpAbs (fun W => Below B w W ∧ WS W B k (WrapPlain.words k (l.drop 8)) (List.replicate 16 0) (List.replicate 8 0)) (ws_start0 rfl rfl hBr hS) ?_
      rintro W ⟨hBW, hWW⟩
      have hAW := h.below hBW (Nat.le_of_eq hBB.out)
      have hu1 : ∀ W', (Instr.slice 35 (.slice (some ⟨B + 1 + k, 0, none⟩) 16 16) none (some (.int .i64 8)) none).run Try.prog W' = .ok (.slice (some ⟨B + 1 + k, 0, none⟩) 8 16) W' := fun W' => run_upto (W := W') Try.underlying35 size_u8 (some ⟨B + 1 + k, 0, none⟩) 16 16 8 8 rfl (by omega)
      have hu2 : ∀ W', (Instr.slice 35 (.slice A (8 * (k + 1)) c) none (some (.int .i64 8)) none).run Try.prog W' = .ok (.slice A 8 c) W' := fun W' => run_upto (W := W') Try.underlying35 size_u8 A (8 * (k + 1)) c 8 8 rfl (by omega)
      clear hBr hS hsz
      go_still_tail 4, (by kernel_rfl)
      change wpList _ _ _ _ _ W.drew
      refine walk_copy (L := List.replicate 16 0) (M := l.take 8) rfl (.tmp 53) (.tmp 55) rfl Try.underlying35 size_u8 rfl rfl hWW.buf.drew (by have := (Rd.take hAW.drewOne 8); rwa [show (nums .u8 l).take 8 = nums .u8 (l.take 8) from (List.map_take ..).symm] at this) (by rw [List.length_take]; omega) (by simp) ?_
      intro w5 hR6 hg6 hz6
      have ht8 : (l.take 8).length = 8 := by rw [List.length_take]; omega
      rw [show splice (List.replicate 16 (0 : Int)) 0 ((l.take 8).take 8) = l.take 8 ++ List.replicate 8 0 from splice_lo8 _ ht8] at hR6
      have hW8 := hWW.drew.setBuf hR6 hg6
      have hB8 : Below B w w5 := hBW.drew.grown hg6 (by have := hWW.row.lt; simp; omega) (by rintro q hq; cases hq; omega)
      clear hR6 hg6 hz6 hu1 hu2 hAW hWW hBW h
      have hok0 : WrapPlain.OkS (l.take 8, WrapPlain.words k (l.drop 8)) ∧ (WrapPlain.words k (l.drop 8)).length = k :=
        ⟨⟨⟨ht8, fun y hy => hb y (List.mem_of_mem_take hy)⟩, WrapPlain.words_ok k _ (fun y hy => hb y (List.mem_of_mem_drop hy)) hws⟩, WrapPlain.words_len k _⟩
      have Hok0 := hidden hok0
      have hk0 : ¬ k = 0 := by omega
      clear hok0 hb ht8 hws hl
      have hw6 : IntKind.i64.wrap (6 * (k : Int)) = 6 * (k : Int) := by rw [IntKind.wrap_i64]; omega
      go_wp2
      go_loopw [11] (fun i wr => ∃ r : Nat, r ≤ 6 * k ∧ i = .int .i64 ((r : Int) - 1) ∧ Below B w wr ∧ ∃ S x tb, Hid ((WrapPlain.OkS S ∧ S.2.length = k) ∧ WrapPlain.downs (mixC seed) k r S = WrapPlain.openS (mixC seed) k l) ∧ x.length = 8 ∧ tb.length = 8 ∧ WS wr B k S.2 (S.1 ++ x) tb) (fun i _ => (intOf i + 1).toNat)
      case atStart => exact ⟨6 * k, by omega, by go_num, hB8, _, _, _, hidden ⟨Hok0.out, rfl⟩, by simp, by simp, hW8⟩
      case round =>
        obtain ⟨r, hr, hi, hBr, S, x, tb, hst, hx, htb, hWr⟩ := hrel
        clear hB8 hW8 w5
        rcases r with _ | t
        · rw [show ((0 : Nat) : Int) - 1 = -1 from rfl] at hi
          subst hi
          obtain ⟨⟨hokS, hS2⟩, hSo⟩ := hst.out
          have hSo' : S = WrapPlain.openS (mixC seed) k l := hSo
          have hS1 : S.1.length = 8 ∧ IsB S.1 := by obtain ⟨h1, _⟩ := hokS; exact h1
          have hIv : WrapPlain.iv.length = 8 ∧ IsB WrapPlain.iv := WrapPlain.iv_isW
          have HSo := hidden hSo'
          have HopB : Hid (WrapPlain.openB (mixC seed) k l = S.2.flatten) := hidden (by rw [hSo']; rfl)
          have h8 : Hid (∀ x ∈ S.2, x.length = 8) := hidden (by obtain ⟨_, h1⟩ := hokS; exact fun x hx => (h1 x hx).1)
          have hbB : w.heap.size ≤ B := Nat.le_of_eq hBB.out
          clear hSo hSo' hst hrS hokS
          have hlt0 := hWr.buf.lt
          have HW := hidden hWr
          have HB := hidden hBr
          clear hWr hBr
          go_wp2
          obtain ⟨r, hr⟩ : ∃ r : Int, (S.1 = WrapPlain.iv ∧ r = 1) ∨ (S.1 ≠ WrapPlain.iv ∧ r = 0) := by
            by_cases h : S.1 = WrapPlain.iv
            · exact ⟨1, .inl ⟨h, rfl⟩⟩
            · exact ⟨0, .inr ⟨h, rfl⟩⟩
          have Hr := hidden hr
          clear hr
          have hD : dOk [(0, 108), (1, 109), (2, 110), (3, 111), (4, 112)] 133 = true := by kernel_rfl
          refine reg_flow [(0, 108), (1, 109), (2, 110), (3, 111), (4, 112)] (by kernel_rfl) (by kernel_rfl) hD (by kernel_rfl) (by kernel_rfl)
            (fun j x w1 => match j with
              | 0 => x = .slice (some ⟨B + 1 + k, 0, none⟩) 16 16
              | 1 => x = .slice (some ⟨B + 1 + k, 0, none⟩) 8 16
              | 2 => ∃ q, x = .slice (some ⟨q, 0, none⟩) 8 8 ∧ wr.heap.size ≤ q ∧ Row w1 q 5 (nums .u8 WrapPlain.iv)
              | 3 => x = .int .i64 r
              | 4 => x = .bool (r == 0)
              | _ => True)
            (fun b v w1 => Below wr.heap.size wr w1)
            (fun w1 w2 => ∀ q, wr.heap.size ≤ q → Row w1 q 5 (nums .u8 WrapPlain.iv) → Row w2 q 5 (nums .u8 WrapPlain.iv)) ?_ ?_ ?_ ?_
          · intro j x w1 w2 hR h
            match j, h with
            | 0, h | 1, h | 3, h | 4, h => exact h
            | 2, ⟨q, h1, h2, h3⟩ => exact ⟨q, h1, h2, hR q h2 h3⟩
            | n + 5, _ => trivial
          · intro v
            exact (Below.refl _ _).drew
          · intro i hi
            match i, hi with
            | 0, _ => exact flow_pure hD (fun _ _ _ h => h) (.move (.tmp 9)) 35 rfl fun b v w1 ρ h => ⟨_, by
                have e := h.off 9 (by kernel_rfl)
                unfold opRun
                go_simp, rfl, h.glob⟩
            | 1, _ => exact flow_pure hD (fun _ _ _ h => h) (.slice 35 (.tmp 108) none (some (.const (.int .i64 8))) none) 35 rfl fun b v w1 ρ h => ⟨_, by
                have e := (h.on 0 108 (by kernel_rfl) (h.dep 0 (by kernel_rfl))).trans (h.have_ 0 (by kernel_rfl))
                have hu1 := run_upto (W := w1) Try.underlying35 size_u8 (some ⟨B + 1 + k, 0, none⟩) 16 16 8 8 rfl (by omega)
                have ec := h.cst (.int .i64 8)
                unfold opRun
                go_simp, rfl, h.glob⟩
            | 2, _ =>
              exact flow_call hD (.call { callee := .value (.func 77), args := #[], argTypes := #[] }) 35 rfl 77 fun b v w1 ρ h => by
                refine ⟨_, opRun_call (h.fn _) (Try.call77 _ _), ?_⟩
                rw [show (#[] : Array Operand).map ρ = #[] by simp]
                refine (iv_calls w1).mono ?_
                rintro e w2 ⟨rfl, hR2, hB2⟩
                refine ⟨_, rfl, ⟨_, rfl, h.glob.size, hR2⟩, ?_, below_next h.glob hB2⟩
                intro q hq hrow
                exact hrow.below hB2 hrow.lt
            | 3, _ =>
              exact flow_call hD (.call { callee := .value (.func 76), args := #[.tmp 109, .tmp 110], argTypes := #[35, 35] }) 3 rfl 76 fun b v w1 ρ h => by
                have e1 := (h.on 1 109 (by kernel_rfl) (h.dep 1 (by kernel_rfl))).trans (h.have_ 1 (by kernel_rfl))
                obtain ⟨q, hq, _, hrow⟩ := h.have_ 2 (by kernel_rfl)
                have e2 := (h.on 2 110 (by kernel_rfl) (h.dep 2 (by kernel_rfl))).trans hq
                have ea : (#[.tmp 109, .tmp 110] : Array Operand).map ρ = #[.slice (some ⟨B + 1 + k, 0, none⟩) 8 16, .slice (some ⟨q, 0, none⟩) 8 8] := by simp only [List.map_toArray, List.map_cons, List.map_nil, e1, e2]
                refine ⟨_, opRun_call (h.fn _) (by rw [ea]; exact Try.call76 _ _), ?_⟩
                rw [ea]
                refine (cteq_calls _ _ 8 16 8 S.1 WrapPlain.iv w1 (Rd.of_row (HW.out.buf.below h.glob hlt0) 0 8 (fun i hi => lo_cells i hi)) hS1.1 (Rd.row hrow) hIv.1 hS1.2 hIv.2 (by omega) r Hr.out).mono ?_
                rintro e w2 ⟨rfl, m, rfl⟩
                exact ⟨_, rfl, rfl, fun q hq hrow => hrow.drewN m, below_drewN0 h.glob m⟩
            | 4, _ => exact flow_pure hD (fun _ _ _ h => h) (.binOp .eql 3 (.tmp 111) (.const (.int .i64 0)) 3) 4 rfl fun b v w1 ρ h => ⟨_, by
                have e := (h.on 3 111 (by kernel_rfl) (h.dep 3 (by kernel_rfl))).trans (h.have_ 3 (by kernel_rfl))
                have ec := h.cst (.int .i64 0)
                unfold opRun
                go_simp, rfl, h.glob⟩
          · intro b v w1 hall hF hG
            have f0 : v 0 = _ := hF 0 (by decide)
            have f1 : v 1 = _ := hF 1 (by decide)
            obtain ⟨q, f2, _, _⟩ := hF 2 (by decide)
            have f3 : v 3 = _ := hF 3 (by decide)
            have f4 : v 4 = _ := hF 4 (by decide)
            simp only [fr, if_true, f0, f1, f2, f3, f4, Act.put, List.setIfInBounds_toArray, List.set_cons_zero, List.set_cons_succ]
            have hB1 : Below B w w1 := HB.out.trans (hG.mono (by omega))
            have hEr : ∀ i, i < k → Row w1 (B + 1 + i) 5 (nums .u8 (S.2.getD i [])) := fun i hi => (HW.out.each i hi).below hG (by omega)
            have hGr : Row w1 B 35 (slis B k k) := HW.out.row.below hG (by omega)
            have hw1s := hG.size
            clear hF hG hall f0 f1 f2 f3 f4 v b HW HB
            rcases Hr.out with ⟨hiv, rfl⟩ | ⟨hiv, rfl⟩
            · go_wp2_with (with_reducible refine at_dst 116 ?_; go_must (refine walk_make rfl _ _ (n := 8 * k) rfl Try.underlying35 info_u8 rfl rfl rfl (by omega) (by omega) (by omega) (by omega) ?_))
              refine wpAbs (fun W => Below B w W ∧ Row W w1.heap.size 5 (nums .u8 (outAt [] S.2 k 0)) ∧ Row W B 35 (slis B k k) ∧ ∀ i, i < k → Row W (B + 1 + i) 5 (nums .u8 (S.2.getD i []))) ⟨hB1.alloc (by omega) _, by have := Row.new w1 5 (nums .u8 (List.replicate (8 * k) 0)); simpa [nums, outAt] using this, hGr.alloc _, fun i hi => (hEr i hi).alloc _⟩ ?_
              rintro W2 ⟨hB6, hR6, hG6, hW6⟩
              generalize hOb : w1.heap.size = O at *
              have hbO : B ≤ O := by omega
              have hO2 : B + 1 + k < O := by omega
              clear hOb hB1 hGr hEr
              go_loopw [119] (fun i wr => ∃ m : Nat, m ≤ k ∧ i = .int .i64 m ∧ Below B w wr ∧ Row wr O 5 (nums .u8 (outAt [] S.2 k m)) ∧ Row wr B 35 (slis B k k) ∧ ∀ i, i < k → Row wr (B + 1 + i) 5 (nums .u8 (S.2.getD i []))) (fun i _ => k - (intOf i).toNat)
              case atStart => exact ⟨0, by omega, rfl, hB6, hR6, hG6, hW6⟩
              case round =>
                obtain ⟨m, hmk, rfl, hBr, hRr, hGr, hEr⟩ := hrel
                clear hB6 hR6 hG6 hW6
                by_cases hlt : m < k
                · have d0 := hGr.cell m
                  rw [slis_at B k k m hlt hlt] at d0
                  have hw2 : IntKind.i64.wrap ((m : Int) * 8) = (m : Int) * 8 := by rw [IntKind.wrap_i64]; omega
                  have hsl : ∀ W', (Instr.slice 35 (.slice (some ⟨O, 0, none⟩) (8 * k) (8 * k)) (some (.int .i64 ((m : Int) * 8))) none none).run Try.prog W' = .ok (.slice (some ⟨O, 8 * m, none⟩) (8 * k - 8 * m) (8 * k - 8 * m)) W' := fun W' => by
                    have := run_from (W := W') Try.underlying35 size_u8 (some ⟨O, 0, none⟩) (8 * k) (8 * k) ((m : Int) * 8) (8 * m) (by omega) (by omega) (by omega)
                    rw [this, if_neg (by omega)]
                    simp [addr_add]
                  have hy : Hid ((S.2.getD m []).length = 8) := hidden (by rw [List.getD_eq_getElem?_getD, List.getElem?_eq_getElem (by omega)]; exact h8.out _ (List.getElem_mem _))
                  have hOl : Hid ((outAt [] S.2 k m).length = 8 * k) := hidden (by rw [outAt_len [] S.2 h8.out k m hS2 (by omega)]; simp)
                  go_wp2
                  go_still_tail 8, (by kernel_rfl)
                  change wpList _ _ _ _ _ wr.drew
                  refine walk_copy (L := outAt [] S.2 k m) (M := S.2.getD m []) rfl (.tmp 125) (.tmp 129) rfl Try.underlying35 size_u8 rfl rfl hRr.drew (Rd.row (hEr m hlt).drew) hy.out (by rw [hOl.out]; omega) ?_
                  intro w9 hR9 hg9 hz9
                  rw [outAt_step [] S.2 h8.out k m _ _ hS2 hlt (by simp) (by omega)] at hR9
                  have hB9 := hBr.drew.grown hg9 (by have := hRr.lt; simp; omega) (by rintro q hq; cases hq; omega)
                  have hG9 := hGr.drew.grown hg9 (by simp; omega)
                  have hE9 : ∀ i, i < k → Row w9 (B + 1 + i) 5 (nums .u8 (S.2.getD i [])) := fun i hi => (hEr i hi).drew.grown hg9 (by simp; omega)
                  clear hg9 hz9 d0 hsl hRr hGr hEr
                  go_wp2
                  go_roundw
                  case rel => exact ⟨m + 1, by omega, by go_num, hB9, hR9, hG9, hE9⟩
                  case measure => simp [intOf]; omega
                · obtain rfl : m = k := by omega
                  rw [outAt_end [] S.2 _ hS2, List.nil_append, ← HopB.out] at hRr
                  have hlen : (WrapPlain.openB (mixC seed) m l).length = 8 * m := by rw [HopB.out, flat_len8 _ h8.out, hS2]
                  have hOw := Own.of_row (base := B) (c := 8 * m) (rest := []) (vs := nums .u8 (WrapPlain.openB (mixC seed) m l)) (by rw [List.append_nil]; exact hRr) hbO (by rw [nums_len, hlen]; rfl) (by simp [maxLen]; omega)
                  rw [nums_len, hlen] at hOw
                  have HOw := hidden hOw
                  clear hOw hEr hGr hRr hlen
                  go_wp2
                  go_ret2
                  exact ⟨by rw [hBB.out]; exact hBr, .inl ⟨by rw [← HSo.out]; exact hiv, _, rfl, by rw [hBB.out]; exact HOw.out⟩⟩
            · go_wp2_with (go_at_call 73; go_must (refine (newErr_calls _ _).mono ?_; rintro e w2 ⟨rfl, hB2⟩))
              go_ret2
              exact ⟨by rw [hBB.out]; exact hB1.trans (hB2.mono (by omega)), .inr ⟨by rw [← HSo.out]; exact hiv, _, rfl⟩⟩
        · rw [show ((t + 1 : Nat) : Int) - 1 = (t : Int) by omega] at hi
          subst hi
          obtain ⟨j, hj⟩ : ∃ j : Nat, j = t % k := ⟨_, rfl⟩
          have hmod : j < k := by rw [hj]; exact Nat.mod_lt _ h0
          have htm : ((t : Int)).tmod (k : Int) = (j : Int) := by rw [hj, Int.tmod_eq_emod_of_nonneg (by omega)]; rfl
          have Hj := hidden hj
          have hti : ¬ ((t : Int) < 0) := by omega
          have hti0 : (0 : Int) ≤ (t : Int) := by omega
          clear hj
          have HW := hidden hWr
          have HB := hidden hBr
          clear hWr hBr
          have hy : Hid (WrapPlain.IsW (S.2.getD j [])) := hidden (word_ok hst.out.1 hmod)
          have hS1 : Hid (WrapPlain.IsW S.1) := hidden (by obtain ⟨⟨⟨h1, _⟩, _⟩, _⟩ := hst.out; exact h1)
          go_wp2_with (go_at_call 75; go_must (refine (put64_calls .nilIface tb htb ((t : Int) + 1) _ _ HW.out.tb).mono ?_; rintro e w8 ⟨rfl, hR8, hg8⟩))
          have hW8 := HW.out.setTb hR8 hg8
          have hB8 := HB.out.grown hg8 (by have := HW.out.row.lt; omega) (by rintro q hq; cases hq; omega)
          have hT : Hid ((b8 ((t : Int) + 1)).length = 8 ∧ IsB (b8 ((t : Int) + 1))) := hidden ⟨WrapPlain.b8_len _, WrapPlain.b8_isB _⟩
          generalize hq : b8 ((t : Int) + 1) = T at *
          have HQ := hidden hq
          clear hq hR8 hg8 HW HB
          have hBs : B < w8.heap.size := hW8.row.lt
          go_loopw [70] (fun i wr => ∃ m : Nat, m ≤ 8 ∧ i = .int .i64 m ∧ Below B w wr ∧ ∃ buf, buf.length = 16 ∧ (∀ j, gi buf j = if j < m then xr8 (gi (S.1 ++ x) j) (gi T j) else gi (S.1 ++ x) j) ∧ WS wr B k S.2 buf T) (fun i _ => 8 - (intOf i).toNat)
          case atStart => exact ⟨0, by omega, rfl, hB8, _, by rw [List.length_append, hS1.out.1, hx], fun j => by rw [if_neg (by omega)], hW8⟩
          case round =>
            obtain ⟨m, hm8, rfl, hBi, buf, hbl, hbj, hWi⟩ := hrel
            clear hB8 hW8
            by_cases hlt8 : m < 8
            · have c0 := hWi.buf.icell m (by omega)
              have c1 := hWi.tb.icell m (by rw [hT.out.1]; omega)
              have f0 := hWi.buf.free m
              have hx8 := run_xor8 (gi buf m) (gi T m)
              have hm16 : m < 16 := by omega
              have hm16i : (m : Int) < 16 := by omega
              have hm8i : (m : Int) < 8 := by omega
              have HW := hidden hWi
              have Hbj := hidden hbj
              clear hWi hbj
              go_wp2
              go_still_tail 12, (by kernel_rfl)
              change wpList _ _ _ _ _ wr.drew
              go_wp2
              go_roundw
              case rel =>
                refine ⟨m + 1, by omega, by go_num, (hBi.setCell (by simp; omega) _).drew, _, by rw [List.length_set]; exact hbl, fun i => ?_, HW.out.drew.setBuf (HW.out.buf.drew.iset m _) (grown_set _ _ m _)⟩
                rw [gi_set _ _ _ _ (by omega)]
                by_cases hjm : i = m
                · subst hjm
                  rw [if_pos rfl, if_pos (by omega), Hbj.out i, if_neg (by omega)]
                  rfl
                · rw [if_neg hjm, Hbj.out i]
                  by_cases hjl : i < m
                  · rw [if_pos hjl, if_pos (by omega)]
                  · rw [if_neg hjl, if_neg (by omega)]
              case measure => simp [intOf]; omega
            · obtain rfl : m = 8 := by omega
              have hbuf : buf = WrapPlain.xorB S.1 T ++ x := xor_done hS1.out.1 hx hT.out.1 hbl hbj
              subst hbuf
              clear hbj
              have d0 := hWi.row.cell j
              rw [slis_at B k k j hmod hmod] at d0
              have hsl : ∀ W', (Instr.slice 35 (.slice (some ⟨B + 1 + k, 0, none⟩) 16 16) (some (.int .i64 8)) none none).run Try.prog W' = .ok (.slice (some ⟨B + 1 + k, 8, none⟩) 8 8) W' := fun W' => by
                have := run_from (W := W') Try.underlying35 size_u8 (some ⟨B + 1 + k, 0, none⟩) 16 16 8 8 rfl (by omega) (by omega)
                simpa [addr_add] using this
              have HW := hidden hWi
              clear hWi
              have hxl : Hid (WrapPlain.IsW (WrapPlain.xorB S.1 T)) := hidden (WrapPlain.xorB_isW _ _ hS1.out hT.out)
              go_wp2
              go_still_tail 8, (by kernel_rfl)
              change wpList _ _ _ _ _ wr.drew
              refine walk_copy (L := WrapPlain.xorB S.1 T ++ x) (M := S.2.getD j []) rfl (.tmp 87) (.tmp 93) rfl Try.underlying35 size_u8 rfl rfl HW.out.buf.drew (Rd.row (HW.out.each j hmod).drew) hy.out.1 (by rw [List.length_append, hxl.out.1, hx]; omega) ?_
              intro w6 hR6 hg6 hz6
              rw [splice_hi _ _ _ hxl.out.1 hx hy.out.1] at hR6
              have hW6 := HW.out.drew.setBuf hR6 hg6
              have hB6 := hBi.drew.grown hg6 (by have := HW.out.row.lt; simp; omega) (by rintro q hq; cases hq; omega)
              clear hR6 hg6 hz6 d0 HW
              go_wp2_with (go_at_call 107; go_must (refine (decrypt_calls seed (WrapPlain.xorB S.1 T ++ S.2.getD j []) (by rw [List.length_append, hxl.out.1, hy.out.1]) (app_isB hxl.out.2 hy.out.2) _ _ hW6.buf).mono ?_; rintro e w7 ⟨rfl, hR7, hg7⟩))
              have hW7 := hW6.setBuf hR7 hg7
              have hB7 := hB6.grown hg7 (by have := hW6.row.lt; omega) (by rintro q hq; cases hq; omega)
              rw [unmixL_D seed _ _ hxl.out hy.out] at hW7
              have hD := hidden ((mixC seed).D_ok _ _ hxl.out hy.out)
              generalize hp : (mixC seed).D (WrapPlain.xorB S.1 T) (S.2.getD j []) = p at *
              have HP := hidden hp
              clear hp hR7 hg7 hW6 hB6
              have d0 := hW7.row.cell j
              rw [slis_at B k k j hmod hmod] at d0
              have HW := hidden hW7
              clear hW7
              go_still_tail 8, (by kernel_rfl)
              change wpList _ _ _ _ _ w7.drew
              refine walk_copy (L := S.2.getD j []) (M := p.2) rfl (.tmp 104) (.tmp 106) rfl Try.underlying35 size_u8 rfl rfl (HW.out.each j hmod).drew (Rd.of_row HW.out.buf.drew 8 8 (fun i hi => hi_cells hD.out.1.1 i)) hD.out.2.1 (by rw [hy.out.1]; omega) ?_
              intro w9 hR9 hg9 hz9
              rw [splice8 _ _ hy.out.1 hD.out.2.1] at hR9
              have hW9 := HW.out.drew.setWord hmod hst.out.1.2 hR9 hg9
              have hB9 := hB7.drew.grown hg9 (by have := HW.out.row.lt; simp; omega) (by rintro q hq; cases hq; omega)
              clear hR9 hg9 hz9 d0 hsl hB7 HW
              go_wp2
              go_roundw
              case rel =>
                have hdn : WrapPlain.down (mixC seed) k t S = (p.1, S.2.set j p.2) := by
                  unfold WrapPlain.down
                  rw [← Hj.out, show ((t + 1 : Nat) : Int) = (t : Int) + 1 by omega, HQ.out, HP.out]
                have hok := WrapPlain.down_ok (mixC seed) hst.out.1.1 t hst.out.1.2 h0
                rw [hdn] at hok
                refine ⟨t, by omega, by go_num, hB9, (p.1, S.2.set j p.2), p.2, T, hidden ⟨hok, ?_⟩, hD.out.2.1, hT.out.1, hW9⟩
                rw [← hst.out.2, ← hdn]; rfl
              case measure => simp [intOf]
end Go.Proofs.Yticgdbcnknhndaa
