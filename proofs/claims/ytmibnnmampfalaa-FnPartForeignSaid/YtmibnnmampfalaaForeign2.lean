/- The walk of FnPartForeign. -/
import Derived.Test.YtmibnnmampfalaaForeign
namespace Go.Proofs.Ytmibnnmampfalaa
open Go.RowKit
set_option linter.unusedVariables false
set_option linter.unusedSimpArgs false

/-- s[:k:k]. -/
theorem run_upto3 {P : Program} {W : World} {t e : TypeId} (ht : P.underlying t = some (.slice e)) (hsz : (P.info? e).map (·.size) = some 1) (A : Option Addr) (len cap k : Nat) (hc : k ≤ cap) :
    (Instr.slice t (.slice A len cap) none (some (.int .i64 (k : Int))) (some (.int .i64 (k : Int)))).run P W = .ok (.slice A k k) W := by
  obtain ⟨i0, hi, hs⟩ := Option.map_eq_some_iff.1 hsz
  cases A <;> simp [Instr.slice, run_underlying ht, Instr.sliceBounds, run_sliceBound, sizeOf, typeInfo, hi, hs, hc, Addr.add]
theorem opRun_app {P : Program} {ρ : Operand → Value} {x y : Operand} {t ty : TypeId} {w w1 : World} {a b v : Value} (hx : ρ x = a) (hy : ρ y = b) (h : (Builtin.append_ #[t, t] ty #[a, b]).run P w = .ok v w1) :
    opRun P ρ (.call { callee := .builtin .append, args := #[x, y], argTypes := #[t, t] }) ty w = .ok (.value v) w1 := by
  unfold opRun execOp
  simp only [resolve, invoke, builtin, Sem.run_bind, Sem.run_pure, Result.andThen_ok, List.map_toArray, List.map_cons, List.map_nil, hx, hy, h]
/-- The text with the sign. -/
def withSign (t : List Int) (k : Nat) (a : Nat) : List Int := t.take k ++ ((a : Int) :: t.drop k)
theorem withSign_len (t : List Int) (k a : Nat) (h : k ≤ t.length) : (withSign t k a).length = t.length + 1 := by
  simp [withSign]; omega
theorem withSign_isB {t : List Int} (hb : IsB t) (k : Nat) {a : Nat} (ha : a < 256) : IsB (withSign t k a) := by
  intro x hx
  rcases List.mem_append.1 hx with h | h
  · exact hb x (List.mem_of_mem_take h)
  · rcases List.mem_cons.1 h with rfl | h
    · omega
    · exact hb x (List.mem_of_mem_drop h)
theorem hB_of {w W0 wr : World} (h : Below w.heap.size w W0) (k : Below W0.heap.size W0 wr) : Below w.heap.size w wr := below_next h k
set_option maxRecDepth 100000 in
set_option maxHeartbeats 4000000 in
theorem foreign_walk (A : Option Addr) (n c0 : Nat) (zs : List Int) (cc at_ : Int) (w : World) (hrow : IsRow .u8 w A n c0 zs) (hy : n * 1 ≤ 140737488351232) (wc : (Lit.int .u8 cc).wf = true) (wq : (Lit.int .u16 at_).wf = true) :
    Calls Try.prog 5 #[.slice A n c0, .int .u8 cc, .int .u16 at_] w fun e w' => e = .returned (.bool true) ∧ Below w.heap.size w w' := by
  have hcame := hrow.came
  generalize zs.take n = bs at hcame
  have HC := hidden hcame
  clear hcame hrow
  obtain ⟨a, rfl, ha⟩ : ∃ a : Nat, cc = (a : Int) ∧ a < 256 := by
    simp [Lit.wf, IntKind.min, IntKind.max, IntKind.bits, IntKind.signed] at wc
    exact ⟨cc.toNat, by omega, by omega⟩
  obtain ⟨q, rfl, hq⟩ : ∃ q : Nat, at_ = (q : Int) ∧ q < 65536 := by
    simp [Lit.wf, IntKind.min, IntKind.max, IntKind.bits, IntKind.signed] at wq
    exact ⟨at_.toNat, by omega, by omega⟩
  clear wc wq
  obtain ⟨r, hr⟩ : ∃ r : Bool, r = true ↔ ∀ x ∈ [(A, n, c0)], x.2.1 ≤ 2000 := ⟨decide (∀ x ∈ [(A, n, c0)], x.2.1 ≤ 2000), by simp⟩
  have Hr := hidden hr
  clear hr
  by_cases hbig : n ≤ 2147483647
  · obtain ⟨lt, hlt⟩ : ∃ lt, lt = letB a := ⟨_, rfl⟩
    have HLt := hidden hlt
    by_cases hawake : r = false ∨ lt = true ∨ a = 61 ∨ a = 13 ∨ a = 10
    · clear hlt
      cases r with
      | false =>
        clear hawake
        go_enter Try.func5, Try.ntmps5
        go_wp2_with (first
          | (go_at_call 13; go_must (refine (partShort_calls _ 1 1 [(A, n, c0)] _ (Rd.new w _ (slvs [(A, n, c0)]) _ rfl) rfl (by omega) false Hr.out).mono ?_; rintro e w1 ⟨rfl, rfl⟩))
          | (go_at_call 14; go_must (refine (partAwake_calls _).mono ?_; rintro e w2 ⟨rfl, hB2⟩)))
        go_ret
        exact ⟨rfl, below_next (below_alloc0 _ _) hB2⟩
      | true =>
        cases lt with
        | true =>
          clear hawake
          go_enter Try.func5, Try.ntmps5
          go_wp2_with (first
            | (go_at_call 13; go_must (refine (partShort_calls _ 1 1 [(A, n, c0)] _ (Rd.new w _ (slvs [(A, n, c0)]) _ rfl) rfl (by omega) true Hr.out).mono ?_; rintro e w1 ⟨rfl, rfl⟩))
            | (go_at_call 19; go_must (refine (letterB_calls a true HLt.out _).mono ?_; rintro e w1 ⟨rfl, rfl⟩))
            | (go_at_call 14; go_must (refine (partAwake_calls _).mono ?_; rintro e w2 ⟨rfl, hB2⟩)))
          go_ret
          exact ⟨rfl, below_next (below_alloc0 _ _) hB2⟩
        | false =>
          have h3 : a = 61 ∨ a = 13 ∨ a = 10 := by simpa using hawake
          clear hawake
          rcases h3 with rfl | rfl | rfl
          all_goals
            go_enter Try.func5, Try.ntmps5
            go_wp2_with (first
              | (go_at_call 13; go_must (refine (partShort_calls _ 1 1 [(A, n, c0)] _ (Rd.new w _ (slvs [(A, n, c0)]) _ rfl) rfl (by omega) true Hr.out).mono ?_; rintro e w1 ⟨rfl, rfl⟩))
              | (go_at_call 19; go_must (refine (letterB_calls _ false HLt.out _).mono ?_; rintro e w1 ⟨rfl, rfl⟩))
              | (go_at_call 14; go_must (refine (partAwake_calls _).mono ?_; rintro e w2 ⟨rfl, hB2⟩)))
            go_ret
            exact ⟨rfl, below_next (below_alloc0 _ _) hB2⟩
    · obtain ⟨hr1, hl1, h61, h13, h10⟩ : r = true ∧ lt = false ∧ ¬ a = 61 ∧ ¬ a = 13 ∧ ¬ a = 10 := by
        cases r <;> cases lt <;> simp at hawake ⊢ <;> omega
      subst hr1 hl1
      clear hawake hlt
      have hn2 : n ≤ 2000 := by have := Hr.out.1 rfl; simpa using this
      have HL : Hid (bs.length = n) := hidden HC.out.hlen
      have HIB : Hid (IsB bs) := hidden HC.out.isB
      have q61 : ((a : Int) == 61) = false := beq_eq_false_iff_ne.2 (by omega)
      have q13 : ((a : Int) == 13) = false := beq_eq_false_iff_ne.2 (by omega)
      have q10 : ((a : Int) == 10) = false := beq_eq_false_iff_ne.2 (by omega)
      obtain ⟨t, ht⟩ : ∃ t, t = encF (alpha true) bs := ⟨_, rfl⟩
      have HTB : Hid (IsB t) := hidden (by rw [ht]; exact encF_isB true HIB.out)
      obtain ⟨m, hm⟩ : ∃ m, t.length = m := ⟨_, rfl⟩
      have hmb : m ≤ 5000 := by rw [← hm, ht, encLen_eq, HL.out]; unfold encLen; omega
      have HM := hidden hm
      have HT := hidden ht
      obtain ⟨k, hk⟩ : ∃ k, k = q % (m + 1) := ⟨_, rfl⟩
      have hkm : k ≤ m := by have := Nat.mod_lt q (show 0 < m + 1 by omega); omega
      have hrem : ((q : Int)).tmod ((m : Int) + 1) = (k : Int) := rem_of q (m + 1) k hk
      have hm1 : ¬ (m : Int) + 1 = 0 := by omega
      have HNo : Hid (decOf (withSign t k a) = none) := hidden (decOf_foreign ha HLt.out.symm h61 h10 h13 (by simp [withSign]))
      have HWL : Hid ((withSign t k a).length = m + 1) := hidden (by rw [withSign_len _ _ _ (by omega), hm])
      have HWB : Hid (IsB (withSign t k a)) := hidden (withSign_isB HTB.out k ha)
      obtain ⟨s, hs⟩ : ∃ s, s = strOfNums (withSign t k a) := ⟨_, rfl⟩
      have HS := hidden hs
      clear hm ht hk hs
      go_enter Try.func5, Try.ntmps5
      go_wp2_with (first
        | (go_at_call 13; go_must (refine (partShort_calls _ 1 1 [(A, n, c0)] _ (Rd.new w _ (slvs [(A, n, c0)]) _ rfl) rfl (by omega) true Hr.out).mono ?_; rintro e w1 ⟨rfl, rfl⟩))
        | (go_at_call 19; go_must (refine (letterB_calls _ false HLt.out _).mono ?_; rintro e w1 ⟨rfl, rfl⟩))
        | (go_at_call 20; go_must (refine (partOf_calls A n c0 bs _ (HC.out.rd.alloc _) HL.out HIB.out HC.out.hcap (by omega)).mono ?_; rintro e W0 ⟨v2, rfl, hO2, hB2⟩; rw [← HT.out] at hO2; obtain ⟨A7, c7, rfl, hc7, hr7, hA7⟩ := hO2.read; rw [nums_len, HM.out]; rw [nums_len, HM.out] at hc7; have hB2' := below_next (below_alloc0 w _) hB2; clear hB2)))
      have HR7 := hidden hr7
      have HB7 := hidden hB2'
      have HA7 := hidden hA7
      have hW0 : W0.heap.size = W0.heap.size := rfl
      clear hr7 hB2' hA7 hO2 hW0
      have hs3 := fun W => run_upto3 (W := W) Try.underlying22 size_u8' A7 m c7 k (by omega)
      have hs8 := fun W => run_from (W := W) Try.underlying22 size_u8' A7 m c7 (k : Int) k rfl hkm hc7
      obtain ⟨A8, hA8⟩ : ∃ A8, A8 = (if c7 = k then A7 else Option.map (fun x : Addr => x.add k) A7) := ⟨_, rfl⟩
      have HR8 : Hid (Rd W0 A8 (nums .u8 (t.drop k))) := hidden (by
        have := Rd.drop HR7.out k c7 (by rw [nums_len, HM.out]; exact hc7)
        rw [show (nums .u8 t).drop k = nums .u8 (t.drop k) from (List.map_drop ..).symm] at this
        rw [hA8]; exact this)
      have HR3 : Hid (Rd W0 A7 (nums .u8 (t.take k))) := hidden (by
        have := HR7.out.take k
        rwa [show (nums .u8 t).take k = nums .u8 (t.take k) from (List.map_take ..).symm] at this)
      simp only [← hA8] at hs8
      clear hA8
      have hD : dOk [(0, 45), (1, 46), (2, 47), (3, 48), (4, 49), (5, 50), (6, 51), (7, 52), (8, 53), (9, 54), (10, 55), (11, 7)] 76 = true := by kernel_rfl
      refine reg_flow [(0, 45), (1, 46), (2, 47), (3, 48), (4, 49), (5, 50), (6, 51), (7, 52), (8, 53), (9, 54), (10, 55), (11, 7)] (by kernel_rfl) (by kernel_rfl) hD (by kernel_rfl) (by kernel_rfl)
        (fun j x wr => match j with
          | 0 => x = .slice A7 m c7
          | 1 => x = .int .i64 k
          | 2 => x = .int .i64 k
          | 3 => x = .slice A7 k k
          | 4 => x = .int .u8 a
          | 5 => ∃ g, x = .slice (some ⟨g, 0, none⟩) 1 1 ∧ Row wr g 5 (nums .u8 [(a : Int)]) ∧ W0.heap.size ≤ g
          | 6 => x = .slice A7 m c7
          | 7 => x = .int .i64 k
          | 8 => x = .slice A8 (m - k) (c7 - k)
          | 9 => Own wr W0.heap.size 5 x (nums .u8 ((a : Int) :: t.drop k))
          | 10 => Own wr W0.heap.size 5 x (nums .u8 (withSign t k a))
          | 11 => Own wr W0.heap.size 5 x (nums .u8 (withSign t k a))
          | _ => True)
        (fun b v wr => Below W0.heap.size W0 wr)
        (fun w1 w2 => Below w1.heap.size w1 w2) ?_ ?_ ?_ ?_
      · intro j x w1 w2 hR h
        match j, h with
        | 0, h | 1, h | 2, h | 3, h | 4, h | 6, h | 7, h | 8, h => exact h
        | 5, ⟨g, h1, h2, h3⟩ => exact ⟨g, h1, h2.below hR h2.lt, h3⟩
        | 9, h | 10, h | 11, h => exact Own.below h hR
        | n + 12, _ => trivial
      · intro v
        exact (Below.refl _ _).drew
      · intro i hi
        match i, hi with
        | 0, _ => exact flow_pure hD (fun w => Below.refl _ w) (.move (.tmp 7)) 22 rfl fun b v w1 ρ h => ⟨_, by
            have e := h.before 11 7 (by kernel_rfl) (h.later 11 (by kernel_rfl))
            unfold opRun
            go_simp, rfl, h.glob⟩
        | 1, _ => exact flow_pure hD (fun w => Below.refl _ w) (.move (.tmp 8)) 3 rfl fun b v w1 ρ h => ⟨_, by
            have e := h.off 8 (by kernel_rfl)
            unfold opRun
            go_simp, rfl, h.glob⟩
        | 2, _ => exact flow_pure hD (fun w => Below.refl _ w) (.move (.tmp 8)) 3 rfl fun b v w1 ρ h => ⟨_, by
            have e := h.off 8 (by kernel_rfl)
            unfold opRun
            go_simp, rfl, h.glob⟩
        | 3, _ => exact flow_pure hD (fun w => Below.refl _ w) (.slice 22 (.tmp 45) none (some (.tmp 46)) (some (.tmp 47))) 22 rfl fun b v w1 ρ h => ⟨_, by
            have e0 := (h.on 0 45 (by kernel_rfl) (h.dep 0 (by kernel_rfl))).trans (h.have_ 0 (by kernel_rfl))
            have e1 := (h.on 1 46 (by kernel_rfl) (h.dep 1 (by kernel_rfl))).trans (h.have_ 1 (by kernel_rfl))
            have e2 := (h.on 2 47 (by kernel_rfl) (h.dep 2 (by kernel_rfl))).trans (h.have_ 2 (by kernel_rfl))
            unfold opRun
            go_simp, rfl, h.glob⟩
        | 4, _ => exact flow_pure hD (fun w => Below.refl _ w) (.move (.tmp 1)) 5 rfl fun b v w1 ρ h => ⟨_, by
            have e := h.off 1 (by kernel_rfl)
            unfold opRun
            go_simp, rfl, h.glob⟩
        | 5, _ =>
          exact flow_val hD (.buildSlice 22 1 #[(0, .tmp 49)]) 22 rfl fun b v w1 ρ h => by
            have e4 := (h.on 4 49 (by kernel_rfl) (h.dep 4 (by kernel_rfl))).trans (h.have_ 4 (by kernel_rfl))
            refine ⟨.slice (some ⟨w1.heap.size, 0, none⟩) 1 1, w1.alloc (.cells (nums .u8 [(a : Int)]).toArray 5), by unfold opRun; go_simp; rfl, ⟨_, rfl, Row.new w1 _ _, h.glob.size⟩, below_alloc0 w1 _, below_next h.glob (below_alloc0 w1 _)⟩
        | 6, _ => exact flow_pure hD (fun w => Below.refl _ w) (.move (.tmp 7)) 22 rfl fun b v w1 ρ h => ⟨_, by
            have e := h.before 11 7 (by kernel_rfl) (h.later 11 (by kernel_rfl))
            unfold opRun
            go_simp, rfl, h.glob⟩
        | 7, _ => exact flow_pure hD (fun w => Below.refl _ w) (.move (.tmp 8)) 3 rfl fun b v w1 ρ h => ⟨_, by
            have e := h.off 8 (by kernel_rfl)
            unfold opRun
            go_simp, rfl, h.glob⟩
        | 8, _ => exact flow_pure hD (fun w => Below.refl _ w) (.slice 22 (.tmp 51) (some (.tmp 52)) none none) 22 rfl fun b v w1 ρ h => ⟨_, by
            have e0 := (h.on 6 51 (by kernel_rfl) (h.dep 6 (by kernel_rfl))).trans (h.have_ 6 (by kernel_rfl))
            have e1 := (h.on 7 52 (by kernel_rfl) (h.dep 7 (by kernel_rfl))).trans (h.have_ 7 (by kernel_rfl))
            unfold opRun
            go_simp, rfl, h.glob⟩
        | 9, _ =>
          exact flow_val hD (.call { callee := .builtin .append, args := #[.tmp 50, .tmp 53], argTypes := #[22, 22] }) 22 rfl fun b v w1 ρ h => by
            obtain ⟨g, hg, hrow, hgW⟩ := h.have_ 5 (by kernel_rfl)
            have e5 := (h.on 5 50 (by kernel_rfl) (h.dep 5 (by kernel_rfl))).trans hg
            have e8 := (h.on 8 53 (by kernel_rfl) (h.dep 8 (by kernel_rfl))).trans (h.have_ 8 (by kernel_rfl))
            have hrd8 := HR8.out.below h.glob (Nat.le_refl _)
            have hdl : (nums .u8 (t.drop k)).length = m - k := by rw [nums_len, List.length_drop, HM.out]
            by_cases h0 : 0 < m - k
            · obtain ⟨v1, w2, hrun, hO, hgr⟩ := run_app_full (P := Try.prog) (t := 22) (ty := 22) (c := c7 - k) Try.underlying22 info_u8 rfl (Rd.row hrow) (n := 1) rfl (by intro h; cases h) hrd8 hdl h0 (nums_one _ _) (by omega) (by omega)
              exact ⟨v1, w2, opRun_app e5 e8 hrun, hO.lower h.glob.size, grown_none hgr, below_next h.glob (grown_none hgr)⟩
            · have hz : m - k = 0 := by omega
              have hd0 : t.drop k = [] := List.eq_nil_of_length_eq_zero (by rw [List.length_drop, HM.out]; exact hz)
              refine ⟨.slice (some ⟨g, 0, none⟩) 1 1, w1, opRun_app e5 (by rw [e8, hz]) (run_app_zero Try.underlying22 info_u8 _ 1 1 (Nat.le_refl _) A8 _), ?_, Below.refl _ _, h.glob⟩
              show Own w1 W0.heap.size _ _ _
              rw [hd0]
              exact Own.of_row (vs := nums .u8 [(a : Int)]) (rest := []) (by rw [List.append_nil]; exact hrow) hgW rfl (by simp [maxLen, nums_len])
        | 10, _ =>
          exact flow_val hD (.call { callee := .builtin .append, args := #[.tmp 48, .tmp 54], argTypes := #[22, 22] }) 22 rfl fun b v w1 ρ h => by
            have e3 := (h.on 3 48 (by kernel_rfl) (h.dep 3 (by kernel_rfl))).trans (h.have_ 3 (by kernel_rfl))
            have hO9 := h.have_ 9 (by kernel_rfl)
            obtain ⟨A9, c9, h9, hc9, hr9, hA9⟩ := Own.read hO9
            have e9 := (h.on 9 54 (by kernel_rfl) (h.dep 9 (by kernel_rfl))).trans h9
            have hrd3 := HR3.out.below h.glob (Nat.le_refl _)
            obtain ⟨v1, w2, hrun, hO, hgr⟩ := run_app_full (P := Try.prog) (t := 22) (ty := 22) (c := c9) Try.underlying22 info_u8 rfl hrd3 (n := k) (by rw [nums_len, List.length_take, HM.out]; omega) (fun e => by have := HA7.out e; omega) hr9 rfl (by simp [nums_len]) (nums_one _ _) (by rw [nums_len]; simp only [List.length_cons, List.length_drop]; have := HM.out; omega) (by rw [nums_len]; simp only [List.length_cons, List.length_drop]; have := HM.out; omega)
            refine ⟨v1, w2, opRun_app e3 e9 hrun, ?_, grown_none hgr, below_next h.glob (grown_none hgr)⟩
            show Own w2 W0.heap.size _ _ _
            rw [withSign, nums_app]
            exact hO.lower h.glob.size
        | 11, _ => exact flow_pure hD (fun w => Below.refl _ w) (.assign (.tmp 55)) 22 rfl fun b v w1 ρ h => ⟨v 10, by
            have e := h.on 10 55 (by kernel_rfl) (h.dep 10 (by kernel_rfl))
            unfold opRun
            go_simp, h.have_ 10 (by kernel_rfl), h.glob⟩
      · intro b v wr hall hF hG
        have f0 : v 0 = _ := hF 0 (by decide)
        have f1 : v 1 = _ := hF 1 (by decide)
        have f2 : v 2 = _ := hF 2 (by decide)
        have f3 : v 3 = _ := hF 3 (by decide)
        have f4 : v 4 = _ := hF 4 (by decide)
        have f6 : v 6 = _ := hF 6 (by decide)
        have f7 : v 7 = _ := hF 7 (by decide)
        have f8 : v 8 = _ := hF 8 (by decide)
        have f11 : Own wr W0.heap.size 5 (v 11) (nums .u8 (withSign t k a)) := hF 11 (by decide)
        obtain ⟨A1, c1, h11, hc1, hr1, hA1⟩ := Own.read f11
        rw [nums_len, HWL.out] at h11 hc1
        generalize v 5 = v5
        generalize v 9 = v9
        generalize v 10 = v10
        simp only [fr, if_true, f0, f1, f2, f3, f4, f6, f7, f8, h11, Act.put, List.setIfInBounds_toArray, List.set_cons_zero, List.set_cons_succ]
        have HB1 := hidden (hB_of HB7.out hG)
        have HR1 := hidden hr1
        have HA1 := hidden hA1
        clear hF hG hall f0 f1 f2 f3 f4 f6 f7 f8 f11 h11 hr1 hA1 hs3 hs8 hD
        go_wp2_with (first
          | (go_at_call 15; go_must (refine (decoded_calls A1 (m + 1) c1 (withSign t k a) _ HR1.out HWL.out hc1 HA1.out HWB.out (by omega)).mono ?_; intro e w3 hq; have hB3 := below_next HB1.out hq.below; have hr3 := HR1.out.below hq.below (Nat.le_refl _); obtain rfl : e = .returned (.tuple #[.slice none 0 0, .bool false]) := (by rcases hq.res with ⟨v, out, h1, h2, h3, h4⟩ | ⟨h1, h2⟩; (rw [HNo.out] at h2; cases h2); exact h1); have ks := run_string (P := Try.prog) (c := c1) Try.underlying22 Try.underlying5 Try.underlying9 hr3 HWL.out; rw [← HS.out] at ks; clear hq; dsimp only))
          | (go_at_call 21; go_must (refine (decodedText_calls s (withSign t k a) HS.out HWB.out (by rw [HWL.out]; omega) _).mono ?_; intro e w4 hq; have hB4 := below_next hB3 hq.below; obtain rfl : e = .returned (.tuple #[.slice none 0 0, .bool false]) := (by rcases hq.res with ⟨v, out, h1, h2, h3, h4⟩ | ⟨h1, h2⟩; (rw [HNo.out] at h2; cases h2); exact h1); clear hq; dsimp only))
          | (go_at_call 14; go_must (refine (partAwake_calls _).mono ?_; rintro e w5 ⟨rfl, hB5⟩)))
        go_ret
        exact ⟨rfl, below_next hB4 hB5⟩
  · have hbi : (2147483647 : Int) < (n : Int) := by omega
    go_enter Try.func5, Try.ntmps5
    go_wp2
    go_ret
    exact ⟨rfl, Below.refl _ _⟩
end Go.Proofs.Ytmibnnmampfalaa
