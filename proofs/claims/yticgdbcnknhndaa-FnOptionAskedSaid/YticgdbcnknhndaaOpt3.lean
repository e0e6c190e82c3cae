/- The walk of the law FnOptionAsked. -/
import Derived.Test.YticgdbcnknhndaaOpt2
import Derived.Test.YticgdbcnknhndaaFlow
namespace Go.Proofs.Yticgdbcnknhndaa
open Go.RowKit
set_option linter.unusedVariables false
set_option linter.unusedSimpArgs false

def pathOk (ops : Array Oper) : Nat → List Nat → Nat → Bool
  | d, [], i => depOn ops d i
  | d, m :: ms, i => depOn ops d m && pathOk ops m ms i
theorem later_path {ops : Array Oper} {a0 : Act} {D : List (Nat × Nat)} {F : Nat → Value → World → Prop} {G : (Nat → Bool) → (Nat → Value) → World → Prop} {i : Nat} {b : Nat → Bool} {v : Nat → Value} {w : World} (h : Here ops a0 D F G i b v w) : ∀ (ms : List Nat) (d : Nat), pathOk ops d ms i = true → b d = false
  | [], d, hp => h.later d hp
  | m :: ms, d, hp => by
    unfold pathOk at hp
    rw [Bool.and_eq_true] at hp
    cases hb : b d with
    | false => rfl
    | true => have := h.shut d m hb hp.1; rw [later_path h ms m hp.2] at this; cases this
theorem ask_next {w wr w1 : World} {B t : Nat} {vs : List Value} {o2 : Obj} {u3 u4 v1 : Value} {a a' b : List (Int × Int)} (hBr : Below B w wr) (hbs : B ≤ wr.heap.size) (hO3 : Own2 wr B u3 a) (hO4 : Own2 wr B u4 b) (hne : u3.ownBlock = none ∨ u3.ownBlock ≠ u4.ownBlock)
    (hO5 : Own2 w1 B v1 a') (hg5 : ((wr.alloc (.cells vs.toArray t)).alloc o2).grownBy w1 u3.ownBlock) (hd5 : v1.ownBlock = u3.ownBlock ∨ v1.ownBlock = some ((wr.alloc (.cells vs.toArray t)).alloc o2).heap.size) :
    Below B w w1 ∧ Own2 w1 B u4 b ∧ (u4.ownBlock = none ∨ u4.ownBlock ≠ v1.ownBlock) ∧ Row w1 wr.heap.size t vs ∧ B ≤ w1.heap.size := by
  have hs := hg5.size
  simp only [World.size_alloc] at hs
  have hneb : u4.ownBlock = none ∨ u4.ownBlock ≠ u3.ownBlock := by
    rcases hne with h | h
    · cases hq : u4.ownBlock
      · exact .inl rfl
      · exact .inr (by rw [h]; simp)
    · exact .inr (Ne.symm h)
  refine ⟨((hBr.alloc hbs _).alloc (by simp; omega) _).grown hg5 (by simp; omega) (fun k hk => (hO3.lt k hk).1), ((hO4.alloc _).alloc _).kept hg5 hneb, ?_, ((Row.new wr t vs).alloc _).grown hg5 (fun e => by have := (hO3.lt _ e.symm).2; omega), by omega⟩
  rcases hd5 with h | h
  · rw [h]; exact hneb
  · refine .inr fun e => ?_
    have := (hO4.lt _ (e.trans h)).2
    simp at this
    omega
theorem opRun_app2 {ρ : Operand → Value} {s x : Operand} {W : World} {base ty : Nat} {v : Value} {l m : List (Int × Int)} {A : Option Addr} {n c : Nat} (hs : ρ s = v) (hx : ρ x = .slice A n c) (hn : m.length = n) (HO : Own2 W base v l) (HR : Rd W A (stepVs m)) (hm : 0 < m.length) (hbase : base ≤ W.heap.size) (hl : l.length + m.length ≤ 100000) :
    ∃ v1 w1, opRun Try.prog ρ (.call { callee := .builtin .append, args := #[s, x], argTypes := #[22, 22] }) ty W = .ok (.value v1) w1 ∧ Own2 w1 base v1 (l ++ m) ∧ W.grownBy w1 v.ownBlock ∧ (v1.ownBlock = v.ownBlock ∨ v1.ownBlock = some W.heap.size) := by
  subst hn
  obtain ⟨v1, w1, hrun, h2⟩ := run_app2 (ty := ty) (c := c) HO HR hm hbase hl
  refine ⟨v1, w1, ?_, h2⟩
  unfold opRun execOp
  simp only [resolve, invoke, builtin, Sem.run_bind, Sem.run_pure, Result.andThen_ok, List.map_toArray, List.map_cons, List.map_nil, hs, hx, hrun]
theorem ask_next3 {w w1 w2 : World} {B : Nat} {v1 u4 v2 : Value} {a b b' : List (Int × Int)} (hB1 : Below B w w1) (hbs : B ≤ w1.heap.size) (hO5 : Own2 w1 B v1 a) (hO4 : Own2 w1 B u4 b) (hne : u4.ownBlock = none ∨ u4.ownBlock ≠ v1.ownBlock)
    (hO6 : Own2 w2 B v2 b') (hg6 : w1.grownBy w2 u4.ownBlock) (hd6 : v2.ownBlock = u4.ownBlock ∨ v2.ownBlock = some w1.heap.size) :
    Below B w w2 ∧ Own2 w2 B v1 a ∧ (v1.ownBlock = none ∨ v1.ownBlock ≠ v2.ownBlock) := by
  have hneb : v1.ownBlock = none ∨ v1.ownBlock ≠ u4.ownBlock := by
    rcases hne with h | h
    · cases hq : v1.ownBlock
      · exact .inl rfl
      · exact .inr (by rw [h]; simp)
    · exact .inr (Ne.symm h)
  refine ⟨hB1.grown hg6 hbs (fun k hk => (hO4.lt k hk).1), hO5.kept hg6 hneb, ?_⟩
  rcases hd6 with h | h
  · rw [h]; exact hneb
  · refine .inr fun e => ?_
    have := (hO5.lt _ (e.trans h)).2
    omega
set_option maxRecDepth 10000 in
set_option maxHeartbeats 2000000 in
theorem asked_walk (A : Option Addr) (n c : Nat) (l : List (Int × Int)) (w : World) (h : Rd w A (stepVs l)) (hn : l.length = n) :
    Calls Try.prog 3 #[.slice A n c] w fun e w' => e = .returned (.bool true) ∧ Below w.heap.size w w' := by
  by_cases hbig : n ≤ 2147483647
  · by_cases h100 : n ≤ 100
    · have h100i : ¬ (100 : Int) < (n : Int) := by omega
      go_enter Try.func3, Try.ntmps3
      go_wp2
      generalize hbb : w.heap.size = B at *
      have hBB := hidden hbb
      clear hbb
      go_loopw [3, 4, 22] (fun v3 v4 i wr => ∃ k : Nat, k ≤ n ∧ i = .int .i64 k ∧ Below B w wr ∧ ∃ ps : List ((Int × Int) × Int), ps.length ≤ k ∧ Hid (∀ p ∈ ps, p.1.1 ≠ 4 ∧ ∃ e, e < 64 ∧ p.2 = (2 : Int) ^ e) ∧ Own2 wr B v3 (ps.map (·.1)) ∧ Own2 wr B v4 (asks ps) ∧ (v3.ownBlock = none ∨ v3.ownBlock ≠ v4.ownBlock)) (fun _ _ i _ => n - (intOf i).toNat)
      case atStart => exact ⟨0, by omega, rfl, by rw [← hBB.out]; exact Below.refl _ _, [], by simp, hidden (by simp), Own2.nil _ _, Own2.nil _ _, .inl rfl⟩
      case round =>
        obtain ⟨k, hk, rfl, hBr, ps, hps, h4, hO3, hO4, hne⟩ := hrel
        by_cases hlt : k < n
        · have hlt' : k < l.length := by omega
          obtain ⟨b0, o0, rfl, hlt0, hrd⟩ := (h.below hBr (Nat.le_of_eq hBB.out)).pos (by rw [stepVs_len]; omega)
          have hat := stepVs_at l k hlt'
          have c0 := hrd _ _ hat.1
          have c1 := hrd _ _ hat.2
          rw [← Nat.add_assoc] at c1
          generalize hs : l[k] = s at *
          obtain ⟨kd, bt⟩ := s
          clear hat hrd h hs hlt'
          simp only at c0 c1
          by_cases h4k : kd = 4
          · subst h4k
            go_wp2
            go_roundw
            case rel => exact ⟨k + 1, by omega, by go_num, hBr.alloc (by have := hBr.size; rw [← hBB.out]; exact this) _, ps, by omega, h4, hO3.alloc _, hO4.alloc _, hne⟩
            case measure => simp [intOf]; omega
          · have hBs : B ≤ wr.heap.size := by rw [← hBB.out]; exact hBr.size
            have HO3 := hidden hO3
            have HO4 := hidden hO4
            have Hne := hidden hne
            have HB := hidden hBr
            clear hne hBr
            have hml : (ps.map (·.1)).length + [(kd, bt)].length ≤ 100000 := by simp; omega
            go_wp2_with (at_builtin; refine walk_app2 (v := u3) (base := B) (l := ps.map (·.1)) (m := [(kd, bt)]) rfl (.tmp 30) (.tmp 32) rfl rfl rfl rfl ((HO3.out.alloc _).alloc _) (Rd.new _ _ (stepVs [(kd, bt)]) _ (by simp)) (by simp) (by simp; omega) hml ?_; intro v1 w1 hO5 hg5 hd5)
            obtain ⟨hB1, hO4b, hneb, hrow, hbs1⟩ := ask_next (vs := [.int .i64 kd, .int .u64 bt]) HB.out hBs HO3.out HO4.out Hne.out hO5 hg5 hd5
            have d0 := hrow.cell 0
            have d1 := hrow.cell 1
            simp only [List.getElem?_cons_zero, List.getElem?_cons_succ] at d0 d1
            obtain ⟨e, he⟩ : ∃ e : Nat, e = k % 64 := ⟨_, rfl⟩
            have he64 : e < 64 := by omega
            have htm : ((k : Int)).tmod 64 = (e : Int) := by rw [he, Int.tmod_eq_emod_of_nonneg (by omega)]; rfl
            have HO5 := hidden hO5
            have HO4b := hidden hO4b
            have Hneb := hidden hneb
            have HB1 := hidden hB1
            have hrl := hrow.lt
            have hw2 : IntKind.u64.wrap ((2 : Int) ^ e) = (2 : Int) ^ e := by
              have h1 : (2 : Int) ^ e = ((2 ^ e : Nat) : Int) := by simp
              have h2 : 2 ^ e < 2 ^ 64 := Nat.pow_lt_pow_right (by omega) he64
              rw [h1, wrapU64]
              generalize (2 : Nat) ^ e = N at h2
              omega
            have hal : (asks ps).length + [(kd, bt), ((4 : Int), (2 : Int) ^ e)].length ≤ 100000 := by rw [asks_len]; simp; omega
            clear he hg5 hd5 hB1 hO4b hneb hO5 hO3 hO4 HO3 HO4 Hne HB hml c0 c1 hlt0 d0 d1
            have hD : dOk [(0, 34), (1, 35), (2, 36), (3, 37), (4, 38), (5, 39), (6, 40), (7, 41), (8, 4)] 124 = true := by kernel_rfl
            refine reg_flow [(0, 34), (1, 35), (2, 36), (3, 37), (4, 38), (5, 39), (6, 40), (7, 41), (8, 4)] (by kernel_rfl) (by kernel_rfl) hD (by kernel_rfl) (by kernel_rfl)
              (fun j x wz => match j with
                | 0 => x = u4
                | 1 => x = .agg #[.int .i64 kd, .int .u64 bt]
                | 2 => x = .int .i64 (k : Int)
                | 3 => x = .int .i64 (e : Int)
                | 4 => x = .int .u64 ((2 : Int) ^ e)
                | 5 => x = .agg #[.int .i64 4, .int .u64 ((2 : Int) ^ e)]
                | 6 => ∃ q, x = .slice (some ⟨q, 0, none⟩) 2 2 ∧ w1.heap.size ≤ q ∧ Row wz q 26 (stepVs [(kd, bt), (4, (2 : Int) ^ e)])
                | _ => True)
              (fun b v wz => (b 7 = false → Below w1.heap.size w1 wz) ∧ (b 7 = true → Below B w wz ∧ Own2 wz B v1 (ps.map (·.1) ++ [(kd, bt)]) ∧ Own2 wz B (v 7) (asks ps ++ [(kd, bt), (4, (2 : Int) ^ e)]) ∧ (v1.ownBlock = none ∨ v1.ownBlock ≠ (v 7).ownBlock)) ∧ (b 8 = true → v 8 = v 7))
              (fun wa wb => ∀ q vs, w1.heap.size ≤ q → Row wa q 26 vs → Row wb q 26 vs) ?_ ?_ ?_ ?_
            · intro j x wa wb hR h
              match j, h with
              | 0, h | 1, h | 2, h | 3, h | 4, h | 5, h => exact h
              | 6, ⟨q, h1, h2, h3⟩ => exact ⟨q, h1, h2, hR q _ h2 h3⟩
              | n + 7, _ => trivial
            · intro v
              exact ⟨fun _ => (Below.refl _ _).drew, (fun h => by cases h), (fun h => by cases h)⟩
            · intro i hi
              have keep : ∀ {i : Nat} {b : Nat → Bool} {v : Nat → Value} {x : Value} {wz : World}, i ≠ 7 → i ≠ 8 → b 7 = false → b 8 = false → Below w1.heap.size w1 wz →
                  (up b i 7 = false → Below w1.heap.size w1 wz) ∧ (up b i 7 = true → Below B w wz ∧ Own2 wz B v1 (ps.map (·.1) ++ [(kd, bt)]) ∧ Own2 wz B (upv v i x 7) (asks ps ++ [(kd, bt), (4, (2 : Int) ^ e)]) ∧ (v1.ownBlock = none ∨ v1.ownBlock ≠ (upv v i x 7).ownBlock)) ∧ (up b i 8 = true → upv v i x 8 = upv v i x 7) := by
                intro i b v x wz h7 h8 hb7 hb8 hB
                exact ⟨fun _ => hB, (fun h => by rw [up_ne (Ne.symm h7), hb7] at h; cases h), (fun h => by rw [up_ne (Ne.symm h8), hb8] at h; cases h)⟩
              match i, hi with
              | 0, _ => exact flow_pure hD (fun _ _ _ _ h => h) (.move (.tmp 4)) 22 rfl fun b v wz ρ h => ⟨_, by
                  have e := h.before 8 4 (by kernel_rfl) (h.later 8 (by kernel_rfl))
                  unfold opRun
                  go_simp, rfl, keep (by decide) (by decide) (h.later 7 (by kernel_rfl)) (h.later 8 (by kernel_rfl)) (h.glob.1 (h.later 7 (by kernel_rfl)))⟩
              | 1, _ => exact flow_pure hD (fun _ _ _ _ h => h) (.load 26 (.tmp 6)) 26 rfl fun b v wz ρ h => ⟨_, opRun_load_row (hrow.below (h.glob.1 (later_path h.toHere [6] 7 (by kernel_rfl))) hrl) (h.off 6 (by kernel_rfl)) Try.underlying26 rfl size_step, rfl,
                  keep (by decide) (by decide) (later_path h.toHere [6] 7 (by kernel_rfl)) (h.later 8 (by kernel_rfl)) (h.glob.1 (later_path h.toHere [6] 7 (by kernel_rfl)))⟩
              | 2, _ => exact flow_pure hD (fun _ _ _ _ h => h) (.move (.tmp 5)) 3 rfl fun b v wz ρ h => ⟨_, by
                  have e := h.off 5 (by kernel_rfl)
                  unfold opRun
                  go_simp, rfl, keep (by decide) (by decide) (later_path h.toHere [6, 5, 4, 3] 7 (by kernel_rfl)) (h.later 8 (by kernel_rfl)) (h.glob.1 (later_path h.toHere [6, 5, 4, 3] 7 (by kernel_rfl)))⟩
              | 3, _ => exact flow_pure hD (fun _ _ _ _ h => h) (.binOp .rem 3 (.tmp 36) (.const (.int .i64 64)) 3) 3 rfl fun b v wz ρ h => ⟨_, by
                  have e1 := (h.on 2 36 (by kernel_rfl) (h.dep 2 (by kernel_rfl))).trans (h.have_ 2 (by kernel_rfl))
                  have ec := h.cst (.int .i64 64)
                  unfold opRun
                  go_simp, rfl, keep (by decide) (by decide) (later_path h.toHere [6, 5, 4] 7 (by kernel_rfl)) (h.later 8 (by kernel_rfl)) (h.glob.1 (later_path h.toHere [6, 5, 4] 7 (by kernel_rfl)))⟩
              | 4, _ => exact flow_pure hD (fun _ _ _ _ h => h) (.binOp .shl 24 (.const (.int .u64 1)) (.tmp 37) 3) 24 rfl fun b v wz ρ h => ⟨_, by
                  have e1 := (h.on 3 37 (by kernel_rfl) (h.dep 3 (by kernel_rfl))).trans (h.have_ 3 (by kernel_rfl))
                  have ec := h.cst (.int .u64 1)
                  unfold opRun
                  go_simp, rfl, keep (by decide) (by decide) (later_path h.toHere [6, 5] 7 (by kernel_rfl)) (h.later 8 (by kernel_rfl)) (h.glob.1 (later_path h.toHere [6, 5] 7 (by kernel_rfl)))⟩
              | 5, _ => exact flow_pure hD (fun _ _ _ _ h => h) (.build 26 #[(0, .const (.int .i64 4)), (1, .tmp 38)]) 26 rfl fun b v wz ρ h => ⟨_, by
                  have e1 := (h.on 4 38 (by kernel_rfl) (h.dep 4 (by kernel_rfl))).trans (h.have_ 4 (by kernel_rfl))
                  have ec := h.cst (.int .i64 4)
                  unfold opRun
                  go_simp, rfl, keep (by decide) (by decide) (later_path h.toHere [6] 7 (by kernel_rfl)) (h.later 8 (by kernel_rfl)) (h.glob.1 (later_path h.toHere [6] 7 (by kernel_rfl)))⟩
              | 6, _ =>
                exact flow_val hD (.buildSlice 22 2 #[(0, .tmp 35), (1, .tmp 39)]) 22 rfl fun b v wz ρ h => by
                  have e1 := (h.on 1 35 (by kernel_rfl) (h.dep 1 (by kernel_rfl))).trans (h.have_ 1 (by kernel_rfl))
                  have e2 := (h.on 5 39 (by kernel_rfl) (h.dep 5 (by kernel_rfl))).trans (h.have_ 5 (by kernel_rfl))
                  have hBz := h.glob.1 (h.later 7 (by kernel_rfl))
                  refine ⟨.slice (some ⟨wz.heap.size, 0, none⟩) 2 2, wz.alloc (.cells (stepVs [(kd, bt), (4, (2 : Int) ^ e)]).toArray 26), by unfold opRun; go_simp; rfl, ⟨_, rfl, hBz.size, Row.new wz _ _⟩, ?_, keep (by decide) (by decide) (h.later 7 (by kernel_rfl)) (h.later 8 (by kernel_rfl)) (below_next hBz (below_alloc0 wz _))⟩
                  intro q vs hq hr
                  exact hr.alloc _
              | 7, _ =>
                exact flow_val hD (.call { callee := .builtin .append, args := #[.tmp 34, .tmp 40], argTypes := #[22, 22] }) 22 rfl fun b v wz ρ h => by
                  have e1 := (h.on 0 34 (by kernel_rfl) (h.dep 0 (by kernel_rfl))).trans (h.have_ 0 (by kernel_rfl))
                  obtain ⟨q, hq, hwq, hrq⟩ := h.have_ 6 (by kernel_rfl)
                  have e2 := (h.on 6 40 (by kernel_rfl) (h.dep 6 (by kernel_rfl))).trans hq
                  have hBz := h.glob.1 h.self
                  have hg1 := grown_below (B := 0) hBz none
                  have hOu : Own2 wz B u4 (asks ps) := HO4b.out.kept hg1 (by cases u4.ownBlock <;> simp)
                  have hOv : Own2 wz B v1 (ps.map (·.1) ++ [(kd, bt)]) := HO5.out.kept hg1 (by cases v1.ownBlock <;> simp)
                  obtain ⟨v2, w2, hrun, hO6, hg6, hd6⟩ := opRun_app2 (ty := 22) (m := [(kd, bt), (4, (2 : Int) ^ e)]) e1 e2 rfl hOu (Rd.row hrq) (by simp) (Nat.le_trans hbs1 hBz.size) hal
                  obtain ⟨g1, g2, g3⟩ := ask_next3 (HB1.out.trans (hBz.mono hbs1)) (Nat.le_trans hbs1 hBz.size) hOv hOu Hneb.out hO6 hg6 hd6
                  refine ⟨v2, w2, hrun, trivial, ?_, (fun h => by rw [up_self] at h; cases h), (fun _ => ⟨g1, g2, by rw [upv_self]; exact hO6, by rw [upv_self]; exact g3⟩), (fun h8 => by rw [up_ne (by decide), h.later 8 (by kernel_rfl)] at h8; cases h8)⟩
                  intro q' vs hq' hr
                  exact hr.grown hg6 (fun e => by have := (HO4b.out.lt _ e.symm).2; omega)
              | 8, _ =>
                exact flow_pure hD (fun _ _ _ _ h => h) (.assign (.tmp 41)) 22 rfl fun b v wz ρ h => by
                  have e := h.on 7 41 (by kernel_rfl) (h.dep 7 (by kernel_rfl))
                  have hb7 := h.dep 7 (by kernel_rfl)
                  have hG := h.glob.2.1 hb7
                  refine ⟨v 7, by unfold opRun; go_simp, trivial, (fun h7 => by rw [up_ne (by decide), hb7] at h7; cases h7), (fun _ => by rw [upv_ne (by decide)]; exact hG), (fun _ => by rw [upv_self, upv_ne (by decide)])⟩
            · intro b v wz hall hF hG
              have f0 : v 0 = _ := hF 0 (by decide)
              have f1 : v 1 = _ := hF 1 (by decide)
              have f2 : v 2 = _ := hF 2 (by decide)
              have f3 : v 3 = _ := hF 3 (by decide)
              have f4 : v 4 = _ := hF 4 (by decide)
              have f5 : v 5 = _ := hF 5 (by decide)
              obtain ⟨q, f6, _, _⟩ := hF 6 (by decide)
              have f8 := hG.2.2 (hall 8 (by decide))
              obtain ⟨g1, g2, g3, g4⟩ := hG.2.1 (hall 7 (by decide))
              generalize hv7 : v 7 = v2 at *
              simp only [fr, if_true, f0, f1, f2, f3, f4, f5, f6, hv7, f8, Act.put, List.setIfInBounds_toArray, List.set_cons_zero, List.set_cons_succ]
              clear hF hG hall f0 f1 f2 f3 f4 f5 f6 f8 hv7 v b
              go_wp2
              go_roundw
              case rel => exact ⟨k + 1, by omega, by go_num, g1, ps ++ [((kd, bt), (2 : Int) ^ e)], by simp; omega, hidden (by
                  intro p hp
                  rcases List.mem_append.1 hp with hp | hp
                  · exact h4.out p hp
                  · simp at hp; subst hp; exact ⟨h4k, e, he64, rfl⟩), by rw [List.map_append]; exact g2, by rw [asks_app]; exact g3, g4⟩
              case measure => simp [intOf]; omega
        · obtain rfl : k = n := by omega
          obtain ⟨A3, c3, rfl, hr3⟩ := hO3.read
          obtain ⟨A4, c4, rfl, hr4⟩ := hO4.read
          have H4 : Hid (∀ p ∈ ps, p.1.1 ≠ 4) := hidden fun p hp => (h4.out p hp).1
          rw [List.length_map] at *
          rw [asks_len] at *
          have hl3 : Hid ((ps.map (·.1)).length = ps.length) := hidden (List.length_map _)
          have hl4 : Hid ((asks ps).length = 2 * ps.length) := hidden (asks_len ps)
          have hva : Hid ((nums .u64 (valsO 0 (ps.map (·.1)))).length = ps.length) := hidden (by rw [nums_len, valsO_len, List.length_map])
          have hvb : Hid ((nums .u64 (valsO 0 (asks ps))).length = 2 * ps.length) := hidden (by rw [nums_len, valsO_len, asks_len])
          have hvt : Hid ((bools (toldO 0 (asks ps))).length = 2 * ps.length) := hidden (by unfold bools; rw [List.length_map, toldO_len, asks_len])
          have hp100 : ps.length ≤ 100 := by omega
          generalize hp : ps.length = p at *
          have HP := hidden hp
          have HB := hidden hBr
          clear hp hps hO3 hO4 hne h hn hBr
          go_wp2_with (go_at_call 16; first
            | (with_reducible refine (optioned_calls A3 p c3 (ps.map (·.1)) _ hr3 hl3.out (by omega)).mono ?_; rintro e w1 ⟨va, vta, rfl, hOa, hOta, hB1⟩; obtain ⟨Aa, ca, qa, _, hra, _⟩ := hOa.read; rw [hva.out] at qa; subst qa; clear hOa hOta)
            | (with_reducible refine (optioned_calls A4 (2 * p) c4 (asks ps) _ (hr4.below hB1 (Nat.le_refl _)) hl4.out (by omega)).mono ?_; rintro e w2 ⟨vb, vt, rfl, hOb, hOt, hB2⟩; obtain ⟨Ab, cb, qb, _, hrb, _⟩ := hOb.read; obtain ⟨At, ct, qt, _, hrt, _⟩ := hOt.read; rw [hvb.out] at qb; rw [hvt.out] at qt; subst qb qt; clear hOb hOt))
          have hraW := hra.below hB2 (Nat.le_refl _)
          have hr4W := (hr4.below hB1 (Nat.le_refl _)).below hB2 (Nat.le_refl _)
          have HBW : Hid (Below w.heap.size w w2) := hidden (by rw [hBB.out]; exact HB.out.trans ((hB1.mono (by rw [← hBB.out]; exact HB.out.size)).trans (hB2.mono (by rw [← hBB.out]; exact Nat.le_trans HB.out.size hB1.size))))
          clear hra hr3 hr4 hB1 hB2 HB
          go_loopw [74] (fun i wz => ∃ j : Nat, j ≤ p ∧ i = .int .i64 j ∧ ∃ d, wz = w2.drewN d) (fun i _ => p - (intOf i).toNat)
          case atStart => exact ⟨0, by omega, rfl, 0, rfl⟩
          case round =>
            obtain ⟨j, hj, rfl, d, rfl⟩ := hrel
            by_cases hlt2 : j < p
            · have hjp : j < ps.length := by rw [HP.out]; exact hlt2
              obtain ⟨q1, q2, q3, q4, q5⟩ := asks_pure ps H4.out 0 j hjp
              obtain ⟨e0, he64, hbit⟩ := (h4.out _ (List.getElem_mem hjp)).2
              rw [hbit] at q4 q5
              rw [bit_asked _ e0 he64] at q4
              generalize hbv : (2 : Int) ^ e0 = bv at *
              have x1 := hraW.at j (by rw [valsO_len, List.length_map]; exact hjp)
              have x2 := hrb.at (2 * j) (by rw [valsO_len, asks_len]; omega)
              have x3 := hrb.at (2 * j + 1) (by rw [valsO_len, asks_len]; omega)
              have x4 := hrt.atB (2 * j) (by rw [toldO_len, asks_len]; omega)
              have x5 := hrt.atB (2 * j + 1) (by rw [toldO_len, asks_len]; omega)
              rw [q1] at x2
              rw [q2] at x3
              rw [q3] at x4
              rw [q4] at x5
              have hqk : 2 * j + 1 < (asks ps).length := by rw [asks_len]; omega
              have y1 := (stepVs_at (asks ps) (2 * j + 1) hqk).2
              rw [show (asks ps)[2 * j + 1] = (4, bv) from by have := q5; rw [List.getElem?_eq_getElem hqk] at this; exact Option.some.inj this] at y1
              obtain ⟨b4, o4, e4, _, c4x⟩ := hr4W _ _ y1
              rw [← Nat.add_assoc] at c4x
              generalize gi (valsO 0 (ps.map (·.1))) j = vj at *
              obtain ⟨ba, oa, ea, _, cax⟩ := x1
              obtain ⟨bb, ob, eb, _, cbx⟩ := x2
              obtain ⟨bb', ob', eb', _, cbx'⟩ := x3
              obtain ⟨bt, ot, et, _, ctx⟩ := x4
              obtain ⟨bt', ot', et', _, ctx'⟩ := x5
              subst ea eb et e4
              cases eb'
              cases et'
              simp only at c4x
              have hw2 : IntKind.i64.wrap (2 * (j : Int)) = 2 * (j : Int) := by rw [IntKind.wrap_i64]; omega
              have hw3 : IntKind.i64.wrap (2 * (j : Int) + 1) = 2 * (j : Int) + 1 := by rw [IntKind.wrap_i64]; omega
              have hi1 : 2 * j < 2 * p := by omega
              have hi2 : 2 * j + 1 < 2 * p := by omega
              have hi3 : (j : Int) < (p : Int) := by omega
              have hi4 : 2 * (j : Int) < 2 * (p : Int) := by omega
              have hi5 : 2 * (j : Int) + 1 < 2 * (p : Int) := by omega
              have Hz : Hid (band vj bv = bits .and .u64 vj bv) := hidden rfl
              rw [Hz.out] at ctx'
              clear q1 q2 q3 q4 q5 hbit hbv y1 hqk hjp hraW hrb hrt hr4W he64 Hz
              by_cases hz : bits .and .u64 vj bv = 0
              · have hz2 : (bits .and .u64 vj bv != 0) = false := by simp [hz]
                rw [hz2] at ctx'
                go_wp2
                go_quiet (fail)
                go_wp2
                go_roundw
                case rel => exact ⟨j + 1, by omega, by go_num, _, rfl⟩
                case measure => simp [intOf]; omega
              · have hz2 : (bits .and .u64 vj bv != 0) = true := by simp [hz]
                rw [hz2] at ctx'
                go_wp2
                go_quiet (fail)
                go_wp2
                go_roundw
                case rel => exact ⟨j + 1, by omega, by go_num, _, rfl⟩
                case measure => simp [intOf]; omega
            · obtain rfl : j = p := by omega
              clear hraW hrb hrt hr4W
              go_wp2_with (go_at_call 15; go_must (refine (optionAwake_calls _).mono ?_; rintro e w9 ⟨rfl, hB9⟩))
              go_ret
              exact ⟨rfl, below_next (below_drewN0 HBW.out d) hB9⟩
    · have h100i : (100 : Int) < (n : Int) := by omega
      go_enter Try.func3, Try.ntmps3
      go_wp2_with (go_at_call 15; go_must (refine (optionAwake_calls _).mono ?_; rintro e w1 ⟨rfl, hB1⟩))
      go_ret
      exact ⟨rfl, hB1⟩
  · go_enter Try.func3, Try.ntmps3
    go_wp2
    go_ret
    exact ⟨rfl, Below.refl _ _⟩
end Go.Proofs.Yticgdbcnknhndaa
