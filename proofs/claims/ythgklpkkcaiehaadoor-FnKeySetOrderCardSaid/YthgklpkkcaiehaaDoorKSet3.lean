/- RemoveKey of a key set. -/
import Derived.Test.YthgklpkkcaiehaaDoorKSet2
import Derived.Test.YthgklpkkcaiehaaDoorFlow
namespace Go.Proofs.YthgklpkkcaiehaaDoor
open Go.RowKit
set_option linter.unusedVariables false
set_option linter.unusedSimpArgs false

theorem size_key : (Tryd.prog.info? 81).map (·.size) = some 1 := by kernel_rfl
/-- The world of the statement that takes a key out of the middle: nothing yet, the row written, the field written. -/
def gk (W0 W1 W2 : World) (b : Nat → Bool) : World := if b 17 = true then W2 else if b 14 = true then W1 else W0
theorem gk_up (W0 W1 W2 : World) (b : Nat → Bool) (i : Nat) (h : i ≠ 14) (h' : i ≠ 17) : gk W0 W1 W2 (up b i) = gk W0 W1 W2 b := by
  unfold gk; rw [up_ne (Ne.symm h), up_ne (Ne.symm h')]
theorem opRun_appK {P : Program} {ρ : Operand → Value} {x y : Operand} {t ty : TypeId} {w w1 : World} {a b v : Value} (hx : ρ x = a) (hy : ρ y = b) (h : (Builtin.append_ #[t, t] ty #[a, b]).run P w = .ok v w1) :
    opRun P ρ (.call { callee := .builtin .append, args := #[x, y], argTypes := #[t, t] }) ty w = .ok (.value v) w1 := by
  unfold opRun execOp
  simp only [resolve, invoke, builtin, Sem.run_bind, Sem.run_pure, Result.andThen_ok, List.map_toArray, List.map_cons, List.map_nil, hx, hy, h]
theorem erase_take {s : List Nat} {k i : Nat} (hi : i < s.length) (h : ∀ j, j < i → s.getD j 0 ≠ k) (he : s.getD i 0 = k) : s.erase k = s.take i ++ s.drop (i + 1) := by
  rw [List.erase_eq_eraseIdx_of_idxOf (idx_first s k i hi h he), List.eraseIdx_eq_take_drop_succ]
theorem ownBlock_cut (A : Option Addr) (p : Prop) [Decidable p] (j n c n' c' : Nat) : Value.ownBlock (.slice (if p then A else A.map (·.add j)) n c) = Value.ownBlock (.slice A n' c') := by
  cases A with
  | none => split <;> rfl
  | some a =>
    obtain ⟨b, o, sp⟩ := a
    split
    · rfl
    · cases sp <;> simp only [Option.map_some, Value.ownBlock, Addr.add] <;> (try split) <;> rfl
section
variable (bk : Nat → Nat) (m : Nat) (s : List Nat) (w : World) (gs mb base : Nat) (v : Value)
set_option maxRecDepth 100000 in
set_option maxHeartbeats 4000000 in
theorem removeKey_yes (h : SetAt w gs mb base v (keysV bk s)) (hb : s.length ≤ 1000) (ha : Apart bk m) (hkin : KeysIn w bk m) (hs : SetOk m s) (k : Nat) (hk : k < m) (hm : k ∈ s) :
    Calls Tryd.prog 137 #[.pointer (some ⟨gs, 0, none⟩), keyV bk k] w fun e w' => e = .returned .nilIface ∧ SetTo w gs mb base v (keysV bk (s.erase k)) w' := by
  have H := hidden h
  obtain ⟨n, hn⟩ : ∃ n, s.length = n := ⟨_, rfl⟩
  obtain ⟨A, c, rfl, hc, hR, hnil⟩ := h.kl.read
  rw [keysV_len, hn] at hc h H ⊢
  have c0 := h.row.cell 0
  have c1 := h.row.cell 1
  have f0 := h.row.free 0
  simp at c0 c1
  clear h
  obtain ⟨K, hK⟩ : ∃ K, bk k = K := ⟨_, rfl⟩
  have Hk := hidden (fun j (hj : j < s.length) => eql_keys hkin ha (hs.lt (s.getD j 0) (by simp [hj])) hk)
  have Hm := hidden hm
  have Hcut : Hid (∀ i, i < n → ∀ W, (Instr.slice 72 (.slice A n c) (some (.int .i64 1)) none none).run Tryd.prog W = .ok (.slice (if c = 1 then A else A.map (·.add 1)) (n - 1) (c - 1)) W) := hidden (fun i hi W => run_from Tryd.underlying72 size_key A n c 1 1 rfl (by omega) hc)
  have Hup : Hid (∀ i : Nat, i ≤ n → ∀ W, (Instr.slice 72 (.slice A n c) none (some (.int .i64 i)) none).run Tryd.prog W = .ok (.slice A i c) W) := hidden (fun i hi W => run_upto Tryd.underlying72 size_key A n c i i rfl (by omega))
  unfold keyV
  rw [hK] at Hk ⊢
  clear hm ha hkin
  go_enter Tryd.func137, Tryd.ntmps137
  go_wp2
  go_loop [12] (fun i => ∃ j : Nat, j ≤ n ∧ i = .int .i64 j ∧ Hid (∀ q, q < j → s.getD q 0 ≠ k)) (fun i => n - (intOf i).toNat)
  case atStart => exact ⟨0, by omega, rfl, hidden (by omega)⟩
  case round =>
    obtain ⟨j, hj, rfl, Hno⟩ := hrel
    by_cases hlt : j < n
    · obtain ⟨b0, o0, hA, hlb, ck⟩ := hR _ _ (keysV_at bk s j (by omega))
      have hq := Hk.out j (by omega)
      unfold keyV at ck
      obtain ⟨J, hJ⟩ : ∃ J, bk (s.getD j 0) = J := ⟨_, rfl⟩
      rw [hJ] at ck hq
      clear hR
      by_cases he : s.getD j 0 = k
      · rw [decide_eq_true he] at hq
        have HE : Hid (s.erase k = s.take j ++ s.drop (j + 1)) := hidden (erase_take (by omega) Hno.out he)
        clear he
        by_cases hj0 : j = 0
        · subst hj0
          have hz := Hcut.out 0 hlt w
          simp only [Nat.add_zero] at ck
          have HE1 : Hid (s.erase k = s.drop 1) := hidden (by rw [HE.out]; simp)
          obtain ⟨v1, hv1⟩ : ∃ v1 : Option Addr, v1 = (if c = 1 then A else A.map (·.add 1)) := ⟨_, rfl⟩
          rw [← hv1] at hz
          have HV := hidden hv1
          have HS : Hid (SetTo w gs mb base (.slice A n c) (keysV bk (s.erase k)) (w.setCell ⟨gs, 0, none⟩ (.slice v1 (n - 1) (c - 1)))) := hidden (by
            have e : keysV bk s = keyV bk (s.getD 0 0) :: keysV bk (s.erase k) := by
              rw [HE1.out]
              cases s with
              | nil => simp at hn; omega
              | cons x s => simp [keysV]
            have hk := H.out.kl
            rw [e] at hk
            have h2 := hk.cut1
            rw [← HV.out] at h2
            exact setTo_store H.out (Alt.refl _ _) h2 (.inl (by rw [HV.out]; exact ownBlock_cut ..)))
          clear hv1
          subst hA
          go_wp2
          go_ret
          exact ⟨rfl, HS.out⟩
        · have hz := Hup.out j (by omega) w
          have hj0i : ((j : Int) == 0) = false := beq_eq_false_iff_ne.2 (by omega)
          have HS : Hid (j + 1 = n → SetTo w gs mb base (.slice A n c) (keysV bk (s.erase k)) (w.setCell ⟨gs, 0, none⟩ (.slice A j c))) := hidden (fun hjl => by
            have e : keysV bk (s.erase k) = (keysV bk s).take j := by
              rw [HE.out, List.drop_eq_nil_of_le (by omega), List.append_nil]
              simp [keysV]
            rw [e]
            exact setTo_store H.out (Alt.refl _ _) (H.out.kl.upto j (by rw [keysV_len]; omega)) (.inl (by cases A <;> rfl)))
          have Hj0 := hidden hj0
          clear hj0
          subst hA
          go_wp2
          · go_ret
            exact ⟨rfl, HS.out (by have hx : ((j : Int) == (n : Int) - 1) = true := (by assumption); rw [beq_iff_eq] at hx; omega)⟩
          · have hlt2 : j + 1 < n := by
              have hx : ((j : Int) == (n : Int) - 1) = false := by assumption
              rw [beq_eq_false_iff_ne] at hx; omega
            have hjw : IntKind.i64.wrap ((j : Int) + 1) = (j : Int) + 1 := by rw [IntKind.wrap_i64]; omega
            have hz1 : ∀ W, (Instr.slice 72 (.slice (some ⟨b0, o0, none⟩) n c) none (some (.int .i64 j)) none).run Tryd.prog W = .ok (.slice (some ⟨b0, o0, none⟩) j c) W := fun W => Hup.out j (by omega) W
            obtain ⟨X, hX⟩ : ∃ X : Option Addr, X = (if c = j + 1 then some ⟨b0, o0, none⟩ else (some (⟨b0, o0, none⟩ : Addr)).map (·.add (j + 1))) := ⟨_, rfl⟩
            have HX := hidden hX
            have hz2 : ∀ W, (Instr.slice 72 (.slice (some ⟨b0, o0, none⟩) n c) (some (.int .i64 ((j : Int) + 1))) none none).run Tryd.prog W = .ok (.slice X (n - (j + 1)) (c - (j + 1))) W := fun W => by
              rw [hX]; exact run_from Tryd.underlying72 size_key _ n c _ (j + 1) (by omega) (by omega) hc
            clear hX
            have Hcc := hidden hc
            obtain ⟨w1, hrun0, hO1, hg1⟩ := run_kdel (P := Tryd.prog) (t := 72) (ty := 72) Tryd.underlying72 size_key (H.out.kl.below (Below.refl _ _).drew) (keysV_one bk s) hlt2
            have hrun : (Builtin.append_ #[72, 72] 72 #[.slice (some ⟨b0, o0, none⟩) j c, .slice X (n - (j + 1)) (c - (j + 1))]).run Tryd.prog w.drew = .ok (.slice (some ⟨b0, o0, none⟩) (n - 1) c) w1 := by rw [HX.out]; exact hrun0
            clear hrun0
            have HA1 : Hid (Alt w w1 (fun i => some i = Value.ownBlock (.slice (some ⟨b0, o0, none⟩) n c))) := hidden ((Alt.drew w _).trans (Alt.of_grown hg1) (fun i _ e => e))
            have HS1 : Hid (SetTo w gs mb base (.slice (some ⟨b0, o0, none⟩) n c) (keysV bk (s.erase k)) (w1.setCell ⟨gs, 0, none⟩ (.slice (some ⟨b0, o0, none⟩) (n - 1) c))) := hidden (by
              have e : keysV bk (s.erase k) = (keysV bk s).take j ++ (keysV bk s).drop (j + 1) := by
                rw [HE.out]; simp [keysV]
              rw [e]
              exact setTo_store H.out HA1.out hO1 (.inl rfl))
            have hRg := HA1.out.row H.out.row (fun e => H.out.kl.ne_row H.out.row (by decide) e.symm)
            have f0' := hRg.free 0
            have c0' := hRg.cell 0
            simp at c0'
            clear hRg hO1 hg1
            have hD : dOk [(0, 21), (1, 22), (2, 23), (3, 24), (4, 25), (5, 26), (6, 27), (7, 28), (8, 29), (9, 30), (10, 31), (11, 32), (12, 33), (13, 34), (14, 35), (15, 36), (16, 37)] 66 = true := by kernel_rfl
            refine reg_flow [(0, 21), (1, 22), (2, 23), (3, 24), (4, 25), (5, 26), (6, 27), (7, 28), (8, 29), (9, 30), (10, 31), (11, 32), (12, 33), (13, 34), (14, 35), (15, 36), (16, 37)] (by kernel_rfl) (by kernel_rfl) hD (by kernel_rfl) (by kernel_rfl)
              (fun q x wr => match q with
                | 0 => x = .pointer (some ⟨gs, 0, none⟩)
                | 1 => x = .pointer (some ⟨gs, 0, none⟩)
                | 2 => x = .pointer (some ⟨gs, 0, none⟩)
                | 3 => x = .pointer (some ⟨gs, 0, none⟩)
                | 4 => x = .slice (some ⟨b0, o0, none⟩) n c
                | 5 => x = .int .i64 j
                | 6 => x = .slice (some ⟨b0, o0, none⟩) j c
                | 7 => x = .pointer (some ⟨gs, 0, none⟩)
                | 8 => x = .pointer (some ⟨gs, 0, none⟩)
                | 9 => x = .pointer (some ⟨gs, 0, none⟩)
                | 10 => x = .slice (some ⟨b0, o0, none⟩) n c
                | 11 => x = .int .i64 j
                | 12 => x = .int .i64 ((j : Int) + 1)
                | 13 => x = .slice X (n - (j + 1)) (c - (j + 1))
                | 14 => x = .slice (some ⟨b0, o0, none⟩) (n - 1) c
                | 15 => x = .pointer (some ⟨gs, 0, none⟩)
                | 16 => x = .pointer (some ⟨gs, 0, none⟩)
                | _ => True)
              (fun b v wr => wr = gk w.drew w1 (w1.setCell ⟨gs, 0, none⟩ (.slice (some ⟨b0, o0, none⟩) (n - 1) c)) b) (fun _ _ => True) ?_ ?_ ?_ ?_
            · intro q x wa wb _ h; exact h
            · intro v; rfl
            · intro q hq
              match q, hq with
              | 0, _ => exact flow_pure hD (fun _ => trivial) (.move (.tmp 0)) 108 rfl fun b v wr ρ h => ⟨_, by
                    have e0 := h.off 0 (by kernel_rfl)
                    unfold opRun
                    go_simp
                    , rfl, by rw [gk_up _ _ _ _ _ (by decide) (by decide)]; exact h.glob⟩
              | 1, _ => exact flow_pure hD (fun _ => trivial) (.move (.tmp 0)) 108 rfl fun b v wr ρ h => ⟨_, by
                    have e0 := h.off 0 (by kernel_rfl)
                    unfold opRun
                    go_simp
                    , rfl, by rw [gk_up _ _ _ _ _ (by decide) (by decide)]; exact h.glob⟩
              | 2, _ => exact flow_pure hD (fun _ => trivial) (.nilCheck (.tmp 22)) 0 rfl fun b v wr ρ h => ⟨_, by
                    have d0 := (h.on 1 22 (by kernel_rfl) (h.dep 1 (by kernel_rfl))).trans (h.have_ 1 (by kernel_rfl))
                    unfold opRun
                    go_simp
                    , rfl, by rw [gk_up _ _ _ _ _ (by decide) (by decide)]; exact h.glob⟩
              | 3, _ => exact flow_pure hD (fun _ => trivial) (.fieldAddr 133 (.tmp 23) 0) 0 rfl fun b v wr ρ h => ⟨_, by
                    have d0 := (h.on 2 23 (by kernel_rfl) (h.dep 2 (by kernel_rfl))).trans (h.have_ 2 (by kernel_rfl))
                    unfold opRun
                    go_simp
                    , rfl, by rw [gk_up _ _ _ _ _ (by decide) (by decide)]; exact h.glob⟩
              | 4, _ => exact flow_pure hD (fun _ => trivial) (.load 72 (.tmp 24)) 72 rfl fun b v wr ρ h => ⟨_, by
                    have d0 := (h.on 3 24 (by kernel_rfl) (h.dep 3 (by kernel_rfl))).trans (h.have_ 3 (by kernel_rfl))
                    have b14 : b 14 = false := by
                      cases hb : b 14 with
                      | false => rfl
                      | true => have := h.shut 6 4 (h.shut 14 6 hb (by kernel_rfl)) (by kernel_rfl); rw [h.self] at this; cases this
                    have b17 : b 17 = false := by
                      cases hb : b 17 with
                      | false => rfl
                      | true => have := h.shut 17 14 hb (by kernel_rfl); rw [b14] at this; cases this
                    have hw : wr = w.drew := by rw [h.glob, gk, b14, b17]; rfl
                    have c9 : wr.cell? ⟨gs, 0, none⟩ = some (.slice (some ⟨b0, o0, none⟩) n c) := by rw [hw]; exact c0
                    unfold opRun
                    go_simp
                    , rfl, by rw [gk_up _ _ _ _ _ (by decide) (by decide)]; exact h.glob⟩
              | 5, _ => exact flow_pure hD (fun _ => trivial) (.move (.tmp 5)) 3 rfl fun b v wr ρ h => ⟨_, by
                    have e0 := h.off 5 (by kernel_rfl)
                    unfold opRun
                    go_simp
                    , rfl, by rw [gk_up _ _ _ _ _ (by decide) (by decide)]; exact h.glob⟩
              | 6, _ => exact flow_pure hD (fun _ => trivial) (.slice 72 (.tmp 25) none (some (.tmp 26)) none) 72 rfl fun b v wr ρ h => ⟨_, by
                    have d0 := (h.on 4 25 (by kernel_rfl) (h.dep 4 (by kernel_rfl))).trans (h.have_ 4 (by kernel_rfl))
                    have d1 := (h.on 5 26 (by kernel_rfl) (h.dep 5 (by kernel_rfl))).trans (h.have_ 5 (by kernel_rfl))
                    unfold opRun
                    go_simp
                    , rfl, by rw [gk_up _ _ _ _ _ (by decide) (by decide)]; exact h.glob⟩
              | 7, _ => exact flow_pure hD (fun _ => trivial) (.move (.tmp 0)) 108 rfl fun b v wr ρ h => ⟨_, by
                    have e0 := h.off 0 (by kernel_rfl)
                    unfold opRun
                    go_simp
                    , rfl, by rw [gk_up _ _ _ _ _ (by decide) (by decide)]; exact h.glob⟩
              | 8, _ => exact flow_pure hD (fun _ => trivial) (.nilCheck (.tmp 28)) 0 rfl fun b v wr ρ h => ⟨_, by
                    have d0 := (h.on 7 28 (by kernel_rfl) (h.dep 7 (by kernel_rfl))).trans (h.have_ 7 (by kernel_rfl))
                    unfold opRun
                    go_simp
                    , rfl, by rw [gk_up _ _ _ _ _ (by decide) (by decide)]; exact h.glob⟩
              | 9, _ => exact flow_pure hD (fun _ => trivial) (.fieldAddr 133 (.tmp 29) 0) 0 rfl fun b v wr ρ h => ⟨_, by
                    have d0 := (h.on 8 29 (by kernel_rfl) (h.dep 8 (by kernel_rfl))).trans (h.have_ 8 (by kernel_rfl))
                    unfold opRun
                    go_simp
                    , rfl, by rw [gk_up _ _ _ _ _ (by decide) (by decide)]; exact h.glob⟩
              | 10, _ => exact flow_pure hD (fun _ => trivial) (.load 72 (.tmp 30)) 72 rfl fun b v wr ρ h => ⟨_, by
                    have d0 := (h.on 9 30 (by kernel_rfl) (h.dep 9 (by kernel_rfl))).trans (h.have_ 9 (by kernel_rfl))
                    have b14 : b 14 = false := by
                      cases hb : b 14 with
                      | false => rfl
                      | true => have := h.shut 13 10 (h.shut 14 13 hb (by kernel_rfl)) (by kernel_rfl); rw [h.self] at this; cases this
                    have b17 : b 17 = false := by
                      cases hb : b 17 with
                      | false => rfl
                      | true => have := h.shut 17 14 hb (by kernel_rfl); rw [b14] at this; cases this
                    have hw : wr = w.drew := by rw [h.glob, gk, b14, b17]; rfl
                    have c9 : wr.cell? ⟨gs, 0, none⟩ = some (.slice (some ⟨b0, o0, none⟩) n c) := by rw [hw]; exact c0
                    unfold opRun
                    go_simp
                    , rfl, by rw [gk_up _ _ _ _ _ (by decide) (by decide)]; exact h.glob⟩
              | 11, _ => exact flow_pure hD (fun _ => trivial) (.move (.tmp 5)) 3 rfl fun b v wr ρ h => ⟨_, by
                    have e0 := h.off 5 (by kernel_rfl)
                    unfold opRun
                    go_simp
                    , rfl, by rw [gk_up _ _ _ _ _ (by decide) (by decide)]; exact h.glob⟩
              | 12, _ => exact flow_pure hD (fun _ => trivial) (.binOp .add 3 (.tmp 32) (.const (.int .i64 1)) 3) 3 rfl fun b v wr ρ h => ⟨_, by
                    have d0 := (h.on 11 32 (by kernel_rfl) (h.dep 11 (by kernel_rfl))).trans (h.have_ 11 (by kernel_rfl))
                    have e9 := h.cst (.int .i64 1)
                    unfold opRun
                    go_simp
                    , rfl, by rw [gk_up _ _ _ _ _ (by decide) (by decide)]; exact h.glob⟩
              | 13, _ => exact flow_pure hD (fun _ => trivial) (.slice 72 (.tmp 31) (some (.tmp 33)) none none) 72 rfl fun b v wr ρ h => ⟨_, by
                    have d0 := (h.on 10 31 (by kernel_rfl) (h.dep 10 (by kernel_rfl))).trans (h.have_ 10 (by kernel_rfl))
                    have d1 := (h.on 12 33 (by kernel_rfl) (h.dep 12 (by kernel_rfl))).trans (h.have_ 12 (by kernel_rfl))
                    unfold opRun
                    go_simp
                    , rfl, by rw [gk_up _ _ _ _ _ (by decide) (by decide)]; exact h.glob⟩
              | 15, _ => exact flow_pure hD (fun _ => trivial) (.nilCheck (.tmp 21)) 0 rfl fun b v wr ρ h => ⟨_, by
                    have d0 := (h.on 0 21 (by kernel_rfl) (h.dep 0 (by kernel_rfl))).trans (h.have_ 0 (by kernel_rfl))
                    unfold opRun
                    go_simp
                    , rfl, by rw [gk_up _ _ _ _ _ (by decide) (by decide)]; exact h.glob⟩
              | 16, _ => exact flow_pure hD (fun _ => trivial) (.fieldAddr 133 (.tmp 36) 0) 0 rfl fun b v wr ρ h => ⟨_, by
                    have d0 := (h.on 15 36 (by kernel_rfl) (h.dep 15 (by kernel_rfl))).trans (h.have_ 15 (by kernel_rfl))
                    unfold opRun
                    go_simp
                    , rfl, by rw [gk_up _ _ _ _ _ (by decide) (by decide)]; exact h.glob⟩
              | 14, _ =>
                exact flow_val hD (.call { callee := .builtin .append, args := #[.tmp 27, .tmp 34], argTypes := #[72, 72] }) 72 rfl fun b v wr ρ h => by
                  have d0 := (h.on 6 27 (by kernel_rfl) (h.dep 6 (by kernel_rfl))).trans (h.have_ 6 (by kernel_rfl))
                  have d1 := (h.on 13 34 (by kernel_rfl) (h.dep 13 (by kernel_rfl))).trans (h.have_ 13 (by kernel_rfl))
                  have b14 := h.self
                  have b17 : b 17 = false := by
                    cases hb : b 17 with
                    | false => rfl
                    | true => have := h.shut 17 14 hb (by kernel_rfl); rw [b14] at this; cases this
                  have hw : wr = w.drew := by rw [h.glob, gk, b14, b17]; rfl
                  refine ⟨_, w1, ?_, rfl, trivial, ?_⟩
                  · rw [hw]; exact opRun_appK d0 d1 hrun
                  · show w1 = gk _ _ _ _
                    unfold gk; rw [up_ne (by decide), b17, up_self]; rfl
              | 17, _ =>
                exact flow_skip hD (.store 72 (.tmp 37) (.tmp 35)) 0 rfl fun b v wr ρ h => by
                  have d0 := (h.on 16 37 (by kernel_rfl) (h.dep 16 (by kernel_rfl))).trans (h.have_ 16 (by kernel_rfl))
                  have d1 := (h.on 14 35 (by kernel_rfl) (h.dep 14 (by kernel_rfl))).trans (h.have_ 14 (by kernel_rfl))
                  have b17 := h.self
                  have b14 := h.dep 14 (by kernel_rfl)
                  have hw : wr = w1 := by rw [h.glob, gk, b14, b17]; rfl
                  have c9 : wr.cell? ⟨gs, 0, none⟩ = some (.slice (some ⟨b0, o0, none⟩) n c) := by rw [hw]; exact c0'
                  have f9 : wr.frozen? ⟨gs, 0, none⟩ = false := by rw [hw]; exact f0'
                  refine ⟨wr.setCell ⟨gs, 0, none⟩ (.slice (some ⟨b0, o0, none⟩) (n - 1) c), ?_, trivial, trivial, ?_⟩
                  · unfold opRun; go_simp
                  · show wr.setCell ⟨gs, 0, none⟩ (.slice (some ⟨b0, o0, none⟩) (n - 1) c) = gk _ _ _ _
                    unfold gk; rw [up_self, hw]; rfl
              | q + 18, hq => exact absurd hq (by simp)
            · intro b v wr hall hF hG
              have hw : wr = w1.setCell ⟨gs, 0, none⟩ (.slice (some ⟨b0, o0, none⟩) (n - 1) c) := by rw [hG, gk, hall 17 (by decide)]; rfl
              subst hw
              have f0 : v 0 = _ := hF 0 (by decide)
              have f1 : v 1 = _ := hF 1 (by decide)
              have f2 : v 2 = _ := hF 2 (by decide)
              have f3 : v 3 = _ := hF 3 (by decide)
              have f4 : v 4 = _ := hF 4 (by decide)
              have f5 : v 5 = _ := hF 5 (by decide)
              have f6 : v 6 = _ := hF 6 (by decide)
              have f7 : v 7 = _ := hF 7 (by decide)
              have f8 : v 8 = _ := hF 8 (by decide)
              have f9 : v 9 = _ := hF 9 (by decide)
              have f10 : v 10 = _ := hF 10 (by decide)
              have f11 : v 11 = _ := hF 11 (by decide)
              have f12 : v 12 = _ := hF 12 (by decide)
              have f13 : v 13 = _ := hF 13 (by decide)
              have f14 : v 14 = _ := hF 14 (by decide)
              have f15 : v 15 = _ := hF 15 (by decide)
              have f16 : v 16 = _ := hF 16 (by decide)
              simp only [fr, if_true, f0, f1, f2, f3, f4, f5, f6, f7, f8, f9, f10, f11, f12, f13, f14, f15, f16, Act.put, List.setIfInBounds_toArray, List.set_cons_zero, List.set_cons_succ]
              clear hF hG hall f0 f1 f2 f3 f4 f5 f6 f7 f8 f9 f10 f11 f12 f13 f14 f15 f16 hz1 hz2 c0 c1 ck hrun hD hq
              go_wp2
              go_ret
              exact ⟨rfl, HS1.out⟩
      · rw [decide_eq_false he] at hq
        have HE := hidden he
        subst hA
        clear he
        go_wp2
        go_round
        case rel => exact ⟨j + 1, by omega, by go_num, hidden (fun q hq => by rcases Nat.lt_succ_iff_lt_or_eq.1 hq with h | rfl; exact Hno.out q h; exact HE.out)⟩
        case measure => simp [intOf]; omega
    · obtain rfl : j = n := by omega
      exact absurd Hm.out (posK_no hn Hno.out)
end
end Go.Proofs.YthgklpkkcaiehaaDoor
