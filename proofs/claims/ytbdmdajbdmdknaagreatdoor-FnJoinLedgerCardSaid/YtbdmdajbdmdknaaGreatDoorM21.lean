/- laws.joinOrdered: the walk. laws.joinSigned and laws.joinLink once more: what they hand back lies in new memory. The ledger's plain laws: links, told apart. The ledger's plain laws: the torn link, and the links that changed places. -/
import Derived.Test.YtbdmdajbdmdknaaGreatDoorM20
import Derived.Carry
namespace Go.Proofs.YtbdmdajbdmdknaaGreatDoor
open Go.RowKit
open Go.ChangeMaps (setBlock)
set_option linter.unusedVariables false
set_option linter.unusedSimpArgs false

theorem tellsM_size (key : List Int) (ts : Nat → List Int) : ∀ p u, (tellsM key ts p u).size ≤ 1000000
  | 0, u => by show (0 : Nat) ≤ 1000000; omega
  | p + 1, u => by
    unfold tellsM
    split
    · rw [markS_size]; omega
    · exact tellsM_size key ts p u
theorem map_ss : Tryz.prog.underlying 81 = some (.map 9 9) := Tryz.underlying81
/-- What joinOrdered gives. -/
def OrdP (w : World) (q : Nat) (key : List Int) (M : ByteArray → ByteArray) (ts : Nat → List Int) (e : Ending) (w' : World) : Prop := Below w.heap.size w w' ∧ ∃ b, e = .returned (.bool b) ∧ (b = true ↔ ∀ j, j < q → M (strOfNums (ts j)) = markS key (prevT ts j))
set_option maxRecDepth 100000 in
set_option maxHeartbeats 8000000 in
theorem ordered_calls (A : Option Addr) (n c : Nat) (key : List Int) (B : Option Addr) (q d : Nat) (vs : List (Option Addr × Nat × Nat)) (ts : Nat → List Int) (B2 : Option Addr) (q2 d2 : Nat) (vs2 : List (Option Addr × Nat × Nat)) (ts2 : Nat → List Int) (w : World) (h1 : ArgB w A n c key) (n1 : n ≤ 2000)
    (hR : Rd w B (slvs vs)) (hv : vs.length = q) (hq : q ≤ 8) (ht : ∀ j (h : j < vs.length), ArgB w (vs[j]).1 (vs[j]).2.1 (vs[j]).2.2 (ts j) ∧ (vs[j]).2.1 ≤ 20000)
    (hR2 : Rd w B2 (slvs vs2)) (hv2 : vs2.length = q2) (hq2 : q2 ≤ 8) (ht2 : ∀ j (h : j < vs2.length), ArgB w (vs2[j]).1 (vs2[j]).2.1 (vs2[j]).2.2 (ts2 j) ∧ (vs2[j]).2.1 ≤ 20000) :
    Calls Tryz.prog 25 #[.slice A n c, .slice B q d, .slice B2 q2 d2] w (OrdP w q2 key (tellsM key ts q) ts2) := by
  have E0 := hidden h1
  have EV := hidden hR
  have EL := hidden hv
  have ET := hidden ht
  have EV2 := hidden hR2
  have EL2 := hidden hv2
  have ET2 := hidden ht2
  clear h1 hR hv ht hR2 hv2 ht2
  have hmm := @run_makeMap Tryz.prog
  go_enter Tryz.func25, Tryz.ntmps25
  go_wp2
  obtain ⟨mb, hmb⟩ : ∃ mb, w.heap.size = mb := ⟨_, rfl⟩
  have HMB : Hid (w.heap.size ≤ mb) := hidden (Nat.le_of_eq hmb)
  refine wpAbs (fun W => Hid (MapS W mb 0 (tellsM key ts 0)) ∧ Hid (Below w.heap.size w W)) ?_ ?_
  · exact ⟨hidden (by rw [← hmb]; exact (MapS.made w).below (below_alloc0 _ _)), hidden (below_next (below_alloc0 _ _) (below_alloc0 _ _))⟩
  rintro w1 ⟨HM1, HB1⟩
  rw [hmb]
  clear hmb
  go_loopw [17, 8] (fun i vb wr => ∃ p : Nat, p ≤ q ∧ i = .int .i64 p ∧ ∃ X m f, vb = .slice X m f ∧ m ≤ 20000 ∧ Hid (ArgB wr X m f (prevT ts p)) ∧ Hid (MapS wr mb p (tellsM key ts p)) ∧ Hid (Below w.heap.size w wr)) (fun i _ _ => q - (intOf i).toNat)
  case atStart =>
    exact ⟨0, by omega, rfl, _, 0, _, rfl, by omega, hidden ⟨Rd.nil _ _, rfl, Nat.zero_le _, fun h => (by cases h), fun x hx => (by simp [prevT] at hx)⟩, HM1, HB1⟩
  case round =>
    clear HM1 HB1
    obtain ⟨p, hp, rfl, Xb, nb, cb, rfl, hnb, HBF, HM, HB⟩ := hrel
    by_cases hlt : p < q
    · have hkv : p < vs.length := by rw [EL.out]; exact hlt
      obtain ⟨b0, o0, rfl, hb1, hc1⟩ := (EV.out.below HB.out (Nat.le_refl _)) p _ (slvs_at vs p hkv)
      obtain ⟨ht1, ht2⟩ := ET.out p hkv
      have hto := ht1.below HB.out (Nat.le_refl _)
      obtain ⟨x, hx⟩ : ∃ x, vs[p] = x := ⟨_, rfl⟩
      rw [hx] at hc1 hto ht2
      clear hx ht1
      obtain ⟨X, m, d3⟩ := x
      dsimp only at hc1 hto ht2
      have HTO := hidden hto
      obtain ⟨pv, hpv⟩ : ∃ l, prevT ts p = l := ⟨_, rfl⟩
      rw [hpv] at HBF
      obtain ⟨r, hr⟩ : ∃ r, shaSum (markL key pv) = r := ⟨_, rfl⟩
      have HR : Hid (SumIs (markL key pv) r) := hidden ⟨hr.symm⟩
      obtain ⟨xs, hxs⟩ : ∃ x, strOfNums r = x := ⟨_, rfl⟩
      have hmk : markS key (prevT ts p) = xs := by unfold markS; rw [hpv, hr]; exact hxs
      obtain ⟨tx, htx⟩ : ∃ l, ts p = l := ⟨_, rfl⟩
      rw [htx] at HTO
      obtain ⟨sx, hsx⟩ : ∃ x, strOfNums tx = x := ⟨_, rfl⟩
      have hM' : tellsM key ts (p + 1) = fun u => if u = sx then xs else tellsM key ts p u := by
        funext u
        show (if u = strOfNums (ts p) then markS key (prevT ts p) else tellsM key ts p u) = _
        rw [hmk, htx, hsx]
      obtain ⟨M, hMM⟩ : ∃ M, tellsM key ts p = M := ⟨_, rfl⟩
      rw [hMM] at HM hM'
      obtain ⟨M', hM2⟩ : ∃ M', (fun u => if u = sx then xs else M u) = M' := ⟨_, rfl⟩
      rw [hM2] at hM'
      have HMN := hidden (And.intro hM' htx)
      have hsz : sx.size ≤ 1000000 := by rw [← hsx, strOf_len, HTO.out.len]; omega
      have hxz : xs.size ≤ 1000000 := by rw [← hmk, markS_size]; omega
      have HSZ := hidden (And.intro hsz (And.intro hxz (And.intro hsx (And.intro hxs hM2))))
      have HTY := hidden map_ss
      clear hto hpv hr hxs hmk htx hsx hM' hMM hM2 hsz hxz
      go_upto_region 6 with (fail)
      have hD : dOk [(0, 21), (1, 22), (2, 23), (3, 24), (4, 25), (5, 26), (6, 27), (7, 28), (8, 29), (9, 30), (11, 8)] 50 = true := by kernel_rfl
      have hRR : ∀ W, MapS W mb p M → RM mb W W := fun W h => ⟨h.isMap, World.grownBy.refl W _⟩
      refine reg_flow [(0, 21), (1, 22), (2, 23), (3, 24), (4, 25), (5, 26), (6, 27), (7, 28), (8, 29), (9, 30), (11, 8)] (by kernel_rfl) (by kernel_rfl) hD (by kernel_rfl) (by kernel_rfl)
        (fun j y W => match j with
          | 0 => y = .map (some mb)
          | 1 => y = .slice X m d3
          | 2 => y = .string sx
          | 3 => y = .slice A n c
          | 4 => y = .slice Xb nb cb
          | 5 => ∃ A5 c5, y = .slice A5 32 c5 ∧ ArgB W A5 32 c5 r
          | 6 => y = .string xs
          | 7 => y = .slice X m d3
          | 11 => y = .slice X m d3
          | _ => True)
        (GM w mb p M M' 81 xs X m d3 tx Xb nb cb pv)
        (fun w1 w2 => w1 = w2 ∨ Below w1.heap.size w1 w2 ∨ RM mb w1 w2) ?_ ?_ ?_ ?_
      · intro j y w1 w2 hR h
        match j, h with
        | 0, h | 1, h | 2, h | 3, h | 4, h | 6, h | 7, h | 11, h => exact h
        | 5, ⟨A5, c5, h1, h2⟩ =>
          refine ⟨A5, c5, h1, ?_⟩
          rcases hR with rfl | hR | hR
          · exact h2
          · exact h2.below hR (Nat.le_refl _)
          · exact h2.rm hR
        | 8, _ | 9, _ | 10, _ => trivial
        | n + 12, _ => trivial
      · intro v
        exact ⟨HB.out.drew, HMB.out, HBF.out.below (below_drewN0 (Below.refl _ _) 1) (Nat.le_refl _), HTO.out.below (below_drewN0 (Below.refl _ _) 1) (Nat.le_refl _), fun _ => HM.out.drew, fun h => (by cases h), fun h => (by cases h)⟩
      · intro i hi
        match i, hi with
        | 0, _ =>
          exact flow_pure hD (fun _ => .inl rfl) (.move (.tmp 7)) 81 rfl fun b v W ρ h => ⟨_, by
            have e := h.off 7 (by kernel_rfl)
            unfold opRun
            go_simp
            , rfl, h.glob.pure 0 _ (by decide) (by decide) (by decide)⟩
        | 1, _ =>
          exact flow_pure hD (fun _ => .inl rfl) (.move (.tmp 10)) 31 rfl fun b v W ρ h => ⟨_, by
            have e := h.off 10 (by kernel_rfl)
            unfold opRun
            go_simp
            , rfl, h.glob.pure 1 _ (by decide) (by decide) (by decide)⟩
        | 2, _ =>
          exact flow_pure hD (fun _ => .inl rfl) (.convert 31 9 (.tmp 22)) 9 rfl fun b v W ρ h => ⟨_, by
            have e := (h.on 1 22 (by kernel_rfl) (h.dep 1 (by kernel_rfl))).trans (h.have_ 1 (by kernel_rfl))
            have hr := run_string (P := Tryz.prog) (W := W) (c := d3) Tryz.underlying31 Tryz.underlying5 Tryz.underlying9 h.glob.txt.rd h.glob.txt.len
            rw [HSZ.out.2.2.1] at hr
            unfold opRun
            go_simp
            , rfl, h.glob.pure 2 _ (by decide) (by decide) (by decide)⟩
        | 3, _ =>
          exact flow_pure hD (fun _ => .inl rfl) (.move (.tmp 0)) 31 rfl fun b v W ρ h => ⟨_, by
            have e := h.off 0 (by kernel_rfl)
            unfold opRun
            go_simp
            , rfl, h.glob.pure 3 _ (by decide) (by decide) (by decide)⟩
        | 4, _ =>
          exact flow_pure hD (fun _ => .inl rfl) (.move (.tmp 8)) 31 rfl fun b v W ρ h => ⟨_, by
            have e := h.before 11 8 (by kernel_rfl) (h.later 11 (by kernel_rfl))
            unfold opRun
            go_simp
            , rfl, h.glob.pure 4 _ (by decide) (by decide) (by decide)⟩
        | 5, _ =>
          exact flow_call hD (.call { callee := .value (.func 24), args := #[.tmp 24, .tmp 25], argTypes := #[31, 31] }) 31 rfl 24 fun b v W ρ h => by
            have d0 := (h.on 3 24 (by kernel_rfl) (h.dep 3 (by kernel_rfl))).trans (h.have_ 3 (by kernel_rfl))
            have d1 := (h.on 4 25 (by kernel_rfl) (h.dep 4 (by kernel_rfl))).trans (h.have_ 4 (by kernel_rfl))
            have b8 : b 8 = false := h.later 8 (by kernel_rfl)
            have b10 : b 10 = false := h.later 10 (by kernel_rfl)
            have em : #[Operand.tmp 24, Operand.tmp 25].map ρ = #[.slice A n c, .slice Xb nb cb] := by simp only [List.map_toArray, List.map_cons, List.map_nil, d0, d1]
            refine ⟨#[.slice A n c, .slice Xb nb cb], ?_, ?_⟩
            · rw [← em]; exact opRun_call (h.fn _) (Tryz.call24 _ _)
            · refine (joinMark_calls _ _ _ _ _ _ _ _ r W (E0.out.below h.glob.below (Nat.le_refl _)) (by omega) h.glob.bef (by omega) HR.out).mono ?_
              rintro e w2 ⟨hB, A5, c5, rfl, ha⟩
              exact ⟨_, rfl, ⟨A5, c5, rfl, ha⟩, .inr (.inl hB), h.glob.call 5 _ (by decide) (by decide) (by decide) hB b8 b10⟩
        | 6, _ =>
          exact flow_val hD (.convert 31 9 (.tmp 26)) 9 rfl fun b v W ρ h => by
            have e0 := h.on 5 26 (by kernel_rfl) (h.dep 5 (by kernel_rfl))
            obtain ⟨A5, c5, e1, ha⟩ := h.have_ 5 (by kernel_rfl)
            have e := e0.trans e1
            have hr := run_string (P := Tryz.prog) (W := W) (c := c5) Tryz.underlying31 Tryz.underlying5 Tryz.underlying9 ha.rd ha.len
            rw [HSZ.out.2.2.2.1] at hr
            refine ⟨.string xs, W, ?_, rfl, .inl rfl, h.glob.pure 6 _ (by decide) (by decide) (by decide)⟩
            unfold opRun
            go_simp
        | 7, _ =>
          exact flow_pure hD (fun _ => .inl rfl) (.move (.tmp 10)) 31 rfl fun b v W ρ h => ⟨_, by
            have e := h.off 10 (by kernel_rfl)
            unfold opRun
            go_simp
            , rfl, h.glob.pure 7 _ (by decide) (by decide) (by decide)⟩
        | 8, _ =>
          exact flow_val hD (.mapEntry 81 (.tmp 21) (.tmp 23)) 0 rfl fun b v W ρ h => by
            have d0 := (h.on 0 21 (by kernel_rfl) (h.dep 0 (by kernel_rfl))).trans (h.have_ 0 (by kernel_rfl))
            have d1 := (h.on 2 23 (by kernel_rfl) (h.dep 2 (by kernel_rfl))).trans (h.have_ 2 (by kernel_rfl))
            have b9 : b 9 = false := h.later 9 (by kernel_rfl)
            have b10 : b 10 = false := h.later 10 (by kernel_rfl)
            have hm := h.glob.map0 h.self
            obtain ⟨v0, st, es1, cl1, r1, r2⟩ := hm.two HTY.out (by omega) sx xs HSZ.out.1 HSZ.out.2.1
            obtain ⟨es, cl, hes⟩ := hm.isMap
            have hg := setBlock_grown W mb (.map es1 cl1)
            refine ⟨.tuple #[v0, goInt st], setBlock W mb (.map es1 cl1), ?_, trivial, .inr (.inr ⟨⟨es, cl, hes⟩, hg⟩), ?_⟩
            · unfold opRun
              go_simp
            · refine ⟨h.glob.below.grown hg h.glob.below.size (fun k hk => by cases hk; exact HMB.out), HMB.out, h.glob.bef.unmap hes hg, h.glob.txt.unmap hes hg, fun h8 => ?_, fun _ _ => ?_, fun h10 => ?_⟩
              · rw [up_self] at h8; cases h8
              · refine ⟨v0, st, es1, cl1, by rw [upv_self], fun h9 => ?_, setBlock_new W mb _ hm.lt, fun w2 hw2 => ?_⟩
                · rw [up_ne (by decide), b9] at h9; cases h9
                · obtain ⟨es2, cl2, g1, g2⟩ := r2 w2 hw2
                  exact ⟨es2, cl2, g1, by rw [← HSZ.out.2.2.2.2]; exact g2⟩
              · rw [up_ne (by decide), b10] at h10; cases h10
        | 9, _ =>
          exact flow_val hD (.extract (.tmp 29) 1) 3 rfl fun b v W ρ h => by
            have b8 : b 8 = true := h.dep 8 (by kernel_rfl)
            have b10 : b 10 = false := h.later 10 (by kernel_rfl)
            obtain ⟨v0, st, es1, cl1, e8, _, hes, r2⟩ := h.glob.map1 b8 b10
            have d0 := (h.on 8 29 (by kernel_rfl) b8).trans e8
            refine ⟨goInt st, W, ?_, trivial, .inl rfl, ?_⟩
            · unfold opRun
              go_simp
            · refine ⟨h.glob.below, h.glob.mlt, h.glob.bef, h.glob.txt, fun h8 => ?_, fun _ _ => ⟨v0, st, es1, cl1, by rw [upv_ne (by decide)]; exact e8, fun _ => upv_self _ _ _, hes, r2⟩, fun h10 => ?_⟩
              · rw [up_ne (by decide), b8] at h8; cases h8
              · rw [up_ne (by decide), b10] at h10; cases h10
        | 10, _ =>
          exact flow_skip hD (.entryStore 81 (.tmp 21) (.tmp 30) (.tmp 27)) 0 rfl fun b v W ρ h => by
            have b8 : b 8 = true := h.dep 8 (by kernel_rfl)
            have b9 : b 9 = true := h.dep 9 (by kernel_rfl)
            obtain ⟨v0, st, es1, cl1, e8, e9, hes, r2⟩ := h.glob.map1 b8 h.self
            have d0 := (h.on 0 21 (by kernel_rfl) (h.dep 0 (by kernel_rfl))).trans (h.have_ 0 (by kernel_rfl))
            have d1 := (h.on 9 30 (by kernel_rfl) b9).trans (e9 b9)
            have d2 := (h.on 6 27 (by kernel_rfl) (h.dep 6 (by kernel_rfl))).trans (h.have_ 6 (by kernel_rfl))
            obtain ⟨es2, cl2, g1, g2⟩ := r2 W hes
            have g1 := show (Instr.entryStore 81 (.map (some mb)) (.int .i64 st) (.string xs)).run Tryz.prog W = _ from g1
            have hg := setBlock_grown W mb (.map es2 cl2)
            refine ⟨setBlock W mb (.map es2 cl2), ?_, trivial, .inr (.inr ⟨⟨es1, cl1, hes⟩, hg⟩), ?_⟩
            · unfold opRun
              go_simp
            · refine ⟨h.glob.below.grown hg h.glob.below.size (fun k hk => by cases hk; exact HMB.out), HMB.out, h.glob.bef.unmap hes hg, h.glob.txt.unmap hes hg, fun h8 => ?_, fun _ h10 => ?_, fun _ => g2⟩
              · rw [up_ne (by decide), b8] at h8; cases h8
              · rw [up_self] at h10; cases h10
        | 11, _ =>
          exact flow_pure hD (fun _ => .inl rfl) (.assign (.tmp 28)) 31 rfl fun b v W ρ h => ⟨_, by
            have e := (h.on 7 28 (by kernel_rfl) (h.dep 7 (by kernel_rfl))).trans (h.have_ 7 (by kernel_rfl))
            unfold opRun
            go_simp
            , rfl, h.glob.pure 11 _ (by decide) (by decide) (by decide)⟩
      · intro b v W hb hF hG
        have k11 : v 11 = .slice X m d3 := hF 11 (by decide)
        have hM2 := hG.map2 (hb 10 (by decide))
        have hp1 : tellsM key ts (p + 1) = M' := HMN.out.1
        have HG2 := hidden (And.intro hG.below (And.intro hG.txt hM2))
        have k0 : v 0 = .map (some mb) := hF 0 (by decide)
        have k1 : v 1 = .slice X m d3 := hF 1 (by decide)
        have k2 : v 2 = .string sx := hF 2 (by decide)
        have k3 : v 3 = .slice A n c := hF 3 (by decide)
        have k4 : v 4 = .slice Xb nb cb := hF 4 (by decide)
        have k6 : v 6 = .string xs := hF 6 (by decide)
        have k7 : v 7 = .slice X m d3 := hF 7 (by decide)
        clear hF hG hM2 hb hD hRR
        simp only [fr, if_true, k0, k1, k2, k3, k4, k6, k7, k11, Act.put, List.setIfInBounds_toArray, List.set_cons_zero, List.set_cons_succ]
        generalize v 5 = v5
        generalize v 8 = v8
        generalize v 9 = v9
        clear k0 k1 k2 k3 k4 k6 k7 k11
        have HP2 : prevT ts (p + 1) = tx := (show prevT ts (p + 1) = ts p by simp [prevT]).trans HMN.out.2
        go_wp2
        go_roundw
        case rel => exact ⟨p + 1, by omega, by go_num, _, _, _, rfl, ht2, hidden (by rw [HP2]; exact HG2.out.2.1), hidden (by rw [hp1]; exact HG2.out.2.2), hidden HG2.out.1⟩
        case measure => simp [intOf]; omega
    · obtain rfl : p = q := by omega
      obtain ⟨M, hMM⟩ : ∃ M, tellsM key ts p = M := ⟨_, rfl⟩
      have hMz : ∀ u, (M u).size ≤ 1000000 := by rw [← hMM]; exact tellsM_size key ts p
      rw [hMM] at HM ⊢
      have HMZ := hidden (And.intro hMz hMM)
      clear hMM hMz ET EV EL HBF hlt
      go_wp2
      go_loopw [35, 8] (fun i vb wr => ∃ k : Nat, k ≤ q2 ∧ i = .int .i64 k ∧ ∃ X m f, vb = .slice X m f ∧ m ≤ 20000 ∧ Hid (ArgB wr X m f (prevT ts2 k)) ∧ Hid (MapS wr mb p M) ∧ Hid (Below w.heap.size w wr) ∧ Hid (∀ j, j < k → M (strOfNums (ts2 j)) = markS key (prevT ts2 j))) (fun i _ _ => q2 - (intOf i).toNat)
      case atStart =>
        exact ⟨0, by omega, rfl, _, 0, _, rfl, by omega, hidden ⟨Rd.nil _ _, rfl, Nat.zero_le _, fun h => (by cases h), fun x hx => (by simp [prevT] at hx)⟩, hidden (HM.out.below (below_alloc0 _ _)), hidden (below_next HB.out (below_alloc0 _ _)), hidden (fun j h => absurd h (by omega))⟩
      case round =>
        clear HM HB
        obtain ⟨k, hk, rfl, Xb, nb, cb, rfl, hnb, HBF, HM, HB, HT⟩ := hrel
        by_cases hlt : k < q2
        · have hkv : k < vs2.length := by rw [EL2.out]; exact hlt
          obtain ⟨b0, o0, rfl, hb1, hc1⟩ := (EV2.out.below HB.out (Nat.le_refl _)) k _ (slvs_at vs2 k hkv)
          obtain ⟨ht1, ht2⟩ := ET2.out k hkv
          have hto := ht1.below HB.out (Nat.le_refl _)
          obtain ⟨x, hx⟩ : ∃ x, vs2[k] = x := ⟨_, rfl⟩
          rw [hx] at hc1 hto ht2
          clear hx ht1
          obtain ⟨X, m, d3⟩ := x
          dsimp only at hc1 hto ht2
          have HTO := hidden hto
          obtain ⟨pv, hpv⟩ : ∃ l, prevT ts2 k = l := ⟨_, rfl⟩
          rw [hpv] at HBF
          obtain ⟨r, hr⟩ : ∃ r, shaSum (markL key pv) = r := ⟨_, rfl⟩
          have HR : Hid (SumIs (markL key pv) r) := hidden ⟨hr.symm⟩
          obtain ⟨xs, hxs⟩ : ∃ x, strOfNums r = x := ⟨_, rfl⟩
          have hmk : markS key (prevT ts2 k) = xs := by unfold markS; rw [hpv, hr]; exact hxs
          obtain ⟨tx, htx⟩ : ∃ l, ts2 k = l := ⟨_, rfl⟩
          rw [htx] at HTO
          obtain ⟨sx, hsx⟩ : ∃ x, strOfNums tx = x := ⟨_, rfl⟩
          have hsz : sx.size ≤ 1000000 := by rw [← hsx, strOf_len, HTO.out.len]; omega
          have HSX := hidden (And.intro hsx hxs)
          have HSZ := hidden (And.intro hsz (And.intro hmk (show strOfNums (ts2 k) = sx by rw [htx]; exact hsx)))
          have HP2 : prevT ts2 (k + 1) = tx := (show prevT ts2 (k + 1) = ts2 k by simp [prevT]).trans htx
          have HTY := hidden map_ss
          obtain ⟨mx, hmx⟩ : ∃ x, M sx = x := ⟨_, rfl⟩
          have HMX := hidden hmx
          clear hto hpv hr hxs hmk htx hsx hsz hmx
          go_upto_region 12 with (fail)
          have hD : dOk [(0, 39), (1, 40), (2, 41), (3, 42), (4, 43), (5, 44), (6, 45), (7, 46), (8, 47)] 50 = true := by kernel_rfl
          refine reg_flow [(0, 39), (1, 40), (2, 41), (3, 42), (4, 43), (5, 44), (6, 45), (7, 46), (8, 47)] (by kernel_rfl) (by kernel_rfl) hD (by kernel_rfl) (by kernel_rfl)
            (fun j y W => match j with
              | 0 => y = .map (some mb)
              | 1 => y = .slice X m d3
              | 2 => y = .string sx
              | 3 => y = .string mx
              | 4 => y = .slice A n c
              | 5 => y = .slice Xb nb cb
              | 6 => ∃ A5 c5, y = .slice A5 32 c5 ∧ ArgB W A5 32 c5 r
              | 7 => y = .string xs
              | 8 => y = .bool (mx.toList != xs.toList)
              | _ => True)
            (fun _ _ W => Below w.heap.size w W ∧ ArgB W Xb nb cb pv ∧ ArgB W X m d3 tx ∧ MapS W mb p M)
            (fun w1 w2 => Below w1.heap.size w1 w2) ?_ ?_ ?_ ?_
          · intro j y w1 w2 hR h
            match j, h with
            | 0, h | 1, h | 2, h | 3, h | 4, h | 5, h | 7, h | 8, h => exact h
            | 6, ⟨A5, c5, h1, h2⟩ => exact ⟨A5, c5, h1, h2.below hR (Nat.le_refl _)⟩
            | n + 9, _ => trivial
          · intro v
            exact ⟨HB.out.drew, HBF.out.below (below_drewN0 (Below.refl _ _) 1) (Nat.le_refl _), HTO.out.below (below_drewN0 (Below.refl _ _) 1) (Nat.le_refl _), HM.out.drew⟩
          · intro i hi
            match i, hi with
            | 0, _ =>
              exact flow_pure hD (fun _ => Below.refl _ _) (.move (.tmp 7)) 81 rfl fun b v W ρ h => ⟨_, by
                have e := h.off 7 (by kernel_rfl)
                unfold opRun
                go_simp
                , rfl, h.glob⟩
            | 1, _ =>
              exact flow_pure hD (fun _ => Below.refl _ _) (.move (.tmp 12)) 31 rfl fun b v W ρ h => ⟨_, by
                have e := h.off 12 (by kernel_rfl)
                unfold opRun
                go_simp
                , rfl, h.glob⟩
            | 2, _ =>
              exact flow_pure hD (fun _ => Below.refl _ _) (.convert 31 9 (.tmp 40)) 9 rfl fun b v W ρ h => ⟨_, by
                have e := (h.on 1 40 (by kernel_rfl) (h.dep 1 (by kernel_rfl))).trans (h.have_ 1 (by kernel_rfl))
                have hr := run_string (P := Tryz.prog) (W := W) (c := d3) Tryz.underlying31 Tryz.underlying5 Tryz.underlying9 h.glob.2.2.1.rd h.glob.2.2.1.len
                rw [HSX.out.1] at hr
                unfold opRun
                go_simp
                , rfl, h.glob⟩
            | 3, _ =>
              exact flow_pure hD (fun _ => Below.refl _ _) (.lookup 81 (.tmp 39) (.tmp 41) false) 9 rfl fun b v W ρ h => ⟨_, by
                have d0 := (h.on 0 39 (by kernel_rfl) (h.dep 0 (by kernel_rfl))).trans (h.have_ 0 (by kernel_rfl))
                have d1 := (h.on 2 41 (by kernel_rfl) (h.dep 2 (by kernel_rfl))).trans (h.have_ 2 (by kernel_rfl))
                have hl := h.glob.2.2.2.look HTY.out sx HSZ.out.1
                rw [HMX.out] at hl
                unfold opRun
                go_simp
                , rfl, h.glob⟩
            | 4, _ =>
              exact flow_pure hD (fun _ => Below.refl _ _) (.move (.tmp 0)) 31 rfl fun b v W ρ h => ⟨_, by
                have e := h.off 0 (by kernel_rfl)
                unfold opRun
                go_simp
                , rfl, h.glob⟩
            | 5, _ =>
              exact flow_pure hD (fun _ => Below.refl _ _) (.move (.tmp 8)) 31 rfl fun b v W ρ h => ⟨_, by
                have e := h.off 8 (by kernel_rfl)
                unfold opRun
                go_simp
                , rfl, h.glob⟩
            | 6, _ =>
              exact flow_call hD (.call { callee := .value (.func 24), args := #[.tmp 43, .tmp 44], argTypes := #[31, 31] }) 31 rfl 24 fun b v W ρ h => by
                have d0 := (h.on 4 43 (by kernel_rfl) (h.dep 4 (by kernel_rfl))).trans (h.have_ 4 (by kernel_rfl))
                have d1 := (h.on 5 44 (by kernel_rfl) (h.dep 5 (by kernel_rfl))).trans (h.have_ 5 (by kernel_rfl))
                have em : #[Operand.tmp 43, Operand.tmp 44].map ρ = #[.slice A n c, .slice Xb nb cb] := by simp only [List.map_toArray, List.map_cons, List.map_nil, d0, d1]
                refine ⟨#[.slice A n c, .slice Xb nb cb], ?_, ?_⟩
                · rw [← em]; exact opRun_call (h.fn _) (Tryz.call24 _ _)
                · refine (joinMark_calls _ _ _ _ _ _ _ _ r W (E0.out.below h.glob.1 (Nat.le_refl _)) (by omega) h.glob.2.1 (by omega) HR.out).mono ?_
                  rintro e w2 ⟨hB, A5, c5, rfl, ha⟩
                  exact ⟨_, rfl, ⟨A5, c5, rfl, ha⟩, hB, below_next h.glob.1 hB, h.glob.2.1.below hB (Nat.le_refl _), h.glob.2.2.1.below hB (Nat.le_refl _), h.glob.2.2.2.below hB⟩
            | 7, _ =>
              exact flow_val hD (.convert 31 9 (.tmp 45)) 9 rfl fun b v W ρ h => by
                have e0 := h.on 6 45 (by kernel_rfl) (h.dep 6 (by kernel_rfl))
                obtain ⟨A5, c5, e1, ha⟩ := h.have_ 6 (by kernel_rfl)
                have e := e0.trans e1
                have hr := run_string (P := Tryz.prog) (W := W) (c := c5) Tryz.underlying31 Tryz.underlying5 Tryz.underlying9 ha.rd ha.len
                rw [HSX.out.2] at hr
                refine ⟨.string xs, W, ?_, rfl, Below.refl _ _, h.glob⟩
                unfold opRun
                go_simp
            | 8, _ =>
              exact flow_pure hD (fun _ => Below.refl _ _) (.binOp .neq 9 (.tmp 42) (.tmp 46) 9) 4 rfl fun b v W ρ h => ⟨_, by
                have d0 := (h.on 3 42 (by kernel_rfl) (h.dep 3 (by kernel_rfl))).trans (h.have_ 3 (by kernel_rfl))
                have d1 := (h.on 7 46 (by kernel_rfl) (h.dep 7 (by kernel_rfl))).trans (h.have_ 7 (by kernel_rfl))
                unfold opRun
                go_simp
                rw [bne, Bool.not_not]
                , rfl, h.glob⟩
          · intro b v W hb hF hG
            have k0 : v 0 = .map (some mb) := hF 0 (by decide)
            have k1 : v 1 = .slice X m d3 := hF 1 (by decide)
            have k2 : v 2 = .string sx := hF 2 (by decide)
            have k3 : v 3 = .string mx := hF 3 (by decide)
            have k4 : v 4 = .slice A n c := hF 4 (by decide)
            have k5 : v 5 = .slice Xb nb cb := hF 5 (by decide)
            have k7 : v 7 = .string xs := hF 7 (by decide)
            have k8 : v 8 = .bool (mx.toList != xs.toList) := hF 8 (by decide)
            have HG2 := hidden hG
            clear hF hG hb hD
            simp only [fr, if_true, k0, k1, k2, k3, k4, k5, k7, k8, Act.put, List.setIfInBounds_toArray, List.set_cons_zero, List.set_cons_succ]
            generalize v 6 = v6
            clear k0 k1 k2 k3 k4 k5 k7 k8
            by_cases he : mx = xs
            · subst he
              have n1' : (mx.toList != mx.toList) = false := by rw [bne, beq_self_eq_true]; rfl
              simp only [n1']
              go_wp2
              go_roundw
              case rel => 
                refine ⟨k + 1, by omega, by go_num, _, _, _, rfl, ht2, hidden (by rw [HP2]; exact HG2.out.2.2.1), hidden HG2.out.2.2.2, hidden HG2.out.1, hidden (fun j hj => ?_)⟩
                by_cases hjk : j < k
                · exact HT.out j hjk
                · obtain rfl : j = k := by omega
                  rw [HSZ.out.2.2, HSZ.out.2.1]; exact HMX.out
              case measure => simp [intOf]; omega
            · have n1' := (str_ne he).2
              simp only [n1']
              have HNE := hidden he
              clear he
              go_wp2
              go_ret
              refine ⟨HG2.out.1, false, rfl, fun h => (by cases h), fun h => absurd ?_ HNE.out⟩
              have := h k hlt
              rw [HMZ.out.2] at this
              rw [HSZ.out.2.2, HSZ.out.2.1, HMX.out] at this
              exact this
        · obtain rfl : k = q2 := by omega
          clear hlt
          go_wp2
          go_ret
          exact ⟨HB.out, true, rfl, fun _ => (by rw [HMZ.out.2]; exact HT.out), fun _ => rfl⟩
end Go.Proofs.YtbdmdajbdmdknaaGreatDoor
namespace Go.Proofs.YtbdmdajbdmdknaaGreatDoor
open Go.RowKit
set_option linter.unusedVariables false
set_option linter.unusedSimpArgs false

/-- A text in new memory. -/
def NewF (w : World) (n : Nat) (l : List Int) (e : Ending) (w' : World) : Prop := Below w.heap.size w w' ∧ ∃ A c, e = .returned (.slice A n c) ∧ ArgB w' A n c l ∧ FreshA w w' A
theorem NewF.of {w w' : World} {e : Ending} {l : List Int} {n : Nat} (h : NewB w l e w') (hb : IsB l) (hn : l.length = n) : NewF w n l e w' := by
  obtain ⟨v, rfl, hO, hB⟩ := h
  obtain ⟨A, c, rfl, ha, hf⟩ := own_argF hO hb
  subst hn
  exact ⟨hB, A, c, rfl, ha, hf⟩
theorem withSigF_calls (W : World) (A : Option Addr) (n c : Nat) (S : List Int) (B : Option Addr) (m d : Nat) (r J : List Int) (q : Nat) (hJ : J = S ++ [46] ++ encF (alpha true) r) (hq : J.length = q) (h1 : ArgB W A n c S) (n1 : n ≤ 100000) (h2 : ArgB W B m d r) (n2 : m ≤ 20000) :
    Calls Tryz.prog 40 #[.slice A n c, .slice B m d] W (NewF W q J) :=
  (withSig_calls W A n c S B m d r h1 n1 h2 n2).mono fun e w' k => NewF.of (by rw [hJ]; exact k) (by rw [hJ]; exact isB_app (isB_app h1.isB isB_46) (encF_isB true h2.isB)) hq
theorem ownF_calls (W : World) (A : Option Addr) (n c : Nat) (l : List Int) (h : ArgB W A n c l) (hn : n ≤ 1000000) : Calls Tryz.prog 18 #[.slice A n c] W (NewF W n l) :=
  (partOwn_calls A n c l W h.rd h.len (by omega)).mono fun e w' k => NewF.of k h.isB h.len
set_option maxRecDepth 100000 in
set_option maxHeartbeats 4000000 in
theorem joinSignedF_calls (a k : ByteArray) (nH : Nat) (hd : List Int) (hhd : hd = bts (headS a k)) (hnH : nH = a.size + k.size + 19) (hnb : nH ≤ 200) (A : Option Addr) (n c : Nat) (key : List Int) (B : Option Addr) (m d : Nat) (pl S : List Int) (p : Nat) (hS : S = signF true hd pl) (hp : S.length = p) (r : List Int) (hm : SumIs (markL key S) r) (J : List Int) (q : Nat) (hJ : J = S ++ [46] ++ encF (alpha true) r) (hq : J.length = q) (w : World) (h1 : ArgB w A n c key) (n1 : n ≤ 2000) (h2 : ArgB w B m d pl) (n2 : m ≤ 14000) (bp : p ≤ 20000) :
    Calls Tryz.prog 19 #[.slice A n c, .string a, .string k, .slice B m d, .bool true] w (NewF w q J) := by
  have KH : Hid (∀ W, Calls Tryz.prog 39 #[.string a, .string k] W (HeadB W nH hd)) := hidden (fun W => joinHead_calls a k nH hd hhd hnH W (by omega) (by omega))
  have HX := hidden (And.intro hS (And.intro hp (And.intro hJ hq)))
  have HM := hidden hm
  have E0 := hidden h1
  have E1 := hidden h2
  have Hr := hidden hm.len
  clear hhd hnH hS hp hm hJ hq h1 h2
  go_enter Tryz.func19, Tryz.ntmps19
  go_wp2_with (first
    | (go_at_call 39; ((with_reducible refine (KH.out w).mono ?_); rintro e w1x ⟨hB, Ah, ch, rfl, ha⟩; have HB1 := hidden (below_next (Below.refl _ w) hB); have Hk_1 := hidden (E0.out.below hB (Nat.le_refl _)); have Hp_1 := hidden (E1.out.below hB (Nat.le_refl _)); have Hh_1 := hidden ha; clear hB ha))
    | (go_at_call 18; first
      | ((with_reducible refine (ownB_calls w1x _ _ _ _ Hp_1.out (by omega)).mono ?_); rintro e w2x ⟨hB, Ap1, cp1, rfl, ha⟩; have HB2 := hidden (below_next HB1.out hB); have Hk_2 := hidden (Hk_1.out.below hB (Nat.le_refl _)); have Hp_2 := hidden (Hp_1.out.below hB (Nat.le_refl _)); have Hh_2 := hidden (Hh_1.out.below hB (Nat.le_refl _)); have Hp1_2 := hidden ha; clear hB ha)
      | ((with_reducible refine (ownB_calls w3x _ _ _ _ Hs1_3.out (by omega)).mono ?_); rintro e w4x ⟨hB, As2, cs2, rfl, ha⟩; have HB4 := hidden (below_next HB3.out hB); have Hk_4 := hidden (Hk_3.out.below hB (Nat.le_refl _)); have Hs1_4 := hidden (Hs1_3.out.below hB (Nat.le_refl _)); have Hs2_4 := hidden ha; clear hB ha))
    | (go_at_call 38; ((with_reducible refine (signB_calls w2x _ _ _ _ _ _ _ _ true S p HX.out.1 HX.out.2.1 Hh_2.out (by omega) Hp1_2.out (by omega)).mono ?_); rintro e w3x ⟨hB, As1, cs1, rfl, ha⟩; have HB3 := hidden (below_next HB2.out hB); have Hk_3 := hidden (Hk_2.out.below hB (Nat.le_refl _)); have Hh_3 := hidden (Hh_2.out.below hB (Nat.le_refl _)); have Hp1_3 := hidden (Hp1_2.out.below hB (Nat.le_refl _)); have Hs1_3 := hidden ha; clear hB ha))
    | (go_at_call 24; ((with_reducible refine (joinMark_calls _ _ _ _ _ _ _ _ r w4x Hk_4.out (by omega) Hs1_4.out (by omega) HM.out).mono ?_); rintro e w5x ⟨hB, Am, cm, rfl, ha⟩; have HB5 := hidden (below_next HB4.out hB); have Hk_5 := hidden (Hk_4.out.below hB (Nat.le_refl _)); have Hs1_5 := hidden (Hs1_4.out.below hB (Nat.le_refl _)); have Hs2_5 := hidden (Hs2_4.out.below hB (Nat.le_refl _)); have Hm_5 := hidden ha; clear hB ha))
    | (go_at_call 40; ((with_reducible refine (withSigF_calls w5x _ _ _ S _ _ _ r J q HX.out.2.2.1 HX.out.2.2.2 Hs2_5.out (by omega) Hm_5.out (by omega)).mono ?_); rintro e w6x ⟨hB, AJ, cJ, rfl, ha, hfr⟩; have HFR := hidden (hfr.wide HB5.out.size (Nat.le_refl _)); clear hfr; have HB6 := hidden (below_next HB5.out hB); have Hs2_6 := hidden (Hs2_5.out.below hB (Nat.le_refl _)); have Hm_6 := hidden (Hm_5.out.below hB (Nat.le_refl _)); have HJ_6 := hidden ha; clear hB ha)))
  go_ret
  exact ⟨HB6.out, _, _, rfl, HJ_6.out, HFR.out⟩
set_option maxRecDepth 100000 in
set_option maxHeartbeats 2000000 in
theorem joinLinkF_calls (A : Option Addr) (n c : Nat) (key : List Int) (B : Option Addr) (q d : Nat) (bf : List Int) (X : Option Addr) (m f : Nat) (en : List Int) (w : World) (h1 : ArgB w A n c key) (n1 : n ≤ 2000) (h2 : ArgB w B q d bf) (n2 : q ≤ 20000) (h3 : ArgB w X m f en) (n3 : m ≤ 1000) (p : Nat) (hp : (linkL key bf en).length = p) :
    Calls Tryz.prog 22 #[.slice A n c, .slice B q d, .slice X m f] w (NewF w p (linkL key bf en)) := by
  have E0 := hidden h1
  have E1 := hidden h2
  have E2 := hidden h3
  have hks := kidL_size key bf
  obtain ⟨k, hk⟩ : ∃ k, kidL key bf = k := ⟨_, rfl⟩
  rw [hk] at hks
  obtain ⟨r, hr⟩ : ∃ r, shaSum (markL key bf) = r := ⟨_, rfl⟩
  have hrs : SumIs (markL key bf) r := ⟨hr.symm⟩
  have HR := hidden hrs
  have hkr : encT r = k := by rw [← hk, ← hr]; rfl
  have HKR := hidden hkr
  have hhd : headK key bf = bts (headS linkS k) := by unfold headK; rw [hk]
  have hlS : linkS.size = 4 := rfl
  have lhd : (headK key bf).length = 66 := by rw [hhd, headS_len, hks, hlS]
  have hSl : (signF true (headK key bf) en).length ≤ 20000 := by
    have := signF_len (enc := true) (Nat.le_of_eq lhd) (Nat.le_of_eq h3.len)
    omega
  have HHD := hidden hhd
  have HSL := hidden hSl
  have HP := hidden hp
  have KJ : Hid (∀ W, ArgB W A n c key → ArgB W X m f en → Calls Tryz.prog 19 #[.slice A n c, .string ⟨#[108, 105, 110, 107]⟩, .string k, .slice X m f, .bool true] W (NewF W p (linkL key bf en))) := hidden (fun W ha hb => joinSignedF_calls linkS k 66 (headK key bf) HHD.out (by rw [hks, hlS]) (by omega) A n c key X m f en (signF true (headK key bf) en) _ rfl rfl (shaSum (markL key (signF true (headK key bf) en))) ⟨rfl⟩ (linkL key bf en) p rfl HP.out W ha n1 hb (by omega) HSL.out)
  have HK32 := hidden hrs.len
  clear h1 h2 h3 hk hr hrs hkr hhd lhd hSl hp hks hlS
  go_enter Tryz.func22, Tryz.ntmps22
  go_wp2_with (first
    | (go_at_call 24; ((with_reducible refine (joinMark_calls _ _ _ _ _ _ _ _ r w E0.out (by omega) E1.out (by omega) HR.out).mono ?_); rintro e w1 ⟨hB, Am, cm, rfl, ha⟩; have HB1 := hidden hB; have HM := hidden ha; clear hB ha))
    | (go_at_call 42; ((with_reducible refine (encodedText_calls _ _ _ r w1 HM.out (by omega)).mono ?_); rintro e w2 ⟨rfl, hB⟩; have HB2 := hidden (below_next HB1.out hB); rw [HKR.out]; clear hB))
    | (go_at_call 19; ((with_reducible refine (KJ.out w2 (E0.out.below HB2.out (Nat.le_refl _)) (E2.out.below HB2.out (Nat.le_refl _))).mono ?_); rintro e w3 ⟨hB, AJ, cJ, rfl, ha, hfr⟩; have HFR := hidden (hfr.wide HB2.out.size (Nat.le_refl _)); clear hfr; have HB3 := hidden (below_next HB2.out hB); have HJ := hidden ha; clear hB ha)))
  go_ret
  exact ⟨HB3.out, _, _, rfl, HJ.out, HFR.out⟩
end Go.Proofs.YtbdmdajbdmdknaaGreatDoor
namespace Go.Proofs.YtbdmdajbdmdknaaGreatDoor
open Go.RowKit
set_option linter.unusedVariables false
set_option linter.unusedSimpArgs false

theorem headK_len (key bf : List Int) : (headK key bf).length = 66 := by
  unfold headK
  rw [headS_len, kidL_size]; rfl
theorem headK_isB (key bf : List Int) : IsB (headK key bf) := bts_isB _
theorem linkL_parts (key bf e : List Int) : linkL key bf e = encF (alpha true) (headK key bf) ++ 46 :: (encF (alpha true) e ++ 46 :: encF (alpha true) (shaSum (markL key (signF true (headK key bf) e)))) := by
  simp [linkL, signF, tailF]
theorem shaSum_isB (l : List Int) : IsB (shaSum l) := (SumIs.isB ⟨rfl⟩ : IsB (shaSum l))
theorem linkL_isB {key bf e : List Int} (he : IsB e) : IsB (linkL key bf e) :=
  isB_app (isB_app (signF_isB (headK_isB _ _) he) isB_46) (encF_isB true (shaSum_isB _))
theorem linkL_len {key bf e : List Int} (he : e.length ≤ 200) : (linkL key bf e).length ≤ 20000 := by
  have h1 := signF_len (enc := true) (Nat.le_of_eq (headK_len key bf)) he
  have h2 : (encF (alpha true) (shaSum (markL key (signF true (headK key bf) e)))).length = 43 := by
    rw [encF_len, shaSum_len]
  unfold linkL
  simp only [List.length_append, h2, List.length_cons, List.length_nil]
  omega
theorem kidL_eq {key a b : List Int} : kidL key a = kidL key b ↔ shaSum (markL key a) = shaSum (markL key b) := by
  constructor
  · intro h
    exact encF_inj (shaSum_isB _) (shaSum_isB _) (bytes_inj (encF_isB true (shaSum_isB _)) (encF_isB true (shaSum_isB _)) h)
  · intro h; unfold kidL; rw [h]
theorem markS_eq {key a b : List Int} : markS key a = markS key b ↔ shaSum (markL key a) = shaSum (markL key b) := by
  constructor
  · intro h; exact bytes_inj (shaSum_isB _) (shaSum_isB _) h
  · intro h; unfold markS; rw [h]
theorem headS_kid {k1 k2 : ByteArray} (h : headS linkS k1 = headS linkS k2) (hs : k1.size = k2.size) : k1 = k2 := by
  have := congrArg (fun x => x.data.toList) h
  simp only [headS_L] at this
  unfold headL at this
  have h2 : k1.data.toList = k2.data.toList := by
    simpa using this
  cases k1; cases k2
  simpa using h2
theorem bts_inj {a b : ByteArray} (h : bts a = bts b) : a = b := by
  have h1 : a.data.toList = b.data.toList := by
    unfold bts at h
    refine (List.map_inj_right (fun x y e => ?_)).1 h
    exact UInt8.toNat_inj.1 (by have e : (x.toNat : Int) = (y.toNat : Int) := e; omega)
  rw [← bs_self a, h1, bs_self]
/-- Links that are one text lie behind texts of one mark. -/
theorem link_prev {key b1 b2 e1 e2 : List Int} (h1 : IsB e1) (h2 : IsB e2) (h : linkL key b1 e1 = linkL key b2 e2) : markS key b1 = markS key b2 := by
  rw [linkL_parts, linkL_parts] at h
  have := (cut_at (encF_no46 (headK_isB _ _)) (encF_no46 (headK_isB _ _)) h).1
  have h3 := encF_inj (headK_isB _ _) (headK_isB _ _) this
  have h4 := headS_kid (bts_inj h3) (by rw [kidL_size, kidL_size])
  rw [markS_eq]
  exact kidL_eq.1 h4
theorem tame_url {l : List Int} (h : IsB l) : Tame (encT l) := by
  have key : ∀ x ∈ (encT l).data.toList, x ≠ 34 ∧ x ≠ 92 := by
    intro x hx
    unfold encT at hx
    rw [strOfNums_data] at hx
    obtain ⟨y, hy, rfl⟩ := List.mem_map.1 hx
    have hu := encF_url h hy
    unfold isUrl at hu
    constructor <;> (intro e; have e2 := congrArg UInt8.toNat e; simp at e2; omega)
  exact ⟨fun h => (key _ h).1 rfl, fun h => (key _ h).2 rfl⟩
theorem tame_kidL (key bf : List Int) : Tame (kidL key bf) := tame_url (shaSum_isB _)
theorem tame_link : Tame linkS := ⟨by decide, by decide⟩
/-- laws.joinOpened on a link. -/
theorem openLink_calls (A : Option Addr) (n c : Nat) (key : List Int) (X : Option Addr) (m f : Nat) (bf e : List Int) (w : World) (h1 : ArgB w A n c key) (n1 : n ≤ 2000) (h2 : ArgB w X m f (linkL key bf e)) (he : IsB e) (le : e.length ≤ 200) (hS : SynAt w) :
    Calls Tryz.prog 20 #[.slice A n c, .slice X m f, .bool true] w (OpenC (fun b a k pl => b = true ∧ a = linkS ∧ k = kidL key bf ∧ pl = e) w) := by
  have hl := linkL_len (key := key) (bf := bf) le
  have hm := h2.len
  have hs := signF_len (enc := true) (Nat.le_of_eq (headK_len key bf)) le
  have h66 := headK_len key bf
  refine (joinOpened_calls linkS (kidL key bf) 66 (headK key bf) rfl h66 (by omega) tame_link (tame_kidL _ _) A n c key X m f (linkL key bf e) e (signF true (headK key bf) e) (encF (alpha true) (headK key bf)) (encF (alpha true) e) (encF (alpha true) (shaSum (markL key (signF true (headK key bf) e)))) (shaSum (markL key (signF true (headK key bf) e))) e.length (signF true (headK key bf) e).length _ _ _ rfl rfl rfl rfl rfl rfl rfl he ⟨rfl⟩ (by simp [signF, tailF]) rfl (linkL_parts _ _ _) w h1 n1 h2 ?_ ?_ ?_ (by omega) (by omega) (by omega) hS).mono ?_
  · rw [encF_len, h66]; omega
  · rw [encF_len]; omega
  · rw [encF_len, shaSum_len]; omega
  · rintro e w' ⟨hB, Y, d, rfl, ha, hf⟩
    exact ⟨hB, Y, _, d, _, _, true, _, rfl, ha, by omega, hf, rfl, rfl, rfl, rfl⟩
end Go.Proofs.YtbdmdajbdmdknaaGreatDoor
namespace Go.Proofs.YtbdmdajbdmdknaaGreatDoor
open Go.RowKit
set_option linter.unusedVariables false
set_option linter.unusedSimpArgs false

/-- The links. -/
def ldT (key : List Int) (e : Nat → List Int) : Nat → List Int
  | 0 => linkL key [] (e 0)
  | j + 1 => linkL key (ldT key e j) (e (j + 1))
theorem ldT_eq (key : List Int) (e : Nat → List Int) : ∀ j, ldT key e j = linkL key (prevT (ldT key e) j) (e j)
  | 0 => by simp [ldT, prevT]
  | j + 1 => by simp [ldT, prevT]
theorem cut_end {p q t s : List Int} (ht : (46 : Int) ∉ t) (hs : (46 : Int) ∉ s) (h : p ++ 46 :: t = q ++ 46 :: s) : p = q ∧ t = s := by
  have h2 := congrArg List.reverse h
  simp only [List.reverse_append, List.reverse_cons, List.append_assoc, List.singleton_append] at h2
  obtain ⟨h3, h4⟩ := cut_at (fun e => ht (List.mem_reverse.1 e)) (fun e => hs (List.mem_reverse.1 e)) h2
  exact ⟨List.reverse_inj.1 h4, List.reverse_inj.1 h3⟩
/-- A torn text that opens has the mark of what was ahead of the tear. -/
theorem turned_mark {key S' r0 P T M r : List Int} (hb : IsB r0) (h3 : ThreeP (S' ++ 46 :: encF (alpha true) r0) P T M) (hr : SumIs (markL key (P ++ [46] ++ T)) r) (hd : decOf M = some r) : shaSum (markL key S') = r0 := by
  obtain ⟨h4, _, _, hM⟩ := h3
  have h5 : S' ++ 46 :: encF (alpha true) r0 = (P ++ [46] ++ T) ++ 46 :: M := by rw [h4]; simp
  obtain ⟨h6, h7⟩ := cut_end (encF_no46 hb) hM h5
  rw [← h7, decOf_enc hb] at hd
  rw [h6, Option.some.inj hd]
  exact hr.eq.symm
theorem tellsM_at {key : List Int} {ts e : Nat → List Int} (he : ∀ j, IsB (e j)) (ht : ∀ j, ts j = linkL key (prevT ts j) (e j)) : ∀ p j, j < p → tellsM key ts p (strOfNums (ts j)) = markS key (prevT ts j)
  | 0, j, h => absurd h (by omega)
  | p + 1, j, h => by
    show (if strOfNums (ts j) = strOfNums (ts p) then markS key (prevT ts p) else tellsM key ts p (strOfNums (ts j))) = _
    by_cases hc : strOfNums (ts j) = strOfNums (ts p)
    · rw [if_pos hc]
      have hj : IsB (ts j) := by rw [ht]; exact linkL_isB (he j)
      have hp : IsB (ts p) := by rw [ht]; exact linkL_isB (he p)
      have h1 := bytes_inj hj hp hc
      rw [ht j, ht p] at h1
      exact (link_prev (he j) (he p) h1).symm
    · rw [if_neg hc]
      refine tellsM_at he ht p j ?_
      by_cases h2 : j = p
      · subst h2; exact absurd rfl hc
      · omega
end Go.Proofs.YtbdmdajbdmdknaaGreatDoor
