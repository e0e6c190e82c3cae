/- laws.FnKeySetOrder: the steps are laid, and run. -/
import Derived.Test.YthgklpkkcaiehaaDoorKOrdG
import Derived.Test.YthgklpkkcaiehaaDoorKOrdL
import Derived.StillTailTactics
namespace Go.Proofs.YthgklpkkcaiehaaDoor
open Go.RowKit
set_option linter.unusedVariables false
set_option linter.unusedSimpArgs false

theorem ordA_cells1 (M : List KSt) : ∀ u ∈ M.flatMap KSt.cells, u.oneCell' = true := by
  intro u hu
  obtain ⟨x, _, hx⟩ := List.mem_flatMap.1 hu
  simp only [KSt.cells, List.mem_cons, List.not_mem_nil, or_false] at hx
  rcases hx with rfl | rfl | rfl | rfl | rfl <;> rfl
theorem st_own {W w' : World} {base : Nat} {v u : Value} {L : List KSt} {us : List Value} (h : StAt W base v L) (hu : Own W base 3 u us) (M : List KSt) (hg : (W.alloc (.cells (M.flatMap KSt.cells).toArray 44)).grownBy w' v.ownBlock) : Own w' base 3 u us := by
  have hB := below_alloc0 W (.cells (M.flatMap KSt.cells).toArray 44)
  refine (Alt.of_grown hg).own (hu.below hB) (fun i hi e => ?_)
  obtain ⟨us2, h2⟩ := ownsRow_block (h.below hB) i e.symm
  exact Own.ne_row (hu.below hB) h2 (by decide) hi
theorem own_st {W w' : World} {base : Nat} {v u : Value} {L : List KSt} {us : List Value} (h : StAt W base v L) (hu : Own W base 3 u us) (hg : W.grownBy w' u.ownBlock) : StAt w' base v L := by
  refine ownsRow_alt h (Alt.of_grown hg) (fun g hg2 e => ?_)
  obtain ⟨us2, h2⟩ := ownsRow_block h g hg2
  exact Own.ne_row hu h2 (by decide) e.symm
theorem st_row {W w' : World} {base g : Nat} {v : Value} {L : List KSt} {us : List Value} (h : StAt W base v L) (hr : Row W g 3 us) (M : List KSt) (hg : (W.alloc (.cells (M.flatMap KSt.cells).toArray 44)).grownBy w' v.ownBlock) : Row w' g 3 us := by
  have hB := below_alloc0 W (.cells (M.flatMap KSt.cells).toArray 44)
  refine (Alt.of_grown hg).row (hr.alloc _) (fun e => ?_)
  obtain ⟨us2, h2⟩ := ownsRow_block (h.below hB) g e.symm
  have := h2.symm.trans (hr.alloc (.cells (M.flatMap KSt.cells).toArray 44))
  simp at this
theorem seenAt_get (xs : List Seen) (k : Nat) (h : k < xs.length) : xs[k] = seenAt xs k := by simp [seenAt, h]
theorem ordA_one (M : List KSt) : ∀ u ∈ M.flatMap KSt.cells, u.oneCell' = true := ordA_cells1 M
set_option maxRecDepth 100000 in
set_option maxHeartbeats 4000000 in
theorem ord_calls (A : Option Addr) (n c : Nat) (l : List Int) (ta tb : Nat) (w : World) (hR : Rd w A (nums .u8 l)) (hl : l.length = n) (hn : n ≤ 20) (hn2 : 2 ≤ n) (hta : ta < 256) (htb : tb < 256) (hb : ∀ x ∈ l, 0 ≤ x ∧ x ≤ 255) :
    Calls Tryd.prog 5 #[.slice A n c, .int .u8 ta, .int .u8 tb] w fun e w' => e = .returned (.bool true) ∧ Below w.heap.size w w' := by
  have HKD := hidden (keyData_calls A n c l w hR hl (by omega) hb)
  clear hb hR
  obtain ⟨i0, hi0, hzz⟩ := Option.map_eq_some_iff.1 info_step
  simp only [Prod.mk.injEq] at hzz
  have HI := hidden hzz
  clear hzz
  go_enter Tryd.func5, Tryd.ntmps5
  go_wp2_with (go_at_call 16; go_must (refine HKD.out.mono ?_; rintro e w1 ⟨v, ds, rfl, hds, hD, hB⟩; obtain ⟨X, cX, rfl, hK⟩ := hD.kds; have HK := hidden hK; have HB1 := hidden hB; have HDS := hidden hds; rw [HDS.out]; clear hD hds hK hB))
  go_loopw [31, 9, 10] (fun i v u wr => ∃ j : Nat, j ≤ n ∧ i = .int .i64 j ∧ Hid (StAt wr w1.heap.size v (ordA n ta j) ∧ Own wr w1.heap.size 3 u (intsN (ordW n ta j))) ∧ Hid (Below w1.heap.size w1 wr)) (fun i _ _ _ => n - (intOf i).toNat)
  case atStart => exact ⟨0, by omega, rfl, hidden ⟨StAt.nil _ _, Own.nil _ _ _⟩, hidden (Below.refl _ _)⟩
  case round =>
    obtain ⟨j, hj, rfl, HM, HB⟩ := hrel
    by_cases hlt : j < n
    · have htm := tmod_nat j ta n
      obtain ⟨q, hq⟩ : ∃ q, (j + ta) % n = q := ⟨_, rfl⟩
      have HQ := hidden hq
      rw [hq] at htm
      have hw1 : IntKind.i64.wrap ((j : Int) + (ta : Int)) = (j : Int) + (ta : Int) := by rw [IntKind.wrap_i64]; omega
      clear hq
      have HE := hidden (st_end HM.out.1 HB.out.size [kst 0 q 0])
      have HUO := hidden HM.out.2
      have HST0 := hidden HM.out.1
      have HWL : Hid ((intsN (ordW n ta j)).length = j) := hidden (by rw [intsN, nums_len, List.length_map, ordW_len])
      clear HM
      go_wp2_with (first
          | ((with_reducible refine at_dst 44 ?_); go_must (obtain ⟨how, hTE⟩ := HE.out; refine wpList_append_own_at _ rfl (.tmp 40) (.tmp 43) 42 rfl w1.heap.size 44 i0 _ 5 56 Tryd.underlying42 hi0 HI.out.1 HI.out.2.1 HI.out.2.2 rfl (by decide) _ (ordA n ta j).length _ rfl how ⟨wr.heap.size, 0, none⟩ 1 1 ([kst 0 q 0].flatMap KSt.cells) rfl rfl (row_at (Row.new wr _ _)) (ordA_cells1 _) (by rw [ordA_len]; unfold maxLen; omega) (by rw [ordA_len]; omega) (by have := HB.out.size; simp; omega) ?_; rintro vo1 w5 ho5 hg5 _ _; have HX := hidden (hTE vo1 w5 ho5 hg5); have HU5 := hidden (st_own HST0.out HUO.out [kst 0 q 0] hg5); have HB5 := hidden (HB.out.trans HX.out.2); clear hTE how ho5 hg5))
          | ((with_reducible refine at_dst 48 ?_); go_must (refine walk_app (base := w1.heap.size) (vs := intsN (ordW n ta j)) (ys := nums .i64 [(q : Int)]) rfl (.tmp 45) (.tmp 47) rfl Tryd.underlying47 info_intO rfl (by decide) rfl rfl (HU5.out.alloc _) (Rd.new w5 3 (nums .i64 [(q : Int)]) w5.heap.size rfl) rfl (nums_one _ _) (by have := HB5.out.size; simp; omega) (by rw [HWL.out, nums_len, List.length_singleton]; omega) ?_; intro u1 w6 hO6 hg6 _; have HU6 := hidden hO6; have HS6 := hidden (own_st (HX.out.1.below (below_alloc0 w5 (.cells #[.int .i64 q] 3))) (HU5.out.alloc (.cells #[.int .i64 q] 3)) hg6); have HB6 := hidden ((HB5.out.trans ((below_alloc0 w5 (.cells #[.int .i64 q] 3)).mono HB5.out.size)).grown hg6 (Nat.le_trans HB5.out.size (below_alloc0 w5 _).size) (fun k hk => (HU5.out.lt k hk).1)); clear hO6 hg6)))
      go_roundw
      case rel => exact ⟨j + 1, by omega, by go_num, hidden ⟨by rw [ordA_succ, HQ.out]; exact HS6.out, by rw [ordW_succ, HQ.out, intsN, List.map_append, nums_app]; exact HU6.out⟩, HB6⟩
      case measure => simp [intOf]; omega
    · obtain rfl : j = n := by omega
      obtain ⟨w4, hw4⟩ : ∃ W, W = wr := ⟨_, rfl⟩
      subst hw4
      obtain ⟨r, hr⟩ : ∃ r, tb % j = r := ⟨_, rfl⟩
      have htm : ((tb : Int)).tmod (j : Int) = (r : Int) := by rw [Int.tmod_eq_emod_of_nonneg (by omega)]; omega
      have hrj : r < j := by rw [← hr]; exact Nat.mod_lt _ (by omega)
      have HRM := hidden hr
      have HB4 := hidden HB.out
      have HST4 := hidden HM.out.1
      have HUO4 := hidden HM.out.2
      clear hr HB HM
      go_upto_region 16 with (fail)
      refine wpAbs (fun W => Hid (Row W w4.heap.size 3 [.int .i64 r]) ∧ Hid (Below w4.heap.size w4 W)) ⟨hidden (Row.new w4 _ _), hidden (below_alloc0 w4 _)⟩ ?_
      rintro w5 ⟨HR5, HB45⟩
      have HST5 := hidden (HST4.out.below HB45.out)
      have HUO5 := hidden (HUO4.out.below HB45.out)
      have HB5 := hidden (HB4.out.trans (HB45.out.mono HB4.out.size))
      have HE := hidden (st_end HST5.out HB5.out.size [kst 1 r 0, kst 0 r 0])
      obtain ⟨g13, hg13⟩ : ∃ g, w4.heap.size = g := ⟨_, rfl⟩
      rw [hg13] at HR5 ⊢
      have hc5 := HR5.out.cell 0
      simp at hc5
      clear HST4 HUO4 HB45 hg13 HB4
      go_upto_region 18 with (first
          | ((with_reducible refine at_dst 60 ?_); go_must (obtain ⟨how, hTE⟩ := HE.out; refine wpList_append_own_at _ rfl (.tmp 54) (.tmp 59) 42 rfl w1.heap.size 44 i0 _ 5 56 Tryd.underlying42 hi0 HI.out.1 HI.out.2.1 HI.out.2.2 rfl (by decide) _ (ordA j ta j).length _ rfl how ⟨w5.heap.size, 0, none⟩ 2 2 ([kst 1 r 0, kst 0 r 0].flatMap KSt.cells) rfl rfl (row_at (Row.new w5 _ _)) (ordA_cells1 _) (by rw [ordA_len]; unfold maxLen; omega) (by rw [ordA_len]; omega) (by have := HB5.out.size; simp; omega) ?_; rintro vo1 w6 ho6 hg6 _ _; have HX := hidden (hTE vo1 w6 ho6 hg6); have HU6 := hidden (st_own HST5.out HUO5.out [kst 1 r 0, kst 0 r 0] hg6); have HR6 := hidden (st_row HST5.out HR5.out [kst 1 r 0, kst 0 r 0] hg6); have HB6 := hidden (HB5.out.trans HX.out.2); clear hTE how ho6 hg6; obtain ⟨Y, cY, hv, hcY, hRY⟩ := ownsRow_rd HX.out.1; have hle : (ordA j ta j ++ [kst 1 r 0, kst 0 r 0]).length = j + 2 := (by simp [ordA_len]); rw [hle] at hv; subst hv; have HRY := hidden hRY; clear hRY hle hcY))
          | (go_at_call 17; go_must (refine (keyRun_calls X j cX ds Y (j + 2) cY (ordL j ta tb) w6 (HK.out.below HB6.out) HDS.out (by omega) (StepsOk.mk (by rw [ordL, HRM.out]; exact HRY.out) (fun x hx => by have := ordL_mem (by omega) x hx; omega) (fun p hp hk ids => ord_rem (by omega) ids p hp hk)) (ordL_len j ta tb) (by omega)).mono ?_; rintro e w7 ⟨vo, rfl, hS, hB7⟩; obtain ⟨Z, cZ, rfl, hcZ, hat⟩ := seen_at hS; have HAT := hidden hat; have HB7 := hidden hB7; have HCZ := hidden hcZ; have HXL : Hid ((runK j (idsOf ds) [] (ordL j ta tb)).length = j + 2) := hidden (by rw [runK_len, ordL_len]); rw [HXL.out]; clear hS hB7 hat hcZ)))
      obtain ⟨q, hq⟩ : ∃ q, j = q + 1 := ⟨j - 1, by omega⟩
      have hf1 := ord_first (a := ta) (b := tb) (n := j) (by omega) (idsOf ds)
      have hf2 := ord_last (a := ta) (b := tb) (n := j) (by omega) (idsOf ds)
      rw [show j - 1 = q by omega] at hf1
      rw [HRM.out] at hf2
      obtain ⟨xs, hxs⟩ : ∃ xs, runK j (idsOf ds) [] (ordL j ta tb) = xs := ⟨_, rfl⟩
      rw [hxs] at HAT HXL HCZ hf1 hf2
      obtain ⟨bz, oz, va1, e1, s1⟩ := HAT.out q (by rw [HXL.out]; omega)
      obtain ⟨bz2, oz2, va2, e2, s2⟩ := HAT.out (j + 1) (by rw [HXL.out]; omega)
      subst e1
      cases e2
      rw [seenAt_get] at s1 s2
      have hcz := HCZ.out
      rw [HXL.out] at hcz
      have ho1 := s1.own
      have ho2 := s2.own
      rw [hf1] at ho1
      rw [hf2] at ho2
      have c41 := s1.c4
      have c42 := s2.c4
      obtain ⟨A1, k1, hva1, _, hR1, _⟩ := ho1.read
      obtain ⟨A2, k2, hva2, _, hR2, _⟩ := ho2.read
      subst hva1 hva2
      rw [nums_len, List.length_map, ordW_len] at c41
      rw [nums_len, List.length_map] at c42
      obtain ⟨m2, hm2⟩ : ∃ m2, ((ordW j ta j).filter (fun x => decide (x ≠ r)) ++ [r]).length = m2 := ⟨_, rfl⟩
      have hm2b : m2 ≤ j + 1 := by
        rw [← hm2, List.length_append]
        have := List.length_filter_le (fun x => decide (x ≠ r)) (ordW j ta j)
        rw [ordW_len] at this
        simpa using this
      rw [hm2] at c42
      have HM2 := hidden hm2
      have HR1 := hidden hR1
      have HR2 := hidden hR2
      have HJQ := hidden hq
      have hw1 : IntKind.i64.wrap ((j : Int) - 1) = (q : Int) := by rw [IntKind.wrap_i64]; omega
      have hqj : q < j + 2 := by omega
      have HU7 := hidden (HU6.out.below HB7.out)
      have hc7 := cell_next HB7.out (HR6.out.cell 0)
      obtain ⟨U, cU, hU, hcU, hRU, _⟩ := HU7.out.read
      rw [intsN_len, ordW_len] at hU
      clear hq hf1 hf2 hxs s1 s2 ho1 ho2 hR1 hR2 hm2 HAT HXL HCZ
      rw [hU]
      rw [hU] at HU7
      have HRU := hidden hRU
      clear hU hRU
      go_upto_region 20 with (first
          | (go_at_call 19; go_must (refine (equalYes_calls A1 U (ordW j ta j) j k1 cU _ HR1.out HRU.out (ordW_len _ _ _) (by omega)).mono ?_; rintro e w8 ⟨rfl, hB8⟩; have HB8 := hidden hB8; clear hB8)))
      obtain ⟨bU, oU, e0, _, _⟩ := HRU.out 0 _ (intsN_at (ordW j ta j) 0 (by rw [ordW_len]; omega))
      subst e0
      have HR2' := hidden (HR2.out.below HB8.out (Nat.le_refl _))
      have hc8 := cell_next HB8.out hc7
      have c428 := cell_next HB8.out c42
      have hlt13 := World.block_lt_of_cell? w8 _ hc8
      have HRU8 := hidden (HRU.out.below HB8.out (Nat.le_refl _))
      obtain ⟨L, hL⟩ : ∃ L, ordW j ta j = L := ⟨_, rfl⟩
      have hLl : L.length = j := by rw [← hL]; exact ordW_len _ _ _
      rw [hL] at HRU8
      have HLE := hidden hL
      have HLL := hidden hLl
      have HC8 := hidden hc8
      clear hL hLl c41 hc7 c42 HR1 HRU hcU hcz htm hw1 hc5 hc8
      have hD : dOk [(0, 80), (1, 81), (2, 82), (3, 83), (4, 84), (5, 85), (6, 86), (7, 15)] 98 = true := by kernel_rfl
      refine reg_flow [(0, 80), (1, 81), (2, 82), (3, 83), (4, 84), (5, 85), (6, 86), (7, 15)] (by kernel_rfl) (by kernel_rfl) hD (by kernel_rfl) (by kernel_rfl)
        (fun q x W => match q with
          | 0 => x = .slice (some ⟨bU, oU, none⟩) j cU
          | 2 => x = .func (.func 22) #[] #[.pointer (some ⟨g13, 0, none⟩)]
          | 4 => x = .int .i64 r
          | _ => True)
        (GO w8 j r L) (fun _ _ => True) ?_ ?_ ?_ ?_
      · intro q x wx wz _ h; exact h
      · intro v; exact GO.start _ _ _ _ _
      · intro q hq
        match q, hq with
        | 0, _ =>
          exact flow_pure hD (fun _ => trivial) (.move (.tmp 10)) 47 rfl fun b v W ρ h => ⟨_, by
            have e0 := h.off 10 (by kernel_rfl)
            unfold opRun
            go_simp
            , rfl, h.glob.pure 0 _ (.inl rfl)⟩
        | 1, _ =>
          exact flow_call hD (.call { callee := .value (.func 21), args := #[.tmp 80], argTypes := #[47] }) 47 rfl 21 fun b v W ρ h => by
            have d0 := (h.on 0 80 (by kernel_rfl) (h.dep 0 (by kernel_rfl))).trans (h.have_ 0 (by kernel_rfl))
            have b3 : b 3 = false := h.later 3 (by kernel_rfl)
            have b6 : b 6 = false := by
              cases hb : b 6 with
              | false => rfl
              | true => have := h.shut 6 3 hb (by kernel_rfl); rw [b3] at this; cases this
            have b7 : b 7 = false := by
              cases hb : b 7 with
              | false => rfl
              | true => have := h.shut 7 6 hb (by kernel_rfl); rw [b6] at this; cases this
            have em : #[Operand.tmp 80].map ρ = #[.slice (some ⟨bU, oU, none⟩) j cU] := by simp only [List.map_toArray, List.map_cons, List.map_nil, d0]
            refine ⟨#[.slice (some ⟨bU, oU, none⟩) j cU], ?_, ?_⟩
            · rw [← em]; exact opRun_call (h.fn _) (Tryd.call21 _ _)
            · refine (cloneInts_calls ⟨bU, oU, none⟩ L j cU W (HRU8.out.below h.glob.below (Nat.le_refl _)) HLL.out (by omega)).mono ?_
              rintro e w2 ⟨x, rfl, hO, hB⟩
              exact ⟨x, rfl, trivial, trivial, h.glob.clone HLL.out (by omega) b3 b6 b7 hO hB⟩
        | 2, _ =>
          exact flow_pure hD (fun _ => trivial) (.makeFunc (.func 22) #[] #[.tmp 13]) 55 rfl fun b v W ρ h => ⟨_, by
            have e0 := h.off 13 (by kernel_rfl)
            unfold opRun
            go_simp
            , rfl, h.glob.pure 2 _ (.inr (.inl rfl))⟩
        | 3, _ =>
          exact flow_call hD (.call { callee := .value (.func 20), args := #[.tmp 81, .tmp 82], argTypes := #[47, 55] }) 47 rfl 20 fun b v W ρ h => by
            have b1 : b 1 = true := h.dep 1 (by kernel_rfl)
            have d1 := (h.on 2 82 (by kernel_rfl) (h.dep 2 (by kernel_rfl))).trans (h.have_ 2 (by kernel_rfl))
            have b3 := h.self
            have b6 : b 6 = false := h.later 6 (by kernel_rfl)
            have b7 : b 7 = false := by
              cases hb : b 7 with
              | false => rfl
              | true => have := h.shut 7 6 hb (by kernel_rfl); rw [b6] at this; cases this
            obtain ⟨g, c, hv1, hO1⟩ := h.glob.cl b1 b3
            have d0 := (h.on 1 81 (by kernel_rfl) b1).trans hv1
            have hge := (hO1.lt g (by rw [hv1]; rfl)).1
            have hcW : W.cell? ⟨g13, 0, none⟩ = some (.int .i64 r) := (h.glob.below.cell (p := ⟨g13, 0, none⟩) hlt13).trans HC8.out
            rw [hv1] at hO1
            have em : #[Operand.tmp 81, Operand.tmp 82].map ρ = #[.slice (some ⟨g, 0, none⟩) j c, .func (.func 22) #[] #[.pointer (some ⟨g13, 0, none⟩)]] := by simp only [List.map_toArray, List.map_cons, List.map_nil, d0, d1]
            refine ⟨#[.slice (some ⟨g, 0, none⟩) j c, .func (.func 22) #[] #[.pointer (some ⟨g13, 0, none⟩)]], by rw [← em]; exact opRun_call (h.fn _) (Tryd.call20 _ _), ?_⟩
            refine (delInts_calls w8.heap.size g j c r g13 L W hO1 HLL.out (by omega) hcW (by dsimp only at hlt13; omega)).mono ?_
            rintro e w2 ⟨rfl, hO, hg⟩
            exact ⟨_, rfl, trivial, trivial, h.glob.take b1 b3 b6 b7 hv1 hO hg⟩
        | 4, _ =>
          exact flow_pure hD (fun _ => trivial) (.load 3 (.tmp 13)) 3 rfl fun b v W ρ h => ⟨_, by
            have e0 := h.off 13 (by kernel_rfl)
            have hcW : W.cell? ⟨g13, 0, none⟩ = some (.int .i64 r) := (h.glob.below.cell (p := ⟨g13, 0, none⟩) hlt13).trans HC8.out
            unfold opRun
            go_simp
            , rfl, h.glob.pure 4 _ (.inr (.inr rfl))⟩
        | 5, _ =>
          exact flow_val hD (.buildSlice 47 1 #[(0, .tmp 84)]) 47 rfl fun b v W ρ h => by
            have d0 := (h.on 4 84 (by kernel_rfl) (h.dep 4 (by kernel_rfl))).trans (h.have_ 4 (by kernel_rfl))
            have b6 : b 6 = false := h.later 6 (by kernel_rfl)
            have b7 : b 7 = false := by
              cases hb : b 7 with
              | false => rfl
              | true => have := h.shut 7 6 hb (by kernel_rfl); rw [b6] at this; cases this
            refine ⟨_, W.alloc (.cells #[.int .i64 r] 3), ?_, trivial, trivial, h.glob.put b6 b7⟩
            unfold opRun
            go_simp
        | 6, _ =>
          exact flow_val hD (.call { callee := .builtin .append, args := #[.tmp 83, .tmp 85], argTypes := #[47, 47] }) 47 rfl fun b v W ρ h => by
            have b3 : b 3 = true := h.dep 3 (by kernel_rfl)
            have b5 : b 5 = true := h.dep 5 (by kernel_rfl)
            have b6 := h.self
            have b7 : b 7 = false := h.later 7 (by kernel_rfl)
            have d0 := h.on 3 83 (by kernel_rfl) b3
            obtain ⟨gk, hv5, hRow, _, _⟩ := h.glob.lay b5
            have d1 := (h.on 5 85 (by kernel_rfl) b5).trans hv5
            have hO3 := h.glob.del b3 b6
            have hol := outN_len L r
            obtain ⟨v1, w1', hrun, hO1, hg1, _⟩ := run_app (P := Tryd.prog) (t := 47) (ty := 47) Tryd.underlying47 info_intO rfl (by decide) hO3 (A := some ⟨gk, 0, none⟩) (m := 1) (c := 1) (ys := nums .i64 [(r : Int)]) (Rd.row hRow) rfl (nums_one _ _) (by have := h.glob.below.size; omega) (by rw [intsN_len, nums_len]; have := HLL.out; simp only [List.length_cons, List.length_nil]; omega)
            refine ⟨_, w1', opRun_appT d0 d1 hrun, trivial, trivial, h.glob.end_ b3 b6 b7 ?_ hg1⟩
            have : intsN (outN L r ++ [r]) = intsN (outN L r) ++ nums .i64 [(r : Int)] := by simp [intsN, nums]
            rw [this]; exact hO1
        | 7, _ =>
          exact flow_pure hD (fun _ => trivial) (.assign (.tmp 86)) 47 rfl fun b v W ρ h => ⟨v 6, by
            have d0 := h.on 6 86 (by kernel_rfl) (h.dep 6 (by kernel_rfl))
            unfold opRun
            go_simp
            , trivial, h.glob.done⟩
        | q + 8, hq => exact absurd hq (by simp)
      · intro b v W hall hF hG
        have f0 : v 0 = _ := hF 0 (by decide)
        have f2 : v 2 = _ := hF 2 (by decide)
        have f4 : v 4 = _ := hF 4 (by decide)
        have f7 : v 7 = v 6 := hG.fin (hall 7 (by decide))
        have hO6 := hG.app (hall 6 (by decide))
        obtain ⟨A6, k6, hv6, _, hR6', _⟩ := hO6.read
        rw [intsN_len] at hv6
        simp only [fr, if_true, f0, f2, f4, f7, hv6, Act.put, List.setIfInBounds_toArray, List.set_cons_zero, List.set_cons_succ]
        obtain ⟨q2, hq2⟩ : ∃ q2, j + 1 = q2 := ⟨_, rfl⟩
        rw [hq2] at c428
        have hw2 : IntKind.i64.wrap ((j : Int) + 1) = (q2 : Int) := by rw [IntKind.wrap_i64]; omega
        have hq2j : q2 < j + 2 := by omega
        have c42W := (hG.below.cell (World.block_lt_of_cell? w8 _ c428)).trans c428
        have HRA := hidden (HR2'.out.below hG.below (Nat.le_refl _))
        have HRB := hidden hR6'
        have HBW := hidden (below_next HB8.out hG.below)
        have hml : (outN L r ++ [r]).length = m2 := by rw [← HM2.out, HLE.out]; rfl
        rw [hml]
        have HML := hidden hml
        have HRA2 : Hid (Rd W A2 (intsN (outN L r ++ [r]))) := hidden (by rw [← HLE.out]; exact HRA.out)
        clear hF hall f0 f2 f4 f7 hO6 hv6 hR6' hG c428 hD hq2 hml HRA
        go_wp2_with (first
          | (go_at_call 19; go_must (refine (equalYes_calls A2 A6 (outN L r ++ [r]) m2 k2 k6 _ HRA2.out HRB.out HML.out (by omega)).mono ?_; rintro e w9 ⟨rfl, hB9⟩; have HB9 := hidden hB9; clear hB9))
          | (go_at_call 15; go_must (refine (keysLive_calls _).mono ?_; rintro e w10 ⟨rfl, hB10⟩; have HB10 := hidden (below_next HB9.out hB10); clear hB10)))
        go_ret
        have h1 := HB1.out
        have h6 := HB6.out
        have h7 := HB7.out
        have h8 := HBW.out
        have h10 := HB10.out
        exact ⟨rfl, h1.trans ((h6.trans ((below_next (below_next h7 h8) h10).mono h6.size)).mono h1.size)⟩
end Go.Proofs.YthgklpkkcaiehaaDoor
