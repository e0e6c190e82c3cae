/- laws.FnKeySetBack: the steps are laid, and run. -/
import Derived.Test.YthgklpkkcaiehaaDoorKBack30
import Derived.StillTailTactics
namespace Go.Proofs.YthgklpkkcaiehaaDoor
open Go.RowKit
set_option linter.unusedVariables false
set_option linter.unusedSimpArgs false

def backA (n : Nat) : List KSt := (List.range n).map (fun i => kst 0 i 0)
def backB (n : Nat) : List KSt := (List.range n).flatMap (fun i => [kst 2 i 0, kst 3 0 i, kst 0 i 0])
def backC (n t m : Nat) : List KSt := (List.range m).map (fun i => kst 1 ((i + t) % n) 0)
theorem backL_eq (n t : Nat) : backL n t = backA n ++ backB n ++ backC n t n := rfl
theorem backA_succ (j : Nat) : backA (j + 1) = backA j ++ [kst 0 j 0] := by simp [backA, List.range_succ]
theorem backB_succ (j : Nat) : backB (j + 1) = backB j ++ [kst 2 j 0, kst 3 0 j, kst 0 j 0] := by simp [backB, List.range_succ]
theorem backC_succ (n t j : Nat) : backC n t (j + 1) = backC n t j ++ [kst 1 ((j + t) % n) 0] := by simp [backC, List.range_succ]
theorem backA_len (n : Nat) : (backA n).length = n := by simp [backA]
theorem backB_len (n : Nat) : (backB n).length = 3 * n := by
  induction n with
  | zero => rfl
  | succ n ih => rw [backB_succ, List.length_append, ih]; simp; omega
theorem backC_len (n t m : Nat) : (backC n t m).length = m := by simp [backC]
theorem kst_one (M : List KSt) : ∀ u ∈ M.flatMap KSt.cells, u.oneCell' = true := by
  intro u hu
  obtain ⟨x, _, hx⟩ := List.mem_flatMap.1 hu
  simp only [KSt.cells, List.mem_cons, List.not_mem_nil, or_false] at hx
  rcases hx with rfl | rfl | rfl | rfl | rfl <;> rfl
theorem seenAt_get (xs : List Seen) (k : Nat) (h : k < xs.length) : xs[k] = seenAt xs k := by simp [seenAt, h]
set_option maxRecDepth 100000 in
set_option maxHeartbeats 4000000 in
theorem back_calls (A : Option Addr) (n c : Nat) (l : List Int) (t : Nat) (w : World) (hR : Rd w A (nums .u8 l)) (hl : l.length = n) (hn : n ≤ 8) (hn0 : 1 ≤ n) (ht : t < 256) (hb : ∀ x ∈ l, 0 ≤ x ∧ x ≤ 255) :
    Calls Tryd.prog 4 #[.slice A n c, .int .u8 t] w fun e w' => e = .returned (.bool true) ∧ Below w.heap.size w w' := by
  have HKD := hidden (keyData_calls A n c l w hR hl (by omega) hb)
  clear hb hR
  obtain ⟨i0, hi0, hzz⟩ := Option.map_eq_some_iff.1 info_step
  simp only [Prod.mk.injEq] at hzz
  have HI := hidden hzz
  clear hzz
  have hnb : ((n : Int) == 0) = false := beq_eq_false_iff_ne.2 (by omega)
  go_enter Tryd.func4, Tryd.ntmps4
  go_wp2_with (go_at_call 16; go_must (refine HKD.out.mono ?_; rintro e w1 ⟨v, ds, rfl, hds, hD, hB⟩; obtain ⟨X, cX, rfl, hK⟩ := hD.kds; have HK := hidden hK; have HB1 := hidden hB; have HDS := hidden hds; rw [HDS.out]; clear hD hds hK hB))
  go_loopw [35, 7] (fun i v wr => ∃ j : Nat, j ≤ n ∧ i = .int .i64 j ∧ Hid (StAt wr w1.heap.size v (backA j)) ∧ Hid (Below w1.heap.size w1 wr)) (fun i _ _ => n - (intOf i).toNat)
  case atStart => exact ⟨0, by omega, rfl, hidden (StAt.nil _ _), hidden (Below.refl _ _)⟩
  case round =>
    obtain ⟨j, hj, rfl, HM, HB⟩ := hrel
    by_cases hlt : j < n
    · have HE := hidden (st_end HM.out HB.out.size [kst 0 j 0])
      go_wp2_with (first
          | ((with_reducible refine at_dst 42 ?_); go_must (obtain ⟨how, hTE⟩ := HE.out; refine wpList_append_own_at _ rfl (.tmp 38) (.tmp 41) 42 rfl w1.heap.size 44 i0 _ 5 56 Tryd.underlying42 hi0 HI.out.1 HI.out.2.1 HI.out.2.2 rfl (by decide) _ (backA j).length _ rfl how ⟨wr.heap.size, 0, none⟩ 1 1 ([kst 0 j 0].flatMap KSt.cells) rfl rfl (row_at (Row.new wr _ _)) (kst_one _) (by rw [backA_len]; unfold maxLen; omega) (by rw [backA_len]; omega) (by have := HB.out.size; simp; omega) ?_; rintro vo1 w5 ho5 hg5 _ _; have HX := hidden (hTE vo1 w5 ho5 hg5); clear hTE how ho5 hg5)))
      go_roundw
      case rel => exact ⟨j + 1, by omega, by go_num, hidden (by rw [backA_succ]; exact HX.out.1), hidden (HB.out.trans HX.out.2)⟩
      case measure => simp [intOf]; omega
    · obtain rfl : j = n := by omega
      go_upto_region 13 with (fail)
      obtain ⟨w2, hw2⟩ : ∃ W, W = wr := ⟨_, rfl⟩
      subst hw2
      have HM2 := hidden HM.out
      have HB2 := hidden HB.out
      clear HM HB
      go_wp2
      go_loopw [46, 7] (fun i v wr => ∃ k : Nat, k ≤ j ∧ i = .int .i64 k ∧ Hid (StAt wr w1.heap.size v (backA j ++ backB k)) ∧ Hid (Below w1.heap.size w1 wr)) (fun i _ _ => j - (intOf i).toNat)
      case atStart => exact ⟨0, by omega, rfl, hidden (by simpa [backB] using HM2.out), HB2⟩
      case round =>
        obtain ⟨k, hk, rfl, HM, HB⟩ := hrel
        by_cases hlt : k < j
        · have HE := hidden (st_end HM.out HB.out.size [kst 2 k 0, kst 3 0 k, kst 0 k 0])
          go_wp2_with (first
              | ((with_reducible refine at_dst 57 ?_); go_must (obtain ⟨how, hTE⟩ := HE.out; refine wpList_append_own_at _ rfl (.tmp 49) (.tmp 56) 42 rfl w1.heap.size 44 i0 _ 5 56 Tryd.underlying42 hi0 HI.out.1 HI.out.2.1 HI.out.2.2 rfl (by decide) _ (backA j ++ backB k).length _ rfl how ⟨wr.heap.size, 0, none⟩ 3 3 ([kst 2 k 0, kst 3 0 k, kst 0 k 0].flatMap KSt.cells) rfl rfl (row_at (Row.new wr _ _)) (kst_one _) (by rw [List.length_append, backA_len, backB_len]; unfold maxLen; omega) (by rw [List.length_append, backA_len, backB_len]; omega) (by have := HB.out.size; simp; omega) ?_; rintro vo1 w5 ho5 hg5 _ _; have HX := hidden (hTE vo1 w5 ho5 hg5); clear hTE how ho5 hg5)))
          go_roundw
          case rel => exact ⟨k + 1, by omega, by go_num, hidden (by rw [backB_succ, ← List.append_assoc]; exact HX.out.1), hidden (HB.out.trans HX.out.2)⟩
          case measure => simp [intOf]; omega
        · obtain rfl : k = j := by omega
          go_upto_region 18 with (fail)
          obtain ⟨w3, hw3⟩ : ∃ W, W = wr := ⟨_, rfl⟩
          subst hw3
          have HM3 := hidden HM.out
          have HB3 := hidden HB.out
          clear HM HB HM2 HB2
          go_wp2
          go_loopw [61, 7] (fun i v wr => ∃ j : Nat, j ≤ k ∧ i = .int .i64 j ∧ Hid (StAt wr w1.heap.size v (backA k ++ backB k ++ backC k t j)) ∧ Hid (Below w1.heap.size w1 wr)) (fun i _ _ => k - (intOf i).toNat)
          case atStart => exact ⟨0, by omega, rfl, hidden (by simpa [backC] using HM3.out), HB3⟩
          case round =>
            obtain ⟨j, hj, rfl, HM, HB⟩ := hrel
            by_cases hlt : j < k
            · have HE := hidden (st_end HM.out HB.out.size [kst 1 ((j + t) % k) 0])
              have htm := tmod_nat j t k
              obtain ⟨q, hq⟩ : ∃ q, (j + t) % k = q := ⟨_, rfl⟩
              have HQ := hidden hq
              rw [hq] at htm HE
              have hw1 : IntKind.i64.wrap ((j : Int) + (t : Int)) = (j : Int) + (t : Int) := by rw [IntKind.wrap_i64]; omega
              clear hq
              go_wp2_with (first
                  | ((with_reducible refine at_dst 73 ?_); go_must (obtain ⟨how, hTE⟩ := HE.out; refine wpList_append_own_at _ rfl (.tmp 64) (.tmp 72) 42 rfl w1.heap.size 44 i0 _ 5 56 Tryd.underlying42 hi0 HI.out.1 HI.out.2.1 HI.out.2.2 rfl (by decide) _ (backA k ++ backB k ++ backC k t j).length _ rfl how ⟨wr.heap.size, 0, none⟩ 1 1 ([kst 1 q 0].flatMap KSt.cells) rfl rfl (row_at (Row.new wr _ _)) (kst_one _) (by rw [List.length_append, List.length_append, backA_len, backB_len, backC_len]; unfold maxLen; omega) (by rw [List.length_append, List.length_append, backA_len, backB_len, backC_len]; omega) (by have := HB.out.size; simp; omega) ?_; rintro vo1 w5 ho5 hg5 _ _; have HX := hidden (hTE vo1 w5 ho5 hg5); clear hTE how ho5 hg5)))
              go_roundw
              case rel => exact ⟨j + 1, by omega, by go_num, hidden (by rw [backC_succ, ← List.append_assoc, HQ.out]; exact HX.out.1), hidden (HB.out.trans HX.out.2)⟩
              case measure => simp [intOf]; omega
            · obtain rfl : j = k := by omega
              obtain ⟨w4, hw4⟩ : ∃ W, W = wr := ⟨_, rfl⟩
              subst hw4
              have hst := HM.out
              obtain ⟨Y, cY, hv, hcY, hRY⟩ := ownsRow_rd hst
              rw [← backL_eq, backL_len] at hv
              subst hv
              rw [← backL_eq] at hRY
              have HST : Hid (StepsOk w4 Y (backL j t) j) := hidden ⟨hRY, fun x hx => by have := backL_mem hn0 x hx; omega, fun p hp hk ids => back_rem hn0 hn ids p hp hk⟩
              have HKR := hidden (keyRun_calls X j cX ds Y (5 * j) cY (backL j t) w4 (HK.out.below HB.out) HDS.out (by omega) HST.out (backL_len j t) (by omega))
              have HB4 := hidden HB.out
              clear hst hRY HM HB HST HM3 HB3
              go_wp2_with (go_at_call 17; go_must (refine HKR.out.mono ?_; rintro e w5 ⟨vo, rfl, hS, hB5⟩; obtain ⟨Z, cZ, rfl, hcZ, hat⟩ := seen_at hS; have HAT := hidden hat; have HB5 := hidden hB5; have HXL : Hid ((runK j (idsOf ds) [] (backL j t)).length = 5 * j) := hidden (by rw [runK_len, backL_len]); rw [HXL.out]; clear hS hB5 hat))
              obtain ⟨bz, oz, _, e0z, _⟩ := HAT.out 0 (by rw [HXL.out]; omega)
              subst e0z
              obtain ⟨xs, hxs⟩ : ∃ xs, runK j (idsOf ds) [] (backL j t) = xs := ⟨_, rfl⟩
              have HBF := hidden (fun i (hi : i < j) => back_facts (t := t) hn0 hn (idsOf ds) i hi)
              rw [hxs] at HAT HXL HBF hcZ
              rw [HXL.out] at hcZ
              have hat2 : ∀ k, k < 5 * j → ∃ va, SeenRow w5 w4.heap.size bz (oz + k * 6) (seenAt xs k) va := fun k hk => by
                obtain ⟨b, o, va, e, h⟩ := HAT.out k (by rw [HXL.out]; exact hk)
                cases e
                rw [seenAt_get] at h
                exact ⟨va, h⟩
              have HAT2 := hidden hat2
              clear hat2 HAT hxs
              go_loopw [85] (fun i wr => ∃ k : Nat, k ≤ j ∧ i = .int .i64 k ∧ Hid (Below w5.heap.size w5 wr)) (fun i _ => j - (intOf i).toNat)
              case atStart => exact ⟨0, by omega, rfl, hidden (Below.refl _ _)⟩
              case round =>
                obtain ⟨k, hk, rfl, HB⟩ := hrel
                by_cases hlt : k < j
                · go_upto_region 29 with (fail)
                  obtain ⟨va0, s0⟩ := HAT2.out (j + 3 * k) (by omega)
                  obtain ⟨va1, s1⟩ := HAT2.out (j + 3 * k + 1) (by omega)
                  obtain ⟨va2, s2⟩ := HAT2.out (j + 3 * k + 2) (by omega)
                  obtain ⟨va3, s3⟩ := HAT2.out (4 * j + k) (by omega)
                  obtain ⟨vaA, sA⟩ := HAT2.out k (by omega)
                  have hbf := HBF.out k hlt
                  refine back29 wr w4.heap.size j k (5 * j) cZ bz oz (fun q => match q with | 0 => seenAt xs (j + 3 * k) | 1 => seenAt xs (j + 3 * k + 1) | 2 => seenAt xs (j + 3 * k + 2) | _ => seenAt xs (4 * j + k)) (fun q => match q with | 0 => va0 | 1 => va1 | 2 => va2 | _ => va3) (j + 3 * k) (j + 3 * k + 1) (j + 3 * k + 2) (4 * j + k) hlt hn rfl rfl rfl rfl rfl (s0.below HB.out) (s1.below HB.out) (s2.below HB.out) (s3.below HB.out) (by have := hcZ; omega) _ _ _ _ _ _ _ _ _ _ _ _ _ _ _ _ _ _ _ _ _ _ _ _ _ _ _ _ _ _ _ _ _ _ _ _ _ _ _ _ _ _ _ _ _ _ _ _ _ _ _ _ _ _ _ _ _ _ _ _ _ _ _ _ _ _ _ _ _ _ _ _ _ _ _ _ _ _ _ _ _ _ _ _ _ _ _ _ _ _ _ _ _ _ _ _ _ _ _ _ _ _ _ _ _ _ _ _ _ _ _ _ _ _ _ _ _ _ _ _ _ _ _ _ _ _ _ _ _ _ _ _ _ _ _ _ _ _ _ _ _ _ _ _ _ _ _ _ _ _ _ _ _ _ _ _ _ _ _ _ _ _ _ _ _ _ _ _ _ _ _ _ _ _ _ _ _ _ _ _ _ _ _ _ _ _ ?_
                  intro wz g0 g1 g2 g3 n88 n89 n90 n91 n92 n93 n94 n95 n96 n97 n98 n99 n100 n101 n102 n103 n104 n105 n106 n107 n108 n109 n110 n111 n112 n113 n114 n115 n116 n117 hBz r0 r1 r2 r3
                  refine ‹∀ (a : Act) (w : World), Code.wp Tryd.prog (Code.seq (Code.region 30 _ _) _) _ a w → _› _ _ ?_
                  have sA2 := (sA.below HB.out).below hBz
                  have s32 := (s3.below HB.out).below hBz
                  obtain ⟨A3, c3, hv3, _, hR3, _⟩ := s32.own.read
                  rw [nums_len, List.length_map] at hv3
                  refine back30 wz j k t (5 * j) cZ bz oz g0 g1 g2 g3 A3 c3 (seenAt xs (4 * j + k)).all ((k + t) % j) hlt hn ht rfl (by have := hcZ; omega) (by rw [← hbf.a0]; exact sA2.c0) (by rw [sA2.c3, hbf.a1]; rfl) (by rw [r0.cell]; simp [seenC, hbf.b0]) (by rw [r1.cell]; simp [seenC, hbf.c0]) (by rw [r1.cell]; simp [seenC, hbf.c1]) (by rw [r2.cell]; simp [seenC, hbf.d0]) (by rw [r2.cell]; simp [seenC, hbf.d1]) (by rw [r3.cell]; simp [seenC, hbf.e0]) (by rw [r3.cell]; simp [seenC, hbf.e1]; omega) (by rw [r3.cell]; simp [seenC, hv3]) hR3 (by rw [hbf.e1]; omega) rfl hbf.e2 _ _ _ _ _ _ _ _ _ _ _ _ _ _ _ _ _ _ _ _ _ _ _ _ _ _ _ _ _ _ _ _ _ _ _ _ _ _ _ _ _ _ _ _ _ _ _ _ _ _ _ _ _ _ _ _ _ _ _ _ _ _ _ _ _ _ _ _ _ _ _ _ _ _ _ _ _ _ _ _ _ _ _ _ _ _ _ _ _ _ _ _ _ _ _ _ _ _ _ _ _ _ _ _ _ _ _ _ _ _ _ _ _ _ _ _ _ _ _ _ _ _ _ _ _ _ _ _ _ _ _ _ _ _ _ _ _ _ _ _ _ _ _ _ _ _ _ _ _ _ _ _ _ _ _ _ _ _ _ _ _ _ _ _ _ _ _ _ _ _ _ _ _ _ _ _ _ _ _ _ _ ?_
                  intro wz2 m118 m119 m120 m121 m122 m123 m124 m125 m126 m127 m128 m129 m130 m131 m132 m133 m134 m135 m136 m137 m138 m139 m140 m141 m142 m143 m144 m145 m146 m147 m148 m149 m150 m151 m152 m153 m154 m155 m156 m157 m158 m159 m160 m161 m162 m163 m164 m165 m166 m167 m168 m169 m170 m171 m172 m173 m174 m175 m176 m177 m178 m179 m180 m181 m182 m183 m184 m185 hBz2
                  have HBB := hidden (below_next (below_next HB.out hBz) hBz2)
                  clear hBz hBz2 r0 r1 r2 r3 s0 s1 s2 s3 sA sA2 s32 hv3 hR3 hbf
                  set_option simprocs false in dsimp only [Exit.inBlock, Exit.then]
                  refine ‹∀ (a : Act) (w : World), Code.wp Tryd.prog (Code.region 32 _ _) _ a w → _› _ _ ?_
                  go_wp2
                  go_roundw
                  case rel => exact ⟨k + 1, by omega, by go_num, HBB⟩
                  case measure => simp [intOf]; omega
                · obtain rfl : k = j := by omega
                  have HFin := hidden (HB1.out.trans ((HB4.out.trans (HB5.out.mono HB4.out.size)).trans (HB.out.mono (Nat.le_trans HB4.out.size HB5.out.size)) |>.mono HB1.out.size))
                  go_wp2_with (go_at_call 15; go_must (refine (keysLive_calls _).mono ?_; rintro e w9 ⟨rfl, hB9⟩; have HB9 := hidden (below_next HFin.out hB9); clear hB9))
                  go_ret
                  exact ⟨rfl, HB9.out⟩
end Go.Proofs.YthgklpkkcaiehaaDoor
