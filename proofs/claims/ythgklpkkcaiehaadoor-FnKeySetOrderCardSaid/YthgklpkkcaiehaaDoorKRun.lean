/- The steps of a key set, one after the other: impl.KeyRun. -/
import Derived.Test.YthgklpkkcaiehaaDoorKRound
namespace Go.Proofs.YthgklpkkcaiehaaDoor
open Go.RowKit
set_option linter.unusedVariables false
set_option linter.unusedSimpArgs false

theorem SeenAt.own_ge {w : World} {base : Nat} {vo : Value} {xs : List Seen} (h : SeenAt w base vo xs) : ∀ i, vo.ownBlock = some i → base ≤ i := by
  obtain ⟨av, _, h2, _⟩ := h.ex
  intro i hi
  rcases h2.2 with ⟨rfl, _⟩ | ⟨g, cap, cur, rfl, hb, _⟩
  · cases hi
  · cases hi; exact hb
theorem SeenAt.weaken {w : World} {base b2 : Nat} {vo : Value} {xs : List Seen} (h : SeenAt w base vo xs) (hb : b2 ≤ base) : SeenAt w b2 vo xs := by
  obtain ⟨av, h1, h2, h3⟩ := h.ex
  exact ⟨av, h1, ownsRow_weaken h2 hb, fun p hp => Own.weaken (h3 p hp) hb⟩
theorem LoopR.next {W wr wz : World} {gs mb m : Nat} {bk : Nat → Nat} {ids : Nat → Option ByteArray} {l : List KSt} {x : KSt} {vo vo' v : Value} {s : List Nat} (h : LoopR W wr gs mb bk m ids l vo) (hs : stK m ids [] l = s) (hT : TailR wr wz gs mb W.heap.size v vo vo' (keysV bk (stepK m ids s x).all) (runK m ids [] l ++ [stepK m ids s x]))
    (hv : ∀ i, v.ownBlock = some i → W.heap.size ≤ i) (hvo : ∀ i, vo.ownBlock = some i → W.heap.size ≤ i) : LoopR W wz gs mb bk m ids (l ++ [x]) vo' := by
  refine ⟨h.alt.trans hT.alt (fun i hi e => ?_), ?_, ?_, ?_⟩
  · rcases e with (e | e) | e
    · exact e
    · have := hv i e.symm; omega
    · have := hvo i e.symm; omega
  · rw [stK_snoc, hs]; exact hT.set
  · rw [stK_snoc]; exact h.ok.step x
  · rw [runK_snoc, hs]; exact hT.out
set_option maxRecDepth 100000 in
set_option maxHeartbeats 4000000 in
theorem keyRun_calls (X : Option Addr) (m c : Nat) (ds : List KD) (Y : Option Addr) (q f : Nat) (L : List KSt) (w : World) (hd : KDs w X ds) (hm : ds.length = m) (hmb : m ≤ 100) (hd2 : StepsOk w Y L m) (hq : L.length = q) (hqb : q ≤ 1000) :
    Calls Tryd.prog 17 #[.slice X m c, .slice Y q f] w fun e w' => ∃ vo, e = .returned vo ∧ SeenAt w' w.heap.size vo (runK m (idsOf ds) [] L) ∧ Below w.heap.size w w' := by
  have HD := hidden hd
  have HD2 := hidden hd2
  clear hd hd2
  go_enter Tryd.func17, Tryd.ntmps17
  go_wp2
  go_loopw [28] (fun i wr => ∃ j : Nat, j ≤ m ∧ i = .int .i64 j ∧ Hid (∃ v bs, bs.length = j ∧ Made wr ds w.heap.size w.heap.size v bs) ∧ Hid (Below w.heap.size w wr)) (fun i _ => m - (intOf i).toNat)
  case atStart => exact ⟨0, by omega, rfl, hidden ⟨_, [], rfl, ⟨by simp, List.nodup_nil, by simp, Row.new w _ [_], Own.nil _ _ _, fun k h => by simp at h⟩⟩, hidden (below_alloc0 w _)⟩
  case round =>
    obtain ⟨j, hj, rfl, HM, HB⟩ := hrel
    obtain ⟨v0, bs, hbs, hM⟩ := HM.out
    by_cases hlt : j < m
    · obtain ⟨bX, oX, rfl, _, c0, c1, c2⟩ := (HD.out.below HB.out).at j (by omega)
      have hok := (HD.out.below HB.out).ok ds[j] (by simp)
      have HK := hidden hok
      have hidj : idsOf ds j = (ds[j]).id := by simp [idsOf, show j < ds.length by omega]
      generalize hdj : ds[j] = d at c0 c1 c2 HK hidj
      have HM2 := hidden hM
      have HBS := hidden hbs
      have HJ := hidden (show bs.length < 100 ∧ bs.length < ds.length by omega)
      obtain ⟨K0, cc0, hv0, _, _, _⟩ := hM.own.read
      rw [List.length_map] at hv0
      have hmc := hM.row.cell 0
      simp at hmc
      rw [hv0] at hmc HM2
      clear hM hv0 hok hdj
      cases hid : d.id with
      | none =>
        rw [hid] at c1 c2 hidj
        dsimp only [Option.isSome_none, Option.getD_none] at c1 c2
        have HI := hidden hidj
        clear hid hidj hbs
        go_wp2_with (first
          | ((with_reducible refine at_dst 36 ?_); go_must (refine walk_app (base := wr.heap.size + 1) rfl (.tmp 33) (.tmp 35) rfl Tryd.underlying22 info_oct rfl (by decide) rfl rfl (own_emptyG (wr.alloc _) _ (wr.heap.size + 1) (by simp)) ((HK.out.rd.alloc _).alloc _) (by rw [nums_len]; exact HK.out.len) (nums_one _ _) (by simp) (by rw [nums_len, HK.out.len]; have := HK.out.le; simp; omega) ?_; intro v1 w1 hO1 hg1 _; obtain ⟨a1, c1', rfl, hB1, hR1, hl1, cx1, cx2⟩ := oct_next HK.out hO1 hg1; have HB1 := hidden hB1; have HR1 := hidden hR1; clear hO1 hg1 hB1 hR1))
          | (go_at_call 34; go_must (refine (newSymm_calls w1 a1 d.n c1' d.l HR1.out HK.out.len (by have := HK.out.le; omega) hl1).mono ?_; rintro e w2 ⟨b, oct, mb, rfl, hb2, hR2, hB2⟩; have cx1' := cell_next hB2 cx1; have HR2 := hidden hR2; have HB2 := hidden (below_next HB1.out hB2); have HM3 := hidden ((HM2.out.below HB1.out).below hB2); have hm3 := HM3.out.row.cell 0; clear cx1 cx2 hR2 hB2; dsimp only))
          | ((with_reducible refine at_dst 57 ?_); go_must (refine walk_app (base := w.heap.size) (vs := bs.map symV) (ys := [symV b]) rfl (.tmp 54) (.tmp 56) rfl Tryd.underlying72 info_key rfl (by decide) rfl rfl (HM3.out.own.alloc _) (Rd.new w2 _ [symV b] _ rfl) rfl (by intro u hu; simp at hu; subst hu; rfl) (Nat.le_trans (Nat.le_trans HB.out.size HB2.out.size) (below_alloc0 w2 _).size) (by have := HJ.out.1; simp only [List.length_map, List.length_cons, List.length_nil]; omega) ?_; intro v2 w3 hO3 hg3 _; have HM4 := hidden (HM3.out.below (below_alloc0 w2 (.cells #[symV b] 81))); have HS := hidden (fun w4 (hw : w4 = w3.setCell ⟨w.heap.size, 0, none⟩ v2) => HM4.out.snoc HJ.out.2 (fun x hx e => by have := (HM2.out.lt x hx).2; have := HB1.out.size; omega) (Nat.le_trans HB.out.size (Nat.le_trans HB1.out.size hb2)) ⟨_, HR2.out.alloc _⟩ (by rw [HBS.out, HI.out]; exact (HR2.out.alloc _).cell 1) hO3 hg3 hw); have HB4 := hidden ((((HB.out.trans (HB2.out.mono HB.out.size)).trans ((below_alloc0 w2 (.cells #[symV b] 81)).mono (Nat.le_trans HB.out.size HB2.out.size))).grown hg3 (Nat.le_trans HB.out.size (Nat.le_trans HB2.out.size (below_alloc0 w2 _).size)) (fun k hk => (HM4.out.own.lt k hk).1)).setCell (p := ⟨w.heap.size, 0, none⟩) (Nat.le_refl _) v2); have hRm := (Alt.of_grown hg3).row HM4.out.row (fun e => Own.ne_row HM4.out.own HM4.out.row (by decide) e.symm); have f0 := hRm.free 0; have c0' := hRm.cell 0; simp at c0'; obtain ⟨A2, c2', hv2, _, _, _⟩ := hO3.read; rw [List.length_append, List.length_map] at hv2; subst hv2; clear hO3 hg3 hRm)))
        go_roundw
        case rel => exact ⟨j + 1, by omega, by go_num, hidden ⟨_, bs ++ [b], by rw [List.length_append, HBS.out]; rfl, HS.out _ rfl⟩, HB4⟩
        case measure => simp [intOf]; omega
      | some s =>
        rw [hid] at c1 c2 hidj
        dsimp only [Option.isSome_some, Option.getD_some] at c1 c2
        have HI := hidden hidj
        clear hid hidj hbs
        go_wp2_with (first
          | ((with_reducible refine at_dst 36 ?_); go_must (refine walk_app (base := wr.heap.size + 1) rfl (.tmp 33) (.tmp 35) rfl Tryd.underlying22 info_oct rfl (by decide) rfl rfl (own_emptyG (wr.alloc _) _ (wr.heap.size + 1) (by simp)) ((HK.out.rd.alloc _).alloc _) (by rw [nums_len]; exact HK.out.len) (nums_one _ _) (by simp) (by rw [nums_len, HK.out.len]; have := HK.out.le; simp; omega) ?_; intro v1 w1 hO1 hg1 _; obtain ⟨a1, c1', rfl, hB1, hR1, hl1, cx1, cx2⟩ := oct_next HK.out hO1 hg1; have HB1 := hidden hB1; have HR1 := hidden hR1; clear hO1 hg1 hB1 hR1))
          | (go_at_call 34; go_must (refine (newSymm_calls w1 a1 d.n c1' d.l HR1.out HK.out.len (by have := HK.out.le; omega) hl1).mono ?_; rintro e w2 ⟨b, oct, mb, rfl, hb2, hR2, hB2⟩; have cx1' := cell_next hB2 cx1; have cx2' := cell_next hB2 cx2; have HR2 := hidden hR2; have HB2 := hidden (below_next HB1.out hB2); clear cx1 cx2 hR2 hB2; dsimp only))
          | (go_at_call 46; go_must (refine (setKid_calls w2 b mb _ oct s HR2.out).mono ?_; rintro e w5 ⟨rfl, p, hp5, hR5, hq5, hg5⟩; have HR5 := hidden hR5; have HQ5 := hidden hq5; have HB5 := hidden (HB2.out.grown hg5 HB2.out.size (by rintro k hk; cases hk; exact Nat.le_trans HB1.out.size hb2)); have HM3 := hidden (HM2.out.below HB5.out); have hm3 := HM3.out.row.cell 0; clear cx1' cx2' hR5 hq5 hg5))
          | ((with_reducible refine at_dst 57 ?_); go_must (refine walk_app (base := w.heap.size) (vs := bs.map symV) (ys := [symV b]) rfl (.tmp 54) (.tmp 56) rfl Tryd.underlying72 info_key rfl (by decide) rfl rfl (HM3.out.own.alloc _) (Rd.new w5 _ [symV b] _ rfl) rfl (by intro u hu; simp at hu; subst hu; rfl) (Nat.le_trans (Nat.le_trans HB.out.size HB5.out.size) (below_alloc0 w5 _).size) (by have := HJ.out.1; simp only [List.length_map, List.length_cons, List.length_nil]; omega) ?_; intro v2 w3 hO3 hg3 _; have HM4 := hidden (HM3.out.below (below_alloc0 w5 (.cells #[symV b] 81))); have HS := hidden (fun w4 (hw : w4 = w3.setCell ⟨w.heap.size, 0, none⟩ v2) => HM4.out.snoc HJ.out.2 (fun x hx e => by have := (HM2.out.lt x hx).2; have := HB1.out.size; omega) (Nat.le_trans HB.out.size (Nat.le_trans HB1.out.size hb2)) ⟨_, HR5.out.alloc _⟩ (by rw [HBS.out, HI.out]; exact ⟨p, (HR5.out.alloc _).cell 1, HQ5.out.alloc _⟩) hO3 hg3 hw); have HB4 := hidden ((((HB.out.trans (HB5.out.mono HB.out.size)).trans ((below_alloc0 w5 (.cells #[symV b] 81)).mono (Nat.le_trans HB.out.size HB5.out.size))).grown hg3 (Nat.le_trans HB.out.size (Nat.le_trans HB5.out.size (below_alloc0 w5 _).size)) (fun k hk => (HM4.out.own.lt k hk).1)).setCell (p := ⟨w.heap.size, 0, none⟩) (Nat.le_refl _) v2); have hRm := (Alt.of_grown hg3).row HM4.out.row (fun e => Own.ne_row HM4.out.own HM4.out.row (by decide) e.symm); have f0 := hRm.free 0; have c0' := hRm.cell 0; simp at c0'; obtain ⟨A2, c2', hv2, _, _, _⟩ := hO3.read; rw [List.length_append, List.length_map] at hv2; subst hv2; clear hO3 hg3 hRm)))
        go_roundw
        case rel => exact ⟨j + 1, by omega, by go_num, hidden ⟨_, bs ++ [b], by rw [List.length_append, HBS.out]; rfl, HS.out _ rfl⟩, HB4⟩
        case measure => simp [intOf]; omega
    · obtain rfl : j = m := by omega
      obtain ⟨wa, hwa⟩ : ∃ wa, wa = wr := ⟨_, rfl⟩
      subst hwa
      have hmc := hM.row.cell 0
      simp at hmc
      obtain ⟨K0, cc0, hv0, hcc0, hRk, _⟩ := hM.own.read
      rw [hv0] at hmc hM
      rw [List.length_map, hbs] at hmc hM hcc0
      rw [made_vals, hbs] at hRk
      have HA := hidden (made_apart hM)
      have HKI := hidden (made_keys hM)
      have HID := hidden (made_kid hM)
      have HRK := hidden hRk
      rw [hbs] at HA HKI HID
      have hblt : ∀ k, k < j → bkOf bs k < wa.heap.size := fun k hk => by
        have h1 : k < bs.length := by omega
        simp [bkOf, h1]
        exact (hM.lt _ (List.getElem_mem _)).2
      have HBL := hidden hblt
      generalize hbk : bkOf bs = bk at HA HKI HID HRK HBL
      have HM2 := hidden hM
      have hmcK := hmc
      clear hM hRk hblt hv0 hbs HM HD
      go_wp2_with (first
        | (go_at_call 36; go_must (refine (newSet_calls _ wa.heap.size (Nat.le_refl _)).mono ?_; rintro e w2 ⟨gs, mb, rfl, hS2, hgs, hmb2, hB2⟩; have HS2 := hidden hS2; have HB2 := hidden hB2; clear hS2 hB2)))
      have hgs2 := HS2.out.row.lt
      go_loopw [63, 12, 11] (fun i vo s11 wr => ∃ p : Nat, p ≤ q ∧ i = .int .i64 p ∧ s11 = .iface 108 (.pointer (some ⟨gs, 0, none⟩)) ∧ Hid (LoopR w2 wr gs mb bk j (idsOf ds) (L.take p) vo)) (fun i _ _ _ => q - (intOf i).toNat)
      case atStart => exact ⟨0, by omega, rfl, rfl, hidden ⟨Alt.refl _ _, ⟨_, HS2.out.row, KL.nil _ _ _, HS2.out.map⟩, SetOk.nil _, ⟨[], rfl, World.ownsRow_nil _ _ _ _, by simp⟩⟩⟩
      case round =>
        obtain ⟨p, hp, rfl, rfl, HR⟩ := hrel
        have HBr : Hid (Below wa.heap.size wa wr) := hidden (HB2.out.trans (HR.out.alt.below HB2.out.size (fun i hi e => by omega)))
        by_cases hlp : p < q
        · have hpL : p < L.length := by omega
          obtain ⟨bY, oY, rfl, _, c0, c1, c2, c3, c4⟩ := steps_at (HD2.out.rd.below (HB.out.trans (HBr.out.mono HB.out.size)) (Nat.le_refl _)) p hpL
          have hxok := HD2.out.ok L[p] (List.getElem_mem _)
          have hxrem := HD2.out.rem p hpL
          have hnx : L.take (p + 1) = L.take p ++ [L[p]] := by rw [List.take_succ_eq_append_getElem hpL]
          have HNX := hidden hnx
          have HXR := hidden hxrem
          obtain ⟨x, hx⟩ : ∃ x, L[p] = x := ⟨_, rfl⟩
          rw [hx] at c0 c1 c2 c3 hxok HNX HXR
          clear hx hnx hxrem
          obtain ⟨v, hSv⟩ := HR.out.set
          obtain ⟨bK, oK, e0K, _, _⟩ := HRK.out _ _ (keysV_at bk (List.range j) 0 (by simp; omega))
          subst e0K
          obtain ⟨s, hs⟩ : ∃ s, stK j (idsOf ds) [] (L.take p) = s := ⟨_, rfl⟩
          have hST : Stand wa wr ((wr.alloc (.cells (KSt.cells x).toArray 44)).alloc (.cells #[.bool true, .int .i64 (-1), .int .i64 (-1), .int .i64 0, .slice none 0 0, .slice none 0 0] 49)) w.heap.size gs mb w2.heap.size j bK oK cc0 bk (idsOf ds) s v x :=
            { made := hmcK, rd := HRK.out, keys := HKI.out, apart := HA.out, kid := HID.out, m_le := hmb, old := HBr.out, gs_ge := hgs, base_ge := HB2.out.size, base_le := HR.out.alt.size, set := by rw [← hs]; exact hSv, ok := by rw [← hs]; exact HR.out.ok, key := hxok.2.1, at_le := hxok.2.2,
              below := below_next (below_alloc0 wr _) (below_alloc0 _ _), step := (Row.new wr 44 (KSt.cells x)).alloc _, seen := by have := Row.new (wr.alloc (.cells (KSt.cells x).toArray 44)) 49 [.bool true, .int .i64 (-1), .int .i64 (-1), .int .i64 0, .slice none 0 0, .slice none 0 0]; simpa using this }
          have HST := hidden hST
          have HSS := hidden hs
          have hout := HR.out.out
          have HOU := hidden hout
          have HK4 := hidden hxok.1
          have hmc := (HM2.out.below HBr.out).row.cell 0
          simp at hmc
          have HV := hidden (fun i hi => (hSv.kl.lt i hi).1 : ∀ i, v.ownBlock = some i → w2.heap.size ≤ i)
          have HVO := hidden hout.own_ge
          clear hSv hST hs hout hxok
          go_upto_region 17 with (fail)
          refine wpAbs (fun W => Hid (Stand wa wr W w.heap.size gs mb w2.heap.size j bK oK cc0 bk (idsOf ds) s v x)) HST ?_
          rintro W3 HS3
          have d1 := HS3.out.step.cell 1
          have hm3 := cell_next HS3.out.all HS3.out.made
          have hkey := HS3.out.key
          simp [KSt.cells] at d1
          clear c0 c1 c2 c3 c4 hmc
          go_cut [16] (fun s16 wy => s16 = .bool true ∧ wy = W3)
          case first =>
            go_wp2
            go_meet
            case rel => exact ⟨rfl, rfl⟩
          case rest =>
            obtain ⟨rfl, rfl⟩ := hcut
            refine ‹∀ (a : Act) (w : World), Code.wp Tryd.prog (Code.seq (Code.block 4 _) _) _ a w → _› _ _ ?_
            refine round_wp wa wr _ w.heap.size gs mb w2.heap.size j bK oK cc0 bk (idsOf ds) s v x HS3.out HK4.out (fun h1 => by rw [← HSS.out]; exact HXR.out h1 _) _ _ (by rfl) (runK j (idsOf ds) [] (L.take p)) HOU.out (by rw [runK_len, List.length_take]; omega) _ _ _ _ _ _ _ _ _ _ _ _ _ _ _ _ _ _ _ _ _ _ _ _ _ _ _ _ _ _ _ _ _ _ _ _ _ _ _ _ _ _ _ _ _ _ _ _ _ _ _ _ _ _ _ _ _ _ _ _ _ _ _ _ _ _ _ _ _ _ _ _ _ _ _ _ _ _ _ _ _ _ _ _ _ _ _ _ _ _ _ _ _ _ _ _ _ _ _ _ _ _ _ _ _ _ _ _ _ _ _ _ _ _ _ _ _ _ _ _ _ _ _ _ _ _ _ _ _ _ _ _ _ _ _ _ _ _ _ _ _ _ _ _ _ _ _ _ _ _ _ _ _ _ _ _ _ _ _ _ _ _ _ _ _ _ _ _ _ _ _ _ _ _ _ _ _ _ _ _ _ _ _ _ _ _ _ _ _ _ _ _ _ _ _ _ _ _ _ _ _ _ _ _ _ _ _ _ _ _ _ _ _ _ _ _ _ _ _ _ _ _ _ _ _ _ _ _ _ _ _ _ _ _ _ _ _ _ _ _ _ _ _ _ _ ?_
            intro wz n12 n17 n18 n19 n20 n21 n22 n23 n24 n25 n78 n79 n80 n81 n82 n83 n84 n85 n86 n87 n88 n89 n90 n91 n92 n93 n94 n95 n96 n97 n98 n99 n100 n101 n102 n103 n104 n105 n106 n107 n108 n109 n110 n111 n112 n113 n114 n115 n116 n117 n118 n119 n120 n121 n122 n123 n124 n125 n126 n127 n128 n129 n130 n131 n132 n133 n134 n135 n136 n137 n138 n139 n140 n141 n142 n143 n144 n145 n146 n147 n148 n149 n150 n151 n152 n153 n154 n155 n156 n157 n158 n159 n160 n161 n162 n163 n164 n165 n166 n167 n168 n169 n170 n171 n172 n173 n174 n175 n176 n177 n178 n179 n180 n181 n182 n183 n184 n185 n186 n187 n188 n189 n190 n191 n192 n193 n194 n195 n196 n197 n198 n199 n200 n201 n202 n203 n204 n205 n206 n207 n208 n209 n210 n211 n212 n213 n214 n215 n216 n217 n218 n219 n220 n221 n222 n223 n224 n225 n226 n227 n228 n229 n230 n231 n232 n233 n234 n235 n236 n237 n238 n239 n240 n241 n242 n243 n244 n245 n246 n247 n248 hT
            have HT := hidden hT
            clear hT
            set_option simprocs false in dsimp only [Exit.inBlock, Exit.then]
            refine ‹∀ (a : Act) (w : World), Code.wp Tryd.prog (Code.region 54 _ _) _ a w → _› _ _ ?_
            clear d1 hm3 hkey
            go_wp2
            go_roundw
            case rel => exact ⟨p + 1, by omega, by go_num, rfl, hidden (by rw [HNX.out]; exact HR.out.next HSS.out HT.out HV.out HVO.out)⟩
            case measure => simp [intOf]; omega
        · obtain rfl : p = q := by omega
          have hfin := HR.out.out
          rw [List.take_of_length_le (by omega)] at hfin
          have HF := hidden (hfin.weaken (Nat.le_trans HB.out.size HB2.out.size))
          clear hfin
          go_wp2
          go_ret
          exact ⟨_, rfl, HF.out, HB.out.trans (HBr.out.mono HB.out.size)⟩
end Go.Proofs.YthgklpkkcaiehaaDoor
