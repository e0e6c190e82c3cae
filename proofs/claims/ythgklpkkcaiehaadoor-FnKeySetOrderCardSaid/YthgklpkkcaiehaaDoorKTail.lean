/- What follows the switch of KeyRun. -/
import Derived.Test.YthgklpkkcaiehaaDoorKTailP
import Derived.StillTailTactics
import Derived.Deep.DeepCutAuto
namespace Go.Proofs.YthgklpkkcaiehaaDoor
open Go.RowKit
set_option linter.unusedVariables false
set_option linter.unusedSimpArgs false

theorem opRun_appT {P : Program} {ρ : Operand → Value} {x y : Operand} {t ty : TypeId} {w w1 : World} {a b v : Value} (hx : ρ x = a) (hy : ρ y = b) (h : (Builtin.append_ #[t, t] ty #[a, b]).run P w = .ok v w1) :
    opRun P ρ (.call { callee := .builtin .append, args := #[x, y], argTypes := #[t, t] }) ty w = .ok (.value v) w1 := by
  unfold opRun execOp
  simp only [resolve, invoke, builtin, Sem.run_bind, Sem.run_pure, Result.andThen_ok, List.map_toArray, List.map_cons, List.map_nil, hx, hy, h]
theorem opRun_clos {P : Program} {ρ : Operand → Value} {x : Operand} {f : FuncId} {xs : Array Operand} {ats : Array TypeId} {bs ys : Array Value} {ty : TypeId} {w : World} (hx : ρ x = .func (.func f) #[] bs) (hy : xs.map ρ ++ bs = ys) (hc : (callFunc f ys).run P w = .ok (.enter f ys) w) :
    opRun P ρ (.call { callee := .value x, args := xs, argTypes := ats }) ty w = .ok (.enter f ys) w := by
  unfold opRun execOp resolve
  simp only [hx, Deferred.ofValue, invoke, Sem.run_bind, Sem.run_pure, Result.andThen_ok, Array.append_empty, Array.empty_append, hy]
  exact hc
/-- The world of the statement that puts a place behind the list: nothing yet, the block of one laid, the list grown, the field written. -/
def gt (W0 W1 W2 W3 : World) (b : Nat → Bool) : World := if b 8 = true then W3 else if b 6 = true then W2 else if b 5 = true then W1 else W0
theorem gt_up (W0 W1 W2 W3 : World) (b : Nat → Bool) (i : Nat) (h5 : i ≠ 5) (h6 : i ≠ 6) (h8 : i ≠ 8) : gt W0 W1 W2 W3 (up b i) = gt W0 W1 W2 W3 b := by
  unfold gt; rw [up_ne (Ne.symm h5), up_ne (Ne.symm h6), up_ne (Ne.symm h8)]
set_option maxRecDepth 100000 in
set_option maxHeartbeats 8000000 in
theorem tail_wp (wa wb W : World) (mc gs mb base m bK oK cc : Nat) (bk : Nat → Nat) (ids : Nat → Option ByteArray) (s : List Nat) (v : Value) (x : KSt) (H : Stand wa wb W mc gs mb base m bK oK cc bk ids s v x) (wy : World) (r : Seen) (xs : List Seen) (vo : Value) (hM : MidL wb wy gs mb base v (keysV bk r.all) (seenL r)) (hr : SetOk m r.all) (hX : SeenAt wb base vo xs) (hxl : xs.length ≤ 1000) (sl0 sl1 sl2 sl3 sl4 sl6 sl7 sl8 sl9 sl13 sl16 sl17 sl18 sl19 sl20 sl21 sl22 sl23 sl24 sl25 sl26 sl27 sl28 sl29 sl30 sl31 sl32 sl33 sl34 sl35 sl36 sl37 sl38 sl39 sl40 sl41 sl42 sl43 sl44 sl45 sl46 sl47 sl48 sl49 sl50 sl51 sl52 sl53 sl54 sl55 sl56 sl57 sl58 sl59 sl60 sl61 sl62 sl63 sl64 sl65 sl66 sl67 sl68 sl69 sl70 sl71 sl72 sl73 sl74 sl75 sl76 sl77 sl78 sl79 sl80 sl81 sl82 sl83 sl84 sl85 sl86 sl87 sl88 sl89 sl90 sl91 sl92 sl93 sl94 sl95 sl96 sl97 sl98 sl99 sl100 sl101 sl102 sl103 sl104 sl105 sl106 sl107 sl108 sl109 sl110 sl111 sl112 sl113 sl114 sl115 sl116 sl117 sl118 sl119 sl120 sl121 sl122 sl123 sl124 sl125 sl126 sl127 sl128 sl129 sl130 sl131 sl132 sl133 sl134 sl135 sl136 sl137 sl138 sl139 sl140 sl141 sl142 sl143 sl144 sl145 sl146 sl147 sl148 sl149 sl150 sl151 sl152 sl153 sl154 sl155 sl156 sl157 sl158 sl159 sl160 sl161 sl162 sl163 sl164 sl165 sl166 sl167 sl168 sl169 sl170 sl171 sl172 sl173 sl174 sl175 sl176 sl177 sl178 sl179 sl180 sl181 sl182 sl183 sl184 sl185 sl186 sl187 sl188 sl189 sl190 sl191 sl192 sl193 sl194 sl195 sl196 sl197 sl198 sl199 sl200 sl201 sl202 sl203 sl204 sl205 sl206 sl207 sl208 sl209 sl210 sl211 sl212 sl213 sl214 sl215 sl216 sl217 sl218 sl219 sl220 sl221 sl222 sl223 sl224 sl225 sl226 sl227 sl228 sl229 sl230 sl231 sl232 sl233 sl234 sl235 sl236 sl237 sl238 sl239 sl240 sl241 sl242 sl243 sl244 sl245 sl246 sl247 sl248 sl249 sl250 : Value) (Q : Exit → Act → World → Prop)
    (hQ : ∀ (wz : World) (n12 n23 n24 n25 n216 n217 n218 n219 n220 n221 n222 n223 n224 n225 n226 n227 n228 n229 n230 n231 n232 n233 n234 n235 n236 n237 n238 n239 n240 n241 n242 n243 n244 n245 n246 n247 n248 : Value), TailR wb wz gs mb base v vo n12 (keysV bk r.all) (xs ++ [r]) → Q .normal ⟨#[sl0, sl1, sl2, sl3, sl4, .pointer (some ⟨mc, 0, none⟩), sl6, sl7, sl8, sl9, .func (.func 35) #[] #[.pointer (some ⟨mc, 0, none⟩)], .iface 108 (.pointer (some ⟨gs, 0, none⟩)), n12, sl13, .pointer (some ⟨wb.heap.size, 0, none⟩), .pointer (some ⟨wb.heap.size + 1, 0, none⟩), sl16, sl17, sl18, sl19, sl20, sl21, sl22, n23, n24, n25, sl26, sl27, sl28, sl29, sl30, sl31, sl32, sl33, sl34, sl35, sl36, sl37, sl38, sl39, sl40, sl41, sl42, sl43, sl44, sl45, sl46, sl47, sl48, sl49, sl50, sl51, sl52, sl53, sl54, sl55, sl56, sl57, sl58, sl59, sl60, sl61, sl62, sl63, sl64, sl65, sl66, sl67, sl68, sl69, sl70, sl71, sl72, sl73, sl74, sl75, sl76, sl77, sl78, sl79, sl80, sl81, sl82, sl83, sl84, sl85, sl86, sl87, sl88, sl89, sl90, sl91, sl92, sl93, sl94, sl95, sl96, sl97, sl98, sl99, sl100, sl101, sl102, sl103, sl104, sl105, sl106, sl107, sl108, sl109, sl110, sl111, sl112, sl113, sl114, sl115, sl116, sl117, sl118, sl119, sl120, sl121, sl122, sl123, sl124, sl125, sl126, sl127, sl128, sl129, sl130, sl131, sl132, sl133, sl134, sl135, sl136, sl137, sl138, sl139, sl140, sl141, sl142, sl143, sl144, sl145, sl146, sl147, sl148, sl149, sl150, sl151, sl152, sl153, sl154, sl155, sl156, sl157, sl158, sl159, sl160, sl161, sl162, sl163, sl164, sl165, sl166, sl167, sl168, sl169, sl170, sl171, sl172, sl173, sl174, sl175, sl176, sl177, sl178, sl179, sl180, sl181, sl182, sl183, sl184, sl185, sl186, sl187, sl188, sl189, sl190, sl191, sl192, sl193, sl194, sl195, sl196, sl197, sl198, sl199, sl200, sl201, sl202, sl203, sl204, sl205, sl206, sl207, sl208, sl209, sl210, sl211, sl212, sl213, sl214, sl215, n216, n217, n218, n219, n220, n221, n222, n223, n224, n225, n226, n227, n228, n229, n230, n231, n232, n233, n234, n235, n236, n237, n238, n239, n240, n241, n242, n243, n244, n245, n246, n247, n248, sl249, sl250], []⟩ wz) :
    Code.wp Tryd.prog (cR (cR (cR (cR (cB (cL (cR (cR (cLp (cB (cR (cL (cR (cR (cR (cR (cR (cR (cOf Tryd.f17))))))))))))))))))) Q ⟨#[sl0, sl1, sl2, sl3, sl4, .pointer (some ⟨mc, 0, none⟩), sl6, sl7, sl8, sl9, .func (.func 35) #[] #[.pointer (some ⟨mc, 0, none⟩)], .iface 108 (.pointer (some ⟨gs, 0, none⟩)), vo, sl13, .pointer (some ⟨wb.heap.size, 0, none⟩), .pointer (some ⟨wb.heap.size + 1, 0, none⟩), sl16, sl17, sl18, sl19, sl20, sl21, sl22, sl23, sl24, sl25, sl26, sl27, sl28, sl29, sl30, sl31, sl32, sl33, sl34, sl35, sl36, sl37, sl38, sl39, sl40, sl41, sl42, sl43, sl44, sl45, sl46, sl47, sl48, sl49, sl50, sl51, sl52, sl53, sl54, sl55, sl56, sl57, sl58, sl59, sl60, sl61, sl62, sl63, sl64, sl65, sl66, sl67, sl68, sl69, sl70, sl71, sl72, sl73, sl74, sl75, sl76, sl77, sl78, sl79, sl80, sl81, sl82, sl83, sl84, sl85, sl86, sl87, sl88, sl89, sl90, sl91, sl92, sl93, sl94, sl95, sl96, sl97, sl98, sl99, sl100, sl101, sl102, sl103, sl104, sl105, sl106, sl107, sl108, sl109, sl110, sl111, sl112, sl113, sl114, sl115, sl116, sl117, sl118, sl119, sl120, sl121, sl122, sl123, sl124, sl125, sl126, sl127, sl128, sl129, sl130, sl131, sl132, sl133, sl134, sl135, sl136, sl137, sl138, sl139, sl140, sl141, sl142, sl143, sl144, sl145, sl146, sl147, sl148, sl149, sl150, sl151, sl152, sl153, sl154, sl155, sl156, sl157, sl158, sl159, sl160, sl161, sl162, sl163, sl164, sl165, sl166, sl167, sl168, sl169, sl170, sl171, sl172, sl173, sl174, sl175, sl176, sl177, sl178, sl179, sl180, sl181, sl182, sl183, sl184, sl185, sl186, sl187, sl188, sl189, sl190, sl191, sl192, sl193, sl194, sl195, sl196, sl197, sl198, sl199, sl200, sl201, sl202, sl203, sl204, sl205, sl206, sl207, sl208, sl209, sl210, sl211, sl212, sl213, sl214, sl215, sl216, sl217, sl218, sl219, sl220, sl221, sl222, sl223, sl224, sl225, sl226, sl227, sl228, sl229, sl230, sl231, sl232, sl233, sl234, sl235, sl236, sl237, sl238, sl239, sl240, sl241, sl242, sl243, sl244, sl245, sl246, sl247, sl248, sl249, sl250], []⟩ wy := by
  have HQ := hidden hQ
  have HH := hidden H
  have HX := hidden hX
  have HR := hidden hr
  have HM := hidden hM
  have hml := H.m_le
  obtain ⟨v1, hs1, _⟩ := hM.set
  have HS1 := hidden hs1
  obtain ⟨n, hn⟩ : ∃ n, r.all.length = n := ⟨_, rfl⟩
  have hnl : n ≤ 100 := by have := hr.len; omega
  have Hn := hidden hn
  clear hX hr hQ H hM hs1
  conv =>
    arg 2
    simp only [Tryd.f17, cOf, cL_seq, cR_seq, cB_block, cLp_loop, Option.getD_some]
  go_upto_region 47 with (first
    | (go_at_call 133; go_must (refine (keys_calls _ _ gs mb base v1 HS1.out).mono ?_; rintro e w1 ⟨g, rfl, hB⟩; have HB1 := hidden hB; clear hB))
    | (go_at_call 38; go_must (refine (values_calls _ g).mono ?_; rintro e w2 ⟨B, rfl, hc2, hB⟩; have HC2 := hidden hc2; have HB2 := hidden (below_next HB1.out hB); clear hB hc2))
    | (go_at_call 37; go_must (refine (sorted0_calls _ B g HC2.out).mono ?_; rintro e w3 ⟨rfl, hB⟩; have HM3 := hidden (HM.out.next (below_next HB2.out hB)); have g5 := HM3.out.seen.cell 5; have f5 := HM3.out.seen.free 5; simp [seenL] at g5; have HM4 := hidden (HM3.out.store 5 (.slice none 0 0)); have g3 := HM4.out.seen.cell 3; have f3 := HM4.out.seen.free 3; simp [seenL] at g3; clear hB))
    | (go_at_call 134; go_must (obtain ⟨v4, hs4, _⟩ := HM4.out.set; refine (len_calls bk r.all _ gs mb base v4 hs4).mono ?_; rintro e w4 ⟨rfl, rfl⟩; rw [Hn.out]; clear hs4)))
  have HM5 := hidden (HM4.out.store 3 (.int .i64 n))
  have HL : Hid (((seenL r).set 5 (.slice none 0 0)).set 3 (.int .i64 n) = [.bool r.ok, .int .i64 r.index, .int .i64 r.found, .int .i64 n, .slice none 0 0, .slice none 0 0]) := hidden rfl
  rw [HL.out] at HM5
  clear g5 f5 g3 f3
  refine wpAbs (fun W => Hid (MidL wb W gs mb base v (keysV bk r.all) [.bool r.ok, .int .i64 r.index, .int .i64 r.found, .int .i64 n, .slice none 0 0, .slice none 0 0])) HM5 ?_
  rintro W5 HM6
  go_wp2
  go_loopw [23] (fun i wi => ∃ k : Nat, k ≤ n ∧ i = .int .i64 k ∧ Hid (∃ va, MidL wb wi gs mb base v (keysV bk r.all) [.bool r.ok, .int .i64 r.index, .int .i64 r.found, .int .i64 n, va, .slice none 0 0] ∧ Own wi wb.heap.size 3 va (nums .i64 ((r.all.take k).map Nat.cast)))) (fun i _ => n - (intOf i).toNat)
  case atStart => exact ⟨0, by omega, rfl, hidden ⟨_, HM6.out, Own.nil _ _ _⟩⟩
  case round =>
    obtain ⟨k, hk, rfl, Hva⟩ := hrel
    by_cases hlt : k < n
    · obtain ⟨va, hMv, hOv⟩ := Hva.out
      obtain ⟨A0, c0, rfl, _, _, _⟩ := hOv.read
      have hlk : (nums .i64 ((r.all.take k).map Nat.cast)).length = k := by rw [nums_len, List.length_map, List.length_take]; have := Hn.out; omega
      rw [hlk] at hMv hOv
      have HMv := hidden hMv
      have HOv := hidden hOv
      obtain ⟨v5, hs5, _⟩ := hMv.set
      have HS5 := hidden hs5
      obtain ⟨kk, hkk⟩ : ∃ kk, r.all.getD k 0 = kk := ⟨_, rfl⟩
      have hkm : kk < m := by rw [← hkk]; have := Hn.out; exact HR.out.lt _ (by simp [show k < r.all.length by omega])
      have HKK := hidden hkk
      have HAll : Hid (Below wa.heap.size wa wr) := hidden (HH.out.old.trans (hMv.alt.below HH.out.old.size (fun i hi e => by rcases e with e | e; have := HH.out.gs_ge; omega; have := (HH.out.set.kl.lt i e.symm).1; have := HH.out.base_ge; omega)))
      have KL := hidden (len_calls bk r.all wr gs mb base v5 hs5)
      have KK := hidden (key_calls bk r.all wr gs mb base v5 hs5 (by have := Hn.out; omega) k (by have := Hn.out; omega) kk hkk)
      have KA := hidden (at_calls bk m kk wr.drew mc cc _ (cell_next (below_drewN0 HAll.out 1) HH.out.made) (HH.out.rd.below (below_drewN0 HAll.out 1) (Nat.le_refl _)) (by omega) HH.out.apart (HH.out.keysB (below_drewN0 HAll.out 1)) hkm)
      have g4 := hMv.seen.cell 4
      have f4 := hMv.seen.free 4
      simp at g4
      unfold keyV at KK KA
      obtain ⟨J, hJ⟩ : ∃ J, bk kk = J := ⟨_, rfl⟩
      rw [hJ] at KK KA
      rw [Hn.out] at KL
      clear hs5 hMv hOv hlk Hva hkk hJ
      go_wp2_with (first
        | (go_at_call 134; go_must (refine KL.out.mono ?_; rintro e w4 ⟨rfl, rfl⟩))
        | (go_at_call 132; go_must (refine KK.out.mono ?_; rintro e w4 ⟨rfl, rfl⟩; dsimp only)))
      have hB1 : Below wr.heap.size wr (wr.drew.alloc (.cells #[.int .i64 kk] 3)) := below_next (below_drewN0 (Below.refl _ wr) 1) (below_alloc0 _ _)
      have hO0 := HOv.out.below hB1
      have hbl : wb.heap.size ≤ wr.heap.size := HMv.out.alt.size
      obtain ⟨v1, w1, hrun, hO1, hg1, hv1⟩ := run_app (P := Tryd.prog) (t := 47) (ty := 47) Tryd.underlying47 info_int rfl (by decide) hO0 (A := some ⟨wr.heap.size, 0, none⟩) (m := 1) (c := 1) (ys := nums .i64 [(kk : Int)]) (Rd.new wr.drew 3 (nums .i64 [(kk : Int)]) wr.heap.size rfl) rfl (nums_one _ _) (by simp; omega) (by simp only [nums_len, List.length_map, List.length_take, List.length_cons, List.length_nil]; have := Hn.out; omega)
      have hlen : (nums .i64 ((r.all.take k).map Nat.cast) ++ nums .i64 [(kk : Int)]).length = k + 1 := by
        simp only [List.length_append, nums_len, List.length_map, List.length_take, List.length_cons, List.length_nil]; have := Hn.out; omega
      obtain ⟨A1, c1, hve, _, _, _⟩ := hO1.read
      rw [hlen] at hve
      subst hve
      clear hlen
      have HM1 := hidden ((HMv.out.next hB1).grown hO0 (by decide) (by decide) (by decide) hg1)
      have f4' := HM1.out.seen.free 4
      have g4' := HM1.out.seen.cell 4
      simp at g4'
      have HM2 := hidden (HM1.out.store 4 (.slice A1 (k + 1) c1))
      have HO2 := hidden ((Alt.set w1 ⟨wb.heap.size + 1, 4, none⟩ (.slice A1 (k + 1) c1)).own hO1 (fun i hi e => Own.ne_row hO1 HM1.out.seen (by decide) (by rw [hi]; exact congrArg some e)))
      clear hO1 hg1 hv1 hO0 hB1 HM1
      have hD : dOk [(0, 237), (1, 238), (2, 239), (3, 240), (4, 241), (5, 242), (6, 243), (7, 244)] 251 = true := by kernel_rfl
      refine reg_flow [(0, 237), (1, 238), (2, 239), (3, 240), (4, 241), (5, 242), (6, 243), (7, 244)] (by kernel_rfl) (by kernel_rfl) hD (by kernel_rfl) (by kernel_rfl)
        (fun q x W => match q with
          | 0 => x = .pointer (some ⟨wb.heap.size + 1, 4, none⟩)
          | 1 => x = .slice A0 k c0
          | 2 => x = .func (.func 35) #[] #[.pointer (some ⟨mc, 0, none⟩)]
          | 3 => x = .iface 106 (.pointer (some ⟨J, 0, none⟩))
          | 4 => x = .int .i64 kk
          | 5 => x = .slice (some ⟨wr.heap.size, 0, none⟩) 1 1
          | 6 => x = (.slice A1 (k + 1) c1)
          | 7 => x = .pointer (some ⟨wb.heap.size + 1, 4, none⟩)
          | _ => True)
        (fun b v W => W = gt wr.drew (wr.drew.alloc (.cells #[.int .i64 kk] 3)) w1 (w1.setCell ⟨wb.heap.size + 1, 4, none⟩ (.slice A1 (k + 1) c1)) b) (fun _ _ => True) ?_ ?_ ?_ ?_
      · intro q x wx wz _ h; exact h
      · intro v; rfl
      · intro q hq
        match q, hq with
        | 0, _ =>
          exact flow_pure hD (fun _ => trivial) (.fieldAddr 49 (.tmp 15) 4) 0 rfl fun b v W ρ h => ⟨_, by
            have e0 := h.off 15 (by kernel_rfl)
            unfold opRun
            go_simp
            , rfl, by rw [gt_up _ _ _ _ _ _ (by decide) (by decide) (by decide)]; exact h.glob⟩
        | 1, _ =>
          exact flow_pure hD (fun _ => trivial) (.load 47 (.tmp 237)) 47 rfl fun b v W ρ h => ⟨_, by
            have d0 := (h.on 0 237 (by kernel_rfl) (h.dep 0 (by kernel_rfl))).trans (h.have_ 0 (by kernel_rfl))
            have b6 : b 6 = false := h.later 6 (by kernel_rfl)
            have b8 : b 8 = false := h.later 8 (by kernel_rfl)
            have c9 : W.cell? ⟨wb.heap.size + 1, 4, none⟩ = some (.slice A0 k c0) := by
              rw [h.glob, gt, b6, b8]
              cases b 5
              · exact g4
              · exact cell_next (below_alloc0 wr.drew _) g4
            unfold opRun
            go_simp
            , rfl, by rw [gt_up _ _ _ _ _ _ (by decide) (by decide) (by decide)]; exact h.glob⟩
        | 2, _ =>
          exact flow_pure hD (fun _ => trivial) (.move (.tmp 10)) 82 rfl fun b v W ρ h => ⟨_, by
            have e0 := h.off 10 (by kernel_rfl)
            unfold opRun
            go_simp
            , rfl, by rw [gt_up _ _ _ _ _ _ (by decide) (by decide) (by decide)]; exact h.glob⟩
        | 3, _ =>
          exact flow_pure hD (fun _ => trivial) (.move (.tmp 24)) 81 rfl fun b v W ρ h => ⟨_, by
            have e0 := h.off 24 (by kernel_rfl)
            unfold opRun
            go_simp
            , rfl, by rw [gt_up _ _ _ _ _ _ (by decide) (by decide) (by decide)]; exact h.glob⟩
        | 4, _ =>
          exact flow_call hD (.call { callee := .value (.tmp 239), args := #[.tmp 240], argTypes := #[81] }) 3 rfl 35 fun b v W ρ h => by
            have d0 := (h.on 2 239 (by kernel_rfl) (h.dep 2 (by kernel_rfl))).trans (h.have_ 2 (by kernel_rfl))
            have d1 := (h.on 3 240 (by kernel_rfl) (h.dep 3 (by kernel_rfl))).trans (h.have_ 3 (by kernel_rfl))
            have b5 : b 5 = false := h.later 5 (by kernel_rfl)
            have b6 : b 6 = false := h.later 6 (by kernel_rfl)
            have b8 : b 8 = false := h.later 8 (by kernel_rfl)
            have hw : W = wr.drew := by rw [h.glob, gt, b5, b6, b8]; rfl
            refine ⟨#[.iface 106 (.pointer (some ⟨J, 0, none⟩)), .pointer (some ⟨mc, 0, none⟩)], ?_, ?_⟩
            · exact opRun_clos (ρ := ρ) d0 (by simp only [List.map_toArray, List.map_cons, List.map_nil, d1]; rfl) (Tryd.call35 _ _)
            · rw [hw]
              refine KA.out.mono ?_
              rintro e w2 ⟨rfl, rfl⟩
              exact ⟨_, rfl, rfl, trivial, by rw [gt_up _ _ _ _ _ _ (by decide) (by decide) (by decide), gt, b5, b6, b8]; rfl⟩
        | 5, _ =>
          exact flow_val hD (.buildSlice 47 1 #[(0, .tmp 241)]) 47 rfl fun b v W ρ h => by
            have d0 := (h.on 4 241 (by kernel_rfl) (h.dep 4 (by kernel_rfl))).trans (h.have_ 4 (by kernel_rfl))
            have b5 := h.self
            have b6 : b 6 = false := h.later 6 (by kernel_rfl)
            have b8 : b 8 = false := h.later 8 (by kernel_rfl)
            have hw : W = wr.drew := by rw [h.glob, gt, b5, b6, b8]; rfl
            refine ⟨_, wr.drew.alloc (.cells #[.int .i64 kk] 3), ?_, rfl, trivial, ?_⟩
            · rw [hw]
              unfold opRun
              go_simp
            · unfold gt; rw [up_ne (by decide), b8, up_ne (by decide), b6, up_self]; rfl
        | 6, _ =>
          exact flow_val hD (.call { callee := .builtin .append, args := #[.tmp 238, .tmp 242], argTypes := #[47, 47] }) 47 rfl fun b v W ρ h => by
            have d0 := (h.on 1 238 (by kernel_rfl) (h.dep 1 (by kernel_rfl))).trans (h.have_ 1 (by kernel_rfl))
            have d1 := (h.on 5 242 (by kernel_rfl) (h.dep 5 (by kernel_rfl))).trans (h.have_ 5 (by kernel_rfl))
            have b6 := h.self
            have b5 : b 5 = true := h.dep 5 (by kernel_rfl)
            have b8 : b 8 = false := h.later 8 (by kernel_rfl)
            have hw : W = wr.drew.alloc (.cells #[.int .i64 kk] 3) := by rw [h.glob, gt, b5, b6, b8]; rfl
            refine ⟨_, w1, ?_, rfl, trivial, ?_⟩
            · rw [hw]; exact opRun_appT d0 d1 hrun
            · unfold gt; rw [up_ne (by decide), b8, up_self]; rfl
        | 7, _ =>
          exact flow_pure hD (fun _ => trivial) (.fieldAddr 49 (.tmp 15) 4) 0 rfl fun b v W ρ h => ⟨_, by
            have e0 := h.off 15 (by kernel_rfl)
            unfold opRun
            go_simp
            , rfl, by rw [gt_up _ _ _ _ _ _ (by decide) (by decide) (by decide)]; exact h.glob⟩
        | 8, _ =>
          exact flow_skip hD (.store 47 (.tmp 244) (.tmp 243)) 0 rfl fun b v W ρ h => by
            have d0 := (h.on 7 244 (by kernel_rfl) (h.dep 7 (by kernel_rfl))).trans (h.have_ 7 (by kernel_rfl))
            have d1 := (h.on 6 243 (by kernel_rfl) (h.dep 6 (by kernel_rfl))).trans (h.have_ 6 (by kernel_rfl))
            have b8 := h.self
            have b6 : b 6 = true := h.dep 6 (by kernel_rfl)
            have hw : W = w1 := by rw [h.glob, gt, b6, b8]; rfl
            have c9 : W.cell? ⟨wb.heap.size + 1, 4, none⟩ = some (.slice A0 k c0) := by rw [hw]; exact g4'
            have f9 : W.frozen? ⟨wb.heap.size + 1, 4, none⟩ = false := by rw [hw]; exact f4'
            refine ⟨W.setCell ⟨wb.heap.size + 1, 4, none⟩ (.slice A1 (k + 1) c1), ?_, trivial, trivial, ?_⟩
            · unfold opRun; go_simp
            · unfold gt; rw [up_self, hw]; rfl
        | q + 9, hq => exact absurd hq (by simp)
      · intro b v W hall hF hG
        have hw : W = w1.setCell ⟨wb.heap.size + 1, 4, none⟩ (.slice A1 (k + 1) c1) := by rw [hG, gt, hall 8 (by decide)]; rfl
        subst hw
        have e0 : v 0 = _ := hF 0 (by decide)
        have e1 : v 1 = _ := hF 1 (by decide)
        have e2 : v 2 = _ := hF 2 (by decide)
        have e3 : v 3 = _ := hF 3 (by decide)
        have e4 : v 4 = _ := hF 4 (by decide)
        have e5 : v 5 = _ := hF 5 (by decide)
        have e6 : v 6 = _ := hF 6 (by decide)
        have e7 : v 7 = _ := hF 7 (by decide)
        simp only [fr, if_true, e0, e1, e2, e3, e4, e5, e6, e7, Act.put, List.setIfInBounds_toArray, List.set_cons_zero, List.set_cons_succ]
        clear hF hG hall e0 e1 e2 e3 e4 e5 e6 e7 hrun hD g4 f4 g4' f4' KL KK KA
        go_wp2
        go_roundw
        case rel => exact ⟨k + 1, by omega, by go_num, hidden ⟨_, HM2.out, by
          have e : nums .i64 ((r.all.take (k + 1)).map Nat.cast) = nums .i64 ((r.all.take k).map Nat.cast) ++ nums .i64 [(kk : Int)] := by
            have hl : k < r.all.length := by have := Hn.out; omega
            have h2 := HKK.out
            rw [List.getD_eq_getElem?_getD, List.getElem?_eq_getElem hl, Option.getD_some] at h2
            rw [List.take_succ_eq_append_getElem hl, h2, List.map_append, nums_app]; rfl
          rw [e]; exact HO2.out⟩⟩
        case measure => simp [intOf]; omega
    · obtain rfl : k = n := by omega
      obtain ⟨va, hMv, hOv⟩ := Hva.out
      obtain ⟨v5, hs5, _⟩ := hMv.set
      have KL := hidden (len_calls bk r.all wr gs mb base v5 hs5)
      rw [Hn.out] at KL
      rw [List.take_of_length_le (Nat.le_of_eq Hn.out)] at hOv
      obtain ⟨i0, hi0, hzz⟩ := Option.map_eq_some_iff.1 info_seen
      simp only [Prod.mk.injEq] at hzz
      have HI := hidden hzz
      clear hzz
      have hbl : base ≤ wr.heap.size := Nat.le_trans HH.out.base_le hMv.alt.size
      have HV1 : Hid (va.oneCell' = true) := hidden (by obtain ⟨A2, c2, rfl, _⟩ := hOv.read; rfl)
      have HQ5 : Hid (seenC (r, va) = [.bool r.ok, .int .i64 r.index, .int .i64 r.found, .int .i64 k, va, .slice none 0 0]) := hidden (by rw [seenC, Hn.out])
      have HR3 : Hid (Row wr (wb.heap.size + 1) 49 (seenC (r, va))) := hidden (by rw [seenC, Hn.out]; exact hMv.seen)
      have HTE := hidden (tail_end (r := r) (va := va) HX.out HH.out.set (by rw [seenC, Hn.out]; exact hMv) hOv HH.out.base_le)
      clear hs5 hMv hOv Hva
      go_wp2_with (first
        | (go_at_call 134; go_must (refine KL.out.mono ?_; rintro e w4 ⟨rfl, rfl⟩))
        | ((with_reducible refine at_dst 246 ?_); go_must (refine walk_load_row (vs := seenC (r, va)) rfl _ _ rfl HR3.out rfl Tryd.underlying49 rfl (by kernel_rfl) ?_; unfold seenC; simp only []))
        | ((with_reducible refine at_dst 248 ?_); go_must (obtain ⟨av, hal, how, hTE⟩ := HTE.out; have h1c := seenC_one r va HV1.out; rw [HQ5.out] at how hTE h1c; refine wpList_append_own_at _ rfl (.tmp 245) (.tmp 247) 45 rfl base 49 i0 _ 6 80 Tryd.underlying45 hi0 HI.out.1 HI.out.2.1 HI.out.2.2 rfl (by decide) vo xs.length _ rfl how ⟨wr.heap.size, 0, none⟩ 1 1 [.bool r.ok, .int .i64 r.index, .int .i64 r.found, .int .i64 k, va, .slice none 0 0] rfl rfl (row_at (Row.new wr _ _)) h1c (by unfold maxLen; omega) (by omega) (by simp; omega) ?_; rintro vo1 w5 ho5 hg5 _ _; have HE := hidden (hTE vo1 w5 ho5 hg5); clear hTE how hal ho5 hg5)))
      exact HQ.out _ _ _ _ _ _ _ _ _ _ _ _ _ _ _ _ _ _ _ _ _ _ _ _ _ _ _ _ _ _ _ _ _ _ _ _ _ _ HE.out
end Go.Proofs.YthgklpkkcaiehaaDoor
