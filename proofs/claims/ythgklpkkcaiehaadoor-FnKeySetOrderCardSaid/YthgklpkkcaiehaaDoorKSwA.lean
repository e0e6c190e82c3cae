/- The switch of KeyRun: AddKey and RemoveKey. -/
import Derived.Test.YthgklpkkcaiehaaDoorKRunA
import Derived.StillTailTactics
import Derived.Deep.DeepCutAuto
namespace Go.Proofs.YthgklpkkcaiehaaDoor
open Go.RowKit
set_option linter.unusedVariables false
set_option linter.unusedSimpArgs false

set_option maxRecDepth 100000 in
set_option maxHeartbeats 4000000 in
theorem sw_add (wa wr W : World) (mc gs mb base m bK oK cc : Nat) (bk : Nat → Nat) (ids : Nat → Option ByteArray) (s : List Nat) (v : Value) (x : KSt) (H : Stand wa wr W mc gs mb base m bK oK cc bk ids s v x) (hk : x.kind = 0) (hin : x.key ∉ s) (sl0 sl1 sl2 sl3 sl4 sl6 sl7 sl8 sl9 sl12 sl13 sl17 sl18 sl19 sl20 sl21 sl22 sl23 sl24 sl25 sl26 sl27 sl28 sl29 sl30 sl31 sl32 sl33 sl34 sl35 sl36 sl37 sl38 sl39 sl40 sl41 sl42 sl43 sl44 sl45 sl46 sl47 sl48 sl49 sl50 sl51 sl52 sl53 sl54 sl55 sl56 sl57 sl58 sl59 sl60 sl61 sl62 sl63 sl64 sl65 sl66 sl67 sl68 sl69 sl70 sl71 sl72 sl73 sl74 sl75 sl76 sl77 sl78 sl79 sl80 sl81 sl82 sl83 sl84 sl85 sl86 sl87 sl88 sl89 sl90 sl91 sl92 sl93 sl94 sl95 sl96 sl97 sl98 sl99 sl100 sl101 sl102 sl103 sl104 sl105 sl106 sl107 sl108 sl109 sl110 sl111 sl112 sl113 sl114 sl115 sl116 sl117 sl118 sl119 sl120 sl121 sl122 sl123 sl124 sl125 sl126 sl127 sl128 sl129 sl130 sl131 sl132 sl133 sl134 sl135 sl136 sl137 sl138 sl139 sl140 sl141 sl142 sl143 sl144 sl145 sl146 sl147 sl148 sl149 sl150 sl151 sl152 sl153 sl154 sl155 sl156 sl157 sl158 sl159 sl160 sl161 sl162 sl163 sl164 sl165 sl166 sl167 sl168 sl169 sl170 sl171 sl172 sl173 sl174 sl175 sl176 sl177 sl178 sl179 sl180 sl181 sl182 sl183 sl184 sl185 sl186 sl187 sl188 sl189 sl190 sl191 sl192 sl193 sl194 sl195 sl196 sl197 sl198 sl199 sl200 sl201 sl202 sl203 sl204 sl205 sl206 sl207 sl208 sl209 sl210 sl211 sl212 sl213 sl214 sl215 sl216 sl217 sl218 sl219 sl220 sl221 sl222 sl223 sl224 sl225 sl226 sl227 sl228 sl229 sl230 sl231 sl232 sl233 sl234 sl235 sl236 sl237 sl238 sl239 sl240 sl241 sl242 sl243 sl244 sl245 sl246 sl247 sl248 sl249 sl250 : Value) (Q : Exit → Act → World → Prop)
    (hQ : ∀ (wy : World) (n17 n18 n19 n20 n21 n22 n78 n79 n80 n81 n82 n83 n84 n85 n86 n87 n88 n89 n90 n91 n92 n93 n94 n95 n96 n97 n98 n99 n100 n101 n102 n103 n104 n105 n106 n107 n108 n109 n110 n111 n112 n113 n114 n115 n116 n117 n118 n119 n120 n121 n122 n123 n124 n125 n126 n127 n128 n129 n130 n131 n132 n133 n134 n135 n136 n137 n138 n139 n140 n141 n142 n143 n144 n145 n146 n147 n148 n149 n150 n151 n152 n153 n154 n155 n156 n157 n158 n159 n160 n161 n162 n163 n164 n165 n166 n167 n168 n169 n170 n171 n172 n173 n174 n175 n176 n177 n178 n179 n180 n181 n182 n183 n184 n185 n186 n187 n188 n189 n190 n191 n192 n193 n194 n195 n196 n197 n198 n199 n200 n201 n202 n203 n204 n205 n206 n207 n208 n209 n210 n211 n212 n213 n214 n215 : Value), MidL wr wy gs mb base v (keysV bk (stepK m ids s x).all) (seenL (stepK m ids s x)) → Q .normal ⟨#[sl0, sl1, sl2, sl3, sl4, .pointer (some ⟨mc, 0, none⟩), sl6, sl7, sl8, sl9, .func (.func 35) #[] #[.pointer (some ⟨mc, 0, none⟩)], .iface 108 (.pointer (some ⟨gs, 0, none⟩)), sl12, sl13, .pointer (some ⟨wr.heap.size, 0, none⟩), .pointer (some ⟨wr.heap.size + 1, 0, none⟩), .bool true, n17, n18, n19, n20, n21, n22, sl23, sl24, sl25, sl26, sl27, sl28, sl29, sl30, sl31, sl32, sl33, sl34, sl35, sl36, sl37, sl38, sl39, sl40, sl41, sl42, sl43, sl44, sl45, sl46, sl47, sl48, sl49, sl50, sl51, sl52, sl53, sl54, sl55, sl56, sl57, sl58, sl59, sl60, sl61, sl62, sl63, sl64, sl65, sl66, sl67, sl68, sl69, sl70, sl71, sl72, sl73, sl74, sl75, sl76, sl77, n78, n79, n80, n81, n82, n83, n84, n85, n86, n87, n88, n89, n90, n91, n92, n93, n94, n95, n96, n97, n98, n99, n100, n101, n102, n103, n104, n105, n106, n107, n108, n109, n110, n111, n112, n113, n114, n115, n116, n117, n118, n119, n120, n121, n122, n123, n124, n125, n126, n127, n128, n129, n130, n131, n132, n133, n134, n135, n136, n137, n138, n139, n140, n141, n142, n143, n144, n145, n146, n147, n148, n149, n150, n151, n152, n153, n154, n155, n156, n157, n158, n159, n160, n161, n162, n163, n164, n165, n166, n167, n168, n169, n170, n171, n172, n173, n174, n175, n176, n177, n178, n179, n180, n181, n182, n183, n184, n185, n186, n187, n188, n189, n190, n191, n192, n193, n194, n195, n196, n197, n198, n199, n200, n201, n202, n203, n204, n205, n206, n207, n208, n209, n210, n211, n212, n213, n214, n215, sl216, sl217, sl218, sl219, sl220, sl221, sl222, sl223, sl224, sl225, sl226, sl227, sl228, sl229, sl230, sl231, sl232, sl233, sl234, sl235, sl236, sl237, sl238, sl239, sl240, sl241, sl242, sl243, sl244, sl245, sl246, sl247, sl248, sl249, sl250], []⟩ wy) :
    Code.wp Tryd.prog (cL (cR (cR (cR (cB (cL (cR (cR (cLp (cB (cR (cL (cR (cR (cR (cR (cR (cR (cOf Tryd.f17))))))))))))))))))) Q ⟨#[sl0, sl1, sl2, sl3, sl4, .pointer (some ⟨mc, 0, none⟩), sl6, sl7, sl8, sl9, .func (.func 35) #[] #[.pointer (some ⟨mc, 0, none⟩)], .iface 108 (.pointer (some ⟨gs, 0, none⟩)), sl12, sl13, .pointer (some ⟨wr.heap.size, 0, none⟩), .pointer (some ⟨wr.heap.size + 1, 0, none⟩), .bool true, sl17, sl18, sl19, sl20, sl21, sl22, sl23, sl24, sl25, sl26, sl27, sl28, sl29, sl30, sl31, sl32, sl33, sl34, sl35, sl36, sl37, sl38, sl39, sl40, sl41, sl42, sl43, sl44, sl45, sl46, sl47, sl48, sl49, sl50, sl51, sl52, sl53, sl54, sl55, sl56, sl57, sl58, sl59, sl60, sl61, sl62, sl63, sl64, sl65, sl66, sl67, sl68, sl69, sl70, sl71, sl72, sl73, sl74, sl75, sl76, sl77, sl78, sl79, sl80, sl81, sl82, sl83, sl84, sl85, sl86, sl87, sl88, sl89, sl90, sl91, sl92, sl93, sl94, sl95, sl96, sl97, sl98, sl99, sl100, sl101, sl102, sl103, sl104, sl105, sl106, sl107, sl108, sl109, sl110, sl111, sl112, sl113, sl114, sl115, sl116, sl117, sl118, sl119, sl120, sl121, sl122, sl123, sl124, sl125, sl126, sl127, sl128, sl129, sl130, sl131, sl132, sl133, sl134, sl135, sl136, sl137, sl138, sl139, sl140, sl141, sl142, sl143, sl144, sl145, sl146, sl147, sl148, sl149, sl150, sl151, sl152, sl153, sl154, sl155, sl156, sl157, sl158, sl159, sl160, sl161, sl162, sl163, sl164, sl165, sl166, sl167, sl168, sl169, sl170, sl171, sl172, sl173, sl174, sl175, sl176, sl177, sl178, sl179, sl180, sl181, sl182, sl183, sl184, sl185, sl186, sl187, sl188, sl189, sl190, sl191, sl192, sl193, sl194, sl195, sl196, sl197, sl198, sl199, sl200, sl201, sl202, sl203, sl204, sl205, sl206, sl207, sl208, sl209, sl210, sl211, sl212, sl213, sl214, sl215, sl216, sl217, sl218, sl219, sl220, sl221, sl222, sl223, sl224, sl225, sl226, sl227, sl228, sl229, sl230, sl231, sl232, sl233, sl234, sl235, sl236, sl237, sl238, sl239, sl240, sl241, sl242, sl243, sl244, sl245, sl246, sl247, sl248, sl249, sl250], []⟩ W := by
  have hst : stepK m ids s x = ⟨true, -1, -1, s ++ [x.key]⟩ := by
    unfold stepK
    rw [if_pos ⟨hk, H.key⟩, if_neg hin]
  have HST := hidden hst
  clear hst
  have HQ := hidden hQ
  have HH := hidden H
  have hm3 := cell_next H.all H.made
  have ck3 := H.cell
  have hkm := H.key
  have hml := H.m_le
  have hal := H.at_le
  have hsl := H.len
  have d0 := H.step.cell 0
  have d1 := H.step.cell 1
  have d2 := H.step.cell 2
  have d3 := H.step.cell 3
  have g0 := H.seen.cell 0
  have g1 := H.seen.free 0
  have g3 := H.seen.cell 2
  have g4 := H.seen.free 2
  have g5 := H.seen.cell 1
  have g6 := H.seen.free 1
  unfold keyV at ck3
  obtain ⟨J, hJ⟩ : ∃ J, bk x.key = J := ⟨_, rfl⟩
  rw [hJ] at ck3
  simp [KSt.cells] at d0 d1 d2 d3 g0 g3 g5
  clear H hQ
  rw [hk] at d0
  obtain ⟨ky, hky⟩ : ∃ ky, x.key = ky := ⟨_, rfl⟩
  rw [hky] at d1 ck3 hkm hJ
  conv =>
    arg 2
    simp only [Tryd.f17, cOf, cL_seq, cR_seq, cB_block, cLp_loop, Option.getD_some]
  go_upto_region 19 with (fail)
  have hna := na_add gs
  go_still_tail 9, (by kernel_rfl)
  change wpList _ _ _ _ _ W.drew
  have HC := hidden (fun (W1 : World) (h1 : Stand wa wr W1 mc gs mb base m bK oK cc bk ids s v x) => addKey_yes bk m s W1 gs mb base v h1.setAt (by omega) (Nat.le_trans h1.base_le h1.below.size) h1.apart h1.keysAt h1.ok x.key h1.key hin)
  unfold keyV at HC
  rw [hky, hJ] at HC
  refine wpAbsL (fun W1 => Hid (Stand wa wr W1 mc gs mb base m bK oK cc bk ids s v x)) (hidden (HH.out.next (below_drewN0 (Below.refl _ _) 1))) ?_
  rintro W1 HH1
  have g0 := HH1.out.seen.cell 0
  have g1 := HH1.out.seen.free 0
  have g5 := HH1.out.seen.cell 1
  have g6 := HH1.out.seen.free 1
  simp at g0 g5
  clear d0 d1 d2 d3 g3 g4 hm3 ck3 hna
  go_wp2_with (go_at_call 127; go_must (refine (HC.out _ HH1.out).mono ?_; rintro e W5 ⟨rfl, hT⟩; rw [← hky] at hT; have HM5 := hidden (HH1.out.mid hT); have g0' := HM5.out.seen.cell 0; have g1' := HM5.out.seen.free 0; simp at g0'; clear hT))
  refine HQ.out _ _ _ _ _ _ _ _ _ _ _ _ _ _ _ _ _ _ _ _ _ _ _ _ _ _ _ _ _ _ _ _ _ _ _ _ _ _ _ _ _ _ _ _ _ _ _ _ _ _ _ _ _ _ _ _ _ _ _ _ _ _ _ _ _ _ _ _ _ _ _ _ _ _ _ _ _ _ _ _ _ _ _ _ _ _ _ _ _ _ _ _ _ _ _ _ _ _ _ _ _ _ _ _ _ _ _ _ _ _ _ _ _ _ _ _ _ _ _ _ _ _ _ _ _ _ _ _ _ _ _ _ _ _ _ _ _ _ _ _ _ _ _ _ _ ?_
  rw [HST.out]
  exact HM5.out.store 0 (.bool true)
set_option maxRecDepth 100000 in
set_option maxHeartbeats 4000000 in
theorem sw_addNo (wa wr W : World) (mc gs mb base m bK oK cc : Nat) (bk : Nat → Nat) (ids : Nat → Option ByteArray) (s : List Nat) (v : Value) (x : KSt) (H : Stand wa wr W mc gs mb base m bK oK cc bk ids s v x) (hk : x.kind = 0) (hin : x.key ∈ s) (sl0 sl1 sl2 sl3 sl4 sl6 sl7 sl8 sl9 sl12 sl13 sl17 sl18 sl19 sl20 sl21 sl22 sl23 sl24 sl25 sl26 sl27 sl28 sl29 sl30 sl31 sl32 sl33 sl34 sl35 sl36 sl37 sl38 sl39 sl40 sl41 sl42 sl43 sl44 sl45 sl46 sl47 sl48 sl49 sl50 sl51 sl52 sl53 sl54 sl55 sl56 sl57 sl58 sl59 sl60 sl61 sl62 sl63 sl64 sl65 sl66 sl67 sl68 sl69 sl70 sl71 sl72 sl73 sl74 sl75 sl76 sl77 sl78 sl79 sl80 sl81 sl82 sl83 sl84 sl85 sl86 sl87 sl88 sl89 sl90 sl91 sl92 sl93 sl94 sl95 sl96 sl97 sl98 sl99 sl100 sl101 sl102 sl103 sl104 sl105 sl106 sl107 sl108 sl109 sl110 sl111 sl112 sl113 sl114 sl115 sl116 sl117 sl118 sl119 sl120 sl121 sl122 sl123 sl124 sl125 sl126 sl127 sl128 sl129 sl130 sl131 sl132 sl133 sl134 sl135 sl136 sl137 sl138 sl139 sl140 sl141 sl142 sl143 sl144 sl145 sl146 sl147 sl148 sl149 sl150 sl151 sl152 sl153 sl154 sl155 sl156 sl157 sl158 sl159 sl160 sl161 sl162 sl163 sl164 sl165 sl166 sl167 sl168 sl169 sl170 sl171 sl172 sl173 sl174 sl175 sl176 sl177 sl178 sl179 sl180 sl181 sl182 sl183 sl184 sl185 sl186 sl187 sl188 sl189 sl190 sl191 sl192 sl193 sl194 sl195 sl196 sl197 sl198 sl199 sl200 sl201 sl202 sl203 sl204 sl205 sl206 sl207 sl208 sl209 sl210 sl211 sl212 sl213 sl214 sl215 sl216 sl217 sl218 sl219 sl220 sl221 sl222 sl223 sl224 sl225 sl226 sl227 sl228 sl229 sl230 sl231 sl232 sl233 sl234 sl235 sl236 sl237 sl238 sl239 sl240 sl241 sl242 sl243 sl244 sl245 sl246 sl247 sl248 sl249 sl250 : Value) (Q : Exit → Act → World → Prop)
    (hQ : ∀ (wy : World) (n17 n18 n19 n20 n21 n22 n78 n79 n80 n81 n82 n83 n84 n85 n86 n87 n88 n89 n90 n91 n92 n93 n94 n95 n96 n97 n98 n99 n100 n101 n102 n103 n104 n105 n106 n107 n108 n109 n110 n111 n112 n113 n114 n115 n116 n117 n118 n119 n120 n121 n122 n123 n124 n125 n126 n127 n128 n129 n130 n131 n132 n133 n134 n135 n136 n137 n138 n139 n140 n141 n142 n143 n144 n145 n146 n147 n148 n149 n150 n151 n152 n153 n154 n155 n156 n157 n158 n159 n160 n161 n162 n163 n164 n165 n166 n167 n168 n169 n170 n171 n172 n173 n174 n175 n176 n177 n178 n179 n180 n181 n182 n183 n184 n185 n186 n187 n188 n189 n190 n191 n192 n193 n194 n195 n196 n197 n198 n199 n200 n201 n202 n203 n204 n205 n206 n207 n208 n209 n210 n211 n212 n213 n214 n215 : Value), MidL wr wy gs mb base v (keysV bk (stepK m ids s x).all) (seenL (stepK m ids s x)) → Q .normal ⟨#[sl0, sl1, sl2, sl3, sl4, .pointer (some ⟨mc, 0, none⟩), sl6, sl7, sl8, sl9, .func (.func 35) #[] #[.pointer (some ⟨mc, 0, none⟩)], .iface 108 (.pointer (some ⟨gs, 0, none⟩)), sl12, sl13, .pointer (some ⟨wr.heap.size, 0, none⟩), .pointer (some ⟨wr.heap.size + 1, 0, none⟩), .bool true, n17, n18, n19, n20, n21, n22, sl23, sl24, sl25, sl26, sl27, sl28, sl29, sl30, sl31, sl32, sl33, sl34, sl35, sl36, sl37, sl38, sl39, sl40, sl41, sl42, sl43, sl44, sl45, sl46, sl47, sl48, sl49, sl50, sl51, sl52, sl53, sl54, sl55, sl56, sl57, sl58, sl59, sl60, sl61, sl62, sl63, sl64, sl65, sl66, sl67, sl68, sl69, sl70, sl71, sl72, sl73, sl74, sl75, sl76, sl77, n78, n79, n80, n81, n82, n83, n84, n85, n86, n87, n88, n89, n90, n91, n92, n93, n94, n95, n96, n97, n98, n99, n100, n101, n102, n103, n104, n105, n106, n107, n108, n109, n110, n111, n112, n113, n114, n115, n116, n117, n118, n119, n120, n121, n122, n123, n124, n125, n126, n127, n128, n129, n130, n131, n132, n133, n134, n135, n136, n137, n138, n139, n140, n141, n142, n143, n144, n145, n146, n147, n148, n149, n150, n151, n152, n153, n154, n155, n156, n157, n158, n159, n160, n161, n162, n163, n164, n165, n166, n167, n168, n169, n170, n171, n172, n173, n174, n175, n176, n177, n178, n179, n180, n181, n182, n183, n184, n185, n186, n187, n188, n189, n190, n191, n192, n193, n194, n195, n196, n197, n198, n199, n200, n201, n202, n203, n204, n205, n206, n207, n208, n209, n210, n211, n212, n213, n214, n215, sl216, sl217, sl218, sl219, sl220, sl221, sl222, sl223, sl224, sl225, sl226, sl227, sl228, sl229, sl230, sl231, sl232, sl233, sl234, sl235, sl236, sl237, sl238, sl239, sl240, sl241, sl242, sl243, sl244, sl245, sl246, sl247, sl248, sl249, sl250], []⟩ wy) :
    Code.wp Tryd.prog (cL (cR (cR (cR (cB (cL (cR (cR (cLp (cB (cR (cL (cR (cR (cR (cR (cR (cR (cOf Tryd.f17))))))))))))))))))) Q ⟨#[sl0, sl1, sl2, sl3, sl4, .pointer (some ⟨mc, 0, none⟩), sl6, sl7, sl8, sl9, .func (.func 35) #[] #[.pointer (some ⟨mc, 0, none⟩)], .iface 108 (.pointer (some ⟨gs, 0, none⟩)), sl12, sl13, .pointer (some ⟨wr.heap.size, 0, none⟩), .pointer (some ⟨wr.heap.size + 1, 0, none⟩), .bool true, sl17, sl18, sl19, sl20, sl21, sl22, sl23, sl24, sl25, sl26, sl27, sl28, sl29, sl30, sl31, sl32, sl33, sl34, sl35, sl36, sl37, sl38, sl39, sl40, sl41, sl42, sl43, sl44, sl45, sl46, sl47, sl48, sl49, sl50, sl51, sl52, sl53, sl54, sl55, sl56, sl57, sl58, sl59, sl60, sl61, sl62, sl63, sl64, sl65, sl66, sl67, sl68, sl69, sl70, sl71, sl72, sl73, sl74, sl75, sl76, sl77, sl78, sl79, sl80, sl81, sl82, sl83, sl84, sl85, sl86, sl87, sl88, sl89, sl90, sl91, sl92, sl93, sl94, sl95, sl96, sl97, sl98, sl99, sl100, sl101, sl102, sl103, sl104, sl105, sl106, sl107, sl108, sl109, sl110, sl111, sl112, sl113, sl114, sl115, sl116, sl117, sl118, sl119, sl120, sl121, sl122, sl123, sl124, sl125, sl126, sl127, sl128, sl129, sl130, sl131, sl132, sl133, sl134, sl135, sl136, sl137, sl138, sl139, sl140, sl141, sl142, sl143, sl144, sl145, sl146, sl147, sl148, sl149, sl150, sl151, sl152, sl153, sl154, sl155, sl156, sl157, sl158, sl159, sl160, sl161, sl162, sl163, sl164, sl165, sl166, sl167, sl168, sl169, sl170, sl171, sl172, sl173, sl174, sl175, sl176, sl177, sl178, sl179, sl180, sl181, sl182, sl183, sl184, sl185, sl186, sl187, sl188, sl189, sl190, sl191, sl192, sl193, sl194, sl195, sl196, sl197, sl198, sl199, sl200, sl201, sl202, sl203, sl204, sl205, sl206, sl207, sl208, sl209, sl210, sl211, sl212, sl213, sl214, sl215, sl216, sl217, sl218, sl219, sl220, sl221, sl222, sl223, sl224, sl225, sl226, sl227, sl228, sl229, sl230, sl231, sl232, sl233, sl234, sl235, sl236, sl237, sl238, sl239, sl240, sl241, sl242, sl243, sl244, sl245, sl246, sl247, sl248, sl249, sl250], []⟩ W := by
  have hst : stepK m ids s x = ⟨false, -1, -1, s⟩ := by
    unfold stepK
    rw [if_pos ⟨hk, H.key⟩, if_pos hin]
  have HST := hidden hst
  clear hst
  have HQ := hidden hQ
  have HH := hidden H
  have hm3 := cell_next H.all H.made
  have ck3 := H.cell
  have hkm := H.key
  have hml := H.m_le
  have hal := H.at_le
  have hsl := H.len
  have d0 := H.step.cell 0
  have d1 := H.step.cell 1
  have d2 := H.step.cell 2
  have d3 := H.step.cell 3
  have g0 := H.seen.cell 0
  have g1 := H.seen.free 0
  have g3 := H.seen.cell 2
  have g4 := H.seen.free 2
  have g5 := H.seen.cell 1
  have g6 := H.seen.free 1
  unfold keyV at ck3
  obtain ⟨J, hJ⟩ : ∃ J, bk x.key = J := ⟨_, rfl⟩
  rw [hJ] at ck3
  simp [KSt.cells] at d0 d1 d2 d3 g0 g3 g5
  clear H hQ
  rw [hk] at d0
  obtain ⟨ky, hky⟩ : ∃ ky, x.key = ky := ⟨_, rfl⟩
  rw [hky] at d1 ck3 hkm hJ
  conv =>
    arg 2
    simp only [Tryd.f17, cOf, cL_seq, cR_seq, cB_block, cLp_loop, Option.getD_some]
  go_upto_region 19 with (fail)
  have hna := na_add gs
  go_still_tail 9, (by kernel_rfl)
  change wpList _ _ _ _ _ W.drew
  have HC := hidden (fun (W1 : World) (h1 : Stand wa wr W1 mc gs mb base m bK oK cc bk ids s v x) => addKey_no bk m s W1 gs mb base v h1.setAt (by omega) h1.apart h1.keysAt h1.ok x.key h1.key hin)
  unfold keyV at HC
  rw [hky, hJ] at HC
  refine wpAbsL (fun W1 => Hid (Stand wa wr W1 mc gs mb base m bK oK cc bk ids s v x)) (hidden (HH.out.next (below_drewN0 (Below.refl _ _) 1))) ?_
  rintro W1 HH1
  have g0 := HH1.out.seen.cell 0
  have g1 := HH1.out.seen.free 0
  have g5 := HH1.out.seen.cell 1
  have g6 := HH1.out.seen.free 1
  simp at g0 g5
  clear d0 d1 d2 d3 g3 g4 hm3 ck3 hna
  go_wp2_with (go_at_call 127; go_must (refine (HC.out _ HH1.out).mono ?_; rintro e W5 ⟨rfl, hB⟩; have hT := SetTo.same HH1.out.setAt hB; have HM5 := hidden (HH1.out.mid hT); have g0' := HM5.out.seen.cell 0; have g1' := HM5.out.seen.free 0; simp at g0'; clear hT hB))
  refine HQ.out _ _ _ _ _ _ _ _ _ _ _ _ _ _ _ _ _ _ _ _ _ _ _ _ _ _ _ _ _ _ _ _ _ _ _ _ _ _ _ _ _ _ _ _ _ _ _ _ _ _ _ _ _ _ _ _ _ _ _ _ _ _ _ _ _ _ _ _ _ _ _ _ _ _ _ _ _ _ _ _ _ _ _ _ _ _ _ _ _ _ _ _ _ _ _ _ _ _ _ _ _ _ _ _ _ _ _ _ _ _ _ _ _ _ _ _ _ _ _ _ _ _ _ _ _ _ _ _ _ _ _ _ _ _ _ _ _ _ _ _ _ _ _ _ _ ?_
  rw [HST.out]
  exact HM5.out.store 0 (.bool false)
set_option maxRecDepth 100000 in
set_option maxHeartbeats 4000000 in
theorem sw_rem (wa wr W : World) (mc gs mb base m bK oK cc : Nat) (bk : Nat → Nat) (ids : Nat → Option ByteArray) (s : List Nat) (v : Value) (x : KSt) (H : Stand wa wr W mc gs mb base m bK oK cc bk ids s v x) (hk : x.kind = 1) (hin : x.key ∈ s) (sl0 sl1 sl2 sl3 sl4 sl6 sl7 sl8 sl9 sl12 sl13 sl17 sl18 sl19 sl20 sl21 sl22 sl23 sl24 sl25 sl26 sl27 sl28 sl29 sl30 sl31 sl32 sl33 sl34 sl35 sl36 sl37 sl38 sl39 sl40 sl41 sl42 sl43 sl44 sl45 sl46 sl47 sl48 sl49 sl50 sl51 sl52 sl53 sl54 sl55 sl56 sl57 sl58 sl59 sl60 sl61 sl62 sl63 sl64 sl65 sl66 sl67 sl68 sl69 sl70 sl71 sl72 sl73 sl74 sl75 sl76 sl77 sl78 sl79 sl80 sl81 sl82 sl83 sl84 sl85 sl86 sl87 sl88 sl89 sl90 sl91 sl92 sl93 sl94 sl95 sl96 sl97 sl98 sl99 sl100 sl101 sl102 sl103 sl104 sl105 sl106 sl107 sl108 sl109 sl110 sl111 sl112 sl113 sl114 sl115 sl116 sl117 sl118 sl119 sl120 sl121 sl122 sl123 sl124 sl125 sl126 sl127 sl128 sl129 sl130 sl131 sl132 sl133 sl134 sl135 sl136 sl137 sl138 sl139 sl140 sl141 sl142 sl143 sl144 sl145 sl146 sl147 sl148 sl149 sl150 sl151 sl152 sl153 sl154 sl155 sl156 sl157 sl158 sl159 sl160 sl161 sl162 sl163 sl164 sl165 sl166 sl167 sl168 sl169 sl170 sl171 sl172 sl173 sl174 sl175 sl176 sl177 sl178 sl179 sl180 sl181 sl182 sl183 sl184 sl185 sl186 sl187 sl188 sl189 sl190 sl191 sl192 sl193 sl194 sl195 sl196 sl197 sl198 sl199 sl200 sl201 sl202 sl203 sl204 sl205 sl206 sl207 sl208 sl209 sl210 sl211 sl212 sl213 sl214 sl215 sl216 sl217 sl218 sl219 sl220 sl221 sl222 sl223 sl224 sl225 sl226 sl227 sl228 sl229 sl230 sl231 sl232 sl233 sl234 sl235 sl236 sl237 sl238 sl239 sl240 sl241 sl242 sl243 sl244 sl245 sl246 sl247 sl248 sl249 sl250 : Value) (Q : Exit → Act → World → Prop)
    (hQ : ∀ (wy : World) (n17 n18 n19 n20 n21 n22 n78 n79 n80 n81 n82 n83 n84 n85 n86 n87 n88 n89 n90 n91 n92 n93 n94 n95 n96 n97 n98 n99 n100 n101 n102 n103 n104 n105 n106 n107 n108 n109 n110 n111 n112 n113 n114 n115 n116 n117 n118 n119 n120 n121 n122 n123 n124 n125 n126 n127 n128 n129 n130 n131 n132 n133 n134 n135 n136 n137 n138 n139 n140 n141 n142 n143 n144 n145 n146 n147 n148 n149 n150 n151 n152 n153 n154 n155 n156 n157 n158 n159 n160 n161 n162 n163 n164 n165 n166 n167 n168 n169 n170 n171 n172 n173 n174 n175 n176 n177 n178 n179 n180 n181 n182 n183 n184 n185 n186 n187 n188 n189 n190 n191 n192 n193 n194 n195 n196 n197 n198 n199 n200 n201 n202 n203 n204 n205 n206 n207 n208 n209 n210 n211 n212 n213 n214 n215 : Value), MidL wr wy gs mb base v (keysV bk (stepK m ids s x).all) (seenL (stepK m ids s x)) → Q .normal ⟨#[sl0, sl1, sl2, sl3, sl4, .pointer (some ⟨mc, 0, none⟩), sl6, sl7, sl8, sl9, .func (.func 35) #[] #[.pointer (some ⟨mc, 0, none⟩)], .iface 108 (.pointer (some ⟨gs, 0, none⟩)), sl12, sl13, .pointer (some ⟨wr.heap.size, 0, none⟩), .pointer (some ⟨wr.heap.size + 1, 0, none⟩), .bool true, n17, n18, n19, n20, n21, n22, sl23, sl24, sl25, sl26, sl27, sl28, sl29, sl30, sl31, sl32, sl33, sl34, sl35, sl36, sl37, sl38, sl39, sl40, sl41, sl42, sl43, sl44, sl45, sl46, sl47, sl48, sl49, sl50, sl51, sl52, sl53, sl54, sl55, sl56, sl57, sl58, sl59, sl60, sl61, sl62, sl63, sl64, sl65, sl66, sl67, sl68, sl69, sl70, sl71, sl72, sl73, sl74, sl75, sl76, sl77, n78, n79, n80, n81, n82, n83, n84, n85, n86, n87, n88, n89, n90, n91, n92, n93, n94, n95, n96, n97, n98, n99, n100, n101, n102, n103, n104, n105, n106, n107, n108, n109, n110, n111, n112, n113, n114, n115, n116, n117, n118, n119, n120, n121, n122, n123, n124, n125, n126, n127, n128, n129, n130, n131, n132, n133, n134, n135, n136, n137, n138, n139, n140, n141, n142, n143, n144, n145, n146, n147, n148, n149, n150, n151, n152, n153, n154, n155, n156, n157, n158, n159, n160, n161, n162, n163, n164, n165, n166, n167, n168, n169, n170, n171, n172, n173, n174, n175, n176, n177, n178, n179, n180, n181, n182, n183, n184, n185, n186, n187, n188, n189, n190, n191, n192, n193, n194, n195, n196, n197, n198, n199, n200, n201, n202, n203, n204, n205, n206, n207, n208, n209, n210, n211, n212, n213, n214, n215, sl216, sl217, sl218, sl219, sl220, sl221, sl222, sl223, sl224, sl225, sl226, sl227, sl228, sl229, sl230, sl231, sl232, sl233, sl234, sl235, sl236, sl237, sl238, sl239, sl240, sl241, sl242, sl243, sl244, sl245, sl246, sl247, sl248, sl249, sl250], []⟩ wy) :
    Code.wp Tryd.prog (cL (cR (cR (cR (cB (cL (cR (cR (cLp (cB (cR (cL (cR (cR (cR (cR (cR (cR (cOf Tryd.f17))))))))))))))))))) Q ⟨#[sl0, sl1, sl2, sl3, sl4, .pointer (some ⟨mc, 0, none⟩), sl6, sl7, sl8, sl9, .func (.func 35) #[] #[.pointer (some ⟨mc, 0, none⟩)], .iface 108 (.pointer (some ⟨gs, 0, none⟩)), sl12, sl13, .pointer (some ⟨wr.heap.size, 0, none⟩), .pointer (some ⟨wr.heap.size + 1, 0, none⟩), .bool true, sl17, sl18, sl19, sl20, sl21, sl22, sl23, sl24, sl25, sl26, sl27, sl28, sl29, sl30, sl31, sl32, sl33, sl34, sl35, sl36, sl37, sl38, sl39, sl40, sl41, sl42, sl43, sl44, sl45, sl46, sl47, sl48, sl49, sl50, sl51, sl52, sl53, sl54, sl55, sl56, sl57, sl58, sl59, sl60, sl61, sl62, sl63, sl64, sl65, sl66, sl67, sl68, sl69, sl70, sl71, sl72, sl73, sl74, sl75, sl76, sl77, sl78, sl79, sl80, sl81, sl82, sl83, sl84, sl85, sl86, sl87, sl88, sl89, sl90, sl91, sl92, sl93, sl94, sl95, sl96, sl97, sl98, sl99, sl100, sl101, sl102, sl103, sl104, sl105, sl106, sl107, sl108, sl109, sl110, sl111, sl112, sl113, sl114, sl115, sl116, sl117, sl118, sl119, sl120, sl121, sl122, sl123, sl124, sl125, sl126, sl127, sl128, sl129, sl130, sl131, sl132, sl133, sl134, sl135, sl136, sl137, sl138, sl139, sl140, sl141, sl142, sl143, sl144, sl145, sl146, sl147, sl148, sl149, sl150, sl151, sl152, sl153, sl154, sl155, sl156, sl157, sl158, sl159, sl160, sl161, sl162, sl163, sl164, sl165, sl166, sl167, sl168, sl169, sl170, sl171, sl172, sl173, sl174, sl175, sl176, sl177, sl178, sl179, sl180, sl181, sl182, sl183, sl184, sl185, sl186, sl187, sl188, sl189, sl190, sl191, sl192, sl193, sl194, sl195, sl196, sl197, sl198, sl199, sl200, sl201, sl202, sl203, sl204, sl205, sl206, sl207, sl208, sl209, sl210, sl211, sl212, sl213, sl214, sl215, sl216, sl217, sl218, sl219, sl220, sl221, sl222, sl223, sl224, sl225, sl226, sl227, sl228, sl229, sl230, sl231, sl232, sl233, sl234, sl235, sl236, sl237, sl238, sl239, sl240, sl241, sl242, sl243, sl244, sl245, sl246, sl247, sl248, sl249, sl250], []⟩ W := by
  have hst : stepK m ids s x = ⟨true, -1, -1, s.erase x.key⟩ := by
    unfold stepK
    rw [if_neg (by omega), if_pos ⟨hk, H.key⟩, if_pos hin]
  have HST := hidden hst
  clear hst
  have HQ := hidden hQ
  have HH := hidden H
  have hm3 := cell_next H.all H.made
  have ck3 := H.cell
  have hkm := H.key
  have hml := H.m_le
  have hal := H.at_le
  have hsl := H.len
  have d0 := H.step.cell 0
  have d1 := H.step.cell 1
  have d2 := H.step.cell 2
  have d3 := H.step.cell 3
  have g0 := H.seen.cell 0
  have g1 := H.seen.free 0
  have g3 := H.seen.cell 2
  have g4 := H.seen.free 2
  have g5 := H.seen.cell 1
  have g6 := H.seen.free 1
  unfold keyV at ck3
  obtain ⟨J, hJ⟩ : ∃ J, bk x.key = J := ⟨_, rfl⟩
  rw [hJ] at ck3
  simp [KSt.cells] at d0 d1 d2 d3 g0 g3 g5
  clear H hQ
  rw [hk] at d0
  obtain ⟨ky, hky⟩ : ∃ ky, x.key = ky := ⟨_, rfl⟩
  rw [hky] at d1 ck3 hkm hJ
  conv =>
    arg 2
    simp only [Tryd.f17, cOf, cL_seq, cR_seq, cB_block, cLp_loop, Option.getD_some]
  go_upto_region 21 with (fail)
  have hna := na_rem gs
  go_still_tail 9, (by kernel_rfl)
  change wpList _ _ _ _ _ W.drew
  have HC := hidden (fun (W1 : World) (h1 : Stand wa wr W1 mc gs mb base m bK oK cc bk ids s v x) => removeKey_yes bk m s W1 gs mb base v h1.setAt (by omega) h1.apart h1.keysAt h1.ok x.key h1.key hin)
  unfold keyV at HC
  rw [hky, hJ] at HC
  refine wpAbsL (fun W1 => Hid (Stand wa wr W1 mc gs mb base m bK oK cc bk ids s v x)) (hidden (HH.out.next (below_drewN0 (Below.refl _ _) 1))) ?_
  rintro W1 HH1
  have g0 := HH1.out.seen.cell 0
  have g1 := HH1.out.seen.free 0
  have g5 := HH1.out.seen.cell 1
  have g6 := HH1.out.seen.free 1
  simp at g0 g5
  clear d0 d1 d2 d3 g3 g4 hm3 ck3 hna
  go_wp2_with (go_at_call 137; go_must (refine (HC.out _ HH1.out).mono ?_; rintro e W5 ⟨rfl, hT⟩; rw [← hky] at hT; have HM5 := hidden (HH1.out.mid hT); have g0' := HM5.out.seen.cell 0; have g1' := HM5.out.seen.free 0; simp at g0'; clear hT))
  refine HQ.out _ _ _ _ _ _ _ _ _ _ _ _ _ _ _ _ _ _ _ _ _ _ _ _ _ _ _ _ _ _ _ _ _ _ _ _ _ _ _ _ _ _ _ _ _ _ _ _ _ _ _ _ _ _ _ _ _ _ _ _ _ _ _ _ _ _ _ _ _ _ _ _ _ _ _ _ _ _ _ _ _ _ _ _ _ _ _ _ _ _ _ _ _ _ _ _ _ _ _ _ _ _ _ _ _ _ _ _ _ _ _ _ _ _ _ _ _ _ _ _ _ _ _ _ _ _ _ _ _ _ _ _ _ _ _ _ _ _ _ _ _ _ _ _ _ ?_
  rw [HST.out]
  exact HM5.out.store 0 (.bool true)
end Go.Proofs.YthgklpkkcaiehaaDoor
