/- Region 29 of FnKeySetBack: four of the elements are read, and laid apart. -/
import Derived.Test.YthgklpkkcaiehaaDoorKBackG
import Derived.StillTailTactics
namespace Go.Proofs.YthgklpkkcaiehaaDoor
open Go.RowKit
set_option linter.unusedVariables false
set_option linter.unusedSimpArgs false

set_option maxRecDepth 100000 in
set_option maxHeartbeats 8000000 in
theorem back29 (W : World) (base n i N cZ bz oz : Nat) (r : Nat → Seen) (va : Nat → Value) (I0 I1 I2 I3 : Nat) (hi : i < n) (hn : n ≤ 8) (hN : N = 5 * n) (h0 : I0 = n + 3 * i) (h1 : I1 = I0 + 1) (h2 : I2 = I0 + 2) (h3 : I3 = 4 * n + i)
    (s0 : SeenRow W base bz (oz + I0 * 6) (r 0) (va 0)) (s1 : SeenRow W base bz (oz + I1 * 6) (r 1) (va 1)) (s2 : SeenRow W base bz (oz + I2 * 6) (r 2) (va 2)) (s3 : SeenRow W base bz (oz + I3 * 6) (r 3) (va 3)) (hcz : N ≤ cZ)
    (sl0 sl1 sl2 sl3 sl4 sl5 sl7 sl8 sl9 sl10 sl13 sl14 sl15 sl16 sl17 sl18 sl19 sl20 sl21 sl22 sl23 sl24 sl25 sl26 sl27 sl28 sl29 sl30 sl31 sl32 sl33 sl34 sl35 sl36 sl37 sl38 sl39 sl40 sl41 sl42 sl43 sl44 sl45 sl46 sl47 sl48 sl49 sl50 sl51 sl52 sl53 sl54 sl55 sl56 sl57 sl58 sl59 sl60 sl61 sl62 sl63 sl64 sl65 sl66 sl67 sl68 sl69 sl70 sl71 sl72 sl73 sl74 sl75 sl76 sl77 sl78 sl79 sl80 sl81 sl82 sl83 sl84 sl85 sl86 sl87 sl88 sl89 sl90 sl91 sl92 sl93 sl94 sl95 sl96 sl97 sl98 sl99 sl100 sl101 sl102 sl103 sl104 sl105 sl106 sl107 sl108 sl109 sl110 sl111 sl112 sl113 sl114 sl115 sl116 sl117 sl118 sl119 sl120 sl121 sl122 sl123 sl124 sl125 sl126 sl127 sl128 sl129 sl130 sl131 sl132 sl133 sl134 sl135 sl136 sl137 sl138 sl139 sl140 sl141 sl142 sl143 sl144 sl145 sl146 sl147 sl148 sl149 sl150 sl151 sl152 sl153 sl154 sl155 sl156 sl157 sl158 sl159 sl160 sl161 sl162 sl163 sl164 sl165 sl166 sl167 sl168 sl169 sl170 sl171 sl172 sl173 sl174 sl175 sl176 sl177 sl178 sl179 sl180 sl181 sl182 sl183 sl184 sl185 sl186 sl187 : Value) (Q : Exit → Act → World → Prop)
    (hQ : ∀ (wz : World) (g0 g1 g2 g3 : Nat) (n88 n89 n90 n91 n92 n93 n94 n95 n96 n97 n98 n99 n100 n101 n102 n103 n104 n105 n106 n107 n108 n109 n110 n111 n112 n113 n114 n115 n116 n117 : Value), Below W.heap.size W wz → Row wz g0 49 (seenC (r 0, va 0)) → Row wz g1 49 (seenC (r 1, va 1)) → Row wz g2 49 (seenC (r 2, va 2)) → Row wz g3 49 (seenC (r 3, va 3)) → Q .normal ⟨#[sl0, sl1, sl2, sl3, sl4, sl5, .int .i64 n, sl7, sl8, sl9, sl10, .slice (some ⟨bz, oz, none⟩) N cZ, .int .i64 i, .pointer (some ⟨g0, 0, none⟩), .pointer (some ⟨g1, 0, none⟩), .pointer (some ⟨g2, 0, none⟩), .pointer (some ⟨g3, 0, none⟩), sl17, sl18, sl19, sl20, sl21, sl22, sl23, sl24, sl25, sl26, sl27, sl28, sl29, sl30, sl31, sl32, sl33, sl34, sl35, sl36, sl37, sl38, sl39, sl40, sl41, sl42, sl43, sl44, sl45, sl46, sl47, sl48, sl49, sl50, sl51, sl52, sl53, sl54, sl55, sl56, sl57, sl58, sl59, sl60, sl61, sl62, sl63, sl64, sl65, sl66, sl67, sl68, sl69, sl70, sl71, sl72, sl73, sl74, sl75, sl76, sl77, sl78, sl79, sl80, sl81, sl82, sl83, sl84, sl85, sl86, sl87, n88, n89, n90, n91, n92, n93, n94, n95, n96, n97, n98, n99, n100, n101, n102, n103, n104, n105, n106, n107, n108, n109, n110, n111, n112, n113, n114, n115, n116, n117, sl118, sl119, sl120, sl121, sl122, sl123, sl124, sl125, sl126, sl127, sl128, sl129, sl130, sl131, sl132, sl133, sl134, sl135, sl136, sl137, sl138, sl139, sl140, sl141, sl142, sl143, sl144, sl145, sl146, sl147, sl148, sl149, sl150, sl151, sl152, sl153, sl154, sl155, sl156, sl157, sl158, sl159, sl160, sl161, sl162, sl163, sl164, sl165, sl166, sl167, sl168, sl169, sl170, sl171, sl172, sl173, sl174, sl175, sl176, sl177, sl178, sl179, sl180, sl181, sl182, sl183, sl184, sl185, sl186, sl187], []⟩ wz) :
    Code.wp Tryd.prog (cL (cR (cB (cL (cR (cR (cLp (cB (cR (cL (cR (cR (cR (cR (cR (cR (cR (cR (cR (cR (cR (cOf Tryd.f4)))))))))))))))))))))) Q ⟨#[sl0, sl1, sl2, sl3, sl4, sl5, .int .i64 n, sl7, sl8, sl9, sl10, .slice (some ⟨bz, oz, none⟩) N cZ, .int .i64 i, sl13, sl14, sl15, sl16, sl17, sl18, sl19, sl20, sl21, sl22, sl23, sl24, sl25, sl26, sl27, sl28, sl29, sl30, sl31, sl32, sl33, sl34, sl35, sl36, sl37, sl38, sl39, sl40, sl41, sl42, sl43, sl44, sl45, sl46, sl47, sl48, sl49, sl50, sl51, sl52, sl53, sl54, sl55, sl56, sl57, sl58, sl59, sl60, sl61, sl62, sl63, sl64, sl65, sl66, sl67, sl68, sl69, sl70, sl71, sl72, sl73, sl74, sl75, sl76, sl77, sl78, sl79, sl80, sl81, sl82, sl83, sl84, sl85, sl86, sl87, sl88, sl89, sl90, sl91, sl92, sl93, sl94, sl95, sl96, sl97, sl98, sl99, sl100, sl101, sl102, sl103, sl104, sl105, sl106, sl107, sl108, sl109, sl110, sl111, sl112, sl113, sl114, sl115, sl116, sl117, sl118, sl119, sl120, sl121, sl122, sl123, sl124, sl125, sl126, sl127, sl128, sl129, sl130, sl131, sl132, sl133, sl134, sl135, sl136, sl137, sl138, sl139, sl140, sl141, sl142, sl143, sl144, sl145, sl146, sl147, sl148, sl149, sl150, sl151, sl152, sl153, sl154, sl155, sl156, sl157, sl158, sl159, sl160, sl161, sl162, sl163, sl164, sl165, sl166, sl167, sl168, sl169, sl170, sl171, sl172, sl173, sl174, sl175, sl176, sl177, sl178, sl179, sl180, sl181, sl182, sl183, sl184, sl185, sl186, sl187], []⟩ W := by
  have HQ := hidden hQ
  clear hQ
  have hw0 : IntKind.i64.wrap (3 * (i : Int)) = 3 * (i : Int) := by rw [IntKind.wrap_i64]; omega
  have hw1 : IntKind.i64.wrap ((n : Int) + 3 * (i : Int)) = (I0 : Int) := by rw [IntKind.wrap_i64]; omega
  have hw2 : IntKind.i64.wrap ((I0 : Int) + 1) = (I1 : Int) := by rw [IntKind.wrap_i64]; omega
  have hw3 : IntKind.i64.wrap ((I0 : Int) + 2) = (I2 : Int) := by rw [IntKind.wrap_i64]; omega
  have hw4 : IntKind.i64.wrap (4 * (n : Int)) = 4 * (n : Int) := by rw [IntKind.wrap_i64]; omega
  have hw5 : IntKind.i64.wrap (4 * (n : Int) + (i : Int)) = (I3 : Int) := by rw [IntKind.wrap_i64]; omega
  have hb0 : I0 < N := by omega
  have hb1 : I1 < N := by omega
  have hb2 : I2 < N := by omega
  have hb3 : I3 < N := by omega
  have H0 := hidden s0
  have H1 := hidden s1
  have H2 := hidden s2
  have H3 := hidden s3
  clear s0 s1 s2 s3 h0 h1 h2 h3
  conv =>
    arg 2
    simp only [Tryd.f4, cOf, cL_seq, cR_seq, cB_block, cLp_loop, Option.getD_some]
  have hD : dOk [(0, 88), (1, 89), (2, 90), (3, 91), (4, 92), (5, 93), (6, 94), (7, 95), (8, 96), (9, 97), (10, 98), (11, 99), (12, 100), (13, 101), (14, 102), (15, 103), (16, 104), (17, 105), (18, 106), (19, 107), (20, 108), (21, 109), (22, 110), (23, 111), (24, 112), (25, 113), (26, 114), (27, 115), (28, 116), (29, 117), (30, 13), (31, 14), (32, 15), (33, 16)] 188 = true := by kernel_rfl
  refine reg_flow [(0, 88), (1, 89), (2, 90), (3, 91), (4, 92), (5, 93), (6, 94), (7, 95), (8, 96), (9, 97), (10, 98), (11, 99), (12, 100), (13, 101), (14, 102), (15, 103), (16, 104), (17, 105), (18, 106), (19, 107), (20, 108), (21, 109), (22, 110), (23, 111), (24, 112), (25, 113), (26, 114), (27, 115), (28, 116), (29, 117), (30, 13), (31, 14), (32, 15), (33, 16)] (by kernel_rfl) (by kernel_rfl) hD (by kernel_rfl) (by kernel_rfl)
    (fun q x W => match q with
      | 0 => x = .slice (some ⟨bz, oz, none⟩) N cZ
      | 1 => x = .int .i64 n
      | 2 => x = .int .i64 i
      | 3 => x = .int .i64 (3 * (i : Int))
      | 4 => x = .int .i64 I0
      | 5 => x = .pointer (some ⟨bz, oz + I0 * 6, none⟩)
      | 6 => x = .agg (seenC (r 0, va 0)).toArray
      | 7 => x = .slice (some ⟨bz, oz, none⟩) N cZ
      | 8 => x = .int .i64 n
      | 9 => x = .int .i64 i
      | 10 => x = .int .i64 (3 * (i : Int))
      | 11 => x = .int .i64 I0
      | 12 => x = .int .i64 I1
      | 13 => x = .pointer (some ⟨bz, oz + I1 * 6, none⟩)
      | 14 => x = .agg (seenC (r 1, va 1)).toArray
      | 15 => x = .slice (some ⟨bz, oz, none⟩) N cZ
      | 16 => x = .int .i64 n
      | 17 => x = .int .i64 i
      | 18 => x = .int .i64 (3 * (i : Int))
      | 19 => x = .int .i64 I0
      | 20 => x = .int .i64 I2
      | 21 => x = .pointer (some ⟨bz, oz + I2 * 6, none⟩)
      | 22 => x = .agg (seenC (r 2, va 2)).toArray
      | 23 => x = .slice (some ⟨bz, oz, none⟩) N cZ
      | 24 => x = .int .i64 n
      | 25 => x = .int .i64 (4 * (n : Int))
      | 26 => x = .int .i64 i
      | 27 => x = .int .i64 I3
      | 28 => x = .pointer (some ⟨bz, oz + I3 * 6, none⟩)
      | 29 => x = .agg (seenC (r 3, va 3)).toArray
      | _ => True)
    (GA W (fun k => seenC (r k, va k))) (fun _ _ => True) ?_ ?_ ?_ ?_
  · intro q x wa wb _ h; exact h
  · intro v; exact GA.start _ _ _
  · intro q hq
    match q, hq with
    | 0, _ =>
      exact flow_pure hD (fun _ => trivial) (.move (.tmp 11)) 45 rfl fun b v W1 ρ h => ⟨_, by
        have e0 := h.off 11 (by kernel_rfl)
        unfold opRun
        go_simp
        , rfl, h.glob.pure 0 _ (by decide)⟩
    | 1, _ =>
      exact flow_pure hD (fun _ => trivial) (.move (.tmp 6)) 3 rfl fun b v W1 ρ h => ⟨_, by
        have e0 := h.off 6 (by kernel_rfl)
        unfold opRun
        go_simp
        , rfl, h.glob.pure 1 _ (by decide)⟩
    | 2, _ =>
      exact flow_pure hD (fun _ => trivial) (.move (.tmp 12)) 3 rfl fun b v W1 ρ h => ⟨_, by
        have e0 := h.off 12 (by kernel_rfl)
        unfold opRun
        go_simp
        , rfl, h.glob.pure 2 _ (by decide)⟩
    | 3, _ =>
      exact flow_pure hD (fun _ => trivial) (.binOp .mul 3 (.const (.int .i64 3)) (.tmp 90) 3) 3 rfl fun b v W1 ρ h => ⟨_, by
        have d0 := (h.on 2 90 (by kernel_rfl) (h.dep 2 (by kernel_rfl))).trans (h.have_ 2 (by kernel_rfl))
        have k0 := h.cst (.int .i64 3)
        unfold opRun
        go_simp
        , rfl, h.glob.pure 3 _ (by decide)⟩
    | 4, _ =>
      exact flow_pure hD (fun _ => trivial) (.binOp .add 3 (.tmp 89) (.tmp 91) 3) 3 rfl fun b v W1 ρ h => ⟨_, by
        have d0 := (h.on 1 89 (by kernel_rfl) (h.dep 1 (by kernel_rfl))).trans (h.have_ 1 (by kernel_rfl))
        have d1 := (h.on 3 91 (by kernel_rfl) (h.dep 3 (by kernel_rfl))).trans (h.have_ 3 (by kernel_rfl))
        unfold opRun
        go_simp
        , rfl, h.glob.pure 4 _ (by decide)⟩
    | 5, _ =>
      exact flow_pure hD (fun _ => trivial) (.indexAddr 45 (.tmp 88) (.tmp 92)) 0 rfl fun b v W1 ρ h => ⟨_, by
        have d0 := (h.on 0 88 (by kernel_rfl) (h.dep 0 (by kernel_rfl))).trans (h.have_ 0 (by kernel_rfl))
        have d1 := (h.on 4 92 (by kernel_rfl) (h.dep 4 (by kernel_rfl))).trans (h.have_ 4 (by kernel_rfl))
        unfold opRun
        go_simp
        try (intro h9; omega)
        , rfl, h.glob.pure 5 _ (by decide)⟩
    | 6, _ =>
      exact flow_pure hD (fun _ => trivial) (.load 49 (.tmp 93)) 49 rfl fun b v W1 ρ h => by
        have d0 := (h.on 5 93 (by kernel_rfl) (h.dep 5 (by kernel_rfl))).trans (h.have_ 5 (by kernel_rfl))
        exact ⟨_, opRun_load_at ((H0.out.below h.glob.below).cells) d0 Tryd.underlying49 rfl (by kernel_rfl), rfl, h.glob.pure 6 _ (by decide)⟩
    | 7, _ =>
      exact flow_pure hD (fun _ => trivial) (.move (.tmp 11)) 45 rfl fun b v W1 ρ h => ⟨_, by
        have e0 := h.off 11 (by kernel_rfl)
        unfold opRun
        go_simp
        , rfl, h.glob.pure 7 _ (by decide)⟩
    | 8, _ =>
      exact flow_pure hD (fun _ => trivial) (.move (.tmp 6)) 3 rfl fun b v W1 ρ h => ⟨_, by
        have e0 := h.off 6 (by kernel_rfl)
        unfold opRun
        go_simp
        , rfl, h.glob.pure 8 _ (by decide)⟩
    | 9, _ =>
      exact flow_pure hD (fun _ => trivial) (.move (.tmp 12)) 3 rfl fun b v W1 ρ h => ⟨_, by
        have e0 := h.off 12 (by kernel_rfl)
        unfold opRun
        go_simp
        , rfl, h.glob.pure 9 _ (by decide)⟩
    | 10, _ =>
      exact flow_pure hD (fun _ => trivial) (.binOp .mul 3 (.const (.int .i64 3)) (.tmp 97) 3) 3 rfl fun b v W1 ρ h => ⟨_, by
        have d0 := (h.on 9 97 (by kernel_rfl) (h.dep 9 (by kernel_rfl))).trans (h.have_ 9 (by kernel_rfl))
        have k0 := h.cst (.int .i64 3)
        unfold opRun
        go_simp
        , rfl, h.glob.pure 10 _ (by decide)⟩
    | 11, _ =>
      exact flow_pure hD (fun _ => trivial) (.binOp .add 3 (.tmp 96) (.tmp 98) 3) 3 rfl fun b v W1 ρ h => ⟨_, by
        have d0 := (h.on 8 96 (by kernel_rfl) (h.dep 8 (by kernel_rfl))).trans (h.have_ 8 (by kernel_rfl))
        have d1 := (h.on 10 98 (by kernel_rfl) (h.dep 10 (by kernel_rfl))).trans (h.have_ 10 (by kernel_rfl))
        unfold opRun
        go_simp
        , rfl, h.glob.pure 11 _ (by decide)⟩
    | 12, _ =>
      exact flow_pure hD (fun _ => trivial) (.binOp .add 3 (.tmp 99) (.const (.int .i64 1)) 3) 3 rfl fun b v W1 ρ h => ⟨_, by
        have d0 := (h.on 11 99 (by kernel_rfl) (h.dep 11 (by kernel_rfl))).trans (h.have_ 11 (by kernel_rfl))
        have k0 := h.cst (.int .i64 1)
        unfold opRun
        go_simp
        , rfl, h.glob.pure 12 _ (by decide)⟩
    | 13, _ =>
      exact flow_pure hD (fun _ => trivial) (.indexAddr 45 (.tmp 95) (.tmp 100)) 0 rfl fun b v W1 ρ h => ⟨_, by
        have d0 := (h.on 7 95 (by kernel_rfl) (h.dep 7 (by kernel_rfl))).trans (h.have_ 7 (by kernel_rfl))
        have d1 := (h.on 12 100 (by kernel_rfl) (h.dep 12 (by kernel_rfl))).trans (h.have_ 12 (by kernel_rfl))
        unfold opRun
        go_simp
        try (intro h9; omega)
        , rfl, h.glob.pure 13 _ (by decide)⟩
    | 14, _ =>
      exact flow_pure hD (fun _ => trivial) (.load 49 (.tmp 101)) 49 rfl fun b v W1 ρ h => by
        have d0 := (h.on 13 101 (by kernel_rfl) (h.dep 13 (by kernel_rfl))).trans (h.have_ 13 (by kernel_rfl))
        exact ⟨_, opRun_load_at ((H1.out.below h.glob.below).cells) d0 Tryd.underlying49 rfl (by kernel_rfl), rfl, h.glob.pure 14 _ (by decide)⟩
    | 15, _ =>
      exact flow_pure hD (fun _ => trivial) (.move (.tmp 11)) 45 rfl fun b v W1 ρ h => ⟨_, by
        have e0 := h.off 11 (by kernel_rfl)
        unfold opRun
        go_simp
        , rfl, h.glob.pure 15 _ (by decide)⟩
    | 16, _ =>
      exact flow_pure hD (fun _ => trivial) (.move (.tmp 6)) 3 rfl fun b v W1 ρ h => ⟨_, by
        have e0 := h.off 6 (by kernel_rfl)
        unfold opRun
        go_simp
        , rfl, h.glob.pure 16 _ (by decide)⟩
    | 17, _ =>
      exact flow_pure hD (fun _ => trivial) (.move (.tmp 12)) 3 rfl fun b v W1 ρ h => ⟨_, by
        have e0 := h.off 12 (by kernel_rfl)
        unfold opRun
        go_simp
        , rfl, h.glob.pure 17 _ (by decide)⟩
    | 18, _ =>
      exact flow_pure hD (fun _ => trivial) (.binOp .mul 3 (.const (.int .i64 3)) (.tmp 105) 3) 3 rfl fun b v W1 ρ h => ⟨_, by
        have d0 := (h.on 17 105 (by kernel_rfl) (h.dep 17 (by kernel_rfl))).trans (h.have_ 17 (by kernel_rfl))
        have k0 := h.cst (.int .i64 3)
        unfold opRun
        go_simp
        , rfl, h.glob.pure 18 _ (by decide)⟩
    | 19, _ =>
      exact flow_pure hD (fun _ => trivial) (.binOp .add 3 (.tmp 104) (.tmp 106) 3) 3 rfl fun b v W1 ρ h => ⟨_, by
        have d0 := (h.on 16 104 (by kernel_rfl) (h.dep 16 (by kernel_rfl))).trans (h.have_ 16 (by kernel_rfl))
        have d1 := (h.on 18 106 (by kernel_rfl) (h.dep 18 (by kernel_rfl))).trans (h.have_ 18 (by kernel_rfl))
        unfold opRun
        go_simp
        , rfl, h.glob.pure 19 _ (by decide)⟩
    | 20, _ =>
      exact flow_pure hD (fun _ => trivial) (.binOp .add 3 (.tmp 107) (.const (.int .i64 2)) 3) 3 rfl fun b v W1 ρ h => ⟨_, by
        have d0 := (h.on 19 107 (by kernel_rfl) (h.dep 19 (by kernel_rfl))).trans (h.have_ 19 (by kernel_rfl))
        have k0 := h.cst (.int .i64 2)
        unfold opRun
        go_simp
        , rfl, h.glob.pure 20 _ (by decide)⟩
    | 21, _ =>
      exact flow_pure hD (fun _ => trivial) (.indexAddr 45 (.tmp 103) (.tmp 108)) 0 rfl fun b v W1 ρ h => ⟨_, by
        have d0 := (h.on 15 103 (by kernel_rfl) (h.dep 15 (by kernel_rfl))).trans (h.have_ 15 (by kernel_rfl))
        have d1 := (h.on 20 108 (by kernel_rfl) (h.dep 20 (by kernel_rfl))).trans (h.have_ 20 (by kernel_rfl))
        unfold opRun
        go_simp
        try (intro h9; omega)
        , rfl, h.glob.pure 21 _ (by decide)⟩
    | 22, _ =>
      exact flow_pure hD (fun _ => trivial) (.load 49 (.tmp 109)) 49 rfl fun b v W1 ρ h => by
        have d0 := (h.on 21 109 (by kernel_rfl) (h.dep 21 (by kernel_rfl))).trans (h.have_ 21 (by kernel_rfl))
        exact ⟨_, opRun_load_at ((H2.out.below h.glob.below).cells) d0 Tryd.underlying49 rfl (by kernel_rfl), rfl, h.glob.pure 22 _ (by decide)⟩
    | 23, _ =>
      exact flow_pure hD (fun _ => trivial) (.move (.tmp 11)) 45 rfl fun b v W1 ρ h => ⟨_, by
        have e0 := h.off 11 (by kernel_rfl)
        unfold opRun
        go_simp
        , rfl, h.glob.pure 23 _ (by decide)⟩
    | 24, _ =>
      exact flow_pure hD (fun _ => trivial) (.move (.tmp 6)) 3 rfl fun b v W1 ρ h => ⟨_, by
        have e0 := h.off 6 (by kernel_rfl)
        unfold opRun
        go_simp
        , rfl, h.glob.pure 24 _ (by decide)⟩
    | 25, _ =>
      exact flow_pure hD (fun _ => trivial) (.binOp .mul 3 (.const (.int .i64 4)) (.tmp 112) 3) 3 rfl fun b v W1 ρ h => ⟨_, by
        have d0 := (h.on 24 112 (by kernel_rfl) (h.dep 24 (by kernel_rfl))).trans (h.have_ 24 (by kernel_rfl))
        have k0 := h.cst (.int .i64 4)
        unfold opRun
        go_simp
        , rfl, h.glob.pure 25 _ (by decide)⟩
    | 26, _ =>
      exact flow_pure hD (fun _ => trivial) (.move (.tmp 12)) 3 rfl fun b v W1 ρ h => ⟨_, by
        have e0 := h.off 12 (by kernel_rfl)
        unfold opRun
        go_simp
        , rfl, h.glob.pure 26 _ (by decide)⟩
    | 27, _ =>
      exact flow_pure hD (fun _ => trivial) (.binOp .add 3 (.tmp 113) (.tmp 114) 3) 3 rfl fun b v W1 ρ h => ⟨_, by
        have d0 := (h.on 25 113 (by kernel_rfl) (h.dep 25 (by kernel_rfl))).trans (h.have_ 25 (by kernel_rfl))
        have d1 := (h.on 26 114 (by kernel_rfl) (h.dep 26 (by kernel_rfl))).trans (h.have_ 26 (by kernel_rfl))
        unfold opRun
        go_simp
        , rfl, h.glob.pure 27 _ (by decide)⟩
    | 28, _ =>
      exact flow_pure hD (fun _ => trivial) (.indexAddr 45 (.tmp 111) (.tmp 115)) 0 rfl fun b v W1 ρ h => ⟨_, by
        have d0 := (h.on 23 111 (by kernel_rfl) (h.dep 23 (by kernel_rfl))).trans (h.have_ 23 (by kernel_rfl))
        have d1 := (h.on 27 115 (by kernel_rfl) (h.dep 27 (by kernel_rfl))).trans (h.have_ 27 (by kernel_rfl))
        unfold opRun
        go_simp
        try (intro h9; omega)
        , rfl, h.glob.pure 28 _ (by decide)⟩
    | 29, _ =>
      exact flow_pure hD (fun _ => trivial) (.load 49 (.tmp 116)) 49 rfl fun b v W1 ρ h => by
        have d0 := (h.on 28 116 (by kernel_rfl) (h.dep 28 (by kernel_rfl))).trans (h.have_ 28 (by kernel_rfl))
        exact ⟨_, opRun_load_at ((H3.out.below h.glob.below).cells) d0 Tryd.underlying49 rfl (by kernel_rfl), rfl, h.glob.pure 29 _ (by decide)⟩
    | 30, _ =>
      exact flow_val hD (.alloc 49) 0 rfl fun b v W1 ρ h => by
        have h34 : b 34 = false := h.later 34 (by kernel_rfl)
        refine ⟨.pointer (some ⟨W1.heap.size, 0, none⟩), W1.alloc (.cells zeroC.toArray 49), ?_, trivial, trivial, h.glob.alloc 0 (by decide) h.self h34⟩
        unfold opRun
        go_simp
        rfl
    | 31, _ =>
      exact flow_val hD (.alloc 49) 0 rfl fun b v W1 ρ h => by
        have h34 : b 35 = false := h.later 35 (by kernel_rfl)
        refine ⟨.pointer (some ⟨W1.heap.size, 0, none⟩), W1.alloc (.cells zeroC.toArray 49), ?_, trivial, trivial, h.glob.alloc 1 (by decide) h.self h34⟩
        unfold opRun
        go_simp
        rfl
    | 32, _ =>
      exact flow_val hD (.alloc 49) 0 rfl fun b v W1 ρ h => by
        have h34 : b 36 = false := h.later 36 (by kernel_rfl)
        refine ⟨.pointer (some ⟨W1.heap.size, 0, none⟩), W1.alloc (.cells zeroC.toArray 49), ?_, trivial, trivial, h.glob.alloc 2 (by decide) h.self h34⟩
        unfold opRun
        go_simp
        rfl
    | 33, _ =>
      exact flow_val hD (.alloc 49) 0 rfl fun b v W1 ρ h => by
        have h34 : b 37 = false := h.later 37 (by kernel_rfl)
        refine ⟨.pointer (some ⟨W1.heap.size, 0, none⟩), W1.alloc (.cells zeroC.toArray 49), ?_, trivial, trivial, h.glob.alloc 3 (by decide) h.self h34⟩
        unfold opRun
        go_simp
        rfl
    | 34, _ =>
      exact flow_skip hD (.store 49 (.tmp 13) (.tmp 94)) 0 rfl fun b v W1 ρ h => by
        have hb30 : b 30 = true := h.dep 30 (by kernel_rfl)
        obtain ⟨g, k1, k2, k3, k4⟩ := h.glob.rows 0 (by decide) hb30
        rw [h.self, if_neg (by decide)] at k3
        have d0 := (h.on 30 13 (by kernel_rfl) hb30).trans k1
        have d1 := (h.on 6 94 (by kernel_rfl) (h.dep 6 (by kernel_rfl))).trans (h.have_ 6 (by kernel_rfl))
        obtain ⟨w2, hrun, hR2, hg2⟩ := opRun_store_row (P := Tryd.prog) (ty := 49) (ty' := 0) k3 d0 d1 (by kernel_rfl) rfl (seenC_one _ _ (by have ho := H0.out.own; rcases ho.read with ⟨A2, c2, e2, _⟩; rw [e2]; rfl))
        exact ⟨w2, hrun, trivial, trivial, h.glob.store 0 (by decide) hb30 k1 hR2 hg2 _⟩
    | 35, _ =>
      exact flow_skip hD (.store 49 (.tmp 14) (.tmp 102)) 0 rfl fun b v W1 ρ h => by
        have hb30 : b 31 = true := h.dep 31 (by kernel_rfl)
        obtain ⟨g, k1, k2, k3, k4⟩ := h.glob.rows 1 (by decide) hb30
        rw [h.self, if_neg (by decide)] at k3
        have d0 := (h.on 31 14 (by kernel_rfl) hb30).trans k1
        have d1 := (h.on 14 102 (by kernel_rfl) (h.dep 14 (by kernel_rfl))).trans (h.have_ 14 (by kernel_rfl))
        obtain ⟨w2, hrun, hR2, hg2⟩ := opRun_store_row (P := Tryd.prog) (ty := 49) (ty' := 0) k3 d0 d1 (by kernel_rfl) rfl (seenC_one _ _ (by have ho := H1.out.own; rcases ho.read with ⟨A2, c2, e2, _⟩; rw [e2]; rfl))
        exact ⟨w2, hrun, trivial, trivial, h.glob.store 1 (by decide) hb30 k1 hR2 hg2 _⟩
    | 36, _ =>
      exact flow_skip hD (.store 49 (.tmp 15) (.tmp 110)) 0 rfl fun b v W1 ρ h => by
        have hb30 : b 32 = true := h.dep 32 (by kernel_rfl)
        obtain ⟨g, k1, k2, k3, k4⟩ := h.glob.rows 2 (by decide) hb30
        rw [h.self, if_neg (by decide)] at k3
        have d0 := (h.on 32 15 (by kernel_rfl) hb30).trans k1
        have d1 := (h.on 22 110 (by kernel_rfl) (h.dep 22 (by kernel_rfl))).trans (h.have_ 22 (by kernel_rfl))
        obtain ⟨w2, hrun, hR2, hg2⟩ := opRun_store_row (P := Tryd.prog) (ty := 49) (ty' := 0) k3 d0 d1 (by kernel_rfl) rfl (seenC_one _ _ (by have ho := H2.out.own; rcases ho.read with ⟨A2, c2, e2, _⟩; rw [e2]; rfl))
        exact ⟨w2, hrun, trivial, trivial, h.glob.store 2 (by decide) hb30 k1 hR2 hg2 _⟩
    | 37, _ =>
      exact flow_skip hD (.store 49 (.tmp 16) (.tmp 117)) 0 rfl fun b v W1 ρ h => by
        have hb30 : b 33 = true := h.dep 33 (by kernel_rfl)
        obtain ⟨g, k1, k2, k3, k4⟩ := h.glob.rows 3 (by decide) hb30
        rw [h.self, if_neg (by decide)] at k3
        have d0 := (h.on 33 16 (by kernel_rfl) hb30).trans k1
        have d1 := (h.on 29 117 (by kernel_rfl) (h.dep 29 (by kernel_rfl))).trans (h.have_ 29 (by kernel_rfl))
        obtain ⟨w2, hrun, hR2, hg2⟩ := opRun_store_row (P := Tryd.prog) (ty := 49) (ty' := 0) k3 d0 d1 (by kernel_rfl) rfl (seenC_one _ _ (by have ho := H3.out.own; rcases ho.read with ⟨A2, c2, e2, _⟩; rw [e2]; rfl))
        exact ⟨w2, hrun, trivial, trivial, h.glob.store 3 (by decide) hb30 k1 hR2 hg2 _⟩
    | q + 38, hq => exact absurd hq (by simp)
  · intro b v W1 hall hF hG
    have f0 : v 0 = _ := hF 0 (by decide)
    have f1 : v 1 = _ := hF 1 (by decide)
    have f2 : v 2 = _ := hF 2 (by decide)
    have f3 : v 3 = _ := hF 3 (by decide)
    have f4 : v 4 = _ := hF 4 (by decide)
    have f5 : v 5 = _ := hF 5 (by decide)
    have f6 : v 6 = _ := hF 6 (by decide)
    have f7 : v 7 = _ := hF 7 (by decide)
    have f8 : v 8 = _ := hF 8 (by decide)
    have f9 : v 9 = _ := hF 9 (by decide)
    have f10 : v 10 = _ := hF 10 (by decide)
    have f11 : v 11 = _ := hF 11 (by decide)
    have f12 : v 12 = _ := hF 12 (by decide)
    have f13 : v 13 = _ := hF 13 (by decide)
    have f14 : v 14 = _ := hF 14 (by decide)
    have f15 : v 15 = _ := hF 15 (by decide)
    have f16 : v 16 = _ := hF 16 (by decide)
    have f17 : v 17 = _ := hF 17 (by decide)
    have f18 : v 18 = _ := hF 18 (by decide)
    have f19 : v 19 = _ := hF 19 (by decide)
    have f20 : v 20 = _ := hF 20 (by decide)
    have f21 : v 21 = _ := hF 21 (by decide)
    have f22 : v 22 = _ := hF 22 (by decide)
    have f23 : v 23 = _ := hF 23 (by decide)
    have f24 : v 24 = _ := hF 24 (by decide)
    have f25 : v 25 = _ := hF 25 (by decide)
    have f26 : v 26 = _ := hF 26 (by decide)
    have f27 : v 27 = _ := hF 27 (by decide)
    have f28 : v 28 = _ := hF 28 (by decide)
    have f29 : v 29 = _ := hF 29 (by decide)
    obtain ⟨g0, p0, _, q0, _⟩ := hG.rows 0 (by decide) (hall 30 (by decide))
    rw [hall 34 (by decide), if_pos rfl] at q0
    obtain ⟨g1, p1, _, q1, _⟩ := hG.rows 1 (by decide) (hall 31 (by decide))
    rw [hall 35 (by decide), if_pos rfl] at q1
    obtain ⟨g2, p2, _, q2, _⟩ := hG.rows 2 (by decide) (hall 32 (by decide))
    rw [hall 36 (by decide), if_pos rfl] at q2
    obtain ⟨g3, p3, _, q3, _⟩ := hG.rows 3 (by decide) (hall 33 (by decide))
    rw [hall 37 (by decide), if_pos rfl] at q3
    simp only [Nat.reduceAdd] at p0 p1 p2 p3
    simp only [fr, if_true, f0, f1, f2, f3, f4, f5, f6, f7, f8, f9, f10, f11, f12, f13, f14, f15, f16, f17, f18, f19, f20, f21, f22, f23, f24, f25, f26, f27, f28, f29, p0, p1, p2, p3, Act.put, List.setIfInBounds_toArray, List.set_cons_zero, List.set_cons_succ]
    exact HQ.out W1 g0 g1 g2 g3 _ _ _ _ _ _ _ _ _ _ _ _ _ _ _ _ _ _ _ _ _ _ _ _ _ _ _ _ _ _ hG.below q0 q1 q2 q3
end Go.Proofs.YthgklpkkcaiehaaDoor
