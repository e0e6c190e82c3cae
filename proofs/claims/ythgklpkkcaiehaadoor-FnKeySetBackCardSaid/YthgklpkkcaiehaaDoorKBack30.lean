/- Region 30 of FnKeySetBack: the checks. -/
import Derived.Test.YthgklpkkcaiehaaDoorKBack29
import Derived.Test.YthgklpkkcaiehaaDoorKBackL
import Derived.Test.YthgklpkkcaiehaaDoorKInts
import Derived.Test.YthgklpkkcaiehaaDoorFlowG
import Derived.StillTailTactics
namespace Go.Proofs.YthgklpkkcaiehaaDoor
open Go.RowKit
set_option linter.unusedVariables false
set_option linter.unusedSimpArgs false

set_option maxRecDepth 100000 in
set_option maxHeartbeats 8000000 in
theorem back30 (W : World) (n i t N cZ bz oz g0 g1 g2 g3 : Nat) (A3 : Option Addr) (c3 : Nat) (l3 : List Nat) (q : Nat) (hi : i < n) (hn : n ≤ 8) (ht : t < 256) (hN : N = 5 * n) (hcz : N ≤ cZ)
    (a0 : W.cell? ⟨bz, oz + i * 6, none⟩ = some (.bool true)) (a3 : W.cell? ⟨bz, oz + i * 6 + 3, none⟩ = some (.int .i64 ((i : Int) + 1)))
    (b1 : W.cell? ⟨g0, 1, none⟩ = some (.int .i64 i)) (d0 : W.cell? ⟨g1, 0, none⟩ = some (.bool true)) (d2 : W.cell? ⟨g1, 2, none⟩ = some (.int .i64 i))
    (e0 : W.cell? ⟨g2, 0, none⟩ = some (.bool false)) (e3 : W.cell? ⟨g2, 3, none⟩ = some (.int .i64 n)) (f0 : W.cell? ⟨g3, 0, none⟩ = some (.bool true)) (f3 : W.cell? ⟨g3, 3, none⟩ = some (.int .i64 ((n : Int) - 1 - i)))
    (f4 : W.cell? ⟨g3, 4, none⟩ = some (.slice A3 l3.length c3)) (hR3 : Rd W A3 (intsN l3)) (hl3 : l3.length ≤ 1000) (hq : (i + t) % n = q) (hq3 : q ∉ l3)
    (sl0 sl2 sl3 sl4 sl5 sl7 sl8 sl9 sl10 sl17 sl18 sl19 sl20 sl21 sl22 sl23 sl24 sl25 sl26 sl27 sl28 sl29 sl30 sl31 sl32 sl33 sl34 sl35 sl36 sl37 sl38 sl39 sl40 sl41 sl42 sl43 sl44 sl45 sl46 sl47 sl48 sl49 sl50 sl51 sl52 sl53 sl54 sl55 sl56 sl57 sl58 sl59 sl60 sl61 sl62 sl63 sl64 sl65 sl66 sl67 sl68 sl69 sl70 sl71 sl72 sl73 sl74 sl75 sl76 sl77 sl78 sl79 sl80 sl81 sl82 sl83 sl84 sl85 sl86 sl87 sl88 sl89 sl90 sl91 sl92 sl93 sl94 sl95 sl96 sl97 sl98 sl99 sl100 sl101 sl102 sl103 sl104 sl105 sl106 sl107 sl108 sl109 sl110 sl111 sl112 sl113 sl114 sl115 sl116 sl117 sl118 sl119 sl120 sl121 sl122 sl123 sl124 sl125 sl126 sl127 sl128 sl129 sl130 sl131 sl132 sl133 sl134 sl135 sl136 sl137 sl138 sl139 sl140 sl141 sl142 sl143 sl144 sl145 sl146 sl147 sl148 sl149 sl150 sl151 sl152 sl153 sl154 sl155 sl156 sl157 sl158 sl159 sl160 sl161 sl162 sl163 sl164 sl165 sl166 sl167 sl168 sl169 sl170 sl171 sl172 sl173 sl174 sl175 sl176 sl177 sl178 sl179 sl180 sl181 sl182 sl183 sl184 sl185 sl186 sl187 : Value) (Q : Exit → Act → World → Prop)
    (hQ : ∀ (wz : World) (n118 n119 n120 n121 n122 n123 n124 n125 n126 n127 n128 n129 n130 n131 n132 n133 n134 n135 n136 n137 n138 n139 n140 n141 n142 n143 n144 n145 n146 n147 n148 n149 n150 n151 n152 n153 n154 n155 n156 n157 n158 n159 n160 n161 n162 n163 n164 n165 n166 n167 n168 n169 n170 n171 n172 n173 n174 n175 n176 n177 n178 n179 n180 n181 n182 n183 n184 n185 : Value), Below W.heap.size W wz → Q .normal ⟨#[sl0, .int .u8 t, sl2, sl3, sl4, sl5, .int .i64 n, sl7, sl8, sl9, sl10, .slice (some ⟨bz, oz, none⟩) N cZ, .int .i64 i, .pointer (some ⟨g0, 0, none⟩), .pointer (some ⟨g1, 0, none⟩), .pointer (some ⟨g2, 0, none⟩), .pointer (some ⟨g3, 0, none⟩), sl17, sl18, sl19, sl20, sl21, sl22, sl23, sl24, sl25, sl26, sl27, sl28, sl29, sl30, sl31, sl32, sl33, sl34, sl35, sl36, sl37, sl38, sl39, sl40, sl41, sl42, sl43, sl44, sl45, sl46, sl47, sl48, sl49, sl50, sl51, sl52, sl53, sl54, sl55, sl56, sl57, sl58, sl59, sl60, sl61, sl62, sl63, sl64, sl65, sl66, sl67, sl68, sl69, sl70, sl71, sl72, sl73, sl74, sl75, sl76, sl77, sl78, sl79, sl80, sl81, sl82, sl83, sl84, sl85, sl86, sl87, sl88, sl89, sl90, sl91, sl92, sl93, sl94, sl95, sl96, sl97, sl98, sl99, sl100, sl101, sl102, sl103, sl104, sl105, sl106, sl107, sl108, sl109, sl110, sl111, sl112, sl113, sl114, sl115, sl116, sl117, n118, n119, n120, n121, n122, n123, n124, n125, n126, n127, n128, n129, n130, n131, n132, n133, n134, n135, n136, n137, n138, n139, n140, n141, n142, n143, n144, n145, n146, n147, n148, n149, n150, n151, n152, n153, n154, n155, n156, n157, n158, n159, n160, n161, n162, n163, n164, n165, n166, n167, n168, n169, n170, n171, n172, n173, n174, n175, n176, n177, n178, n179, n180, n181, n182, n183, n184, n185, sl186, sl187], []⟩ wz) :
    Code.wp Tryd.prog (cR (cR (cB (cL (cR (cR (cLp (cB (cR (cL (cR (cR (cR (cR (cR (cR (cR (cR (cR (cR (cR (cOf Tryd.f4)))))))))))))))))))))) Q ⟨#[sl0, .int .u8 t, sl2, sl3, sl4, sl5, .int .i64 n, sl7, sl8, sl9, sl10, .slice (some ⟨bz, oz, none⟩) N cZ, .int .i64 i, .pointer (some ⟨g0, 0, none⟩), .pointer (some ⟨g1, 0, none⟩), .pointer (some ⟨g2, 0, none⟩), .pointer (some ⟨g3, 0, none⟩), sl17, sl18, sl19, sl20, sl21, sl22, sl23, sl24, sl25, sl26, sl27, sl28, sl29, sl30, sl31, sl32, sl33, sl34, sl35, sl36, sl37, sl38, sl39, sl40, sl41, sl42, sl43, sl44, sl45, sl46, sl47, sl48, sl49, sl50, sl51, sl52, sl53, sl54, sl55, sl56, sl57, sl58, sl59, sl60, sl61, sl62, sl63, sl64, sl65, sl66, sl67, sl68, sl69, sl70, sl71, sl72, sl73, sl74, sl75, sl76, sl77, sl78, sl79, sl80, sl81, sl82, sl83, sl84, sl85, sl86, sl87, sl88, sl89, sl90, sl91, sl92, sl93, sl94, sl95, sl96, sl97, sl98, sl99, sl100, sl101, sl102, sl103, sl104, sl105, sl106, sl107, sl108, sl109, sl110, sl111, sl112, sl113, sl114, sl115, sl116, sl117, sl118, sl119, sl120, sl121, sl122, sl123, sl124, sl125, sl126, sl127, sl128, sl129, sl130, sl131, sl132, sl133, sl134, sl135, sl136, sl137, sl138, sl139, sl140, sl141, sl142, sl143, sl144, sl145, sl146, sl147, sl148, sl149, sl150, sl151, sl152, sl153, sl154, sl155, sl156, sl157, sl158, sl159, sl160, sl161, sl162, sl163, sl164, sl165, sl166, sl167, sl168, sl169, sl170, sl171, sl172, sl173, sl174, sl175, sl176, sl177, sl178, sl179, sl180, sl181, sl182, sl183, sl184, sl185, sl186, sl187], []⟩ W := by
  have HQ := hidden hQ
  clear hQ
  have htm := tmod_nat i t n
  rw [hq] at htm
  have hw1 : IntKind.i64.wrap ((i : Int) + (t : Int)) = (i : Int) + (t : Int) := by rw [IntKind.wrap_i64]; omega
  have hw2 : IntKind.i64.wrap ((i : Int) + 1) = (i : Int) + 1 := by rw [IntKind.wrap_i64]; omega
  have hw3 : IntKind.i64.wrap ((n : Int) - 1) = (n : Int) - 1 := by rw [IntKind.wrap_i64]; omega
  have hw4 : IntKind.i64.wrap ((n : Int) - 1 - (i : Int)) = (n : Int) - 1 - (i : Int) := by rw [IntKind.wrap_i64]; omega
  have hwt : IntKind.i64.wrap (t : Int) = (t : Int) := by rw [IntKind.wrap_i64]; omega
  have hiN : i < N := by omega
  have hn0 : ¬ n = 0 := by omega
  have HC := hidden (fun (W1 : World) (hB : Below W.heap.size W W1) => containsNo_calls A3 l3 l3.length c3 q W1 (hR3.below hB (Nat.le_refl _)) rfl hl3 hq3)
  obtain ⟨n3, hn3⟩ : ∃ k, l3.length = k := ⟨_, rfl⟩
  rw [hn3] at f4 HC
  clear hR3 hq3 hq hl3 hn3 hN
  conv =>
    arg 2
    simp only [Tryd.f4, cOf, cL_seq, cR_seq, cB_block, cLp_loop, Option.getD_some, List.append_eq, List.cons_append, List.nil_append]
  go_upto_region 30 with (fail)
  have hD : dOk [(0, 118), (1, 119), (2, 120), (3, 121), (4, 122), (5, 123), (6, 124), (7, 125), (8, 126), (9, 127), (10, 128), (11, 129), (12, 130), (13, 131), (14, 132), (15, 133), (16, 134), (17, 135), (18, 136), (19, 137), (20, 138), (21, 139), (22, 140), (23, 141), (24, 142), (25, 143), (26, 144), (27, 145), (28, 146), (29, 147), (30, 148), (31, 149), (32, 150), (33, 151), (34, 152), (35, 153), (36, 154), (37, 155), (38, 156), (39, 157), (40, 158), (41, 159), (42, 160), (43, 161), (44, 162), (45, 163), (46, 164), (47, 165), (48, 166), (49, 167), (50, 168), (51, 169), (52, 170), (53, 171), (54, 172), (55, 173), (56, 174), (57, 175), (58, 176), (59, 177), (60, 178), (61, 179), (62, 180), (63, 181), (64, 182), (65, 183), (66, 184), (67, 185)] 188 = true := by kernel_rfl
  refine reg_flow [(0, 118), (1, 119), (2, 120), (3, 121), (4, 122), (5, 123), (6, 124), (7, 125), (8, 126), (9, 127), (10, 128), (11, 129), (12, 130), (13, 131), (14, 132), (15, 133), (16, 134), (17, 135), (18, 136), (19, 137), (20, 138), (21, 139), (22, 140), (23, 141), (24, 142), (25, 143), (26, 144), (27, 145), (28, 146), (29, 147), (30, 148), (31, 149), (32, 150), (33, 151), (34, 152), (35, 153), (36, 154), (37, 155), (38, 156), (39, 157), (40, 158), (41, 159), (42, 160), (43, 161), (44, 162), (45, 163), (46, 164), (47, 165), (48, 166), (49, 167), (50, 168), (51, 169), (52, 170), (53, 171), (54, 172), (55, 173), (56, 174), (57, 175), (58, 176), (59, 177), (60, 178), (61, 179), (62, 180), (63, 181), (64, 182), (65, 183), (66, 184), (67, 185)] (by kernel_rfl) (by kernel_rfl) hD (by kernel_rfl) (by kernel_rfl)
    (fun q0 x W => match q0 with
      | 0 => x = .slice (some ⟨bz, oz, none⟩) N cZ
      | 1 => x = .int .i64 i
      | 2 => x = .pointer (some ⟨bz, oz + i * 6, none⟩)
      | 3 => x = .pointer (some ⟨bz, oz + i * 6, none⟩)
      | 4 => x = .bool true
      | 5 => x = .bool false
      | 6 => x = .bool false
      | 7 => x = .slice (some ⟨bz, oz, none⟩) N cZ
      | 8 => x = .int .i64 i
      | 9 => x = .pointer (some ⟨bz, oz + i * 6, none⟩)
      | 10 => x = .pointer (some ⟨bz, oz + i * 6 + 3, none⟩)
      | 11 => x = .int .i64 ((i : Int) + 1)
      | 12 => x = .int .i64 i
      | 13 => x = .int .i64 ((i : Int) + 1)
      | 14 => x = .bool false
      | 15 => x = .bool false
      | 16 => x = .bool false
      | 17 => x = .pointer (some ⟨g0, 1, none⟩)
      | 18 => x = .int .i64 i
      | 19 => x = .int .i64 i
      | 20 => x = .bool false
      | 21 => x = .bool false
      | 22 => x = .bool false
      | 23 => x = .pointer (some ⟨g1, 0, none⟩)
      | 24 => x = .bool true
      | 25 => x = .bool false
      | 26 => x = .bool false
      | 27 => x = .bool false
      | 28 => x = .pointer (some ⟨g1, 2, none⟩)
      | 29 => x = .int .i64 i
      | 30 => x = .int .i64 i
      | 31 => x = .bool false
      | 32 => x = .bool false
      | 33 => x = .bool false
      | 34 => x = .pointer (some ⟨g2, 0, none⟩)
      | 35 => x = .bool false
      | 36 => x = .bool false
      | 37 => x = .bool false
      | 38 => x = .pointer (some ⟨g2, 3, none⟩)
      | 39 => x = .int .i64 n
      | 40 => x = .int .i64 n
      | 41 => x = .bool false
      | 42 => x = .bool false
      | 43 => x = .bool false
      | 44 => x = .pointer (some ⟨g3, 0, none⟩)
      | 45 => x = .bool true
      | 46 => x = .bool false
      | 47 => x = .bool false
      | 48 => x = .bool false
      | 49 => x = .pointer (some ⟨g3, 3, none⟩)
      | 50 => x = .int .i64 ((n : Int) - 1 - i)
      | 51 => x = .int .i64 n
      | 52 => x = .int .i64 ((n : Int) - 1)
      | 53 => x = .int .i64 i
      | 54 => x = .int .i64 ((n : Int) - 1 - i)
      | 55 => x = .bool false
      | 56 => x = .bool false
      | 57 => x = .bool false
      | 58 => x = .pointer (some ⟨g3, 4, none⟩)
      | 59 => x = .slice A3 n3 c3
      | 60 => x = .int .i64 i
      | 61 => x = .int .u8 t
      | 62 => x = .int .i64 t
      | 63 => x = .int .i64 ((i : Int) + t)
      | 64 => x = .int .i64 n
      | 65 => x = .int .i64 q
      | 66 => x = .bool false
      | 67 => x = .bool false
      | _ => True)
    (fun b v W1 => W1 = W.drew) (fun _ _ => True) ?_ ?_ ?_ ?_
  · intro q0 x wa wb _ h; exact h
  · intro v; rfl
  · intro q0 hq0
    match q0, hq0 with
    | 0, _ =>
      exact flow_pure hD (fun _ => trivial) (.move (.tmp 11)) 45 rfl fun b v W1 ρ h => ⟨_, by
        have x0 := h.off 11 (by kernel_rfl)
        unfold opRun
        go_simp
        , rfl, h.glob⟩
    | 1, _ =>
      exact flow_pure hD (fun _ => trivial) (.move (.tmp 12)) 3 rfl fun b v W1 ρ h => ⟨_, by
        have x0 := h.off 12 (by kernel_rfl)
        unfold opRun
        go_simp
        , rfl, h.glob⟩
    | 2, _ =>
      exact flow_pure hD (fun _ => trivial) (.indexAddr 45 (.tmp 118) (.tmp 119)) 0 rfl fun b v W1 ρ h => ⟨_, by
        have x0 := (h.on 0 118 (by kernel_rfl) (h.dep 0 (by kernel_rfl))).trans (h.have_ 0 (by kernel_rfl))
        have x1 := (h.on 1 119 (by kernel_rfl) (h.dep 1 (by kernel_rfl))).trans (h.have_ 1 (by kernel_rfl))
        unfold opRun
        go_simp
        try (intro h9; omega)
        , rfl, h.glob⟩
    | 3, _ =>
      exact flow_pure hD (fun _ => trivial) (.fieldAddr 49 (.tmp 120) 0) 0 rfl fun b v W1 ρ h => ⟨_, by
        have x0 := (h.on 2 120 (by kernel_rfl) (h.dep 2 (by kernel_rfl))).trans (h.have_ 2 (by kernel_rfl))
        unfold opRun
        go_simp
        , rfl, h.glob⟩
    | 4, _ =>
      exact flow_pure hD (fun _ => trivial) (.load 4 (.tmp 121)) 4 rfl fun b v W1 ρ h => ⟨_, by
        have x0 := (h.on 3 121 (by kernel_rfl) (h.dep 3 (by kernel_rfl))).trans (h.have_ 3 (by kernel_rfl))
        have c9 : W1.cell? ⟨bz, oz + i * 6, none⟩ = some (.bool true) := by rw [h.glob]; exact a0
        unfold opRun
        go_simp
        , rfl, h.glob⟩
    | 5, _ =>
      exact flow_pure hD (fun _ => trivial) (.unOp .not 4 (.tmp 122)) 4 rfl fun b v W1 ρ h => ⟨_, by
        have x0 := (h.on 4 122 (by kernel_rfl) (h.dep 4 (by kernel_rfl))).trans (h.have_ 4 (by kernel_rfl))
        unfold opRun
        go_simp
        , rfl, h.glob⟩
    | 6, _ =>
      exact flow_pure hD (fun _ => trivial) (.move (.tmp 123)) 4 rfl fun b v W1 ρ h => ⟨_, by
        have x0 := (h.on 5 123 (by kernel_rfl) (h.dep 5 (by kernel_rfl))).trans (h.have_ 5 (by kernel_rfl))
        unfold opRun
        go_simp
        , rfl, h.glob⟩
    | 7, _ =>
      exact flow_pure_g hD (fun _ => trivial) (.move (.tmp 11)) 45 6 124 false rfl (by kernel_rfl) rfl (by kernel_rfl) (fun x w h => h) fun b v W1 ρ h => ⟨_, by
        have x0 := h.off 11 (by kernel_rfl)
        unfold opRun
        go_simp
        , rfl, h.glob⟩
    | 8, _ =>
      exact flow_pure_g hD (fun _ => trivial) (.move (.tmp 12)) 3 6 124 false rfl (by kernel_rfl) rfl (by kernel_rfl) (fun x w h => h) fun b v W1 ρ h => ⟨_, by
        have x0 := h.off 12 (by kernel_rfl)
        unfold opRun
        go_simp
        , rfl, h.glob⟩
    | 9, _ =>
      exact flow_pure_g hD (fun _ => trivial) (.indexAddr 45 (.tmp 125) (.tmp 126)) 0 6 124 false rfl (by kernel_rfl) rfl (by kernel_rfl) (fun x w h => h) fun b v W1 ρ h => ⟨_, by
        have x0 := (h.on 7 125 (by kernel_rfl) (h.dep 7 (by kernel_rfl))).trans (h.have_ 7 (by kernel_rfl))
        have x1 := (h.on 8 126 (by kernel_rfl) (h.dep 8 (by kernel_rfl))).trans (h.have_ 8 (by kernel_rfl))
        unfold opRun
        go_simp
        try (intro h9; omega)
        , rfl, h.glob⟩
    | 10, _ =>
      exact flow_pure_g hD (fun _ => trivial) (.fieldAddr 49 (.tmp 127) 3) 0 6 124 false rfl (by kernel_rfl) rfl (by kernel_rfl) (fun x w h => h) fun b v W1 ρ h => ⟨_, by
        have x0 := (h.on 9 127 (by kernel_rfl) (h.dep 9 (by kernel_rfl))).trans (h.have_ 9 (by kernel_rfl))
        unfold opRun
        go_simp
        , rfl, h.glob⟩
    | 11, _ =>
      exact flow_pure_g hD (fun _ => trivial) (.load 3 (.tmp 128)) 3 6 124 false rfl (by kernel_rfl) rfl (by kernel_rfl) (fun x w h => h) fun b v W1 ρ h => ⟨_, by
        have x0 := (h.on 10 128 (by kernel_rfl) (h.dep 10 (by kernel_rfl))).trans (h.have_ 10 (by kernel_rfl))
        have c9 : W1.cell? ⟨bz, oz + i * 6 + 3, none⟩ = some (.int .i64 ((i : Int) + 1)) := by rw [h.glob]; exact a3
        unfold opRun
        go_simp
        , rfl, h.glob⟩
    | 12, _ =>
      exact flow_pure_g hD (fun _ => trivial) (.move (.tmp 12)) 3 6 124 false rfl (by kernel_rfl) rfl (by kernel_rfl) (fun x w h => h) fun b v W1 ρ h => ⟨_, by
        have x0 := h.off 12 (by kernel_rfl)
        unfold opRun
        go_simp
        , rfl, h.glob⟩
    | 13, _ =>
      exact flow_pure_g hD (fun _ => trivial) (.binOp .add 3 (.tmp 130) (.const (.int .i64 1)) 3) 3 6 124 false rfl (by kernel_rfl) rfl (by kernel_rfl) (fun x w h => h) fun b v W1 ρ h => ⟨_, by
        have x0 := (h.on 12 130 (by kernel_rfl) (h.dep 12 (by kernel_rfl))).trans (h.have_ 12 (by kernel_rfl))
        have y0 := h.cst (.int .i64 1)
        unfold opRun
        go_simp
        , rfl, h.glob⟩
    | 14, _ =>
      exact flow_pure_g hD (fun _ => trivial) (.binOp .neq 3 (.tmp 129) (.tmp 131) 3) 4 6 124 false rfl (by kernel_rfl) rfl (by kernel_rfl) (fun x w h => h) fun b v W1 ρ h => ⟨_, by
        have x0 := (h.on 11 129 (by kernel_rfl) (h.dep 11 (by kernel_rfl))).trans (h.have_ 11 (by kernel_rfl))
        have x1 := (h.on 13 131 (by kernel_rfl) (h.dep 13 (by kernel_rfl))).trans (h.have_ 13 (by kernel_rfl))
        unfold opRun
        go_simp
        , rfl, h.glob⟩
    | 15, _ =>
      exact flow_pure hD (fun _ => trivial) (.pick (.tmp 124) (.const (.bool true)) (.tmp 132)) 4 rfl fun b v W1 ρ h => ⟨_, by
        have x0 := (h.on 6 124 (by kernel_rfl) (h.dep 6 (by kernel_rfl))).trans (h.have_ 6 (by kernel_rfl))
        have x1 := (h.on 14 132 (by kernel_rfl) (h.dep 14 (by kernel_rfl))).trans (h.have_ 14 (by kernel_rfl))
        have y0 := h.cst (.bool true)
        unfold opRun
        go_simp
        , rfl, h.glob⟩
    | 16, _ =>
      exact flow_pure hD (fun _ => trivial) (.move (.tmp 133)) 4 rfl fun b v W1 ρ h => ⟨_, by
        have x0 := (h.on 15 133 (by kernel_rfl) (h.dep 15 (by kernel_rfl))).trans (h.have_ 15 (by kernel_rfl))
        unfold opRun
        go_simp
        , rfl, h.glob⟩
    | 17, _ =>
      exact flow_pure_g hD (fun _ => trivial) (.fieldAddr 49 (.tmp 13) 1) 0 16 134 false rfl (by kernel_rfl) rfl (by kernel_rfl) (fun x w h => h) fun b v W1 ρ h => ⟨_, by
        have x0 := h.off 13 (by kernel_rfl)
        unfold opRun
        go_simp
        , rfl, h.glob⟩
    | 18, _ =>
      exact flow_pure_g hD (fun _ => trivial) (.load 3 (.tmp 135)) 3 16 134 false rfl (by kernel_rfl) rfl (by kernel_rfl) (fun x w h => h) fun b v W1 ρ h => ⟨_, by
        have x0 := (h.on 17 135 (by kernel_rfl) (h.dep 17 (by kernel_rfl))).trans (h.have_ 17 (by kernel_rfl))
        have c9 : W1.cell? ⟨g0, 1, none⟩ = some (.int .i64 i) := by rw [h.glob]; exact b1
        unfold opRun
        go_simp
        , rfl, h.glob⟩
    | 19, _ =>
      exact flow_pure_g hD (fun _ => trivial) (.move (.tmp 12)) 3 16 134 false rfl (by kernel_rfl) rfl (by kernel_rfl) (fun x w h => h) fun b v W1 ρ h => ⟨_, by
        have x0 := h.off 12 (by kernel_rfl)
        unfold opRun
        go_simp
        , rfl, h.glob⟩
    | 20, _ =>
      exact flow_pure_g hD (fun _ => trivial) (.binOp .neq 3 (.tmp 136) (.tmp 137) 3) 4 16 134 false rfl (by kernel_rfl) rfl (by kernel_rfl) (fun x w h => h) fun b v W1 ρ h => ⟨_, by
        have x0 := (h.on 18 136 (by kernel_rfl) (h.dep 18 (by kernel_rfl))).trans (h.have_ 18 (by kernel_rfl))
        have x1 := (h.on 19 137 (by kernel_rfl) (h.dep 19 (by kernel_rfl))).trans (h.have_ 19 (by kernel_rfl))
        unfold opRun
        go_simp
        , rfl, h.glob⟩
    | 21, _ =>
      exact flow_pure hD (fun _ => trivial) (.pick (.tmp 134) (.const (.bool true)) (.tmp 138)) 4 rfl fun b v W1 ρ h => ⟨_, by
        have x0 := (h.on 16 134 (by kernel_rfl) (h.dep 16 (by kernel_rfl))).trans (h.have_ 16 (by kernel_rfl))
        have x1 := (h.on 20 138 (by kernel_rfl) (h.dep 20 (by kernel_rfl))).trans (h.have_ 20 (by kernel_rfl))
        have y0 := h.cst (.bool true)
        unfold opRun
        go_simp
        , rfl, h.glob⟩
    | 22, _ =>
      exact flow_pure hD (fun _ => trivial) (.move (.tmp 139)) 4 rfl fun b v W1 ρ h => ⟨_, by
        have x0 := (h.on 21 139 (by kernel_rfl) (h.dep 21 (by kernel_rfl))).trans (h.have_ 21 (by kernel_rfl))
        unfold opRun
        go_simp
        , rfl, h.glob⟩
    | 23, _ =>
      exact flow_pure_g hD (fun _ => trivial) (.fieldAddr 49 (.tmp 14) 0) 0 22 140 false rfl (by kernel_rfl) rfl (by kernel_rfl) (fun x w h => h) fun b v W1 ρ h => ⟨_, by
        have x0 := h.off 14 (by kernel_rfl)
        unfold opRun
        go_simp
        , rfl, h.glob⟩
    | 24, _ =>
      exact flow_pure_g hD (fun _ => trivial) (.load 4 (.tmp 141)) 4 22 140 false rfl (by kernel_rfl) rfl (by kernel_rfl) (fun x w h => h) fun b v W1 ρ h => ⟨_, by
        have x0 := (h.on 23 141 (by kernel_rfl) (h.dep 23 (by kernel_rfl))).trans (h.have_ 23 (by kernel_rfl))
        have c9 : W1.cell? ⟨g1, 0, none⟩ = some (.bool true) := by rw [h.glob]; exact d0
        unfold opRun
        go_simp
        , rfl, h.glob⟩
    | 25, _ =>
      exact flow_pure_g hD (fun _ => trivial) (.unOp .not 4 (.tmp 142)) 4 22 140 false rfl (by kernel_rfl) rfl (by kernel_rfl) (fun x w h => h) fun b v W1 ρ h => ⟨_, by
        have x0 := (h.on 24 142 (by kernel_rfl) (h.dep 24 (by kernel_rfl))).trans (h.have_ 24 (by kernel_rfl))
        unfold opRun
        go_simp
        , rfl, h.glob⟩
    | 26, _ =>
      exact flow_pure hD (fun _ => trivial) (.pick (.tmp 140) (.const (.bool true)) (.tmp 143)) 4 rfl fun b v W1 ρ h => ⟨_, by
        have x0 := (h.on 22 140 (by kernel_rfl) (h.dep 22 (by kernel_rfl))).trans (h.have_ 22 (by kernel_rfl))
        have x1 := (h.on 25 143 (by kernel_rfl) (h.dep 25 (by kernel_rfl))).trans (h.have_ 25 (by kernel_rfl))
        have y0 := h.cst (.bool true)
        unfold opRun
        go_simp
        , rfl, h.glob⟩
    | 27, _ =>
      exact flow_pure hD (fun _ => trivial) (.move (.tmp 144)) 4 rfl fun b v W1 ρ h => ⟨_, by
        have x0 := (h.on 26 144 (by kernel_rfl) (h.dep 26 (by kernel_rfl))).trans (h.have_ 26 (by kernel_rfl))
        unfold opRun
        go_simp
        , rfl, h.glob⟩
    | 28, _ =>
      exact flow_pure_g hD (fun _ => trivial) (.fieldAddr 49 (.tmp 14) 2) 0 27 145 false rfl (by kernel_rfl) rfl (by kernel_rfl) (fun x w h => h) fun b v W1 ρ h => ⟨_, by
        have x0 := h.off 14 (by kernel_rfl)
        unfold opRun
        go_simp
        , rfl, h.glob⟩
    | 29, _ =>
      exact flow_pure_g hD (fun _ => trivial) (.load 3 (.tmp 146)) 3 27 145 false rfl (by kernel_rfl) rfl (by kernel_rfl) (fun x w h => h) fun b v W1 ρ h => ⟨_, by
        have x0 := (h.on 28 146 (by kernel_rfl) (h.dep 28 (by kernel_rfl))).trans (h.have_ 28 (by kernel_rfl))
        have c9 : W1.cell? ⟨g1, 2, none⟩ = some (.int .i64 i) := by rw [h.glob]; exact d2
        unfold opRun
        go_simp
        , rfl, h.glob⟩
    | 30, _ =>
      exact flow_pure_g hD (fun _ => trivial) (.move (.tmp 12)) 3 27 145 false rfl (by kernel_rfl) rfl (by kernel_rfl) (fun x w h => h) fun b v W1 ρ h => ⟨_, by
        have x0 := h.off 12 (by kernel_rfl)
        unfold opRun
        go_simp
        , rfl, h.glob⟩
    | 31, _ =>
      exact flow_pure_g hD (fun _ => trivial) (.binOp .neq 3 (.tmp 147) (.tmp 148) 3) 4 27 145 false rfl (by kernel_rfl) rfl (by kernel_rfl) (fun x w h => h) fun b v W1 ρ h => ⟨_, by
        have x0 := (h.on 29 147 (by kernel_rfl) (h.dep 29 (by kernel_rfl))).trans (h.have_ 29 (by kernel_rfl))
        have x1 := (h.on 30 148 (by kernel_rfl) (h.dep 30 (by kernel_rfl))).trans (h.have_ 30 (by kernel_rfl))
        unfold opRun
        go_simp
        , rfl, h.glob⟩
    | 32, _ =>
      exact flow_pure hD (fun _ => trivial) (.pick (.tmp 145) (.const (.bool true)) (.tmp 149)) 4 rfl fun b v W1 ρ h => ⟨_, by
        have x0 := (h.on 27 145 (by kernel_rfl) (h.dep 27 (by kernel_rfl))).trans (h.have_ 27 (by kernel_rfl))
        have x1 := (h.on 31 149 (by kernel_rfl) (h.dep 31 (by kernel_rfl))).trans (h.have_ 31 (by kernel_rfl))
        have y0 := h.cst (.bool true)
        unfold opRun
        go_simp
        , rfl, h.glob⟩
    | 33, _ =>
      exact flow_pure hD (fun _ => trivial) (.move (.tmp 150)) 4 rfl fun b v W1 ρ h => ⟨_, by
        have x0 := (h.on 32 150 (by kernel_rfl) (h.dep 32 (by kernel_rfl))).trans (h.have_ 32 (by kernel_rfl))
        unfold opRun
        go_simp
        , rfl, h.glob⟩
    | 34, _ =>
      exact flow_pure_g hD (fun _ => trivial) (.fieldAddr 49 (.tmp 15) 0) 0 33 151 false rfl (by kernel_rfl) rfl (by kernel_rfl) (fun x w h => h) fun b v W1 ρ h => ⟨_, by
        have x0 := h.off 15 (by kernel_rfl)
        unfold opRun
        go_simp
        , rfl, h.glob⟩
    | 35, _ =>
      exact flow_pure_g hD (fun _ => trivial) (.load 4 (.tmp 152)) 4 33 151 false rfl (by kernel_rfl) rfl (by kernel_rfl) (fun x w h => h) fun b v W1 ρ h => ⟨_, by
        have x0 := (h.on 34 152 (by kernel_rfl) (h.dep 34 (by kernel_rfl))).trans (h.have_ 34 (by kernel_rfl))
        have c9 : W1.cell? ⟨g2, 0, none⟩ = some (.bool false) := by rw [h.glob]; exact e0
        unfold opRun
        go_simp
        , rfl, h.glob⟩
    | 36, _ =>
      exact flow_pure hD (fun _ => trivial) (.pick (.tmp 151) (.const (.bool true)) (.tmp 153)) 4 rfl fun b v W1 ρ h => ⟨_, by
        have x0 := (h.on 33 151 (by kernel_rfl) (h.dep 33 (by kernel_rfl))).trans (h.have_ 33 (by kernel_rfl))
        have x1 := (h.on 35 153 (by kernel_rfl) (h.dep 35 (by kernel_rfl))).trans (h.have_ 35 (by kernel_rfl))
        have y0 := h.cst (.bool true)
        unfold opRun
        go_simp
        , rfl, h.glob⟩
    | 37, _ =>
      exact flow_pure hD (fun _ => trivial) (.move (.tmp 154)) 4 rfl fun b v W1 ρ h => ⟨_, by
        have x0 := (h.on 36 154 (by kernel_rfl) (h.dep 36 (by kernel_rfl))).trans (h.have_ 36 (by kernel_rfl))
        unfold opRun
        go_simp
        , rfl, h.glob⟩
    | 38, _ =>
      exact flow_pure_g hD (fun _ => trivial) (.fieldAddr 49 (.tmp 15) 3) 0 37 155 false rfl (by kernel_rfl) rfl (by kernel_rfl) (fun x w h => h) fun b v W1 ρ h => ⟨_, by
        have x0 := h.off 15 (by kernel_rfl)
        unfold opRun
        go_simp
        , rfl, h.glob⟩
    | 39, _ =>
      exact flow_pure_g hD (fun _ => trivial) (.load 3 (.tmp 156)) 3 37 155 false rfl (by kernel_rfl) rfl (by kernel_rfl) (fun x w h => h) fun b v W1 ρ h => ⟨_, by
        have x0 := (h.on 38 156 (by kernel_rfl) (h.dep 38 (by kernel_rfl))).trans (h.have_ 38 (by kernel_rfl))
        have c9 : W1.cell? ⟨g2, 3, none⟩ = some (.int .i64 n) := by rw [h.glob]; exact e3
        unfold opRun
        go_simp
        , rfl, h.glob⟩
    | 40, _ =>
      exact flow_pure_g hD (fun _ => trivial) (.move (.tmp 6)) 3 37 155 false rfl (by kernel_rfl) rfl (by kernel_rfl) (fun x w h => h) fun b v W1 ρ h => ⟨_, by
        have x0 := h.off 6 (by kernel_rfl)
        unfold opRun
        go_simp
        , rfl, h.glob⟩
    | 41, _ =>
      exact flow_pure_g hD (fun _ => trivial) (.binOp .neq 3 (.tmp 157) (.tmp 158) 3) 4 37 155 false rfl (by kernel_rfl) rfl (by kernel_rfl) (fun x w h => h) fun b v W1 ρ h => ⟨_, by
        have x0 := (h.on 39 157 (by kernel_rfl) (h.dep 39 (by kernel_rfl))).trans (h.have_ 39 (by kernel_rfl))
        have x1 := (h.on 40 158 (by kernel_rfl) (h.dep 40 (by kernel_rfl))).trans (h.have_ 40 (by kernel_rfl))
        unfold opRun
        go_simp
        , rfl, h.glob⟩
    | 42, _ =>
      exact flow_pure hD (fun _ => trivial) (.pick (.tmp 155) (.const (.bool true)) (.tmp 159)) 4 rfl fun b v W1 ρ h => ⟨_, by
        have x0 := (h.on 37 155 (by kernel_rfl) (h.dep 37 (by kernel_rfl))).trans (h.have_ 37 (by kernel_rfl))
        have x1 := (h.on 41 159 (by kernel_rfl) (h.dep 41 (by kernel_rfl))).trans (h.have_ 41 (by kernel_rfl))
        have y0 := h.cst (.bool true)
        unfold opRun
        go_simp
        , rfl, h.glob⟩
    | 43, _ =>
      exact flow_pure hD (fun _ => trivial) (.move (.tmp 160)) 4 rfl fun b v W1 ρ h => ⟨_, by
        have x0 := (h.on 42 160 (by kernel_rfl) (h.dep 42 (by kernel_rfl))).trans (h.have_ 42 (by kernel_rfl))
        unfold opRun
        go_simp
        , rfl, h.glob⟩
    | 44, _ =>
      exact flow_pure_g hD (fun _ => trivial) (.fieldAddr 49 (.tmp 16) 0) 0 43 161 false rfl (by kernel_rfl) rfl (by kernel_rfl) (fun x w h => h) fun b v W1 ρ h => ⟨_, by
        have x0 := h.off 16 (by kernel_rfl)
        unfold opRun
        go_simp
        , rfl, h.glob⟩
    | 45, _ =>
      exact flow_pure_g hD (fun _ => trivial) (.load 4 (.tmp 162)) 4 43 161 false rfl (by kernel_rfl) rfl (by kernel_rfl) (fun x w h => h) fun b v W1 ρ h => ⟨_, by
        have x0 := (h.on 44 162 (by kernel_rfl) (h.dep 44 (by kernel_rfl))).trans (h.have_ 44 (by kernel_rfl))
        have c9 : W1.cell? ⟨g3, 0, none⟩ = some (.bool true) := by rw [h.glob]; exact f0
        unfold opRun
        go_simp
        , rfl, h.glob⟩
    | 46, _ =>
      exact flow_pure_g hD (fun _ => trivial) (.unOp .not 4 (.tmp 163)) 4 43 161 false rfl (by kernel_rfl) rfl (by kernel_rfl) (fun x w h => h) fun b v W1 ρ h => ⟨_, by
        have x0 := (h.on 45 163 (by kernel_rfl) (h.dep 45 (by kernel_rfl))).trans (h.have_ 45 (by kernel_rfl))
        unfold opRun
        go_simp
        , rfl, h.glob⟩
    | 47, _ =>
      exact flow_pure hD (fun _ => trivial) (.pick (.tmp 161) (.const (.bool true)) (.tmp 164)) 4 rfl fun b v W1 ρ h => ⟨_, by
        have x0 := (h.on 43 161 (by kernel_rfl) (h.dep 43 (by kernel_rfl))).trans (h.have_ 43 (by kernel_rfl))
        have x1 := (h.on 46 164 (by kernel_rfl) (h.dep 46 (by kernel_rfl))).trans (h.have_ 46 (by kernel_rfl))
        have y0 := h.cst (.bool true)
        unfold opRun
        go_simp
        , rfl, h.glob⟩
    | 48, _ =>
      exact flow_pure hD (fun _ => trivial) (.move (.tmp 165)) 4 rfl fun b v W1 ρ h => ⟨_, by
        have x0 := (h.on 47 165 (by kernel_rfl) (h.dep 47 (by kernel_rfl))).trans (h.have_ 47 (by kernel_rfl))
        unfold opRun
        go_simp
        , rfl, h.glob⟩
    | 49, _ =>
      exact flow_pure_g hD (fun _ => trivial) (.fieldAddr 49 (.tmp 16) 3) 0 48 166 false rfl (by kernel_rfl) rfl (by kernel_rfl) (fun x w h => h) fun b v W1 ρ h => ⟨_, by
        have x0 := h.off 16 (by kernel_rfl)
        unfold opRun
        go_simp
        , rfl, h.glob⟩
    | 50, _ =>
      exact flow_pure_g hD (fun _ => trivial) (.load 3 (.tmp 167)) 3 48 166 false rfl (by kernel_rfl) rfl (by kernel_rfl) (fun x w h => h) fun b v W1 ρ h => ⟨_, by
        have x0 := (h.on 49 167 (by kernel_rfl) (h.dep 49 (by kernel_rfl))).trans (h.have_ 49 (by kernel_rfl))
        have c9 : W1.cell? ⟨g3, 3, none⟩ = some (.int .i64 ((n : Int) - 1 - i)) := by rw [h.glob]; exact f3
        unfold opRun
        go_simp
        , rfl, h.glob⟩
    | 51, _ =>
      exact flow_pure_g hD (fun _ => trivial) (.move (.tmp 6)) 3 48 166 false rfl (by kernel_rfl) rfl (by kernel_rfl) (fun x w h => h) fun b v W1 ρ h => ⟨_, by
        have x0 := h.off 6 (by kernel_rfl)
        unfold opRun
        go_simp
        , rfl, h.glob⟩
    | 52, _ =>
      exact flow_pure_g hD (fun _ => trivial) (.binOp .sub 3 (.tmp 169) (.const (.int .i64 1)) 3) 3 48 166 false rfl (by kernel_rfl) rfl (by kernel_rfl) (fun x w h => h) fun b v W1 ρ h => ⟨_, by
        have x0 := (h.on 51 169 (by kernel_rfl) (h.dep 51 (by kernel_rfl))).trans (h.have_ 51 (by kernel_rfl))
        have y0 := h.cst (.int .i64 1)
        unfold opRun
        go_simp
        , rfl, h.glob⟩
    | 53, _ =>
      exact flow_pure_g hD (fun _ => trivial) (.move (.tmp 12)) 3 48 166 false rfl (by kernel_rfl) rfl (by kernel_rfl) (fun x w h => h) fun b v W1 ρ h => ⟨_, by
        have x0 := h.off 12 (by kernel_rfl)
        unfold opRun
        go_simp
        , rfl, h.glob⟩
    | 54, _ =>
      exact flow_pure_g hD (fun _ => trivial) (.binOp .sub 3 (.tmp 170) (.tmp 171) 3) 3 48 166 false rfl (by kernel_rfl) rfl (by kernel_rfl) (fun x w h => h) fun b v W1 ρ h => ⟨_, by
        have x0 := (h.on 52 170 (by kernel_rfl) (h.dep 52 (by kernel_rfl))).trans (h.have_ 52 (by kernel_rfl))
        have x1 := (h.on 53 171 (by kernel_rfl) (h.dep 53 (by kernel_rfl))).trans (h.have_ 53 (by kernel_rfl))
        unfold opRun
        go_simp
        , rfl, h.glob⟩
    | 55, _ =>
      exact flow_pure_g hD (fun _ => trivial) (.binOp .neq 3 (.tmp 168) (.tmp 172) 3) 4 48 166 false rfl (by kernel_rfl) rfl (by kernel_rfl) (fun x w h => h) fun b v W1 ρ h => ⟨_, by
        have x0 := (h.on 50 168 (by kernel_rfl) (h.dep 50 (by kernel_rfl))).trans (h.have_ 50 (by kernel_rfl))
        have x1 := (h.on 54 172 (by kernel_rfl) (h.dep 54 (by kernel_rfl))).trans (h.have_ 54 (by kernel_rfl))
        unfold opRun
        go_simp
        , rfl, h.glob⟩
    | 56, _ =>
      exact flow_pure hD (fun _ => trivial) (.pick (.tmp 166) (.const (.bool true)) (.tmp 173)) 4 rfl fun b v W1 ρ h => ⟨_, by
        have x0 := (h.on 48 166 (by kernel_rfl) (h.dep 48 (by kernel_rfl))).trans (h.have_ 48 (by kernel_rfl))
        have x1 := (h.on 55 173 (by kernel_rfl) (h.dep 55 (by kernel_rfl))).trans (h.have_ 55 (by kernel_rfl))
        have y0 := h.cst (.bool true)
        unfold opRun
        go_simp
        , rfl, h.glob⟩
    | 57, _ =>
      exact flow_pure hD (fun _ => trivial) (.move (.tmp 174)) 4 rfl fun b v W1 ρ h => ⟨_, by
        have x0 := (h.on 56 174 (by kernel_rfl) (h.dep 56 (by kernel_rfl))).trans (h.have_ 56 (by kernel_rfl))
        unfold opRun
        go_simp
        , rfl, h.glob⟩
    | 58, _ =>
      exact flow_pure_g hD (fun _ => trivial) (.fieldAddr 49 (.tmp 16) 4) 0 57 175 false rfl (by kernel_rfl) rfl (by kernel_rfl) (fun x w h => h) fun b v W1 ρ h => ⟨_, by
        have x0 := h.off 16 (by kernel_rfl)
        unfold opRun
        go_simp
        , rfl, h.glob⟩
    | 59, _ =>
      exact flow_pure_g hD (fun _ => trivial) (.load 47 (.tmp 176)) 47 57 175 false rfl (by kernel_rfl) rfl (by kernel_rfl) (fun x w h => h) fun b v W1 ρ h => ⟨_, by
        have x0 := (h.on 58 176 (by kernel_rfl) (h.dep 58 (by kernel_rfl))).trans (h.have_ 58 (by kernel_rfl))
        have c9 : W1.cell? ⟨g3, 4, none⟩ = some (.slice A3 n3 c3) := by rw [h.glob]; exact f4
        unfold opRun
        go_simp
        , rfl, h.glob⟩
    | 60, _ =>
      exact flow_pure_g hD (fun _ => trivial) (.move (.tmp 12)) 3 57 175 false rfl (by kernel_rfl) rfl (by kernel_rfl) (fun x w h => h) fun b v W1 ρ h => ⟨_, by
        have x0 := h.off 12 (by kernel_rfl)
        unfold opRun
        go_simp
        , rfl, h.glob⟩
    | 61, _ =>
      exact flow_pure_g hD (fun _ => trivial) (.move (.tmp 1)) 5 57 175 false rfl (by kernel_rfl) rfl (by kernel_rfl) (fun x w h => h) fun b v W1 ρ h => ⟨_, by
        have x0 := h.off 1 (by kernel_rfl)
        unfold opRun
        go_simp
        , rfl, h.glob⟩
    | 62, _ =>
      exact flow_pure_g hD (fun _ => trivial) (.convert 5 3 (.tmp 179)) 3 57 175 false rfl (by kernel_rfl) rfl (by kernel_rfl) (fun x w h => h) fun b v W1 ρ h => ⟨_, by
        have x0 := (h.on 61 179 (by kernel_rfl) (h.dep 61 (by kernel_rfl))).trans (h.have_ 61 (by kernel_rfl))
        unfold opRun
        go_simp
        , rfl, h.glob⟩
    | 63, _ =>
      exact flow_pure_g hD (fun _ => trivial) (.binOp .add 3 (.tmp 178) (.tmp 180) 3) 3 57 175 false rfl (by kernel_rfl) rfl (by kernel_rfl) (fun x w h => h) fun b v W1 ρ h => ⟨_, by
        have x0 := (h.on 60 178 (by kernel_rfl) (h.dep 60 (by kernel_rfl))).trans (h.have_ 60 (by kernel_rfl))
        have x1 := (h.on 62 180 (by kernel_rfl) (h.dep 62 (by kernel_rfl))).trans (h.have_ 62 (by kernel_rfl))
        unfold opRun
        go_simp
        , rfl, h.glob⟩
    | 64, _ =>
      exact flow_pure_g hD (fun _ => trivial) (.move (.tmp 6)) 3 57 175 false rfl (by kernel_rfl) rfl (by kernel_rfl) (fun x w h => h) fun b v W1 ρ h => ⟨_, by
        have x0 := h.off 6 (by kernel_rfl)
        unfold opRun
        go_simp
        , rfl, h.glob⟩
    | 65, _ =>
      exact flow_pure_g hD (fun _ => trivial) (.binOp .rem 3 (.tmp 181) (.tmp 182) 3) 3 57 175 false rfl (by kernel_rfl) rfl (by kernel_rfl) (fun x w h => h) fun b v W1 ρ h => ⟨_, by
        have x0 := (h.on 63 181 (by kernel_rfl) (h.dep 63 (by kernel_rfl))).trans (h.have_ 63 (by kernel_rfl))
        have x1 := (h.on 64 182 (by kernel_rfl) (h.dep 64 (by kernel_rfl))).trans (h.have_ 64 (by kernel_rfl))
        unfold opRun
        go_simp
        , rfl, h.glob⟩
    | 66, _ =>
      exact flow_call_g hD (.call { callee := .value (.func 18), args := #[.tmp 177, .tmp 183], argTypes := #[47, 3] }) 4 57 175 false rfl (by kernel_rfl) rfl (by kernel_rfl) (fun x w h => h) 18 fun b v W1 ρ h => by
        have x0 := (h.on 59 177 (by kernel_rfl) (h.dep 59 (by kernel_rfl))).trans (h.have_ 59 (by kernel_rfl))
        have x1 := (h.on 65 183 (by kernel_rfl) (h.dep 65 (by kernel_rfl))).trans (h.have_ 65 (by kernel_rfl))
        have ea : (#[.tmp 177, .tmp 183] : Array Operand).map ρ = #[.slice A3 n3 c3, .int .i64 q] := by simp only [List.map_toArray, List.map_cons, List.map_nil, x0, x1]
        refine ⟨_, opRun_call (h.fn _) (by rw [ea]; exact Tryd.call18 _ _), ?_⟩
        rw [ea]
        refine (HC.out W1 (by rw [h.glob]; exact below_drewN0 (Below.refl _ _) 1)).mono ?_
        rintro e w2 ⟨rfl, rfl⟩
        exact ⟨_, rfl, rfl, trivial, h.glob⟩
    | 67, _ =>
      exact flow_pure hD (fun _ => trivial) (.pick (.tmp 175) (.const (.bool true)) (.tmp 184)) 4 rfl fun b v W1 ρ h => ⟨_, by
        have x0 := (h.on 57 175 (by kernel_rfl) (h.dep 57 (by kernel_rfl))).trans (h.have_ 57 (by kernel_rfl))
        have x1 := (h.on 66 184 (by kernel_rfl) (h.dep 66 (by kernel_rfl))).trans (h.have_ 66 (by kernel_rfl))
        have y0 := h.cst (.bool true)
        unfold opRun
        go_simp
        , rfl, h.glob⟩
    | q0 + 68, hq => exact absurd hq (by simp)
  · intro b v W1 hall hF hG
    have z0 : v 0 = _ := hF 0 (by decide)
    have z1 : v 1 = _ := hF 1 (by decide)
    have z2 : v 2 = _ := hF 2 (by decide)
    have z3 : v 3 = _ := hF 3 (by decide)
    have z4 : v 4 = _ := hF 4 (by decide)
    have z5 : v 5 = _ := hF 5 (by decide)
    have z6 : v 6 = _ := hF 6 (by decide)
    have z7 : v 7 = _ := hF 7 (by decide)
    have z8 : v 8 = _ := hF 8 (by decide)
    have z9 : v 9 = _ := hF 9 (by decide)
    have z10 : v 10 = _ := hF 10 (by decide)
    have z11 : v 11 = _ := hF 11 (by decide)
    have z12 : v 12 = _ := hF 12 (by decide)
    have z13 : v 13 = _ := hF 13 (by decide)
    have z14 : v 14 = _ := hF 14 (by decide)
    have z15 : v 15 = _ := hF 15 (by decide)
    have z16 : v 16 = _ := hF 16 (by decide)
    have z17 : v 17 = _ := hF 17 (by decide)
    have z18 : v 18 = _ := hF 18 (by decide)
    have z19 : v 19 = _ := hF 19 (by decide)
    have z20 : v 20 = _ := hF 20 (by decide)
    have z21 : v 21 = _ := hF 21 (by decide)
    have z22 : v 22 = _ := hF 22 (by decide)
    have z23 : v 23 = _ := hF 23 (by decide)
    have z24 : v 24 = _ := hF 24 (by decide)
    have z25 : v 25 = _ := hF 25 (by decide)
    have z26 : v 26 = _ := hF 26 (by decide)
    have z27 : v 27 = _ := hF 27 (by decide)
    have z28 : v 28 = _ := hF 28 (by decide)
    have z29 : v 29 = _ := hF 29 (by decide)
    have z30 : v 30 = _ := hF 30 (by decide)
    have z31 : v 31 = _ := hF 31 (by decide)
    have z32 : v 32 = _ := hF 32 (by decide)
    have z33 : v 33 = _ := hF 33 (by decide)
    have z34 : v 34 = _ := hF 34 (by decide)
    have z35 : v 35 = _ := hF 35 (by decide)
    have z36 : v 36 = _ := hF 36 (by decide)
    have z37 : v 37 = _ := hF 37 (by decide)
    have z38 : v 38 = _ := hF 38 (by decide)
    have z39 : v 39 = _ := hF 39 (by decide)
    have z40 : v 40 = _ := hF 40 (by decide)
    have z41 : v 41 = _ := hF 41 (by decide)
    have z42 : v 42 = _ := hF 42 (by decide)
    have z43 : v 43 = _ := hF 43 (by decide)
    have z44 : v 44 = _ := hF 44 (by decide)
    have z45 : v 45 = _ := hF 45 (by decide)
    have z46 : v 46 = _ := hF 46 (by decide)
    have z47 : v 47 = _ := hF 47 (by decide)
    have z48 : v 48 = _ := hF 48 (by decide)
    have z49 : v 49 = _ := hF 49 (by decide)
    have z50 : v 50 = _ := hF 50 (by decide)
    have z51 : v 51 = _ := hF 51 (by decide)
    have z52 : v 52 = _ := hF 52 (by decide)
    have z53 : v 53 = _ := hF 53 (by decide)
    have z54 : v 54 = _ := hF 54 (by decide)
    have z55 : v 55 = _ := hF 55 (by decide)
    have z56 : v 56 = _ := hF 56 (by decide)
    have z57 : v 57 = _ := hF 57 (by decide)
    have z58 : v 58 = _ := hF 58 (by decide)
    have z59 : v 59 = _ := hF 59 (by decide)
    have z60 : v 60 = _ := hF 60 (by decide)
    have z61 : v 61 = _ := hF 61 (by decide)
    have z62 : v 62 = _ := hF 62 (by decide)
    have z63 : v 63 = _ := hF 63 (by decide)
    have z64 : v 64 = _ := hF 64 (by decide)
    have z65 : v 65 = _ := hF 65 (by decide)
    have z66 : v 66 = _ := hF 66 (by decide)
    have z67 : v 67 = _ := hF 67 (by decide)
    simp only [fr, if_true, z0, z1, z2, z3, z4, z5, z6, z7, z8, z9, z10, z11, z12, z13, z14, z15, z16, z17, z18, z19, z20, z21, z22, z23, z24, z25, z26, z27, z28, z29, z30, z31, z32, z33, z34, z35, z36, z37, z38, z39, z40, z41, z42, z43, z44, z45, z46, z47, z48, z49, z50, z51, z52, z53, z54, z55, z56, z57, z58, z59, z60, z61, z62, z63, z64, z65, z66, z67, Act.put, List.setIfInBounds_toArray, List.set_cons_zero, List.set_cons_succ]
    subst hG
    clear hF hall z0 z1 z2 z3 z4 z5 z6 z7 z8 z9 z10 z11 z12 z13 z14 z15 z16 z17 z18 z19 z20 z21 z22 z23 z24 z25 z26 z27 z28 z29 z30 z31 z32 z33 z34 z35 z36 z37 z38 z39 z40 z41 z42 z43 z44 z45 z46 z47 z48 z49 z50 z51 z52 z53 z54 z55 z56 z57 z58 z59 z60 z61 z62 z63 z64 z65 z66 z67 HC hD
    go_wp2
    exact HQ.out _ _ _ _ _ _ _ _ _ _ _ _ _ _ _ _ _ _ _ _ _ _ _ _ _ _ _ _ _ _ _ _ _ _ _ _ _ _ _ _ _ _ _ _ _ _ _ _ _ _ _ _ _ _ _ _ _ _ _ _ _ _ _ _ _ _ _ _ _ (below_drewN0 (Below.refl _ _) 1)
end Go.Proofs.YthgklpkkcaiehaaDoor
