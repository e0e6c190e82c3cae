/- Reading: the first loop, eight letters at a time. -/
import Derived.Test.YtbdmdajbdmdknaaGreatDoorM11
namespace Go.Proofs.YtbdmdajbdmdknaaGreatDoor
open Go.RowKit
set_option linter.unusedVariables false
set_option linter.unusedSimpArgs false

/-- s[i:j]. -/
theorem run_mid {P : Program} {W : World} {t e : TypeId} (ht : P.underlying t = some (.slice e)) (hsz : (P.info? e).map (·.size) = some 1) (A : Option Addr) (len cap : Nat) (l h : Int) (i j : Nat) (hl : l = (i : Int)) (hh : h = (j : Int)) (hij : i ≤ j) (hj : j ≤ cap) :
    (Instr.slice t (.slice A len cap) (some (.int .i64 l)) (some (.int .i64 h)) none).run P W = .ok (.slice (if cap = i then A else A.map (·.add i)) (j - i) (cap - i)) W := by
  subst hl hh
  obtain ⟨i0, hi, hs⟩ := Option.map_eq_some_iff.1 hsz
  simp [Instr.slice, run_underlying ht, Instr.sliceBounds, run_sliceBound, sizeOf, typeInfo, hi, hs, hij, hj]
theorem grown_cell {w wr : World} {gd b i : Nat} {v : Value} (h : w.grownBy wr (some gd)) (hne : b ≠ gd) (hb : b < w.heap.size) (hc : w.cell? ⟨b, i, none⟩ = some v) : wr.cell? ⟨b, i, none⟩ = some v := by
  have := h.block b hb (by intro e; cases e; exact hne rfl)
  unfold World.cell? at hc ⊢
  rw [this]; exact hc
/-! A part of a function's text. -/
def codeL : Code → Code
  | .seq a _ => a
  | c => c
def codeR : Code → Code
  | .seq _ b => b
  | c => c
def codeOf (f : Func) : Code := f.body.getD .skip
theorem codeL_seq (a b : Code) : codeL (.seq a b) = a := rfl
theorem codeR_seq (a b : Code) : codeR (.seq a b) = b := rfl
theorem codeOf_some {f : Func} {c : Code} (h : f.body = some c) : codeOf f = c := by unfold codeOf; rw [h]; rfl
set_option maxRecDepth 100000 in
set_option maxHeartbeats 4000000 in
theorem loop1_wp (g gd T M N c b0 oa : Nat) (al dm : List Int) (pad : Int) (l : List Int) (w : World) (HE : Hid (EncAt w g al dm pad)) (HT : Hid (IsTab dm)) (Hpad : Hid (pad = -1 ∨ pad = 61)) (H61 : Hid (gi dm 61 = 255))
    (Hl : Hid (l.length = N)) (Hb : Hid (IsB l)) (Hcl : Hid (∀ i, i < N → w.cell? ⟨b0, oa + i, none⟩ = some (.int .u8 (gi l i)))) (hb0 : b0 < w.heap.size) (hN : N ≤ 100000) (hc : N ≤ c)
    (hMb : M ≤ 100000) (hg : g ≠ gd) (hb0g : b0 ≠ gd) (HM : Hid (roomFor pad N M)) (HBy : Hid (∀ k, k < N → ∃ a : Nat, gi l k = (a : Int) ∧ a < 256 ∧ w.cell? ⟨b0, oa + k, none⟩ = some (.int .u8 (a : Int)))) (K : Act → World → Prop)
    (hK : ∀ (si : Nat) (out : List Int) (wc : World) (sl3 sl4 sl5 sl9 sl10 sl11 sl12 sl13 sl14 sl15 sl16 sl17 sl18 sl19 sl20 sl21 sl22 sl23 sl24 sl25 sl26 sl27 sl28 sl29 sl30 sl31 sl32 sl33 sl34 sl35 sl36 sl37 sl38 sl39 sl40 sl41 sl42 sl43 sl44 sl45 sl46 sl47 sl48 sl49 sl50 sl51 sl52 sl53 sl54 sl55 sl56 sl57 sl58 sl59 sl60 sl61 sl62 sl63 sl64 sl65 sl66 sl67 sl68 sl69 sl70 sl71 sl72 sl73 sl74 sl75 sl76 sl77 sl78 sl79 sl80 sl81 sl82 sl83 sl84 sl85 sl86 sl87 sl88 sl89 sl90 sl91 sl92 sl93 sl94 sl95 sl96 sl97 sl98 sl99 sl100 sl101 sl102 sl103 sl104 sl105 sl106 sl107 sl108 sl109 sl110 sl111 sl112 sl113 sl114 sl115 sl116 sl117 sl118 sl119 sl120 sl121 sl122 sl123 sl124 sl125 sl126 sl127 sl128 sl129 sl130 sl131 sl132 sl133 sl134 sl135 sl136 sl137 sl138 sl139 sl140 sl141 sl142 sl143 sl144 sl145 sl146 sl147 sl148 sl149 sl150 sl151 sl152 sl153 sl154 sl155 sl156 sl157 sl158 sl159 sl160 sl161 sl162 sl163 sl164 sl165 sl166 sl167 sl168 sl169 sl170 sl171 sl172 sl173 sl174 sl175 sl176 sl177 sl178 sl179 sl180 sl181 sl182 sl183 sl184 sl185 sl186 sl187 sl188 sl189 sl190 sl191 sl192 sl193 sl194 sl195 sl196 sl197 sl198 sl199 sl200 sl201 sl202 sl203 sl204 sl205 sl206 sl207 sl208 sl209 sl210 sl211 sl212 sl213 sl214 sl215 sl216 sl217 sl218 sl219 sl220 sl221 sl222 sl223 sl224 sl225 sl226 sl227 sl228 sl229 sl230 sl231 sl232 sl233 sl234 sl235 sl236 sl237 sl238 sl239 sl240 sl241 sl242 sl243 sl244 : Value), DSt w gd T M N dm pad l si out wc → K ⟨#[.pointer (some ⟨g, 0, none⟩), .slice (some ⟨gd, 0, none⟩) M M, .slice (some ⟨b0, oa, none⟩) N c, sl3, sl4, sl5, .int .i64 out.length, .nilIface, .int .i64 si, sl9, sl10, sl11, sl12, sl13, sl14, sl15, sl16, sl17, sl18, sl19, sl20, sl21, sl22, sl23, sl24, sl25, sl26, sl27, sl28, sl29, sl30, sl31, sl32, sl33, sl34, sl35, sl36, sl37, sl38, sl39, sl40, sl41, sl42, sl43, sl44, sl45, sl46, sl47, sl48, sl49, sl50, sl51, sl52, sl53, sl54, sl55, sl56, sl57, sl58, sl59, sl60, sl61, sl62, sl63, sl64, sl65, sl66, sl67, sl68, sl69, sl70, sl71, sl72, sl73, sl74, sl75, sl76, sl77, sl78, sl79, sl80, sl81, sl82, sl83, sl84, sl85, sl86, sl87, sl88, sl89, sl90, sl91, sl92, sl93, sl94, sl95, sl96, sl97, sl98, sl99, sl100, sl101, sl102, sl103, sl104, sl105, sl106, sl107, sl108, sl109, sl110, sl111, sl112, sl113, sl114, sl115, sl116, sl117, sl118, sl119, sl120, sl121, sl122, sl123, sl124, sl125, sl126, sl127, sl128, sl129, sl130, sl131, sl132, sl133, sl134, sl135, sl136, sl137, sl138, sl139, sl140, sl141, sl142, sl143, sl144, sl145, sl146, sl147, sl148, sl149, sl150, sl151, sl152, sl153, sl154, sl155, sl156, sl157, sl158, sl159, sl160, sl161, sl162, sl163, sl164, sl165, sl166, sl167, sl168, sl169, sl170, sl171, sl172, sl173, sl174, sl175, sl176, sl177, sl178, sl179, sl180, sl181, sl182, sl183, sl184, sl185, sl186, sl187, sl188, sl189, sl190, sl191, sl192, sl193, sl194, sl195, sl196, sl197, sl198, sl199, sl200, sl201, sl202, sl203, sl204, sl205, sl206, sl207, sl208, sl209, sl210, sl211, sl212, sl213, sl214, sl215, sl216, sl217, sl218, sl219, sl220, sl221, sl222, sl223, sl224, sl225, sl226, sl227, sl228, sl229, sl230, sl231, sl232, sl233, sl234, sl235, sl236, sl237, sl238, sl239, sl240, sl241, sl242, sl243, sl244], []⟩ wc)
    (si1 : Nat) (out1 : List Int) (w1 : World) (HD1 : Hid (DSt w gd T M N dm pad l si1 out1 w1)) (sl3 sl4 sl5 sl9 sl10 sl11 sl12 sl13 sl14 sl15 sl16 sl17 sl18 sl19 sl20 sl21 sl22 sl23 sl24 sl25 sl26 sl27 sl28 sl29 sl30 sl31 sl32 sl33 sl34 sl35 sl36 sl37 sl38 sl39 sl40 sl41 sl42 sl43 sl44 sl45 sl46 sl47 sl48 sl49 sl50 sl51 sl52 sl53 sl54 sl55 sl56 sl57 sl58 sl59 sl60 sl61 sl62 sl63 sl64 sl65 sl66 sl67 sl68 sl69 sl70 sl71 sl72 sl73 sl74 sl75 sl76 sl77 sl78 sl79 sl80 sl81 sl82 sl83 sl84 sl85 sl86 sl87 sl88 sl89 sl90 sl91 sl92 sl93 sl94 sl95 sl96 sl97 sl98 sl99 sl100 sl101 sl102 sl103 sl104 sl105 sl106 sl107 sl108 sl109 sl110 sl111 sl112 sl113 sl114 sl115 sl116 sl117 sl118 sl119 sl120 sl121 sl122 sl123 sl124 sl125 sl126 sl127 sl128 sl129 sl130 sl131 sl132 sl133 sl134 sl135 sl136 sl137 sl138 sl139 sl140 sl141 sl142 sl143 sl144 sl145 sl146 sl147 sl148 sl149 sl150 sl151 sl152 sl153 sl154 sl155 sl156 sl157 sl158 sl159 sl160 sl161 sl162 sl163 sl164 sl165 sl166 sl167 sl168 sl169 sl170 sl171 sl172 sl173 sl174 sl175 sl176 sl177 sl178 sl179 sl180 sl181 sl182 sl183 sl184 sl185 sl186 sl187 sl188 sl189 sl190 sl191 sl192 sl193 sl194 sl195 sl196 sl197 sl198 sl199 sl200 sl201 sl202 sl203 sl204 sl205 sl206 sl207 sl208 sl209 sl210 sl211 sl212 sl213 sl214 sl215 sl216 sl217 sl218 sl219 sl220 sl221 sl222 sl223 sl224 sl225 sl226 sl227 sl228 sl229 sl230 sl231 sl232 sl233 sl234 sl235 sl236 sl237 sl238 sl239 sl240 sl241 sl242 sl243 sl244 : Value) :
    Code.wp Tryz.prog (codeL (codeR (codeR (codeR (codeR (codeOf Tryz.f164)))))) (Exit.then K (bodyPost Tryz.prog Tryz.f164 fun e w' => DPost w gd T M dm pad l e w')) ⟨#[.pointer (some ⟨g, 0, none⟩), .slice (some ⟨gd, 0, none⟩) M M, .slice (some ⟨b0, oa, none⟩) N c, sl3, sl4, sl5, .int .i64 out1.length, .nilIface, .int .i64 si1, sl9, sl10, sl11, sl12, sl13, sl14, sl15, sl16, sl17, sl18, sl19, sl20, sl21, sl22, sl23, sl24, sl25, sl26, sl27, sl28, sl29, sl30, sl31, sl32, sl33, sl34, sl35, sl36, sl37, sl38, sl39, sl40, sl41, sl42, sl43, sl44, sl45, sl46, sl47, sl48, sl49, sl50, sl51, sl52, sl53, sl54, sl55, sl56, sl57, sl58, sl59, sl60, sl61, sl62, sl63, sl64, sl65, sl66, sl67, sl68, sl69, sl70, sl71, sl72, sl73, sl74, sl75, sl76, sl77, sl78, sl79, sl80, sl81, sl82, sl83, sl84, sl85, sl86, sl87, sl88, sl89, sl90, sl91, sl92, sl93, sl94, sl95, sl96, sl97, sl98, sl99, sl100, sl101, sl102, sl103, sl104, sl105, sl106, sl107, sl108, sl109, sl110, sl111, sl112, sl113, sl114, sl115, sl116, sl117, sl118, sl119, sl120, sl121, sl122, sl123, sl124, sl125, sl126, sl127, sl128, sl129, sl130, sl131, sl132, sl133, sl134, sl135, sl136, sl137, sl138, sl139, sl140, sl141, sl142, sl143, sl144, sl145, sl146, sl147, sl148, sl149, sl150, sl151, sl152, sl153, sl154, sl155, sl156, sl157, sl158, sl159, sl160, sl161, sl162, sl163, sl164, sl165, sl166, sl167, sl168, sl169, sl170, sl171, sl172, sl173, sl174, sl175, sl176, sl177, sl178, sl179, sl180, sl181, sl182, sl183, sl184, sl185, sl186, sl187, sl188, sl189, sl190, sl191, sl192, sl193, sl194, sl195, sl196, sl197, sl198, sl199, sl200, sl201, sl202, sl203, sl204, sl205, sl206, sl207, sl208, sl209, sl210, sl211, sl212, sl213, sl214, sl215, sl216, sl217, sl218, sl219, sl220, sl221, sl222, sl223, sl224, sl225, sl226, sl227, sl228, sl229, sl230, sl231, sl232, sl233, sl234, sl235, sl236, sl237, sl238, sl239, sl240, sl241, sl242, sl243, sl244], []⟩ w1 := by
  have HK := hidden hK
  clear hK
  conv =>
    arg 2
    simp only [Tryz.f164, codeOf, codeL_seq, codeR_seq, Option.getD_some]
  conv =>
    arg 4
    simp only []
  go_wp2_with (fail)
  go_loopw [6, 7, 8] (fun s6 s7 s8 wr => ∃ (si : Nat) (out : List Int), s6 = .int .i64 out.length ∧ s7 = .nilIface ∧ s8 = .int .i64 si ∧ DSt w gd T M N dm pad l si out wr) (fun _ _ s8 _ => N - (intOf s8).toNat)
  case atStart => exact ⟨si1, out1, rfl, rfl, rfl, HD1.out⟩
  case round =>
    have hbyte := HBy.out
    obtain ⟨si, out, rfl, rfl, rfl, hD⟩ := hrel
    obtain ⟨rest, hlen, hRow⟩ := hD.row
    obtain ⟨p, hp⟩ : ∃ p, p = out.length := ⟨_, rfl⟩
    have hpM : p ≤ M := by rw [hp]; exact hD.outLe
    have hub := hD.ub
    have HP := hidden hp
    rw [← hp]
    have HD := hidden hD
    have HL := hidden hlen
    have HRo := hidden hRow
    clear hp hD hlen hRow
    by_cases h8 : si + 8 ≤ N
    · have h8i : (8 : Int) ≤ (N : Int) - (si : Int) := by omega
      by_cases p8 : p + 8 ≤ M
      · have p8i : (8 : Int) ≤ (M : Int) - (p : Int) := by omega
        have q2 := fun W => run_from (W := W) Tryz.underlying31 size_u8' (some ⟨gd, 0, none⟩) M M (p : Int) p rfl hpM (Nat.le_refl _)
        simp only [if_neg (show ¬ M = p by omega), Option.map_some, addr_add, Nat.zero_add] at q2
        have q3 := fun W => run_mid (W := W) Tryz.underlying31 size_u8' (some ⟨b0, oa, none⟩) N c (si : Int) ((si : Int) + 8) si (si + 8) rfl (by omega) (by omega) (by omega)
        simp only [if_neg (show ¬ c = si by omega), Option.map_some, addr_add, show si + 8 - si = 8 by omega] at q3
        obtain ⟨a1, ha1, hb1, k1⟩ := hbyte (si) (by omega)
        obtain ⟨x1, hx1⟩ : ∃ x, gi dm a1 = x := ⟨_, rfl⟩
        have t1 := HT.out a1 hb1
        have e1 := (HE.out.grown HD.out.gr (by simpa using hg)).digit a1 hb1
        rw [hx1] at e1 t1
        have lt1 : (a1 : Int) < 256 := by omega
        have k1 := grown_cell HD.out.gr hb0g hb0 k1
        have HA1 := hidden ha1
        have HX1 := hidden hx1
        obtain ⟨a2, ha2, hb2, k2⟩ := hbyte (si + 1) (by omega)
        have k2 : w.cell? ⟨b0, oa + si + 1, none⟩ = some (.int .u8 (a2 : Int)) := k2
        obtain ⟨x2, hx2⟩ : ∃ x, gi dm a2 = x := ⟨_, rfl⟩
        have t2 := HT.out a2 hb2
        have e2 := (HE.out.grown HD.out.gr (by simpa using hg)).digit a2 hb2
        rw [hx2] at e2 t2
        have lt2 : (a2 : Int) < 256 := by omega
        have k2 := grown_cell HD.out.gr hb0g hb0 k2
        have HA2 := hidden ha2
        have HX2 := hidden hx2
        obtain ⟨a3, ha3, hb3, k3⟩ := hbyte (si + 2) (by omega)
        have k3 : w.cell? ⟨b0, oa + si + 2, none⟩ = some (.int .u8 (a3 : Int)) := k3
        obtain ⟨x3, hx3⟩ : ∃ x, gi dm a3 = x := ⟨_, rfl⟩
        have t3 := HT.out a3 hb3
        have e3 := (HE.out.grown HD.out.gr (by simpa using hg)).digit a3 hb3
        rw [hx3] at e3 t3
        have lt3 : (a3 : Int) < 256 := by omega
        have k3 := grown_cell HD.out.gr hb0g hb0 k3
        have HA3 := hidden ha3
        have HX3 := hidden hx3
        obtain ⟨a4, ha4, hb4, k4⟩ := hbyte (si + 3) (by omega)
        have k4 : w.cell? ⟨b0, oa + si + 3, none⟩ = some (.int .u8 (a4 : Int)) := k4
        obtain ⟨x4, hx4⟩ : ∃ x, gi dm a4 = x := ⟨_, rfl⟩
        have t4 := HT.out a4 hb4
        have e4 := (HE.out.grown HD.out.gr (by simpa using hg)).digit a4 hb4
        rw [hx4] at e4 t4
        have lt4 : (a4 : Int) < 256 := by omega
        have k4 := grown_cell HD.out.gr hb0g hb0 k4
        have HA4 := hidden ha4
        have HX4 := hidden hx4
        obtain ⟨a5, ha5, hb5, k5⟩ := hbyte (si + 4) (by omega)
        have k5 : w.cell? ⟨b0, oa + si + 4, none⟩ = some (.int .u8 (a5 : Int)) := k5
        obtain ⟨x5, hx5⟩ : ∃ x, gi dm a5 = x := ⟨_, rfl⟩
        have t5 := HT.out a5 hb5
        have e5 := (HE.out.grown HD.out.gr (by simpa using hg)).digit a5 hb5
        rw [hx5] at e5 t5
        have lt5 : (a5 : Int) < 256 := by omega
        have k5 := grown_cell HD.out.gr hb0g hb0 k5
        have HA5 := hidden ha5
        have HX5 := hidden hx5
        obtain ⟨a6, ha6, hb6, k6⟩ := hbyte (si + 5) (by omega)
        have k6 : w.cell? ⟨b0, oa + si + 5, none⟩ = some (.int .u8 (a6 : Int)) := k6
        obtain ⟨x6, hx6⟩ : ∃ x, gi dm a6 = x := ⟨_, rfl⟩
        have t6 := HT.out a6 hb6
        have e6 := (HE.out.grown HD.out.gr (by simpa using hg)).digit a6 hb6
        rw [hx6] at e6 t6
        have lt6 : (a6 : Int) < 256 := by omega
        have k6 := grown_cell HD.out.gr hb0g hb0 k6
        have HA6 := hidden ha6
        have HX6 := hidden hx6
        obtain ⟨a7, ha7, hb7, k7⟩ := hbyte (si + 6) (by omega)
        have k7 : w.cell? ⟨b0, oa + si + 6, none⟩ = some (.int .u8 (a7 : Int)) := k7
        obtain ⟨x7, hx7⟩ : ∃ x, gi dm a7 = x := ⟨_, rfl⟩
        have t7 := HT.out a7 hb7
        have e7 := (HE.out.grown HD.out.gr (by simpa using hg)).digit a7 hb7
        rw [hx7] at e7 t7
        have lt7 : (a7 : Int) < 256 := by omega
        have k7 := grown_cell HD.out.gr hb0g hb0 k7
        have HA7 := hidden ha7
        have HX7 := hidden hx7
        obtain ⟨a8, ha8, hb8, k8⟩ := hbyte (si + 7) (by omega)
        have k8 : w.cell? ⟨b0, oa + si + 7, none⟩ = some (.int .u8 (a8 : Int)) := k8
        obtain ⟨x8, hx8⟩ : ∃ x, gi dm a8 = x := ⟨_, rfl⟩
        have t8 := HT.out a8 hb8
        have e8 := (HE.out.grown HD.out.gr (by simpa using hg)).digit a8 hb8
        rw [hx8] at e8 t8
        have lt8 : (a8 : Int) < 256 := by omega
        have k8 := grown_cell HD.out.gr hb0g hb0 k8
        have HA8 := hidden ha8
        have HX8 := hidden hx8
        clear ha1 hx1 ha2 hx2 ha3 hx3 ha4 hx4 ha5 hx5 ha6 hx6 ha7 hx7 ha8 hx8
        by_cases hbad : x1 = 255 ∨ x2 = 255 ∨ x3 = 255 ∨ x4 = 255 ∨ x5 = 255 ∨ x6 = 255 ∨ x7 = 255 ∨ x8 = 255
        · have HBad := hidden hbad
          have d1 : Dg x1 := t1
          have d2 : Dg x2 := t2
          have d3 : Dg x3 := t3
          have d4 : Dg x4 := t4
          have d5 : Dg x5 := t5
          have d6 : Dg x6 := t6
          have d7 : Dg x7 := t7
          have d8 : Dg x8 := t8
          clear hbad t1 t2 t3 t4 t5 t6 t7 t8
          have Hq := hidden (fun (z : Nat) => quantum_calls g gd T p (M - p) (M - p) b0 oa N c si al dm pad l (out ++ rest) (wr.drewN z) ((HE.out.grown HD.out.gr (by simpa using hg)).drewN z) HT.out Hpad.out H61.out Hl.out Hb.out (fun i hi => grown_cell (grown_drewN HD.out.gr z) hb0g hb0 (Hcl.out i hi)) (Nat.lt_of_lt_of_le hb0 HD.out.gr.size) hub hN (HRo.out.drewN z) (Nat.le_refl _) (.inr (by rw [HL.out]; omega)) (by rw [HL.out]; omega) hg (by intro hs; rw [HP.out]; exact HD.out.m4 HM.out (by omega) hs) (by intro h hs; rw [HP.out]; exact HD.out.m3 HM.out (by omega) h hs) (by intro h hs; rw [HP.out]; exact HD.out.m2 HM.out (by omega) h hs))
          have Hst := hidden (fun (z : Nat) (e : Ending) (w2 : World) (hqp : QPost (wr.drewN z) gd T p (M - p) dm pad l (out ++ rest) si N e w2) => DSt.quantum (HD.out.drewN z) (by omega) HL.out (o := p) (by rw [← HP.out, if_neg (by omega)]) (by rw [← HP.out]; exact hqp))
          go_wp2_with (fail)
          go_quiet ((go_at_call 168; refine Calls.quiet_of_same (assemble64_bad x1 x2 x3 x4 x5 x6 x7 x8 d1 d2 d3 d4 d5 d6 d7 d8 HBad.out _)))
          go_wp2_with (go_at_call 170; go_must (refine (Hq.out _).mono ?_; intro e w2 hqp; rcases Hst.out _ e w2 hqp with ⟨si', x, rfl, hlt', hD'⟩ | ⟨a', b', v', rfl, hnone, hgr'⟩ <;> dsimp only))
          · go_roundw
            case rel => exact ⟨si', out ++ x, by have hb := hD'.outLe; rw [List.length_append, ← HP.out] at hb ⊢; exact congrArg (Value.int .i64) ((wrap64_id _ (by omega) (by omega)).trans (by omega)), rfl, rfl, hD'⟩
            case measure => simp [intOf]; have := hD'.ub; omega
          · (try simp only [Exit.inBlock, Exit.then])
            go_ret2
            exact ⟨hgr', .inr ⟨_, _, rfl, hnone⟩⟩
        · obtain ⟨y1, rfl, z1⟩ : ∃ y : Nat, x1 = (y : Int) ∧ y < 64 := ⟨x1.toNat, by omega, by omega⟩
          obtain ⟨y2, rfl, z2⟩ : ∃ y : Nat, x2 = (y : Int) ∧ y < 64 := ⟨x2.toNat, by omega, by omega⟩
          obtain ⟨y3, rfl, z3⟩ : ∃ y : Nat, x3 = (y : Int) ∧ y < 64 := ⟨x3.toNat, by omega, by omega⟩
          obtain ⟨y4, rfl, z4⟩ : ∃ y : Nat, x4 = (y : Int) ∧ y < 64 := ⟨x4.toNat, by omega, by omega⟩
          obtain ⟨y5, rfl, z5⟩ : ∃ y : Nat, x5 = (y : Int) ∧ y < 64 := ⟨x5.toNat, by omega, by omega⟩
          obtain ⟨y6, rfl, z6⟩ : ∃ y : Nat, x6 = (y : Int) ∧ y < 64 := ⟨x6.toNat, by omega, by omega⟩
          obtain ⟨y7, rfl, z7⟩ : ∃ y : Nat, x7 = (y : Int) ∧ y < 64 := ⟨x7.toNat, by omega, by omega⟩
          obtain ⟨y8, rfl, z8⟩ : ∃ y : Nat, x8 = (y : Int) ∧ y < 64 := ⟨x8.toNat, by omega, by omega⟩
          obtain ⟨V, hV⟩ : ∃ V, V = y1 * 288230376151711744 + y2 * 4503599627370496 + y3 * 70368744177664 + y4 * 1099511627776 + y5 * 17179869184 + y6 * 268435456 + y7 * 4194304 + y8 * 65536 := ⟨_, rfl⟩
          have hVb : V < 18446744073709551616 := by omega
          have HV := hidden hV
          clear hV hbad t1 t2 t3 t4 t5 t6 t7 t8
          have HG := hidden (fun (z : Nat) => BEPutUint64_calls gd T p (M - p) (M - p) V (out ++ rest) (wr.drewN z) hVb (HRo.out.drewN z) (by omega) (by rw [HL.out]; omega))
          go_wp2_with (fail)
          go_quiet ((go_at_call 168; refine Calls.quiet_of_same (assemble64_good y1 y2 y3 y4 y5 y6 y7 y8 z1 z2 z3 z4 z5 z6 z7 z8 _ V HV.out)))
          go_wp2_with (go_at_call 169; go_must (refine (HG.out _).mono ?_; rintro e w2 ⟨rfl, hR2, hg2⟩))
          go_roundw
          case rel =>
            obtain ⟨x, hx, hD'⟩ := DSt.eight (HD.out.drewN _) Hl.out h8 HA1.out HA2.out HA3.out HA4.out HA5.out HA6.out HA7.out HA8.out HX1.out HX2.out HX3.out HX4.out HX5.out HX6.out HX7.out HX8.out z1 z2 z3 z4 z5 z6 z7 z8 HV.out HL.out (by rw [← HP.out]; omega) (by rw [← HP.out]; exact hR2) hg2
            exact ⟨si + 8, out ++ x, by have hb := hD'.outLe; rw [List.length_append, ← HP.out, hx] at hb ⊢; go_num, rfl, by go_num, hD'⟩
          case measure => simp [intOf]; omega
      · have p8i : ¬ (8 : Int) ≤ (M : Int) - (p : Int) := by omega
        go_wp2_with (fail)
        rw [HP.out]
        exact HK.out si out _ _ _ _ _ _ _ _ _ _ _ _ _ _ _ _ _ _ _ _ _ _ _ _ _ _ _ _ _ _ _ _ _ _ _ _ _ _ _ _ _ _ _ _ _ _ _ _ _ _ _ _ _ _ _ _ _ _ _ _ _ _ _ _ _ _ _ _ _ _ _ _ _ _ _ _ _ _ _ _ _ _ _ _ _ _ _ _ _ _ _ _ _ _ _ _ _ _ _ _ _ _ _ _ _ _ _ _ _ _ _ _ _ _ _ _ _ _ _ _ _ _ _ _ _ _ _ _ _ _ _ _ _ _ _ _ _ _ _ _ _ _ _ _ _ _ _ _ _ _ _ _ _ _ _ _ _ _ _ _ _ _ _ _ _ _ _ _ _ _ _ _ _ _ _ _ _ _ _ _ _ _ _ _ _ _ _ _ _ _ _ _ _ _ _ _ _ _ _ _ _ _ _ _ _ _ _ _ _ _ _ _ _ _ _ _ _ _ _ _ _ _ _ _ _ _ _ _ _ _ _ _ _ _ _ _ _ _ _ _ HD.out
    · have h8i : ¬ (8 : Int) ≤ (N : Int) - (si : Int) := by omega
      go_wp2_with (fail)
      rw [HP.out]
      exact HK.out si out _ _ _ _ _ _ _ _ _ _ _ _ _ _ _ _ _ _ _ _ _ _ _ _ _ _ _ _ _ _ _ _ _ _ _ _ _ _ _ _ _ _ _ _ _ _ _ _ _ _ _ _ _ _ _ _ _ _ _ _ _ _ _ _ _ _ _ _ _ _ _ _ _ _ _ _ _ _ _ _ _ _ _ _ _ _ _ _ _ _ _ _ _ _ _ _ _ _ _ _ _ _ _ _ _ _ _ _ _ _ _ _ _ _ _ _ _ _ _ _ _ _ _ _ _ _ _ _ _ _ _ _ _ _ _ _ _ _ _ _ _ _ _ _ _ _ _ _ _ _ _ _ _ _ _ _ _ _ _ _ _ _ _ _ _ _ _ _ _ _ _ _ _ _ _ _ _ _ _ _ _ _ _ _ _ _ _ _ _ _ _ _ _ _ _ _ _ _ _ _ _ _ _ _ _ _ _ _ _ _ _ _ _ _ _ _ _ _ _ _ _ _ _ _ _ _ _ _ _ _ _ _ _ _ _ _ _ _ _ _ HD.out
end Go.Proofs.YtbdmdajbdmdknaaGreatDoor
