/- Reading, whole. -/
import Derived.Test.YtmibnnmampfalaaDoorB64K
namespace Go.Proofs.YtmibnnmampfalaaDoor
open Go.RowKit
set_option linter.unusedVariables false
set_option linter.unusedSimpArgs false

set_option maxRecDepth 100000 in
set_option maxHeartbeats 4000000 in
theorem decode_calls (g gd T M N c b0 oa : Nat) (al dm : List Int) (pad : Int) (l L : List Int) (w : World) (hE : EncAt w g al dm pad) (hT : IsTab dm) (hp : pad = -1 ∨ pad = 61) (h61 : gi dm 61 = 255)
    (hl : l.length = N) (hb : IsB l) (hcl : ∀ i, i < N → w.cell? ⟨b0, oa + i, none⟩ = some (.int .u8 (gi l i))) (hb0 : b0 < w.heap.size) (hN : N ≤ 100000) (hN0 : 0 < N) (hc : N ≤ c)
    (hR : Row w gd T (nums .u8 L)) (hL : L.length = M) (hg : g ≠ gd) (hb0g : b0 ≠ gd) (hM : roomFor pad N M) :
    Calls Tryd.prog 57 #[.pointer (some ⟨g, 0, none⟩), .slice (some ⟨gd, 0, none⟩) M M, .slice (some ⟨b0, oa, none⟩) N c] w fun e w' => DPost w gd T M dm pad l e w' := by
  have size256 : (Tryd.prog.info? 84).map (·.size) = some (nums .u8 dm).length := by rw [nums_len, hE.ld]; exact size_256
  have hn0 : ¬ N = 0 := by omega
  have hMb : M ≤ 100000 := by rcases hM with ⟨_, h⟩ | ⟨_, h⟩ <;> omega
  have hbyte : ∀ k, k < N → ∃ a : Nat, gi l k = (a : Int) ∧ a < 256 ∧ w.cell? ⟨b0, oa + k, none⟩ = some (.int .u8 (a : Int)) := fun k hk => by
    have h := gi_byte hb k
    refine ⟨(gi l k).toNat, (Int.toNat_of_nonneg h.1).symm, by omega, ?_⟩
    rw [Int.toNat_of_nonneg h.1]; exact hcl k hk
  have HBy := hidden hbyte
  have HE := hidden hE
  have HR := hidden hR
  have HT := hidden hT
  have Hpad := hidden hp
  have H61 := hidden h61
  have Hl := hidden hl
  have Hb := hidden hb
  have Hcl := hidden hcl
  have HM := hidden hM
  have HD0 := hidden (DSt.start (N := N) (dm := dm) (pad := pad) (l := l) hR hL)
  clear hE hR hT hp h61 hl hb hcl hM hbyte hL
  go_enter Tryd.func57, Tryd.ntmps57
  go_upto_block 0 with (with_reducible refine at_dst 24 ?_; go_must (refine walk_load_at (off := 64) (cs := nums .u8 dm) rfl _ _ rfl (fun j v hv => by
        have hj : j < dm.length := by rw [← nums_len .u8]; exact (List.getElem?_eq_some_iff.1 hv).1
        rw [nums_at _ _ _ hj] at hv; cases hv; exact HE.out.digit j (by rw [← HE.out.ld]; exact hj)) rfl Tryd.underlying84 rfl size256 ?_))
  refine loop1_wp g gd T M N c b0 oa al dm pad l w HE HT Hpad H61 Hl Hb Hcl hb0 hN hc hMb hg hb0g HM HBy _ ?_ 0 [] w HD0 _ _ _ _ _ _ _ _ _ _ _ _ _ _ _ _ _ _ _ _ _ _ _ _ _ _ _ _ _ _ _ _ _ _ _ _ _ _ _ _ _ _ _ _ _ _ _ _ _ _ _ _ _ _ _ _ _ _ _ _ _ _ _ _ _ _ _ _ _ _ _ _ _ _ _ _ _ _ _ _ _ _ _ _ _ _ _ _ _ _ _ _ _ _ _ _ _ _ _ _ _ _ _ _ _ _ _ _ _ _ _ _ _ _ _ _ _ _ _ _ _ _ _ _ _ _ _ _ _ _ _ _ _ _ _ _ _ _ _ _ _ _ _ _ _ _ _ _ _ _ _ _ _ _ _ _ _ _ _ _ _ _ _ _ _ _ _ _ _ _ _ _ _ _ _ _ _ _ _ _ _ _ _ _ _ _ _ _ _ _ _ _ _ _ _ _ _ _ _ _ _ _ _ _ _ _ _ _ _ _ _ _ _ _ _ _ _ _ _ _ _ _ _ _ _ _ _ _ _ _ _ _ _ _ _ _ _ _ _
  intro si1 out1 wc1 sl3 sl4 sl5 sl9 sl10 sl11 sl12 sl13 sl14 sl15 sl16 sl17 sl18 sl19 sl20 sl21 sl22 sl23 sl24 sl25 sl26 sl27 sl28 sl29 sl30 sl31 sl32 sl33 sl34 sl35 sl36 sl37 sl38 sl39 sl40 sl41 sl42 sl43 sl44 sl45 sl46 sl47 sl48 sl49 sl50 sl51 sl52 sl53 sl54 sl55 sl56 sl57 sl58 sl59 sl60 sl61 sl62 sl63 sl64 sl65 sl66 sl67 sl68 sl69 sl70 sl71 sl72 sl73 sl74 sl75 sl76 sl77 sl78 sl79 sl80 sl81 sl82 sl83 sl84 sl85 sl86 sl87 sl88 sl89 sl90 sl91 sl92 sl93 sl94 sl95 sl96 sl97 sl98 sl99 sl100 sl101 sl102 sl103 sl104 sl105 sl106 sl107 sl108 sl109 sl110 sl111 sl112 sl113 sl114 sl115 sl116 sl117 sl118 sl119 sl120 sl121 sl122 sl123 sl124 sl125 sl126 sl127 sl128 sl129 sl130 sl131 sl132 sl133 sl134 sl135 sl136 sl137 sl138 sl139 sl140 sl141 sl142 sl143 sl144 sl145 sl146 sl147 sl148 sl149 sl150 sl151 sl152 sl153 sl154 sl155 sl156 sl157 sl158 sl159 sl160 sl161 sl162 sl163 sl164 sl165 sl166 sl167 sl168 sl169 sl170 sl171 sl172 sl173 sl174 sl175 sl176 sl177 sl178 sl179 sl180 sl181 sl182 sl183 sl184 sl185 sl186 sl187 sl188 sl189 sl190 sl191 sl192 sl193 sl194 sl195 sl196 sl197 sl198 sl199 sl200 sl201 sl202 sl203 sl204 sl205 sl206 sl207 sl208 sl209 sl210 sl211 sl212 sl213 sl214 sl215 sl216 sl217 sl218 sl219 sl220 sl221 sl222 sl223 sl224 sl225 sl226 sl227 sl228 sl229 sl230 sl231 sl232 sl233 sl234 sl235 sl236 sl237 sl238 sl239 sl240 sl241 sl242 sl243 sl244 hD1
  have HD1 := hidden hD1
  clear hD1
  go_upto_block 2 with (fail)
  refine loop2_wp g gd T M N c b0 oa al dm pad l w HE HT Hpad H61 Hl Hb Hcl hb0 hN hc hMb hg hb0g HM HBy _ ?_ si1 out1 wc1 HD1 _ _ _ _ _ _ _ _ _ _ _ _ _ _ _ _ _ _ _ _ _ _ _ _ _ _ _ _ _ _ _ _ _ _ _ _ _ _ _ _ _ _ _ _ _ _ _ _ _ _ _ _ _ _ _ _ _ _ _ _ _ _ _ _ _ _ _ _ _ _ _ _ _ _ _ _ _ _ _ _ _ _ _ _ _ _ _ _ _ _ _ _ _ _ _ _ _ _ _ _ _ _ _ _ _ _ _ _ _ _ _ _ _ _ _ _ _ _ _ _ _ _ _ _ _ _ _ _ _ _ _ _ _ _ _ _ _ _ _ _ _ _ _ _ _ _ _ _ _ _ _ _ _ _ _ _ _ _ _ _ _ _ _ _ _ _ _ _ _ _ _ _ _ _ _ _ _ _ _ _ _ _ _ _ _ _ _ _ _ _ _ _ _ _ _ _ _ _ _ _ _ _ _ _ _ _ _ _ _ _ _ _ _ _ _ _ _ _ _ _ _ _ _ _ _ _ _ _ _ _ _ _ _ _ _ _ _ _ _
  clear HD1 sl3 sl4 sl5 sl9 sl10 sl11 sl12 sl13 sl14 sl15 sl16 sl17 sl18 sl19 sl20 sl21 sl22 sl23 sl24 sl25 sl26 sl27 sl28 sl29 sl30 sl31 sl32 sl33 sl34 sl35 sl36 sl37 sl38 sl39 sl40 sl41 sl42 sl43 sl44 sl45 sl46 sl47 sl48 sl49 sl50 sl51 sl52 sl53 sl54 sl55 sl56 sl57 sl58 sl59 sl60 sl61 sl62 sl63 sl64 sl65 sl66 sl67 sl68 sl69 sl70 sl71 sl72 sl73 sl74 sl75 sl76 sl77 sl78 sl79 sl80 sl81 sl82 sl83 sl84 sl85 sl86 sl87 sl88 sl89 sl90 sl91 sl92 sl93 sl94 sl95 sl96 sl97 sl98 sl99 sl100 sl101 sl102 sl103 sl104 sl105 sl106 sl107 sl108 sl109 sl110 sl111 sl112 sl113 sl114 sl115 sl116 sl117 sl118 sl119 sl120 sl121 sl122 sl123 sl124 sl125 sl126 sl127 sl128 sl129 sl130 sl131 sl132 sl133 sl134 sl135 sl136 sl137 sl138 sl139 sl140 sl141 sl142 sl143 sl144 sl145 sl146 sl147 sl148 sl149 sl150 sl151 sl152 sl153 sl154 sl155 sl156 sl157 sl158 sl159 sl160 sl161 sl162 sl163 sl164 sl165 sl166 sl167 sl168 sl169 sl170 sl171 sl172 sl173 sl174 sl175 sl176 sl177 sl178 sl179 sl180 sl181 sl182 sl183 sl184 sl185 sl186 sl187 sl188 sl189 sl190 sl191 sl192 sl193 sl194 sl195 sl196 sl197 sl198 sl199 sl200 sl201 sl202 sl203 sl204 sl205 sl206 sl207 sl208 sl209 sl210 sl211 sl212 sl213 sl214 sl215 sl216 sl217 sl218 sl219 sl220 sl221 sl222 sl223 sl224 sl225 sl226 sl227 sl228 sl229 sl230 sl231 sl232 sl233 sl234 sl235 sl236 sl237 sl238 sl239 sl240 sl241 sl242 sl243 sl244
  intro si2 out2 wc2 sl3 sl4 sl5 sl9 sl10 sl11 sl12 sl13 sl14 sl15 sl16 sl17 sl18 sl19 sl20 sl21 sl22 sl23 sl24 sl25 sl26 sl27 sl28 sl29 sl30 sl31 sl32 sl33 sl34 sl35 sl36 sl37 sl38 sl39 sl40 sl41 sl42 sl43 sl44 sl45 sl46 sl47 sl48 sl49 sl50 sl51 sl52 sl53 sl54 sl55 sl56 sl57 sl58 sl59 sl60 sl61 sl62 sl63 sl64 sl65 sl66 sl67 sl68 sl69 sl70 sl71 sl72 sl73 sl74 sl75 sl76 sl77 sl78 sl79 sl80 sl81 sl82 sl83 sl84 sl85 sl86 sl87 sl88 sl89 sl90 sl91 sl92 sl93 sl94 sl95 sl96 sl97 sl98 sl99 sl100 sl101 sl102 sl103 sl104 sl105 sl106 sl107 sl108 sl109 sl110 sl111 sl112 sl113 sl114 sl115 sl116 sl117 sl118 sl119 sl120 sl121 sl122 sl123 sl124 sl125 sl126 sl127 sl128 sl129 sl130 sl131 sl132 sl133 sl134 sl135 sl136 sl137 sl138 sl139 sl140 sl141 sl142 sl143 sl144 sl145 sl146 sl147 sl148 sl149 sl150 sl151 sl152 sl153 sl154 sl155 sl156 sl157 sl158 sl159 sl160 sl161 sl162 sl163 sl164 sl165 sl166 sl167 sl168 sl169 sl170 sl171 sl172 sl173 sl174 sl175 sl176 sl177 sl178 sl179 sl180 sl181 sl182 sl183 sl184 sl185 sl186 sl187 sl188 sl189 sl190 sl191 sl192 sl193 sl194 sl195 sl196 sl197 sl198 sl199 sl200 sl201 sl202 sl203 sl204 sl205 sl206 sl207 sl208 sl209 sl210 sl211 sl212 sl213 sl214 sl215 sl216 sl217 sl218 sl219 sl220 sl221 sl222 sl223 sl224 sl225 sl226 sl227 sl228 sl229 sl230 sl231 sl232 sl233 sl234 sl235 sl236 sl237 sl238 sl239 sl240 sl241 sl242 sl243 sl244 hD2
  have HD2 := hidden hD2
  clear hD2
  go_wp2_with (fail)
  go_loopw [6, 7, 8] (fun s6 s7 s8 wr => ∃ (si : Nat) (out : List Int), s6 = .int .i64 out.length ∧ s7 = .nilIface ∧ s8 = .int .i64 si ∧ DSt w gd T M N dm pad l si out wr) (fun _ _ s8 _ => N - (intOf s8).toNat)
  case atStart => exact ⟨si2, out2, rfl, rfl, rfl, HD2.out⟩
  case round =>
    obtain ⟨si, out, rfl, rfl, rfl, hD⟩ := hrel
    obtain ⟨rest, hlen, hRow⟩ := hD.row
    obtain ⟨p, hp⟩ : ∃ p, p = out.length := ⟨_, rfl⟩
    have hpM : p ≤ M := by rw [hp]; exact hD.outLe
    have hub := hD.ub
    have HP := hidden hp
    rw [← hp]
    have HD := hidden hD
    have HL := hidden hlen
    have HRo := hidden hRow
    clear hp hD hlen hRow
    by_cases h8 : si < N
    · have h8i : (si : Int) < (N : Int) := by omega
      obtain ⟨o, ho⟩ : ∃ o, o = if M = p then 0 else p := ⟨_, rfl⟩
      have q2 : ∀ W : World, (Instr.slice 22 (.slice (some ⟨gd, 0, none⟩) M M) (some (.int .i64 (p : Int))) none none).run Tryd.prog W = .ok (.slice (some ⟨gd, o, none⟩) (M - p) (M - p)) W := fun W => by
        rw [run_from Tryd.underlying22 size_u8' (some ⟨gd, 0, none⟩) M M (p : Int) p rfl hpM (Nat.le_refl _), ho]
        by_cases h : M = p
        · rw [if_pos h, if_pos h]
        · rw [if_neg h, if_neg h, Option.map_some, addr_add, Nat.zero_add]
      have hoM : M - p = 0 ∨ o + (M - p) ≤ M := by rw [ho]; split <;> omega
      have hoL : o ≤ M := by rw [ho]; split <;> omega
      have Ho := hidden ho
      clear ho
      have Hq := hidden (quantum_calls g gd T o (M - p) (M - p) b0 oa N c si al dm pad l (out ++ rest) wr (HE.out.grown HD.out.gr (by simpa using hg)) HT.out Hpad.out H61.out Hl.out Hb.out (fun i hi => grown_cell HD.out.gr hb0g hb0 (Hcl.out i hi)) (Nat.lt_of_lt_of_le hb0 HD.out.gr.size) hub hN HRo.out (Nat.le_refl _) (by rw [HL.out]; exact hoM) (by rw [HL.out]; exact hoL) hg (by intro hs; rw [HP.out]; exact HD.out.m4 HM.out h8 hs) (by intro h hs; rw [HP.out]; exact HD.out.m3 HM.out h8 h hs) (by intro h hs; rw [HP.out]; exact HD.out.m2 HM.out h8 h hs))
      have Hst := hidden (fun (e : Ending) (w2 : World) (hqp : QPost wr gd T o (M - p) dm pad l (out ++ rest) si N e w2) => DSt.quantum HD.out h8 HL.out (o := o) (by rw [← HP.out]; exact Ho.out) (by rw [← HP.out]; exact hqp))
      clear hoM
      go_wp2_with (go_at_call 65; go_must (refine Hq.out.mono ?_; intro e w2 hqp; rcases Hst.out e w2 hqp with ⟨si', x, rfl, hlt', hD'⟩ | ⟨a', b', v', rfl, hnone, hgr'⟩ <;> dsimp only))
      · go_roundw
        case rel => exact ⟨si', out ++ x, by have hb := hD'.outLe; rw [List.length_append, ← HP.out] at hb ⊢; exact congrArg (Value.int .i64) ((wrap64_id _ (by omega) (by omega)).trans (by omega)), rfl, rfl, hD'⟩
        case measure => simp [intOf]; have := hD'.ub; omega
      · (try simp only [Exit.inBlock, Exit.then])
        go_ret2
        exact ⟨hgr', .inr ⟨_, _, rfl, hnone⟩⟩
    · have h8i : ¬ (si : Int) < (N : Int) := by omega
      go_wp2_with (fail)
      go_ret2
      exact HD.out.done Hl.out h8 p HP.out
end Go.Proofs.YtmibnnmampfalaaDoor
