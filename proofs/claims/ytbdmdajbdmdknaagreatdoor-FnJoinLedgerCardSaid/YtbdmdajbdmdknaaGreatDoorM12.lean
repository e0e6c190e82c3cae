/- Reading, whole. Which form a text has, and how it is read. A text is read, whatever its form. Texts are read: the decoder, and the doors. -/
import Derived.Test.YtbdmdajbdmdknaaGreatDoorB64K
namespace Go.Proofs.YtbdmdajbdmdknaaGreatDoor
open Go.RowKit
set_option linter.unusedVariables false
set_option linter.unusedSimpArgs false

set_option maxRecDepth 100000 in
set_option maxHeartbeats 4000000 in
theorem decode_calls (g gd T M N c b0 oa : Nat) (al dm : List Int) (pad : Int) (l L : List Int) (w : World) (hE : EncAt w g al dm pad) (hT : IsTab dm) (hp : pad = -1 ∨ pad = 61) (h61 : gi dm 61 = 255)
    (hl : l.length = N) (hb : IsB l) (hcl : ∀ i, i < N → w.cell? ⟨b0, oa + i, none⟩ = some (.int .u8 (gi l i))) (hb0 : b0 < w.heap.size) (hN : N ≤ 100000) (hN0 : 0 < N) (hc : N ≤ c)
    (hR : Row w gd T (nums .u8 L)) (hL : L.length = M) (hg : g ≠ gd) (hb0g : b0 ≠ gd) (hM : roomFor pad N M) :
    Calls Tryz.prog 164 #[.pointer (some ⟨g, 0, none⟩), .slice (some ⟨gd, 0, none⟩) M M, .slice (some ⟨b0, oa, none⟩) N c] w fun e w' => DPost w gd T M dm pad l e w' := by
  have size256 : (Tryz.prog.info? 83).map (·.size) = some (nums .u8 dm).length := by rw [nums_len, hE.ld]; exact size_256
  have hn0 : ¬ N = 0 := by omega
  have hMb : M ≤ 100000 := by rcases hM with ⟨_, h⟩ | ⟨_, h⟩ <;> omega
  have hbyte : ∀ k, k < N → ∃ a : Nat, gi l k = (a : Int) ∧ a < 256 ∧ w.cell? ⟨b0, oa + k, none⟩ = some (.int .u8 (a : Int)) := fun k hk => by
    have h := gi_byte hb k
    refine ⟨(gi l k).toNat, (Int.toNat_of_nonneg h.1).symm, by omega, ?_⟩
    rw [Int.toNat_of_nonneg h.1]; exact hcl k hk
  have HBy := hidden hbyte
  have HE := hidden hE
  have HR := hidden hR
  have HT := hidden hT
  have Hpad := hidden hp
  have H61 := hidden h61
  have Hl := hidden hl
  have Hb := hidden hb
  have Hcl := hidden hcl
  have HM := hidden hM
  have HD0 := hidden (DSt.start (N := N) (dm := dm) (pad := pad) (l := l) hR hL)
  clear hE hR hT hp h61 hl hb hcl hM hbyte hL
  go_enter Tryz.func164, Tryz.ntmps164
  go_upto_block 0 with (with_reducible refine at_dst 24 ?_; go_must (refine walk_load_at (off := 64) (cs := nums .u8 dm) rfl _ _ rfl (fun j v hv => by
        have hj : j < dm.length := by rw [← nums_len .u8]; exact (List.getElem?_eq_some_iff.1 hv).1
        rw [nums_at _ _ _ hj] at hv; cases hv; exact HE.out.digit j (by rw [← HE.out.ld]; exact hj)) rfl Tryz.underlying83 rfl size256 ?_))
  refine loop1_wp g gd T M N c b0 oa al dm pad l w HE HT Hpad H61 Hl Hb Hcl hb0 hN hc hMb hg hb0g HM HBy _ ?_ 0 [] w HD0 _ _ _ _ _ _ _ _ _ _ _ _ _ _ _ _ _ _ _ _ _ _ _ _ _ _ _ _ _ _ _ _ _ _ _ _ _ _ _ _ _ _ _ _ _ _ _ _ _ _ _ _ _ _ _ _ _ _ _ _ _ _ _ _ _ _ _ _ _ _ _ _ _ _ _ _ _ _ _ _ _ _ _ _ _ _ _ _ _ _ _ _ _ _ _ _ _ _ _ _ _ _ _ _ _ _ _ _ _ _ _ _ _ _ _ _ _ _ _ _ _ _ _ _ _ _ _ _ _ _ _ _ _ _ _ _ _ _ _ _ _ _ _ _ _ _ _ _ _ _ _ _ _ _ _ _ _ _ _ _ _ _ _ _ _ _ _ _ _ _ _ _ _ _ _ _ _ _ _ _ _ _ _ _ _ _ _ _ _ _ _ _ _ _ _ _ _ _ _ _ _ _ _ _ _ _ _ _ _ _ _ _ _ _ _ _ _ _ _ _ _ _ _ _ _ _ _ _ _ _ _ _ _ _ _ _ _ _ _
  intro si1 out1 wc1 sl3 sl4 sl5 sl9 sl10 sl11 sl12 sl13 sl14 sl15 sl16 sl17 sl18 sl19 sl20 sl21 sl22 sl23 sl24 sl25 sl26 sl27 sl28 sl29 sl30 sl31 sl32 sl33 sl34 sl35 sl36 sl37 sl38 sl39 sl40 sl41 sl42 sl43 sl44 sl45 sl46 sl47 sl48 sl49 sl50 sl51 sl52 sl53 sl54 sl55 sl56 sl57 sl58 sl59 sl60 sl61 sl62 sl63 sl64 sl65 sl66 sl67 sl68 sl69 sl70 sl71 sl72 sl73 sl74 sl75 sl76 sl77 sl78 sl79 sl80 sl81 sl82 sl83 sl84 sl85 sl86 sl87 sl88 sl89 sl90 sl91 sl92 sl93 sl94 sl95 sl96 sl97 sl98 sl99 sl100 sl101 sl102 sl103 sl104 sl105 sl106 sl107 sl108 sl109 sl110 sl111 sl112 sl113 sl114 sl115 sl116 sl117 sl118 sl119 sl120 sl121 sl122 sl123 sl124 sl125 sl126 sl127 sl128 sl129 sl130 sl131 sl132 sl133 sl134 sl135 sl136 sl137 sl138 sl139 sl140 sl141 sl142 sl143 sl144 sl145 sl146 sl147 sl148 sl149 sl150 sl151 sl152 sl153 sl154 sl155 sl156 sl157 sl158 sl159 sl160 sl161 sl162 sl163 sl164 sl165 sl166 sl167 sl168 sl169 sl170 sl171 sl172 sl173 sl174 sl175 sl176 sl177 sl178 sl179 sl180 sl181 sl182 sl183 sl184 sl185 sl186 sl187 sl188 sl189 sl190 sl191 sl192 sl193 sl194 sl195 sl196 sl197 sl198 sl199 sl200 sl201 sl202 sl203 sl204 sl205 sl206 sl207 sl208 sl209 sl210 sl211 sl212 sl213 sl214 sl215 sl216 sl217 sl218 sl219 sl220 sl221 sl222 sl223 sl224 sl225 sl226 sl227 sl228 sl229 sl230 sl231 sl232 sl233 sl234 sl235 sl236 sl237 sl238 sl239 sl240 sl241 sl242 sl243 sl244 hD1
  have HD1 := hidden hD1
  clear hD1
  go_upto_block 2 with (fail)
  refine loop2_wp g gd T M N c b0 oa al dm pad l w HE HT Hpad H61 Hl Hb Hcl hb0 hN hc hMb hg hb0g HM HBy _ ?_ si1 out1 wc1 HD1 _ _ _ _ _ _ _ _ _ _ _ _ _ _ _ _ _ _ _ _ _ _ _ _ _ _ _ _ _ _ _ _ _ _ _ _ _ _ _ _ _ _ _ _ _ _ _ _ _ _ _ _ _ _ _ _ _ _ _ _ _ _ _ _ _ _ _ _ _ _ _ _ _ _ _ _ _ _ _ _ _ _ _ _ _ _ _ _ _ _ _ _ _ _ _ _ _ _ _ _ _ _ _ _ _ _ _ _ _ _ _ _ _ _ _ _ _ _ _ _ _ _ _ _ _ _ _ _ _ _ _ _ _ _ _ _ _ _ _ _ _ _ _ _ _ _ _ _ _ _ _ _ _ _ _ _ _ _ _ _ _ _ _ _ _ _ _ _ _ _ _ _ _ _ _ _ _ _ _ _ _ _ _ _ _ _ _ _ _ _ _ _ _ _ _ _ _ _ _ _ _ _ _ _ _ _ _ _ _ _ _ _ _ _ _ _ _ _ _ _ _ _ _ _ _ _ _ _ _ _ _ _ _ _ _ _ _ _ _
  clear HD1 sl3 sl4 sl5 sl9 sl10 sl11 sl12 sl13 sl14 sl15 sl16 sl17 sl18 sl19 sl20 sl21 sl22 sl23 sl24 sl25 sl26 sl27 sl28 sl29 sl30 sl31 sl32 sl33 sl34 sl35 sl36 sl37 sl38 sl39 sl40 sl41 sl42 sl43 sl44 sl45 sl46 sl47 sl48 sl49 sl50 sl51 sl52 sl53 sl54 sl55 sl56 sl57 sl58 sl59 sl60 sl61 sl62 sl63 sl64 sl65 sl66 sl67 sl68 sl69 sl70 sl71 sl72 sl73 sl74 sl75 sl76 sl77 sl78 sl79 sl80 sl81 sl82 sl83 sl84 sl85 sl86 sl87 sl88 sl89 sl90 sl91 sl92 sl93 sl94 sl95 sl96 sl97 sl98 sl99 sl100 sl101 sl102 sl103 sl104 sl105 sl106 sl107 sl108 sl109 sl110 sl111 sl112 sl113 sl114 sl115 sl116 sl117 sl118 sl119 sl120 sl121 sl122 sl123 sl124 sl125 sl126 sl127 sl128 sl129 sl130 sl131 sl132 sl133 sl134 sl135 sl136 sl137 sl138 sl139 sl140 sl141 sl142 sl143 sl144 sl145 sl146 sl147 sl148 sl149 sl150 sl151 sl152 sl153 sl154 sl155 sl156 sl157 sl158 sl159 sl160 sl161 sl162 sl163 sl164 sl165 sl166 sl167 sl168 sl169 sl170 sl171 sl172 sl173 sl174 sl175 sl176 sl177 sl178 sl179 sl180 sl181 sl182 sl183 sl184 sl185 sl186 sl187 sl188 sl189 sl190 sl191 sl192 sl193 sl194 sl195 sl196 sl197 sl198 sl199 sl200 sl201 sl202 sl203 sl204 sl205 sl206 sl207 sl208 sl209 sl210 sl211 sl212 sl213 sl214 sl215 sl216 sl217 sl218 sl219 sl220 sl221 sl222 sl223 sl224 sl225 sl226 sl227 sl228 sl229 sl230 sl231 sl232 sl233 sl234 sl235 sl236 sl237 sl238 sl239 sl240 sl241 sl242 sl243 sl244
  intro si2 out2 wc2 sl3 sl4 sl5 sl9 sl10 sl11 sl12 sl13 sl14 sl15 sl16 sl17 sl18 sl19 sl20 sl21 sl22 sl23 sl24 sl25 sl26 sl27 sl28 sl29 sl30 sl31 sl32 sl33 sl34 sl35 sl36 sl37 sl38 sl39 sl40 sl41 sl42 sl43 sl44 sl45 sl46 sl47 sl48 sl49 sl50 sl51 sl52 sl53 sl54 sl55 sl56 sl57 sl58 sl59 sl60 sl61 sl62 sl63 sl64 sl65 sl66 sl67 sl68 sl69 sl70 sl71 sl72 sl73 sl74 sl75 sl76 sl77 sl78 sl79 sl80 sl81 sl82 sl83 sl84 sl85 sl86 sl87 sl88 sl89 sl90 sl91 sl92 sl93 sl94 sl95 sl96 sl97 sl98 sl99 sl100 sl101 sl102 sl103 sl104 sl105 sl106 sl107 sl108 sl109 sl110 sl111 sl112 sl113 sl114 sl115 sl116 sl117 sl118 sl119 sl120 sl121 sl122 sl123 sl124 sl125 sl126 sl127 sl128 sl129 sl130 sl131 sl132 sl133 sl134 sl135 sl136 sl137 sl138 sl139 sl140 sl141 sl142 sl143 sl144 sl145 sl146 sl147 sl148 sl149 sl150 sl151 sl152 sl153 sl154 sl155 sl156 sl157 sl158 sl159 sl160 sl161 sl162 sl163 sl164 sl165 sl166 sl167 sl168 sl169 sl170 sl171 sl172 sl173 sl174 sl175 sl176 sl177 sl178 sl179 sl180 sl181 sl182 sl183 sl184 sl185 sl186 sl187 sl188 sl189 sl190 sl191 sl192 sl193 sl194 sl195 sl196 sl197 sl198 sl199 sl200 sl201 sl202 sl203 sl204 sl205 sl206 sl207 sl208 sl209 sl210 sl211 sl212 sl213 sl214 sl215 sl216 sl217 sl218 sl219 sl220 sl221 sl222 sl223 sl224 sl225 sl226 sl227 sl228 sl229 sl230 sl231 sl232 sl233 sl234 sl235 sl236 sl237 sl238 sl239 sl240 sl241 sl242 sl243 sl244 hD2
  have HD2 := hidden hD2
  clear hD2
  go_wp2_with (fail)
  go_loopw [6, 7, 8] (fun s6 s7 s8 wr => ∃ (si : Nat) (out : List Int), s6 = .int .i64 out.length ∧ s7 = .nilIface ∧ s8 = .int .i64 si ∧ DSt w gd T M N dm pad l si out wr) (fun _ _ s8 _ => N - (intOf s8).toNat)
  case atStart => exact ⟨si2, out2, rfl, rfl, rfl, HD2.out⟩
  case round =>
    obtain ⟨si, out, rfl, rfl, rfl, hD⟩ := hrel
    obtain ⟨rest, hlen, hRow⟩ := hD.row
    obtain ⟨p, hp⟩ : ∃ p, p = out.length := ⟨_, rfl⟩
    have hpM : p ≤ M := by rw [hp]; exact hD.outLe
    have hub := hD.ub
    have HP := hidden hp
    rw [← hp]
    have HD := hidden hD
    have HL := hidden hlen
    have HRo := hidden hRow
    clear hp hD hlen hRow
    by_cases h8 : si < N
    · have h8i : (si : Int) < (N : Int) := by omega
      obtain ⟨o, ho⟩ : ∃ o, o = if M = p then 0 else p := ⟨_, rfl⟩
      have q2 : ∀ W : World, (Instr.slice 31 (.slice (some ⟨gd, 0, none⟩) M M) (some (.int .i64 (p : Int))) none none).run Tryz.prog W = .ok (.slice (some ⟨gd, o, none⟩) (M - p) (M - p)) W := fun W => by
        rw [run_from Tryz.underlying31 size_u8' (some ⟨gd, 0, none⟩) M M (p : Int) p rfl hpM (Nat.le_refl _), ho]
        by_cases h : M = p
        · rw [if_pos h, if_pos h]
        · rw [if_neg h, if_neg h, Option.map_some, addr_add, Nat.zero_add]
      have hoM : M - p = 0 ∨ o + (M - p) ≤ M := by rw [ho]; split <;> omega
      have hoL : o ≤ M := by rw [ho]; split <;> omega
      have Ho := hidden ho
      clear ho
      have Hq := hidden (quantum_calls g gd T o (M - p) (M - p) b0 oa N c si al dm pad l (out ++ rest) wr (HE.out.grown HD.out.gr (by simpa using hg)) HT.out Hpad.out H61.out Hl.out Hb.out (fun i hi => grown_cell HD.out.gr hb0g hb0 (Hcl.out i hi)) (Nat.lt_of_lt_of_le hb0 HD.out.gr.size) hub hN HRo.out (Nat.le_refl _) (by rw [HL.out]; exact hoM) (by rw [HL.out]; exact hoL) hg (by intro hs; rw [HP.out]; exact HD.out.m4 HM.out h8 hs) (by intro h hs; rw [HP.out]; exact HD.out.m3 HM.out h8 h hs) (by intro h hs; rw [HP.out]; exact HD.out.m2 HM.out h8 h hs))
      have Hst := hidden (fun (e : Ending) (w2 : World) (hqp : QPost wr gd T o (M - p) dm pad l (out ++ rest) si N e w2) => DSt.quantum HD.out h8 HL.out (o := o) (by rw [← HP.out]; exact Ho.out) (by rw [← HP.out]; exact hqp))
      clear hoM
      go_wp2_with (go_at_call 170; go_must (refine Hq.out.mono ?_; intro e w2 hqp; rcases Hst.out e w2 hqp with ⟨si', x, rfl, hlt', hD'⟩ | ⟨a', b', v', rfl, hnone, hgr'⟩ <;> dsimp only))
      · go_roundw
        case rel => exact ⟨si', out ++ x, by have hb := hD'.outLe; rw [List.length_append, ← HP.out] at hb ⊢; exact congrArg (Value.int .i64) ((wrap64_id _ (by omega) (by omega)).trans (by omega)), rfl, rfl, hD'⟩
        case measure => simp [intOf]; have := hD'.ub; omega
      · (try simp only [Exit.inBlock, Exit.then])
        go_ret2
        exact ⟨hgr', .inr ⟨_, _, rfl, hnone⟩⟩
    · have h8i : ¬ (si : Int) < (N : Int) := by omega
      go_wp2_with (fail)
      go_ret2
      exact HD.out.done Hl.out h8 p HP.out
end Go.Proofs.YtbdmdajbdmdknaaGreatDoor
namespace Go.Proofs.YtbdmdajbdmdknaaGreatDoor
open Go.RowKit
set_option linter.unusedVariables false
set_option linter.unusedSimpArgs false

def stdIn (l : List Int) : Bool := l.any fun x => x == 43 || x == 47
def padded? (l : List Int) : Bool := decide (0 < l.length) && (gi l (l.length - 1) == 61)
def padOf (l : List Int) : Int := if padded? l then 61 else -1
def decOf (l : List Int) : Option (List Int) := decA (tab (!stdIn l)) (padOf l) l []
theorem quo_of (n k d : Nat) (h : d = n / k) : ((n : Int)).tdiv (k : Int) = (d : Int) := by subst h; rw [Int.tdiv_eq_ediv_of_nonneg (Int.natCast_nonneg n)]; rfl
theorem rem_of (n k d : Nat) (h : d = n % k) : ((n : Int)).tmod (k : Int) = (d : Int) := by subst h; rw [Int.tmod_eq_emod_of_nonneg (Int.natCast_nonneg n)]; rfl
theorem decodedLen_calls (N M : Nat) (pad : Int) (hp : roomFor pad N M) (hN : N ≤ 100000) (w : World) :
    Calls Tryz.prog 167 #[.int .i64 N, .int .i32 pad] w fun e w' => e = .returned (.int .i64 M) ∧ w' = w := by
  obtain ⟨d, hd⟩ : ∃ d, d = N / 4 := ⟨_, rfl⟩
  obtain ⟨r, hr⟩ : ∃ d, d = N % 4 := ⟨_, rfl⟩
  obtain ⟨r6, hr6⟩ : ∃ d, d = r * 6 := ⟨_, rfl⟩
  obtain ⟨q, hq⟩ : ∃ d, d = r6 / 8 := ⟨_, rfl⟩
  have hdb : d ≤ 25000 := by omega
  have hrb : r < 4 := by omega
  have hqb : q ≤ 2 := by omega
  have hm : (pad = -1 ∧ d * 3 + q = M) ∨ (pad = 61 ∧ d * 3 = M) := by
    rcases hp with ⟨h, hM⟩ | ⟨h, hM⟩
    · exact .inl ⟨h, by rw [hM, ← hd, ← hr, ← hr6, ← hq]⟩
    · exact .inr ⟨h, by rw [hM, ← hd]⟩
  have h1 := quo_of N 4 d hd
  have h2 := rem_of N 4 r hr
  have h3 := quo_of r6 8 q hq
  have e6 : (r : Int) * 6 = (r6 : Int) := by rw [hr6]; rfl
  have hr6b : r6 ≤ 18 := by omega
  clear hp hd hr hr6 hq hN
  have H1 := hidden h1
  have H2 := hidden h2
  have H3 := hidden h3
  clear h1 h2 h3
  have w1 : wrap64 (d : Int) = d := wrap64_id _ (by omega) (by omega)
  have w2 : wrap64 ((d : Int) * 3) = d * 3 := wrap64_id _ (by omega) (by omega)
  have w3 : wrap64 (r6 : Int) = r6 := wrap64_id _ (by omega) (by omega)
  have w4 : wrap64 (q : Int) = q := wrap64_id _ (by omega) (by omega)
  have w5 : wrap64 ((d : Int) * 3 + q) = d * 3 + q := wrap64_id _ (by omega) (by omega)
  have h1 : ((N : Int)).tdiv 4 = (d : Int) := H1.out
  have h2 : ((N : Int)).tmod 4 = (r : Int) := H2.out
  have h3 : ((r6 : Int)).tdiv 8 = (q : Int) := H3.out
  clear H1 H2 H3 hdb hrb hqb hr6b
  rcases hm with ⟨rfl, hm⟩ | ⟨rfl, hm⟩
  · have Hm : Hid ((d : Int) * 3 + q = (M : Int)) := hidden (by rw [← hm]; rfl)
    clear hm
    go_enter Tryz.func167, Tryz.ntmps167
    go_wp2
    go_ret
    exact ⟨congrArg (fun x => Ending.returned (.int .i64 x)) (w5.trans Hm.out), rfl⟩
  · have Hm : Hid ((d : Int) * 3 = (M : Int)) := hidden (by rw [← hm]; rfl)
    clear hm
    go_enter Tryz.func167, Tryz.ntmps167
    go_wp2
    go_ret
    exact ⟨congrArg (fun x => Ending.returned (.int .i64 x)) (w2.trans Hm.out), rfl⟩
theorem decodedLenM_calls (g N M : Nat) (al dm : List Int) (pad : Int) (hp : roomFor pad N M) (hN : N ≤ 100000) (w : World) (hE : EncAt w g al dm pad) :
    Calls Tryz.prog 163 #[.pointer (some ⟨g, 0, none⟩), .int .i64 N] w fun e w' => e = .returned (.int .i64 M) ∧ w' = w := by
  have cp := hE.padc
  have HP := hidden hp
  clear hp hE
  go_enter Tryz.func163, Tryz.ntmps163
  go_wp2_with (go_at_call 167; go_must (refine (decodedLen_calls N M pad HP.out hN _).mono ?_; rintro e w1 ⟨rfl, rfl⟩))
  go_ret
  exact ⟨rfl, rfl⟩
set_option maxHeartbeats 1000000 in
theorem zzStd_calls (A : Option Addr) (n c : Nat) (l : List Int) (w : World) (h : Rd w A (nums .u8 l)) (hn : l.length = n) (hb : IsB l) (hN : n ≤ 100000) (r : Bool) (hr : r = stdIn l) :
    Calls Tryz.prog 166 #[.slice A n c] w fun e w' => e = .returned (.bool r) ∧ w = w' := by
  have Hr := hidden hr
  have Hb := hidden hb
  have H := hidden h
  have Hn := hidden hn
  clear hr hb h hn
  go_enter Tryz.func166, Tryz.ntmps166
  go_wp2
  go_loop [7] (fun i => ∃ k : Nat, k ≤ n ∧ i = .int .i64 k ∧ Hid (∀ j, j < k → ¬ (gi l j = 43 ∨ gi l j = 47))) (fun i => n - (intOf i).toNat)
  case atStart => exact ⟨0, by omega, rfl, hidden (by omega)⟩
  case round =>
    obtain ⟨k, hk, rfl, Hall⟩ := hrel
    by_cases hlt : k < n
    · have hlti : (k : Int) < (n : Int) := by omega
      obtain ⟨b0, o0, rfl, _, c0⟩ := H.out.at k (by rw [Hn.out]; exact hlt)
      obtain ⟨a, ha⟩ : ∃ a : Nat, gi l k = (a : Int) := ⟨(gi l k).toNat, (Int.toNat_of_nonneg (gi_byte Hb.out k).1).symm⟩
      rw [ha] at c0
      have HA := hidden ha
      clear ha
      by_cases hs : a = 43 ∨ a = 47
      · have hrt : r = true := by
          rw [Hr.out, stdIn, List.any_eq_true]
          refine ⟨gi l k, gi_mem (by rw [Hn.out]; exact hlt), ?_⟩
          rw [HA.out]
          rcases hs with rfl | rfl <;> rfl
        subst hrt
        rcases hs with rfl | rfl
        · go_wp2
          go_ret
          exact ⟨rfl, rfl⟩
        · go_wp2
          go_ret
          exact ⟨rfl, rfl⟩
      · have h43 : ((a : Int) == 43) = false := beq_eq_false_iff_ne.2 (by omega)
        have h47 : ((a : Int) == 47) = false := beq_eq_false_iff_ne.2 (by omega)
        have hn43 : ¬ a = 43 := by omega
        have hn47 : ¬ a = 47 := by omega
        clear hs
        go_wp2
        go_round
        case rel => exact ⟨k + 1, by omega, by go_num, hidden (fun j hj => by rcases Nat.lt_succ_iff_lt_or_eq.1 hj with h | rfl; exact Hall.out j h; rw [HA.out]; omega)⟩
        case measure => simp [intOf]; omega
    · obtain rfl : k = n := by omega
      have hrf : r = false := by
        rw [Hr.out, stdIn]
        rw [Bool.eq_false_iff]
        intro h
        obtain ⟨x, hx, hx2⟩ := List.any_eq_true.1 h
        obtain ⟨j, hj, rfl⟩ := List.mem_iff_getElem.1 hx
        have := Hall.out j (by rw [← Hn.out]; exact hj)
        have e : gi l j = l[j] := by simp [gi, List.getD_eq_getElem?_getD, hj]
        rw [e] at this
        simp at hx2
        exact this hx2
      subst hrf
      go_wp2
      go_ret
      exact ⟨rfl, rfl⟩
theorem bytesEqual_calls (A B : Option Addr) (n c n' c' : Nat) (l l' : List Int) (w : World) (h : Rd w A (nums .u8 l)) (hn : l.length = n) (h' : Rd w B (nums .u8 l')) (hn' : l'.length = n') (hb : IsB l) (hb' : IsB l') (r : Bool) (hr : r = decide (l = l')) :
    Calls Tryz.prog 173 #[.slice A n c, .slice B n' c'] w fun e w' => e = .returned (.bool r) ∧ w = w' := by
  have k1 := run_string (P := Tryz.prog) (c := c) Tryz.underlying31 Tryz.underlying5 Tryz.underlying9 h hn
  have k2 := run_string (P := Tryz.prog) (c := c') Tryz.underlying31 Tryz.underlying5 Tryz.underlying9 h' hn'
  have Hr := hidden hr
  clear h h' hn hn' hr
  go_enter Tryz.func173, Tryz.ntmps173
  have k3 := hidden (same_str hb hb')
  go_wp2
  go_ret
  exact ⟨congrArg (fun b => Ending.returned (.bool b)) (k3.out.trans Hr.out.symm), rfl⟩
end Go.Proofs.YtbdmdajbdmdknaaGreatDoor
namespace Go.Proofs.YtbdmdajbdmdknaaGreatDoor
open Go.RowKit
set_option linter.unusedVariables false
set_option linter.unusedSimpArgs false

set_option maxHeartbeats 1000000 in
theorem hasPad_calls (A : Option Addr) (n c g : Nat) (l : List Int) (w : World) (h : Rd w A (nums .u8 l)) (hn : l.length = n) (hc : n ≤ c) (hb : IsB l) (hN : n ≤ 100000) (h' : Rd w (some ⟨g, 0, none⟩) (nums .u8 [61])) (r : Bool) (hr : r = padded? l) :
    Calls Tryz.prog 165 #[.slice A n c, .slice (some ⟨g, 0, none⟩) 1 1] w fun e w' => e = .returned (.bool r) ∧ w = w' := by
  by_cases h0 : n = 0
  · subst h0
    have hrf : r = false := by rw [hr, padded?, hn]; rfl
    subst hrf
    clear h hn hr h'
    go_enter Tryz.func165, Tryz.ntmps165
    go_wp2
    go_ret
    exact ⟨rfl, rfl⟩
  · have h1 : 1 ≤ n := by omega
    have h1i : (1 : Int) ≤ (n : Int) := by omega
    obtain ⟨p, hp⟩ : ∃ p, p = n - 1 := ⟨_, rfl⟩
    have hpi : (n : Int) - 1 = (p : Int) := by omega
    have hnp : n - p = 1 := by omega
    have q1 := fun W => run_from (W := W) Tryz.underlying31 size_u8' A n c (p : Int) p rfl (by omega) hc
    rw [hnp] at q1
    have hne : ¬ c = p := by omega
    simp only [if_neg hne] at q1
    have hl1 : l.drop p = [gi l p] := by
      rw [drop_gi l (by omega), List.drop_of_length_le (by omega)]
    have hRd := Rd.drop h p c (by rw [nums_len]; omega)
    rw [if_neg hne, show (nums .u8 l).drop p = nums .u8 (l.drop p) from (List.map_drop ..).symm, hl1] at hRd
    have hx : 0 ≤ gi l p ∧ gi l p < 256 := gi_byte hb p
    have Hx1 : Hid (IsB [gi l p]) := hidden (by intro x hx2; rw [List.mem_singleton.1 hx2]; exact hx)
    have Hx2 : Hid (IsB [61]) := hidden (by intro x hx2; rw [List.mem_singleton.1 hx2]; omega)
    have Hr : Hid (r = decide ([gi l p] = [61])) := hidden (by
      rw [hr, padded?, hn, ← hp]
      have : (decide (0 < n)) = true := decide_eq_true (by omega)
      rw [this, Bool.true_and, Bool.eq_iff_iff]
      simp)
    obtain ⟨A', hA'⟩ : ∃ A', A' = Option.map (fun x : Addr => x.add p) A := ⟨_, rfl⟩
    rw [← hA'] at hRd
    simp only [← hA'] at q1
    have HRd := hidden hRd
    have H' := hidden h'
    clear h hr hp hnp hl1 hRd h' hA' hn
    go_enter Tryz.func165, Tryz.ntmps165
    go_wp2_with (go_at_call 173; go_must (refine (bytesEqual_calls A' _ 1 (c - p) 1 1 [gi l p] [61] _ HRd.out rfl H'.out rfl Hx1.out Hx2.out r Hr.out).mono ?_; rintro e w1 ⟨rfl, rfl⟩))
    go_ret
    exact ⟨rfl, rfl⟩
def guessN (url pad : Bool) : Int := if !pad && url then 4 else if url then 2 else if !pad then 3 else 1
set_option maxHeartbeats 1000000 in
theorem guess_calls (A : Option Addr) (n c : Nat) (l : List Int) (w : World) (h : Rd w A (nums .u8 l)) (hn : l.length = n) (hc : n ≤ c) (hb : IsB l) (hN : n ≤ 100000) (u p : Bool) (hu : u = stdIn l) (hp : p = padded? l) :
    Calls Tryz.prog 159 #[.slice A n c] w fun e w' => e = .returned (.int .i64 (guessN (!u) p)) ∧ Below w.heap.size w w' := by
  have H := hidden h
  have Hn := hidden hn
  have Hu := hidden hu
  have Hp := hidden hp
  clear h hn hu hp
  cases u <;> cases p
  all_goals
    go_enter Tryz.func159, Tryz.ntmps159
    go_wp2_with (first
      | (go_at_call 165; go_must (refine (hasPad_calls A n c _ l _ (H.out.alloc _) Hn.out hc hb hN (Rd.new w 5 (nums .u8 [61]) _ rfl) _ Hp.out).mono ?_; rintro e w1 ⟨rfl, rfl⟩))
      | (go_at_call 166; go_must (refine (zzStd_calls A n c l _ (H.out.alloc _) Hn.out hb hN _ Hu.out).mono ?_; rintro e w1 ⟨rfl, rfl⟩)))
    go_ret
    exact ⟨rfl, below_alloc0 _ _⟩
end Go.Proofs.YtbdmdajbdmdknaaGreatDoor
namespace Go.Proofs.YtbdmdajbdmdknaaGreatDoor
open Go.RowKit
set_option linter.unusedVariables false
set_option linter.unusedSimpArgs false

set_option maxRecDepth 100000 in
theorem decode0_calls (g : Nat) (A D : Option Addr) (m cd c : Nat) (w : World) :
    Calls Tryz.prog 164 #[.pointer (some ⟨g, 0, none⟩), .slice D m cd, .slice A 0 c] w fun e w' => e = .returned (.tuple #[.int .i64 0, .nilIface]) ∧ w = w' := by
  go_enter Tryz.func164, Tryz.ntmps164
  go_wp2
  go_ret2
  exact ⟨rfl, rfl⟩
theorem tab_61 (url : Bool) : gi (tab url) 61 = 255 := by cases url <;> kernel_rfl
theorem decodeAny_calls (g gd T M n c : Nat) (url : Bool) (pad : Int) (A : Option Addr) (l L : List Int) (w : World) (hE : EncAt w g (alpha url) (tab url) pad) (hp : pad = -1 ∨ pad = 61)
    (h : Rd w A (nums .u8 l)) (hn : l.length = n) (hb : IsB l) (hc : n ≤ c) (hN : n ≤ 100000) (hR : Row w gd T (nums .u8 L)) (hL : L.length = M) (hg : g ≠ gd) (hA : 0 < n → ∀ b f, A = some ⟨b, f, none⟩ → b ≠ gd) (hM : roomFor pad n M) :
    Calls Tryz.prog 164 #[.pointer (some ⟨g, 0, none⟩), .slice (some ⟨gd, 0, none⟩) M M, .slice A n c] w fun e w' => DPost w gd T M (tab url) pad l e w' := by
  by_cases h0 : 0 < n
  · obtain ⟨b0, oa, rfl, hb0, hcl⟩ := h.all (by omega)
    exact decode_calls g gd T M n c b0 oa _ _ pad l L w hE (tab_isTab url) hp (tab_61 url) hn hb (fun i hi => hcl i (by omega)) hb0 hN h0 hc hR hL hg (hA h0 _ _ rfl) hM
  · obtain rfl : n = 0 := by omega
    obtain rfl : l = [] := List.eq_nil_of_length_eq_zero hn
    refine (decode0_calls g A _ M M c w).mono ?_
    rintro e w' ⟨rfl, rfl⟩
    exact ⟨World.grownBy.refl w _, .inl ⟨[], L, rfl, rfl, (fun x hx => by cases hx), hL, hR⟩⟩
theorem newErrB_calls (s : ByteArray) (w : World) :
    Calls Tryz.prog 69 #[.string s] w fun e w' => e = .returned (.iface 153 (.pointer (some ⟨w.heap.size, 0, none⟩))) ∧ Below w.heap.size w w' := by
  go_enter Tryz.func69, Tryz.ntmps69
  go_wp2
  go_ret
  exact ⟨rfl, below_alloc0 _ _⟩
/-- What reading gives. -/
structure DecPost (w : World) (l : List Int) (e : Ending) (w' : World) : Prop where
  below : Below w.heap.size w w'
  res : (∃ (v : Value) (out : List Int), e = .returned (.tuple #[v, .nilIface]) ∧ decOf l = some out ∧ Own w' w.heap.size 5 v (nums .u8 out) ∧ IsB out) ∨
    (∃ (t : Nat) (v : Value), e = .returned (.tuple #[.slice none 0 0, .iface t v]) ∧ decOf l = none)
theorem DecPost.then {w w1 w' : World} {l : List Int} {e : Ending} (h : DecPost w1 l e w') (hb : Below w.heap.size w w1) : DecPost w l e w' := by
  refine ⟨below_next hb h.below, ?_⟩
  rcases h.res with ⟨v, out, h1, h2, h3, h4⟩ | ⟨t, v, h1, h2⟩
  · exact .inl ⟨v, out, h1, h2, h3.lower hb.size, h4⟩
  · exact .inr ⟨t, v, h1, h2⟩
def roomN (pad : Int) (n : Nat) : Nat := if pad = -1 then n / 4 * 3 + n % 4 * 6 / 8 else n / 4 * 3
theorem roomN_for {pad : Int} (hp : pad = -1 ∨ pad = 61) (n : Nat) : roomFor pad n (roomN pad n) := by
  rcases hp with rfl | rfl
  · exact .inl ⟨rfl, by rw [roomN, if_pos rfl]⟩
  · exact .inr ⟨rfl, by rw [roomN, if_neg (by omega)]⟩
theorem roomN_le {pad : Int} {n : Nat} (h : n ≤ 100000) : roomN pad n ≤ 100000 := by unfold roomN; split <;> omega
theorem dec_end {w w4 : World} {gd M : Nat} {l out rest : List Int} (hgd : w.heap.size ≤ gd) (hM : M ≤ 100000) (hlen : (out ++ rest).length = M) (hrow : Row w4 gd 5 (nums .u8 (out ++ rest))) (hib : IsB out) (hdec : decOf l = some out) (hb : Below w.heap.size w w4) (k : Nat) (hk : k = out.length) :
    DecPost w l (.returned (.tuple #[.slice (some ⟨gd, 0, none⟩) k M, .nilIface])) w4 := by
  subst hk
  rw [nums_app] at hrow
  have hO := Own.of_row (base := w.heap.size) (c := M) hrow hgd (by rw [nums_len, nums_len, ← hlen, List.length_append]) (by simp only [maxLen]; omega)
  rw [nums_len] at hO
  exact ⟨hb, .inl ⟨_, out, rfl, hdec, hO, hib⟩⟩
set_option maxRecDepth 100000 in
set_option maxHeartbeats 2000000 in
theorem dec_zzRawURL (A : Option Addr) (n c : Nat) (l : List Int) (w : World) (h : Rd w A (nums .u8 l)) (hn : l.length = n) (hc : n ≤ c) (hb : IsB l) (hN : n ≤ 100000) (hu : false = stdIn l) (hp : false = padded? l) :
    Calls Tryz.prog 158 #[.agg #[], .slice A n c] w fun e w' => DecPost w l e w' := by
  have hdo : Hid (decOf l = decA (tab true) (-1) l []) := hidden (by unfold decOf padOf; rw [← hu, ← hp]; rfl)
  obtain ⟨M, hM⟩ : ∃ M, M = roomN (-1) n := ⟨_, rfl⟩
  have hMf : Hid (roomFor (-1) n M) := hidden (by rw [hM]; exact roomN_for (by omega) n)
  have hMb : M ≤ 100000 := by rw [hM]; exact roomN_le hN
  have hMi : ¬ (M : Int) < 0 := by omega
  have H := hidden h
  have Hn := hidden hn
  have Hu := hidden hu
  have Hp := hidden hp
  have hB0 := below_alloc0 w (.cells #[] 157)
  clear h hn hu hp hM
  go_enter Tryz.func158, Tryz.ntmps158
  go_wp2_with (first
    | (go_at_call 159; go_must (refine (guess_calls A n c l _ (H.out.alloc _) Hn.out hc hb hN _ _ Hu.out Hp.out).mono ?_; rintro e w1 ⟨rfl, hB1⟩; have hB1' := below_next hB0 hB1; clear hB1; rw [show guessN (!false) false = 4 from rfl]))
    | (go_at_call 86; go_must (refine (zzRawURL_calls _).mono ?_; rintro e w2 ⟨g, rfl, hE2, hg2, hB2⟩; have hB2' := below_next hB1' hB2; clear hB2))
    | (go_at_call 163; go_must (refine (decodedLenM_calls g n M _ _ (-1) hMf.out hN _ hE2).mono ?_; rintro e w3 ⟨rfl, rfl⟩))
    | (with_reducible refine at_dst 29 ?_; go_must (refine walk_make rfl _ _ (n := M) rfl Tryz.underlying31 info_u8 rfl rfl rfl rfl rfl (by omega) (by omega) ?_))
    | (go_at_call 164; go_must (refine (decodeAny_calls g w3.heap.size 5 M n c true (-1) A l (List.replicate M 0) _ (hE2.alloc _) (by omega) ((H.out.below hB2' (Nat.le_refl _)).alloc _) Hn.out hb hc hN (zeros_row w3 M _) List.length_replicate (Nat.ne_of_lt hE2.lt) (rd_lt H.out Hn.out hB2'.size) hMf.out).mono ?_; intro e w4 hd; have hB4 := (hB2'.trans ((below_alloc0 w3 _).mono hB2'.size)).grown hd.gr (by simp; have := hB2'.size; omega) (by rintro k ⟨⟩; exact hB2'.size); rcases hd.res with ⟨out, rest, rfl, hdec, hIB, hlen, hRow⟩ | ⟨b', v', rfl, hdec⟩; have HD := hidden hdec; have HLn := hidden hlen; have HRw := hidden hRow; clear hdec hlen hRow; have q := fun W => run_upto (W := W) Tryz.underlying31 size_u8' (some ⟨w3.heap.size, 0, none⟩) M M (out.length : Int) out.length rfl (by rw [← HLn.out, List.length_append]; omega); all_goals dsimp only))
    | (go_at_call 69; go_must (refine (newErrB_calls _ _).mono ?_; rintro e w5 ⟨rfl, hB5⟩)))
  · go_ret2
    exact dec_end hB2'.size hMb HLn.out HRw.out hIB (hdo.out.trans HD.out) hB4 _ rfl
  · go_ret2
    exact ⟨below_next hB4 hB5, .inr ⟨_, _, rfl, hdo.out.trans hdec⟩⟩
set_option maxRecDepth 100000 in
set_option maxHeartbeats 2000000 in
theorem dec_zzURL (A : Option Addr) (n c : Nat) (l : List Int) (w : World) (h : Rd w A (nums .u8 l)) (hn : l.length = n) (hc : n ≤ c) (hb : IsB l) (hN : n ≤ 100000) (hu : false = stdIn l) (hp : true = padded? l) :
    Calls Tryz.prog 158 #[.agg #[], .slice A n c] w fun e w' => DecPost w l e w' := by
  have hdo : Hid (decOf l = decA (tab true) 61 l []) := hidden (by unfold decOf padOf; rw [← hu, ← hp]; rfl)
  obtain ⟨M, hM⟩ : ∃ M, M = roomN 61 n := ⟨_, rfl⟩
  have hMf : Hid (roomFor 61 n M) := hidden (by rw [hM]; exact roomN_for (by omega) n)
  have hMb : M ≤ 100000 := by rw [hM]; exact roomN_le hN
  have hMi : ¬ (M : Int) < 0 := by omega
  have H := hidden h
  have Hn := hidden hn
  have Hu := hidden hu
  have Hp := hidden hp
  have hB0 := below_alloc0 w (.cells #[] 157)
  clear h hn hu hp hM
  go_enter Tryz.func158, Tryz.ntmps158
  go_wp2_with (first
    | (go_at_call 159; go_must (refine (guess_calls A n c l _ (H.out.alloc _) Hn.out hc hb hN _ _ Hu.out Hp.out).mono ?_; rintro e w1 ⟨rfl, hB1⟩; have hB1' := below_next hB0 hB1; clear hB1; rw [show guessN (!false) true = 2 from rfl]))
    | (go_at_call 160; go_must (refine (zzURL_calls _).mono ?_; rintro e w2 ⟨g, rfl, hE2, hg2, hB2⟩; have hB2' := below_next hB1' hB2; clear hB2))
    | (go_at_call 163; go_must (refine (decodedLenM_calls g n M _ _ 61 hMf.out hN _ hE2).mono ?_; rintro e w3 ⟨rfl, rfl⟩))
    | (with_reducible refine at_dst 29 ?_; go_must (refine walk_make rfl _ _ (n := M) rfl Tryz.underlying31 info_u8 rfl rfl rfl rfl rfl (by omega) (by omega) ?_))
    | (go_at_call 164; go_must (refine (decodeAny_calls g w3.heap.size 5 M n c true 61 A l (List.replicate M 0) _ (hE2.alloc _) (by omega) ((H.out.below hB2' (Nat.le_refl _)).alloc _) Hn.out hb hc hN (zeros_row w3 M _) List.length_replicate (Nat.ne_of_lt hE2.lt) (rd_lt H.out Hn.out hB2'.size) hMf.out).mono ?_; intro e w4 hd; have hB4 := (hB2'.trans ((below_alloc0 w3 _).mono hB2'.size)).grown hd.gr (by simp; have := hB2'.size; omega) (by rintro k ⟨⟩; exact hB2'.size); rcases hd.res with ⟨out, rest, rfl, hdec, hIB, hlen, hRow⟩ | ⟨b', v', rfl, hdec⟩; have HD := hidden hdec; have HLn := hidden hlen; have HRw := hidden hRow; clear hdec hlen hRow; have q := fun W => run_upto (W := W) Tryz.underlying31 size_u8' (some ⟨w3.heap.size, 0, none⟩) M M (out.length : Int) out.length rfl (by rw [← HLn.out, List.length_append]; omega); all_goals dsimp only))
    | (go_at_call 69; go_must (refine (newErrB_calls _ _).mono ?_; rintro e w5 ⟨rfl, hB5⟩)))
  · go_ret2
    exact dec_end hB2'.size hMb HLn.out HRw.out hIB (hdo.out.trans HD.out) hB4 _ rfl
  · go_ret2
    exact ⟨below_next hB4 hB5, .inr ⟨_, _, rfl, hdo.out.trans hdec⟩⟩
set_option maxRecDepth 100000 in
set_option maxHeartbeats 2000000 in
theorem dec_zzRawStd (A : Option Addr) (n c : Nat) (l : List Int) (w : World) (h : Rd w A (nums .u8 l)) (hn : l.length = n) (hc : n ≤ c) (hb : IsB l) (hN : n ≤ 100000) (hu : true = stdIn l) (hp : false = padded? l) :
    Calls Tryz.prog 158 #[.agg #[], .slice A n c] w fun e w' => DecPost w l e w' := by
  have hdo : Hid (decOf l = decA (tab false) (-1) l []) := hidden (by unfold decOf padOf; rw [← hu, ← hp]; rfl)
  obtain ⟨M, hM⟩ : ∃ M, M = roomN (-1) n := ⟨_, rfl⟩
  have hMf : Hid (roomFor (-1) n M) := hidden (by rw [hM]; exact roomN_for (by omega) n)
  have hMb : M ≤ 100000 := by rw [hM]; exact roomN_le hN
  have hMi : ¬ (M : Int) < 0 := by omega
  have H := hidden h
  have Hn := hidden hn
  have Hu := hidden hu
  have Hp := hidden hp
  have hB0 := below_alloc0 w (.cells #[] 157)
  clear h hn hu hp hM
  go_enter Tryz.func158, Tryz.ntmps158
  go_wp2_with (first
    | (go_at_call 159; go_must (refine (guess_calls A n c l _ (H.out.alloc _) Hn.out hc hb hN _ _ Hu.out Hp.out).mono ?_; rintro e w1 ⟨rfl, hB1⟩; have hB1' := below_next hB0 hB1; clear hB1; rw [show guessN (!true) false = 3 from rfl]))
    | (go_at_call 161; go_must (refine (zzRawStd_calls _).mono ?_; rintro e w2 ⟨g, rfl, hE2, hg2, hB2⟩; have hB2' := below_next hB1' hB2; clear hB2))
    | (go_at_call 163; go_must (refine (decodedLenM_calls g n M _ _ (-1) hMf.out hN _ hE2).mono ?_; rintro e w3 ⟨rfl, rfl⟩))
    | (with_reducible refine at_dst 29 ?_; go_must (refine walk_make rfl _ _ (n := M) rfl Tryz.underlying31 info_u8 rfl rfl rfl rfl rfl (by omega) (by omega) ?_))
    | (go_at_call 164; go_must (refine (decodeAny_calls g w3.heap.size 5 M n c false (-1) A l (List.replicate M 0) _ (hE2.alloc _) (by omega) ((H.out.below hB2' (Nat.le_refl _)).alloc _) Hn.out hb hc hN (zeros_row w3 M _) List.length_replicate (Nat.ne_of_lt hE2.lt) (rd_lt H.out Hn.out hB2'.size) hMf.out).mono ?_; intro e w4 hd; have hB4 := (hB2'.trans ((below_alloc0 w3 _).mono hB2'.size)).grown hd.gr (by simp; have := hB2'.size; omega) (by rintro k ⟨⟩; exact hB2'.size); rcases hd.res with ⟨out, rest, rfl, hdec, hIB, hlen, hRow⟩ | ⟨b', v', rfl, hdec⟩; have HD := hidden hdec; have HLn := hidden hlen; have HRw := hidden hRow; clear hdec hlen hRow; have q := fun W => run_upto (W := W) Tryz.underlying31 size_u8' (some ⟨w3.heap.size, 0, none⟩) M M (out.length : Int) out.length rfl (by rw [← HLn.out, List.length_append]; omega); all_goals dsimp only))
    | (go_at_call 69; go_must (refine (newErrB_calls _ _).mono ?_; rintro e w5 ⟨rfl, hB5⟩)))
  · go_ret2
    exact dec_end hB2'.size hMb HLn.out HRw.out hIB (hdo.out.trans HD.out) hB4 _ rfl
  · go_ret2
    exact ⟨below_next hB4 hB5, .inr ⟨_, _, rfl, hdo.out.trans hdec⟩⟩
set_option maxRecDepth 100000 in
set_option maxHeartbeats 2000000 in
theorem dec_zzStdPadded (A : Option Addr) (n c : Nat) (l : List Int) (w : World) (h : Rd w A (nums .u8 l)) (hn : l.length = n) (hc : n ≤ c) (hb : IsB l) (hN : n ≤ 100000) (hu : true = stdIn l) (hp : true = padded? l) :
    Calls Tryz.prog 158 #[.agg #[], .slice A n c] w fun e w' => DecPost w l e w' := by
  have hdo : Hid (decOf l = decA (tab false) 61 l []) := hidden (by unfold decOf padOf; rw [← hu, ← hp]; rfl)
  obtain ⟨M, hM⟩ : ∃ M, M = roomN 61 n := ⟨_, rfl⟩
  have hMf : Hid (roomFor 61 n M) := hidden (by rw [hM]; exact roomN_for (by omega) n)
  have hMb : M ≤ 100000 := by rw [hM]; exact roomN_le hN
  have hMi : ¬ (M : Int) < 0 := by omega
  have H := hidden h
  have Hn := hidden hn
  have Hu := hidden hu
  have Hp := hidden hp
  have hB0 := below_alloc0 w (.cells #[] 157)
  clear h hn hu hp hM
  go_enter Tryz.func158, Tryz.ntmps158
  go_wp2_with (first
    | (go_at_call 159; go_must (refine (guess_calls A n c l _ (H.out.alloc _) Hn.out hc hb hN _ _ Hu.out Hp.out).mono ?_; rintro e w1 ⟨rfl, hB1⟩; have hB1' := below_next hB0 hB1; clear hB1; rw [show guessN (!true) true = 1 from rfl]))
    | (go_at_call 162; go_must (refine (zzStdPadded_calls _).mono ?_; rintro e w2 ⟨g, rfl, hE2, hg2, hB2⟩; have hB2' := below_next hB1' hB2; clear hB2))
    | (go_at_call 163; go_must (refine (decodedLenM_calls g n M _ _ 61 hMf.out hN _ hE2).mono ?_; rintro e w3 ⟨rfl, rfl⟩))
    | (with_reducible refine at_dst 29 ?_; go_must (refine walk_make rfl _ _ (n := M) rfl Tryz.underlying31 info_u8 rfl rfl rfl rfl rfl (by omega) (by omega) ?_))
    | (go_at_call 164; go_must (refine (decodeAny_calls g w3.heap.size 5 M n c false 61 A l (List.replicate M 0) _ (hE2.alloc _) (by omega) ((H.out.below hB2' (Nat.le_refl _)).alloc _) Hn.out hb hc hN (zeros_row w3 M _) List.length_replicate (Nat.ne_of_lt hE2.lt) (rd_lt H.out Hn.out hB2'.size) hMf.out).mono ?_; intro e w4 hd; have hB4 := (hB2'.trans ((below_alloc0 w3 _).mono hB2'.size)).grown hd.gr (by simp; have := hB2'.size; omega) (by rintro k ⟨⟩; exact hB2'.size); rcases hd.res with ⟨out, rest, rfl, hdec, hIB, hlen, hRow⟩ | ⟨b', v', rfl, hdec⟩; have HD := hidden hdec; have HLn := hidden hlen; have HRw := hidden hRow; clear hdec hlen hRow; have q := fun W => run_upto (W := W) Tryz.underlying31 size_u8' (some ⟨w3.heap.size, 0, none⟩) M M (out.length : Int) out.length rfl (by rw [← HLn.out, List.length_append]; omega); all_goals dsimp only))
    | (go_at_call 69; go_must (refine (newErrB_calls _ _).mono ?_; rintro e w5 ⟨rfl, hB5⟩)))
  · go_ret2
    exact dec_end hB2'.size hMb HLn.out HRw.out hIB (hdo.out.trans HD.out) hB4 _ rfl
  · go_ret2
    exact ⟨below_next hB4 hB5, .inr ⟨_, _, rfl, hdo.out.trans hdec⟩⟩
end Go.Proofs.YtbdmdajbdmdknaaGreatDoor
