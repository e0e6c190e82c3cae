/- Parser.Parse and ParseBytes. -/
import Derived.Test.YtbdmdajbdmdknaaDoorM7
namespace Go.Proofs.YtbdmdajbdmdknaaDoor
open Go.RowKit
set_option linter.unusedVariables false
set_option linter.unusedSimpArgs false

theorem walk_runapp2 {P : Program} {ops : Array Oper} {rest : List Oper} {o : Oper} {a : Act} {Q : Exit → Act → World → Prop} {W w1 : World} {t ts : Nat} (hgd : o.guard = none) (s x : Operand)
    (ho : o.op = .call { callee := .builtin .append, args := #[s, x], argTypes := #[t, ts] }) {v y r : Value} (hs : a.eval s = v) (hx : a.eval x = y) (hrun : (Builtin.append_ #[t, ts] o.type #[v, y]).run P W = .ok r w1)
    (h : wpList P ops Q rest (a.put o.dst r) w1) : wpList P ops Q (o :: rest) a W := by
  refine wpList_plain hgd fun K hK => ?_
  unfold Oper.wp execOp
  simp only [ho, resolve, invoke, builtin, Sem.run_bind, Sem.run_pure, Result.andThen_ok, List.map_toArray, List.map_cons, List.map_nil, hs, hx, hrun]
  exact hK _ _ h
theorem run_vsl0 (W : World) : (Instr.slice 100 (.slice none 0 0) none (some (.int .i64 0)) none).run Tryd.prog W = .ok (.slice none 0 0) W := run_upto_k (sz := 5) Tryd.underlying100 (by kernel_rfl) none 0 0 0 0 rfl (Nat.le_refl _)
theorem run_bsl0 (W : World) : (Instr.slice 32 (.slice none 0 0) none (some (.int .i64 0)) none).run Tryd.prog W = .ok (.slice none 0 0) W := run_upto_k (sz := 1) Tryd.underlying32 (by kernel_rfl) none 0 0 0 0 rfl (Nat.le_refl _)
set_option maxRecDepth 100000 in
set_option maxHeartbeats 1000000 in
theorem cReset_calls (w : World) (b o : Nat) (h1 : Slot w b o (.slice none 0 0)) :
    Calls Tryd.prog 62 #[.pointer (some ⟨b, o, none⟩)] w fun e w' => e = .returned (.tuple #[]) ∧ AltC w w' (fun x y => x = b ∧ y = o) ∧ Slot w' b o (.slice none 0 0) := by
  have c1 := h1.1
  have f1 := h1.2
  have H1 := hidden h1
  have hsl := run_vsl0
  clear h1
  go_enter Tryd.func62, Tryd.ntmps62
  go_wp2
  go_loop [10] (fun i => i = .int .i64 0) (fun i => 0)
  case atStart => rfl
  case round =>
    subst hrel
    go_wp2
    go_end0
    exact ⟨rfl, AltC.set w b o _, H1.out.set _⟩
theorem info_u8' : (Tryd.prog.info? 5).map (fun i => (i.zero, i.size, i.bytes)) = some (some (.int .u8 0), 1, 1) := by kernel_rfl
/-- What the parse of a whole text comes to: P is the block of the parser. -/
def PT (w : World) (P : Nat) (r : Option JV) (e : Ending) (w' : World) : Prop := AltC w w' (fun x _ => x = P) ∧ (match r with
  | some v => ∃ F b o, e = .returned (.tuple #[ptr (b, o), .nilIface]) ∧ Rep w' F v b o ∧ ∀ x y, F x y → w.heap.size ≤ x
  | none => ∃ T a, e = .returned (.tuple #[.pointer none, .iface T (.pointer (some a))]))
set_option maxRecDepth 100000 in
set_option maxHeartbeats 4000000 in
theorem parse_calls (w : World) (P : Nat) (s : ByteArray) (h0 : Slot w P 0 (.slice none 0 0)) (h1 : Slot w P 1 (.slice none 0 0)) (hN : s.size ≤ 200000000) (R : Option JV) (hRR : pText s.data.toList = R) :
    Calls Tryd.prog 53 #[.pointer (some ⟨P, 0, none⟩), .string s] w (PT w P R) := by
  have HRR := hidden hRR
  clear hRR
  obtain ⟨s1, hs1⟩ : ∃ s1 : ByteArray, s1.data.toList = skipW s.data.toList := ⟨bs _, rfl⟩
  have K1 := hidden (skip_bs s _ rfl w (by omega) s1 hs1)
  have hle1 : s1.size ≤ s.size := by rw [size_toL s1, hs1]; exact skipW_len _
  obtain ⟨A, c, w2, hrun, hB2, hR2, hAb⟩ := run_appStr (P := Tryd.prog) (W := w) (ty := 32) Tryd.underlying32 Tryd.underlying9 info_u8' s1 (by omega)
  have c0 := h0.1
  have f0 := h0.2
  have hs0 := h0.below hB2
  have c02 := hs0.1
  have f02 := hs0.2
  have hPlt := h0.lt
  have hA3 : AltC w (w2.setCell ⟨P, 0, none⟩ (.slice A s1.size c)) (fun x _ => x = P) := ((AltC.of_below hB2 (fun _ _ => False)).mono (fun _ _ _ h => h.elim)).trans (AltC.set w2 P 0 _) (fun x y _ h => h.1)
  have hS31 : Slot (w2.setCell ⟨P, 0, none⟩ (.slice A s1.size c)) P 1 (.slice none 0 0) := (h1.below hB2).alt (AltC.set w2 P 0 _) (fun h => by omega)
  have hS30 : Slot (w2.setCell ⟨P, 0, none⟩ (.slice A s1.size c)) P 0 (.slice A s1.size c) := hs0.set _
  have HRUN := hidden hrun
  have hR3 := hR2.altC (AltC.set w2 P 0 (.slice A s1.size c)) (fun ad e y h => by have := hAb ad e; omega)
  have HR3 := hidden hR3
  have HAB := hidden hAb
  have HA3 := hidden hA3
  have HS30 := hidden hS30
  have HCR := hidden (cReset_calls (w2.setCell ⟨P, 0, none⟩ (.slice A s1.size c)) P 1 hS31)
  have hbs := run_bsl0
  have HS1 := hidden hs1
  have HH0 := hidden h0
  clear h0 h1 hrun hR2 hA3 hS31 hS30 hs1 hs0 hR3 hAb
  go_enter Tryd.func53, Tryd.ntmps53
  go_upto_region 4 with (first
    | (go_at_call 61; go_must (refine K1.out.mono ?_; rintro e wq ⟨rfl, rfl⟩))
    | ((with_reducible refine at_dst 18 ?_); go_must (refine walk_runapp2 rfl (.tmp 16) (.tmp 17) rfl rfl rfl HRUN.out ?_))
    | (go_at_call 62; go_must (refine HCR.out.mono ?_; rintro e w4 ⟨rfl, hA4, hS4⟩; have HA4 := hidden hA4; have HS4 := hidden hS4; clear hA4 hS4)))
  have hS40 := HS30.out.alt HA4.out (fun h => by omega)
  have hR4 := HR3.out.altC HA4.out (fun ad e y h => by have := HAB.out ad e; omega)
  have hA4 : AltC w w4 (fun x _ => x = P) := HA3.out.trans HA4.out (fun x y _ h => h.1)
  have hC4 : Cache w4 P 1 none 0 0 := ⟨HS4.out, Nat.le_refl _, fun _ => rfl, fun e => (by cases e), fun b e => (by cases e), fun b e => (by cases e), fun b e => (by cases e)⟩
  have c4 := hS40.1
  have HR4 := hidden hR4
  have HAW := hidden hA4
  have HC4 := hidden hC4
  have HV := hidden (callsV (2 * s.data.toList.length + 2))
  have HN1 := hidden (show 2 * s1.size < 2 * s.data.toList.length + 2 from by rw [len_toL]; omega)
  have HN2 := hidden (show 0 + s1.size ≤ 1000000000 from by omega)
  clear hS40 hR4 hA4 hC4 HRUN HA3 HS30 HCR HA4 HS4 HR3 HAB c0 f0 c02 f02 hB2
  have hC5 : Cache w4.drew P 1 none 0 0 := HC4.out.drewN 1
  have hA5 : AltC w w4.drew (fun x _ => x = P) := HAW.out.trans (AltC.drewN w4 1 (fun _ _ => False)) (fun _ _ _ h => h.elim)
  have HB2 := hidden (b2s_calls A s1.size c s1 w4.drew (HR4.out.drewN 1) rfl)
  have HA5 := hidden hA5
  have hPV := HV.out w4.drew P 1 none 0 0 s1 0 hC5 HN1.out HN2.out (by omega)
  rw [HS1.out, show ((0 : Nat) : Int) = 0 from rfl] at hPV
  have HPV := hidden hPV
  clear hC5 hA5 hPV HV HR4 HC4 HAW HN1 HN2
  cases hv : pVal (2 * s.data.toList.length + 2) 0 (skipW s.data.toList) with
  | none =>
    have hpt : pText s.data.toList = none := by unfold pText; rw [hv]
    obtain rfl : R = none := HRR.out.symm.trans hpt
    rw [hv] at HPV
    clear hv hpt
    go_region_with (first
      | (go_at_call 54; refine HB2.out.mono ?_; rintro e wq ⟨rfl, rfl⟩)
      | (go_at_call 63; refine HPV.out.mono ?_; rintro e w6 ⟨t, T, a, rfl, hA⟩; have HA := hidden hA; clear hA))
    go_wp2_with (first
      | (go_at_call 48; go_must (refine (newErr_calls _ _).mono ?_; rintro e w7 ⟨T2, a2, rfl, hB⟩; have HB := hidden hB; clear hB)))
    go_ret2
    refine ⟨(HA5.out.trans HA.out (fun x y _ h => ?_)).more HB.out, _, _, rfl⟩
    rcases h with ⟨h, _⟩ | ⟨h, _⟩
    · exact h
    · cases h
  | some vr =>
    obtain ⟨v, r⟩ := vr
    rw [hv] at HPV
    obtain ⟨sr, hsr⟩ : ∃ t : ByteArray, t.data.toList = r := ⟨bs r, rfl⟩
    have hbr : bs r = sr := by rw [← hsr, bs_self]
    obtain ⟨st, hst⟩ : ∃ t : ByteArray, t.data.toList = skipW r := ⟨bs _, rfl⟩
    have HPT : Hid (pText s.data.toList = if skipW r = [] then some v else none) := hidden (by unfold pText; rw [hv])
    have HK := hidden (fun (W : World) (hz : sr.size ≤ 1000000000) => skip_bs sr r hsr W hz st hst)
    have hrl : sr.size = r.length := by rw [size_toL, hsr]
    have HRL := hidden hrl
    have HST := hidden hst
    clear hv hsr hst hrl
    go_region_with (first
      | (go_at_call 54; refine HB2.out.mono ?_; rintro e wq ⟨rfl, rfl⟩)
      | (go_at_call 63; refine HPV.out.mono ?_; rintro e w6 ⟨VB2, n2, cap2, b2, o2, rfl, hC6, hG6, hL6, hA6, hR6⟩; dsimp only at hL6 ⊢; rw [hbr]; unfold ptr; have HA6 := hidden hA6; have HR6 := hidden hR6; have hsz6 : sr.size ≤ 1000000000 := (by have := HRL.out; omega); clear hC6 hG6 hA6 hR6 hL6))
    have HKK := hidden (HK.out w6 hsz6)
    have hAW : AltC w w6 (fun x _ => x = P) := HA5.out.trans HA6.out (fun x y _ h => by
      rcases h with ⟨h, _⟩ | ⟨h, _⟩
      · exact h
      · cases h)
    have HAW := hidden hAW
    clear hAW HK hbr HPV
    go_upto_region 8 with (go_at_call 61; go_must (refine HKK.out.mono ?_; rintro e wq ⟨rfl, rfl⟩))
    cases hq : skipW r with
    | nil =>
      have hpt := HPT.out
      rw [hq, if_pos rfl] at hpt
      have hz := emp_of (HST.out.trans hq)
      obtain rfl : R = some v := HRR.out.symm.trans hpt
      clear hpt hq
      go_wp2
      go_ret2
      refine ⟨HAW.out, RegN w4.drew w6 P 1 none 0 VB2 n2, b2, o2, rfl, HR6.out, fun x y h => ?_⟩
      rcases h.2.2 with h2 | (⟨rfl, rfl⟩ | ⟨h2, _⟩)
      · exact Nat.le_trans HA5.out.size h2
      · exact absurd (.inl ⟨rfl, rfl⟩) h.2.1
      · cases h2
    | cons c r' =>
      have hpt := HPT.out
      rw [hq, if_neg (by simp)] at hpt
      have hz := (cons_of (HST.out.trans hq)).1
      have hz2 : (0 : Int) < (st.size : Int) := by omega
      obtain rfl : R = none := HRR.out.symm.trans hpt
      clear hpt hq hz
      go_wp2_with (go_at_call 48; go_must (refine (newErr_calls _ _).mono ?_; rintro e w7 ⟨T2, a2, rfl, hB⟩; have HB := hidden hB; clear hB))
      go_ret2
      exact ⟨HAW.out.more HB.out, _, _, rfl⟩
end Go.Proofs.YtbdmdajbdmdknaaDoor
