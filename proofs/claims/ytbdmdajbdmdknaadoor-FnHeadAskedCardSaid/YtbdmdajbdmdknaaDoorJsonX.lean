/- parseValue at the words true, false and null. -/
import Derived.Test.YtbdmdajbdmdknaaDoorM6
namespace Go.Proofs.YtbdmdajbdmdknaaDoor
open Go.RowKit
set_option linter.unusedVariables false
set_option linter.unusedSimpArgs false

theorem ne_lit {st : ByteArray} {l : Bs} (h : st.data.toList ≠ l) : (st.toList == l) = false := by
  rw [ByteArray.toList_eq]
  exact beq_eq_false_iff_ne.2 h
/-- A word is laid as a value of its own. -/
theorem lit_ok {w w1 : World} {C co n cap L : Nat} {VB : Option Nat} {r : Bs} {u : ByteArray} {t : Nat} (hC : Cache w C co VB n cap) (hw : w1 = (w.alloc (.cells #[.slice none 0 0, .bool false, .slice none 0 0, .string ⟨#[]⟩, .int .i64 t] 115)).drew) (hu : u = bs r) (hl : n + r.length ≤ L) :
    POk w C co VB n L (.lit t) r (.returned (.tuple #[.pointer (some ⟨w.heap.size, 0, none⟩), .string u, .nilIface])) w1 := by
  have hB : Below w.heap.size w w1 := by rw [hw]; exact below_drewN0 (below_alloc0 w _) 1
  have hR : Row w1 w.heap.size 115 [.slice none 0 0, .bool false, .slice none 0 0, .string ⟨#[]⟩, .int .i64 t] := by rw [hw]; exact Row.new w _ _
  have hC1 : Cache w1 C co VB n cap := hC.alt (AltC.of_below hB (fun _ _ => False)) (fun e => e) (fun _ _ _ e => e)
  refine ⟨VB, n, cap, w.heap.size, 0, ret_p (p := (w.heap.size, 0)) (q := (w.heap.size, 0)) rfl hu, hC1, Grew.refl _ _ _, hl, AltC.of_below hB _, .lit ⟨⟨hR.lt, fun e => ?_, .inl (Nat.le_refl _)⟩, Slot.of_row hR 4 rfl⟩⟩
  rcases e with ⟨e, _⟩ | ⟨e, _⟩
  · have := hC.fld.lt; omega
  · have := hC.lt _ e; omega
set_option maxRecDepth 100000 in
set_option maxHeartbeats 1000000 in
theorem zzTrue_calls (w : World) : Calls Tryd.prog 79 #[] w fun e w' => e = .returned (.pointer (some ⟨w.heap.size, 0, none⟩)) ∧ w.alloc (.cells #[.slice none 0 0, .bool false, .slice none 0 0, .string ⟨#[]⟩, .int .i64 5] 115) = w' := by
  go_enter Tryd.func79, Tryd.ntmps79
  go_wp2
  go_ret
  exact ⟨rfl, rfl⟩
set_option maxRecDepth 100000 in
set_option maxHeartbeats 1000000 in
theorem zzFalse_calls (w : World) : Calls Tryd.prog 80 #[] w fun e w' => e = .returned (.pointer (some ⟨w.heap.size, 0, none⟩)) ∧ w.alloc (.cells #[.slice none 0 0, .bool false, .slice none 0 0, .string ⟨#[]⟩, .int .i64 6] 115) = w' := by
  go_enter Tryd.func80, Tryd.ntmps80
  go_wp2
  go_ret
  exact ⟨rfl, rfl⟩
set_option maxRecDepth 100000 in
set_option maxHeartbeats 1000000 in
theorem zzNull_calls (w : World) : Calls Tryd.prog 82 #[] w fun e w' => e = .returned (.pointer (some ⟨w.heap.size, 0, none⟩)) ∧ w.alloc (.cells #[.slice none 0 0, .bool false, .slice none 0 0, .string ⟨#[]⟩, .int .i64 0] 115) = w' := by
  go_enter Tryd.func82, Tryd.ntmps82
  go_wp2
  go_ret
  exact ⟨rfl, rfl⟩
set_option maxRecDepth 100000 in
set_option maxHeartbeats 4000000 in
theorem val_t (d : Nat) (w : World) (C co : Nat) (VB : Option Nat) (n cap : Nat) (s : ByteArray) (hC : Cache w C co VB n cap) (hN : n + s.size ≤ 1000000000) (hd : d < 300) (r : Bs) (hs : s.data.toList = 116 :: r) :
    Calls Tryd.prog 63 #[.pointer (some ⟨C, co, none⟩), .string s, .int .i64 d] w (PRes w C co VB n (n + s.size) (if (116 :: r).take 4 = trueB then some (.lit 5, (116 :: r).drop 4) else none)) := by
  obtain ⟨z1, z2, z3⟩ := cons_of hs
  have hp : 0 < s.size := by omega
  have hp' : 1 ≤ s.size := by omega
  have hne : ((s.size : Int) == 0) = false := beq_eq_false_iff_ne.2 (by omega)
  have hg := z2 hp
  have hdi : ¬ (300 : Int) < (d : Int) + 1 := by omega
  have HC := hidden hC
  rw [← hs]
  clear hs z1 z2 z3 hC
  by_cases h4 : s.size < 4
  · have hno : ¬ s.data.toList.take 4 = trueB := fun e => by
      have := congrArg List.length e
      rw [List.length_take, len_toL] at this
      simp [trueB] at this; omega
    rw [if_neg hno]
    clear hno
    have h4i : (s.size : Int) < 4 := by omega
    go_enter Tryd.func63, Tryd.ntmps63
    go_wp2_with (go_at_call 48; go_must (refine (newErr_calls _ _).mono ?_; rintro e w2 ⟨T2, a2, rfl, hB⟩; have HB := hidden hB; clear hB))
    go_ret3
    exact PNo.of (AltC.of_below HB.out _)
  · have h4i : ¬ (s.size : Int) < 4 := by omega
    have h44 : 4 ≤ s.size := by omega
    have hex := extract_take s 4
    by_cases ht : s.data.toList.take 4 = trueB
    · rw [if_pos ht]
      rw [ht] at hex
      have hst : s.extract 0 4 = ⟨#[116, 114, 117, 101]⟩ := hex
      have HD := hidden (extract_drop s 4)
      have hdl : n + (s.data.toList.drop 4).length ≤ n + s.size := by rw [List.length_drop, len_toL]; omega
      clear hex ht
      go_enter Tryd.func63, Tryd.ntmps63
      go_wp2
      go_region_with (go_at_call 79; refine (zzTrue_calls _).mono ?_; rintro e w1 ⟨rfl, rfl⟩)
      all_goals go_wp2
      all_goals (go_ret3; exact lit_ok HC.out rfl HD.out hdl)
    · rw [if_neg ht]
      obtain ⟨st, hst⟩ : ∃ st, s.extract 0 4 = st := ⟨_, rfl⟩
      have hnst := ne_lit (st := st) (l := [116, 114, 117, 101]) (fun e => ht (by rw [← hst, extract_take, toL_bs] at e; exact e))
      clear ht hex
      go_enter Tryd.func63, Tryd.ntmps63
      go_wp2_with (go_at_call 48; go_must (refine (newErr_calls _ _).mono ?_; rintro e w2 ⟨T2, a2, rfl, hB⟩; have HB := hidden hB; clear hB))
      go_ret3
      exact PNo.of (AltC.of_below HB.out _)
set_option maxRecDepth 100000 in
set_option maxHeartbeats 4000000 in
theorem val_f (d : Nat) (w : World) (C co : Nat) (VB : Option Nat) (n cap : Nat) (s : ByteArray) (hC : Cache w C co VB n cap) (hN : n + s.size ≤ 1000000000) (hd : d < 300) (r : Bs) (hs : s.data.toList = 102 :: r) :
    Calls Tryd.prog 63 #[.pointer (some ⟨C, co, none⟩), .string s, .int .i64 d] w (PRes w C co VB n (n + s.size) (if (102 :: r).take 5 = falseB then some (.lit 6, (102 :: r).drop 5) else none)) := by
  obtain ⟨z1, z2, z3⟩ := cons_of hs
  have hp : 0 < s.size := by omega
  have hp' : 1 ≤ s.size := by omega
  have hne : ((s.size : Int) == 0) = false := beq_eq_false_iff_ne.2 (by omega)
  have hg := z2 hp
  have hdi : ¬ (300 : Int) < (d : Int) + 1 := by omega
  have HC := hidden hC
  rw [← hs]
  clear hs z1 z2 z3 hC
  by_cases h4 : s.size < 5
  · have hno : ¬ s.data.toList.take 5 = falseB := fun e => by
      have := congrArg List.length e
      rw [List.length_take, len_toL] at this
      simp [falseB] at this; omega
    rw [if_neg hno]
    clear hno
    have h4i : (s.size : Int) < 5 := by omega
    go_enter Tryd.func63, Tryd.ntmps63
    go_wp2_with (go_at_call 48; go_must (refine (newErr_calls _ _).mono ?_; rintro e w2 ⟨T2, a2, rfl, hB⟩; have HB := hidden hB; clear hB))
    go_ret3
    exact PNo.of (AltC.of_below HB.out _)
  · have h4i : ¬ (s.size : Int) < 5 := by omega
    have h44 : 5 ≤ s.size := by omega
    have hex := extract_take s 5
    by_cases ht : s.data.toList.take 5 = falseB
    · rw [if_pos ht]
      rw [ht] at hex
      have hst : s.extract 0 5 = ⟨#[102, 97, 108, 115, 101]⟩ := hex
      have HD := hidden (extract_drop s 5)
      have hdl : n + (s.data.toList.drop 5).length ≤ n + s.size := by rw [List.length_drop, len_toL]; omega
      clear hex ht
      go_enter Tryd.func63, Tryd.ntmps63
      go_wp2
      go_region_with (go_at_call 80; refine (zzFalse_calls _).mono ?_; rintro e w1 ⟨rfl, rfl⟩)
      all_goals go_wp2
      all_goals (go_ret3; exact lit_ok HC.out rfl HD.out hdl)
    · rw [if_neg ht]
      obtain ⟨st, hst⟩ : ∃ st, s.extract 0 5 = st := ⟨_, rfl⟩
      have hnst := ne_lit (st := st) (l := [102, 97, 108, 115, 101]) (fun e => ht (by rw [← hst, extract_take, toL_bs] at e; exact e))
      clear ht hex
      go_enter Tryd.func63, Tryd.ntmps63
      go_wp2_with (go_at_call 48; go_must (refine (newErr_calls _ _).mono ?_; rintro e w2 ⟨T2, a2, rfl, hB⟩; have HB := hidden hB; clear hB))
      go_ret3
      exact PNo.of (AltC.of_below HB.out _)
set_option maxRecDepth 100000 in
set_option maxHeartbeats 4000000 in
theorem val_n (d : Nat) (w : World) (C co : Nat) (VB : Option Nat) (n cap : Nat) (s : ByteArray) (hC : Cache w C co VB n cap) (hN : n + s.size ≤ 1000000000) (hd : d < 300) (r : Bs) (hs : s.data.toList = 110 :: r) :
    Calls Tryd.prog 63 #[.pointer (some ⟨C, co, none⟩), .string s, .int .i64 d] w (PRes w C co VB n (n + s.size) (if (110 :: r).take 4 = nullB then some (.lit 0, (110 :: r).drop 4) else if foldIs ((110 :: r).take 3) nanB then some (.num ((110 :: r).take 3), (110 :: r).drop 3) else none)) := by
  obtain ⟨z1, z2, z3⟩ := cons_of hs
  have hp : 0 < s.size := by omega
  have hp' : 1 ≤ s.size := by omega
  have hne : ((s.size : Int) == 0) = false := beq_eq_false_iff_ne.2 (by omega)
  have hg := z2 hp
  have hdi : ¬ (300 : Int) < (d : Int) + 1 := by omega
  have HC := hidden hC
  rw [← hs]
  clear hs z1 z2 z3 hC
  by_cases h4 : s.size < 4
  · have hno : ¬ s.data.toList.take 4 = nullB := fun e => by
      have := congrArg List.length e
      rw [List.length_take, len_toL] at this
      simp [nullB] at this; omega
    rw [if_neg hno]
    clear hno
    have h4i : (s.size : Int) < 4 := by omega
    by_cases h3 : s.size < 3
    · skip
      have hno3 : foldIs (s.data.toList.take 3) nanB = false := fold_len (by rw [List.length_take, len_toL]; show _ ≠ 3; omega)
      rw [hno3, if_neg (by decide)]
      clear hno3
      have h3i : ¬ (3 : Int) ≤ (s.size : Int) := by omega
      go_enter Tryd.func63, Tryd.ntmps63
      go_wp2_with (go_at_call 48; go_must (refine (newErr_calls _ _).mono ?_; rintro e w2 ⟨T2, a2, rfl, hB⟩; have HB := hidden hB; clear hB))
      go_ret3
      exact PNo.of (AltC.of_below HB.out _)
    · skip
      have h3i : (3 : Int) ≤ (s.size : Int) := by omega
      have h33 : 3 ≤ s.size := by omega
      obtain ⟨s3, hs3⟩ : ∃ t, s.extract 0 3 = t := ⟨_, rfl⟩
      have hl3 : s3.data.toList = s.data.toList.take 3 := by rw [← hs3, extract_take, toL_bs]
      have hb3 : s3 = bs (s.data.toList.take 3) := by rw [← hl3, bs_self]
      have HFO := hidden (fun (b : Bool) (hb : foldIs (s.data.toList.take 3) nanB = b) => fold_calls s3 ⟨#[110, 97, 110]⟩ w (by rw [size_toL, hl3, List.length_take, len_toL]; omega) b (by rw [hl3]; exact hb.symm))
      have HB3 := hidden hb3
      clear hl3 hb3
      cases hfo : foldIs (s.data.toList.take 3) nanB with
      | true =>
        rw [if_pos rfl]
        have HF := hidden (HFO.out true hfo)
        have HD := hidden (extract_drop s 3)
        have hdl : n + 1 + (s.data.toList.drop 3).length ≤ n + s.size := by rw [List.length_drop, len_toL]; omega
        clear hfo
        go_enter Tryd.func63, Tryd.ntmps63
        go_upto_region 36 with (first | (go_at_call 81; go_must (refine HF.out.mono ?_; rintro e w1 ⟨rfl, rfl⟩)) | (go_at_call 78; go_must (refine (getValue_calls _ C co n cap VB HC.out (by omega)).mono ?_; rintro e w2 ⟨vb, cap1, rfl, hG⟩; have HG := hidden hG; clear hG)))
        have z4 := HG.out.zero.2.2.2.2
        have c4 := z4.1
        have f4 := z4.2
        have z3' := (HG.out.zero.2.2.2.1).alt (AltC.set w2 vb (5 * n + 4) (.int .i64 4)) (fun e => by omega)
        have c3 := z3'.1
        have f3 := z3'.2
        have hlf := HG.out.leaf (Below.refl _ _) 4 s3
        have HLF := hidden hlf
        clear z4 z3' hlf
        go_wp2
        go_quiet (fail)
        go_wp2
        go_ret3
        exact leaf_ok HLF.out.1 (by rw [← HB3.out]; exact HLF.out.2.1) HLF.out.2.2 HD.out hdl _ (.inr ⟨rfl, rfl⟩) _
      | false =>
        rw [if_neg (by decide)]
        have HF := hidden (HFO.out false hfo)
        clear hfo
        go_enter Tryd.func63, Tryd.ntmps63
        go_wp2_with (first | (go_at_call 81; go_must (refine HF.out.mono ?_; rintro e w1 ⟨rfl, rfl⟩)) | (go_at_call 48; go_must (refine (newErr_calls _ _).mono ?_; rintro e w2 ⟨T2, a2, rfl, hB⟩; have HB := hidden hB; clear hB)))
        go_ret3
        exact PNo.of (AltC.of_below HB.out _)
  · have h4i : ¬ (s.size : Int) < 4 := by omega
    have h44 : 4 ≤ s.size := by omega
    have hex := extract_take s 4
    by_cases ht : s.data.toList.take 4 = nullB
    · rw [if_pos ht]
      rw [ht] at hex
      have hst : s.extract 0 4 = ⟨#[110, 117, 108, 108]⟩ := hex
      have HD := hidden (extract_drop s 4)
      have hdl : n + (s.data.toList.drop 4).length ≤ n + s.size := by rw [List.length_drop, len_toL]; omega
      clear hex ht
      go_enter Tryd.func63, Tryd.ntmps63
      go_wp2
      go_region_with (go_at_call 82; refine (zzNull_calls _).mono ?_; rintro e w1 ⟨rfl, rfl⟩)
      all_goals go_wp2
      all_goals (go_ret3; exact lit_ok HC.out rfl HD.out hdl)
    · rw [if_neg ht]
      obtain ⟨st, hst⟩ : ∃ st, s.extract 0 4 = st := ⟨_, rfl⟩
      have hnst := ne_lit (st := st) (l := [110, 117, 108, 108]) (fun e => ht (by rw [← hst, extract_take, toL_bs] at e; exact e))
      clear ht hex
      have h3i : (3 : Int) ≤ (s.size : Int) := by omega
      have h33 : 3 ≤ s.size := by omega
      obtain ⟨s3, hs3⟩ : ∃ t, s.extract 0 3 = t := ⟨_, rfl⟩
      have hl3 : s3.data.toList = s.data.toList.take 3 := by rw [← hs3, extract_take, toL_bs]
      have hb3 : s3 = bs (s.data.toList.take 3) := by rw [← hl3, bs_self]
      have HFO := hidden (fun (b : Bool) (hb : foldIs (s.data.toList.take 3) nanB = b) => fold_calls s3 ⟨#[110, 97, 110]⟩ w (by rw [size_toL, hl3, List.length_take, len_toL]; omega) b (by rw [hl3]; exact hb.symm))
      have HB3 := hidden hb3
      clear hl3 hb3
      cases hfo : foldIs (s.data.toList.take 3) nanB with
      | true =>
        rw [if_pos rfl]
        have HF := hidden (HFO.out true hfo)
        have HD := hidden (extract_drop s 3)
        have hdl : n + 1 + (s.data.toList.drop 3).length ≤ n + s.size := by rw [List.length_drop, len_toL]; omega
        clear hfo
        go_enter Tryd.func63, Tryd.ntmps63
        go_upto_region 36 with (first | (go_at_call 81; go_must (refine HF.out.mono ?_; rintro e w1 ⟨rfl, rfl⟩)) | (go_at_call 78; go_must (refine (getValue_calls _ C co n cap VB HC.out (by omega)).mono ?_; rintro e w2 ⟨vb, cap1, rfl, hG⟩; have HG := hidden hG; clear hG)))
        have z4 := HG.out.zero.2.2.2.2
        have c4 := z4.1
        have f4 := z4.2
        have z3' := (HG.out.zero.2.2.2.1).alt (AltC.set w2 vb (5 * n + 4) (.int .i64 4)) (fun e => by omega)
        have c3 := z3'.1
        have f3 := z3'.2
        have hlf := HG.out.leaf (Below.refl _ _) 4 s3
        have HLF := hidden hlf
        clear z4 z3' hlf
        go_wp2
        go_quiet (fail)
        go_wp2
        go_ret3
        exact leaf_ok HLF.out.1 (by rw [← HB3.out]; exact HLF.out.2.1) HLF.out.2.2 HD.out hdl _ (.inr ⟨rfl, rfl⟩) _
      | false =>
        rw [if_neg (by decide)]
        have HF := hidden (HFO.out false hfo)
        clear hfo
        go_enter Tryd.func63, Tryd.ntmps63
        go_wp2_with (first | (go_at_call 81; go_must (refine HF.out.mono ?_; rintro e w1 ⟨rfl, rfl⟩)) | (go_at_call 48; go_must (refine (newErr_calls _ _).mono ?_; rintro e w2 ⟨T2, a2, rfl, hB⟩; have HB := hidden hB; clear hB)))
        go_ret3
        exact PNo.of (AltC.of_below HB.out _)
end Go.Proofs.YtbdmdajbdmdknaaDoor
