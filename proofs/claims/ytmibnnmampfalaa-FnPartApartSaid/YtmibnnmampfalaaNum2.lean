/- Texts that are read, and the walk of FnPartNumber. -/
import Derived.Test.YtmibnnmampfalaaNum
namespace Go.Proofs.Ytmibnnmampfalaa
open Go.RowKit
set_option linter.unusedVariables false
set_option linter.unusedSimpArgs false

theorem strOf_size (t : List Int) : (strOfNums t).size = t.length := by
  show (strOfNums t).data.toList.length = _
  rw [strOfNums_data, List.length_map]
theorem strOf_get {t : List Int} (hb : IsB t) (j : Nat) (hj : j < t.length) : (((strOfNums t).data.toList.getD j 0).toNat : Int) = gi t j := by
  rw [strOfNums_data]
  have h := hb _ (List.getElem_mem hj)
  simp only [List.getD_eq_getElem?_getD, List.getElem?_map, List.getElem?_eq_getElem hj, Option.map_some, Option.getD_some, gi, UInt8.toNat_ofNat']
  omega
theorem rd_bytes (w : World) (e : Nat) {t : List Int} (hb : IsB t) : Rd (Go.Lib.bytesWorld w e (strOfNums t)) (some ⟨w.heap.size, 0, none⟩) (nums .u8 t) := by
  intro i v hv
  have hi : i < t.length := by rw [← nums_len .u8]; exact (List.getElem?_eq_some_iff.1 hv).1
  rw [nums_at _ _ _ hi] at hv
  cases hv
  refine ⟨_, _, rfl, by rw [Go.Lib.bytesWorld_size]; omega, ?_⟩
  rw [Nat.zero_add, Go.Lib.bytesWorld_cell _ _ _ _ (by rw [strOf_size]; exact hi), strOf_get hb i hi]
theorem below_bytes (w : World) (e : Nat) (s : ByteArray) : Below w.heap.size w (Go.Lib.bytesWorld w e s) :=
  ⟨rfl, rfl, rfl, by rw [Go.Lib.bytesWorld_size]; omega, fun k hk => Go.Lib.bytesWorld_at_old w e s k hk⟩
set_option maxHeartbeats 1000000 in
theorem decodeText_calls (s : ByteArray) (t : List Int) (hs : s = strOfNums t) (hb : IsB t) (hN : t.length ≤ 100000) (w : World) :
    Calls Try.prog 49 #[.string s] w fun e w' => DecPost w t e w' := by
  have hsz : s.size = t.length := by rw [hs, strOf_size]
  have hcv : ∀ W : World, (convert 9 22 (.string s)).run Try.prog W = .ok (.slice (some ⟨W.heap.size, 0, none⟩) t.length (grownCap W t.length 0 5)) (Go.Lib.bytesWorld W 5 s) := fun W => by
    have := Go.Lib.run_convert_string_bytes (P := Try.prog) W 9 22 5 s Try.underlying9 Try.underlying22 Try.underlying5
    rw [hsz] at this
    exact this
  have HRd : Hid (Rd (Go.Lib.bytesWorld w 5 s) (some ⟨w.heap.size, 0, none⟩) (nums .u8 t)) := hidden (by rw [hs]; exact rd_bytes w _ hb)
  have HB0 := hidden (below_bytes w 5 s)
  have Hge := hidden (grownCap_ge w t.length 0 5)
  clear hs hsz
  go_enter Try.func49, Try.ntmps49
  go_wp2_with (first
    | (go_at_call 70; go_must (refine (getDec_calls _).mono ?_; rintro e w1 ⟨rfl, rfl⟩))
    | (go_at_call 116; go_must (refine (defDec_calls (some ⟨w.heap.size, 0, none⟩) t.length _ t _ HRd.out rfl Hge.out hb hN).mono ?_; intro e w2 hd; have HD := hidden (hd.then HB0.out); rcases hd.res with ⟨v, out, rfl, hdec, hO, hIB⟩ | ⟨t', v', rfl, hdec⟩; all_goals clear hdec; all_goals dsimp only)))
  · go_ret2
    exact HD.out
  · go_ret2
    exact HD.out
set_option maxHeartbeats 1000000 in
theorem decodedText_calls (s : ByteArray) (t : List Int) (hs : s = strOfNums t) (hb : IsB t) (hN : t.length ≤ 100000) (w : World) :
    Calls Try.prog 21 #[.string s] w fun e w' => ImpPost w t e w' := by
  have Hs := hidden hs
  clear hs
  go_enter Try.func21, Try.ntmps21
  go_wp2_with (go_at_call 49; go_must (refine (decodeText_calls s t Hs.out hb hN _).mono ?_; intro e w2 hd; have hB2 := hd.below; rcases hd.res with ⟨v, out, rfl, hdec, hO, hIB⟩ | ⟨t', v', rfl, hdec⟩; all_goals (have HD := hidden hdec); all_goals clear hdec; all_goals dsimp only))
  · go_ret2
    exact ⟨hB2, .inl ⟨v, out, rfl, HD.out, hO, hIB⟩⟩
  · go_ret2
    exact ⟨hB2, .inr ⟨rfl, HD.out⟩⟩
theorem numOf_snoc (l : List Int) (x : Int) : numOf (l ++ [x]) = numOf l * 256 + x.toNat := by simp [numOf, List.foldl_append]
theorem numOf_lt {l : List Int} (hb : IsB l) : ∀ k, k ≤ l.length → numOf (l.take k) < 256 ^ k
  | 0, _ => by simp [numOf]
  | k + 1, h => by
    rw [take_gi l (by omega), numOf_snoc, Nat.pow_succ]
    have := numOf_lt hb k (by omega)
    have := (gi_byte hb k).2
    have := (gi_byte hb k).1
    omega
set_option maxHeartbeats 1000000 in
theorem partNumber_calls (A : Option Addr) (n c V : Nat) (l : List Int) (w : World) (h : Rd w A (nums .u8 l)) (hn : l.length = n) (hb : IsB l) (h8 : n ≤ 8) (hV : V = numOf l) :
    Calls Try.prog 26 #[.slice A n c] w fun e w' => e = .returned (.int .u64 V) ∧ w = w' := by
  have H := hidden h
  have Hn := hidden hn
  have Hb := hidden hb
  have HV := hidden hV
  clear h hn hb hV
  go_enter Try.func26, Try.ntmps26
  go_wp2
  go_loop [3, 8] (fun s i => ∃ (k N : Nat), k ≤ n ∧ i = .int .i64 k ∧ s = .int .u64 N ∧ Hid (N = numOf (l.take k))) (fun _ i => n - (intOf i).toNat)
  case atStart => exact ⟨0, 0, by omega, rfl, rfl, hidden rfl⟩
  case round =>
    obtain ⟨k, N, hk, rfl, rfl, HN⟩ := hrel
    by_cases hlt : k < n
    · have hlti : (k : Int) < (n : Int) := by omega
      obtain ⟨b0, o0, rfl, _, c0⟩ := H.out.at k (by rw [Hn.out]; exact hlt)
      obtain ⟨a, ha⟩ : ∃ a : Nat, gi l k = (a : Int) := ⟨(gi l k).toNat, (Int.toNat_of_nonneg (gi_byte Hb.out k).1).symm⟩
      have ha2 := (gi_byte Hb.out k).2
      rw [ha] at c0 ha2
      have hNb : N < 72057594037927936 := by
        rw [HN.out]
        exact Nat.lt_of_lt_of_le (numOf_lt Hb.out k (by rw [Hn.out]; omega)) (Nat.le_trans (Nat.pow_le_pow_right (by omega) (show k ≤ 7 by omega)) (by decide))
      obtain ⟨M, hM⟩ : ∃ M, M = N * 256 + a := ⟨_, rfl⟩
      have hw : IntKind.u64.wrap ((N : Int) * 256) = (N : Int) * 256 := by rw [wrapU64]; omega
      have ho : bits .or .u64 ((N : Int) * 256) (a : Int) = (M : Int) := by rw [hM]; exact or64 (N * 256) a 8 (by omega) (by omega) (by omega)
      have HN2 : Hid (M = numOf (l.take (k + 1))) := hidden (by rw [take_gi l (by rw [Hn.out]; exact hlt), numOf_snoc, ← HN.out, ha, hM]; rfl)
      clear ha hM
      go_wp2
      go_round
      case rel => exact ⟨k + 1, M, by omega, by go_num, by first | rfl | trivial, HN2⟩
      case measure => simp [intOf]; omega
    · obtain rfl : k = n := by omega
      obtain rfl : N = V := by rw [HN.out, HV.out, ← Hn.out, List.take_length]
      go_wp2
      go_ret
      exact ⟨rfl, rfl⟩
theorem partOf_calls (A : Option Addr) (n c : Nat) (l : List Int) (w : World) (h : Rd w A (nums .u8 l)) (hn : l.length = n) (hb : IsB l) (hc : n ≤ c) (hN : n ≤ 100000) :
    Calls Try.prog 20 #[.slice A n c] w (NewB w (encF (alpha true) l)) := by
  have H := hidden h
  have Hn := hidden hn
  clear h hn
  go_enter Try.func20, Try.ntmps20
  go_wp2_with (go_at_call 48; go_must (refine (partEncoded_calls A n c l _ H.out Hn.out hb hc hN).mono ?_; rintro e w1 ⟨v1, rfl, hO1, hB1⟩))
  go_ret
  exact ⟨v1, rfl, hO1, hB1⟩
theorem encodedNumber_calls (V : Nat) (hV : V < 18446744073709551616) (w : World) :
    Calls Try.prog 25 #[.int .u64 V] w fun e w' => e = .returned (.string (strOfNums (encF (alpha true) (numD V)))) ∧ Below w.heap.size w w' := by
  go_enter Try.func25, Try.ntmps25
  go_wp2_with (go_at_call 53; go_must (refine (encNum_calls V hV _).mono ?_; rintro e w1 ⟨rfl, hB1⟩))
  go_ret
  exact ⟨rfl, hB1⟩
set_option maxRecDepth 10000 in
set_option maxHeartbeats 2000000 in
theorem number_walk (n : Int) (w : World) (wn : (Lit.int .u64 n).wf = true) :
    Calls Try.prog 9 #[.int .u64 n] w fun e w' => e = .returned (.bool true) ∧ Below w.heap.size w w' := by
  obtain ⟨V, rfl, hV⟩ : ∃ V : Nat, n = (V : Int) ∧ V < 18446744073709551616 := by
    simp [Lit.wf, IntKind.min, IntKind.max, IntKind.bits, IntKind.signed] at wn
    exact ⟨n.toNat, by omega, by omega⟩
  clear wn
  obtain ⟨d, hd⟩ : ∃ d, d = numD V := ⟨_, rfl⟩
  obtain ⟨t, ht⟩ : ∃ t, t = encF (alpha true) d := ⟨_, rfl⟩
  obtain ⟨s, hs⟩ : ∃ s, s = strOfNums t := ⟨_, rfl⟩
  have hdB : IsB d := by rw [hd]; exact numD_isB V
  have hd8 : d.length ≤ 8 := by rw [hd]; exact numD_len V
  have htB : IsB t := by rw [ht]; exact encF_isB true hdB
  obtain ⟨k, hk⟩ : ∃ k, d.length = k := ⟨_, rfl⟩
  obtain ⟨m, hm⟩ : ∃ m, t.length = m := ⟨_, rfl⟩
  have hmb : m ≤ 100 := by rw [← hm, ht, encLen_eq, hk]; unfold encLen; omega
  rw [hk] at hd8
  have hd8i : ¬ (8 : Int) < (k : Int) := by omega
  have HVn : Hid (V = numOf d) := hidden (by rw [hd, numOf_numD V hV])
  have G0 := hidden (fun W => encodedNumber_calls V hV W)
  rw [← hd, ← ht, ← hs] at G0
  have HDB := hidden hdB
  have HK := hidden hk
  have HM := hidden hm
  have HS := hidden hs
  have HTB := hidden htB
  have HT := hidden ht
  have hhead : 0 < V → 0 < k ∧ gi d 0 ≠ 0 := fun h => by rw [← hk, hd]; exact numD_head V hV h
  have HH := hidden hhead
  clear hd ht hs hdB htB hk hm hhead
  by_cases h0 : V = 0
  · subst h0
    go_enter Try.func9, Try.ntmps9
    go_wp2_with (first
      | (go_at_call 25; go_must (refine (G0.out _).mono ?_; rintro e w1 ⟨rfl, hB1⟩))
      | (go_at_call 21; go_must (refine (decodedText_calls s t HS.out HTB.out (by rw [HM.out]; omega) _).mono ?_; intro e w2 hq; have hq2 : ImpBack w1 d e w2 := (by rw [HT.out] at hq; exact hq.back HDB.out); have hB2 := below_next hB1 hq2.below; obtain ⟨v2, rfl, hO2⟩ := hq2.res; obtain ⟨A2, c2, rfl, hc2, hr2, hA2⟩ := hO2.read; rw [nums_len, HK.out]; rw [nums_len, HK.out] at hc2; clear hq hq2; dsimp only))
      | (go_at_call 26; go_must (refine (partNumber_calls A2 k c2 _ d _ hr2 HK.out HDB.out hd8 HVn.out).mono ?_; rintro e w3 ⟨rfl, rfl⟩))
      | (go_at_call 20; go_must (refine (partOf_calls A2 k c2 d _ hr2 HK.out HDB.out hc2 (by omega)).mono ?_; rintro e w4 ⟨v4, rfl, hO4, hB4⟩; rw [← HT.out] at hO4; obtain ⟨A4, c4, rfl, hc4, hr4, hA4⟩ := hO4.read; rw [nums_len, HM.out]; have k4 := run_string (P := Try.prog) (c := c4) Try.underlying22 Try.underlying5 Try.underlying9 hr4 HM.out; rw [← HS.out] at k4))
      | (go_at_call 14; go_must (refine (partAwake_calls _).mono ?_; rintro e w8 ⟨rfl, hB8⟩)))
    go_ret
    exact ⟨rfl, below_next (below_next hB2 hB4) hB8⟩
  · have h0i : (0 : Int) < (V : Int) := by omega
    have hk0 := (HH.out (by omega)).1
    have hk0i : (0 : Int) < (k : Int) := by omega
    obtain ⟨x, hx⟩ : ∃ x, gi d 0 = x := ⟨_, rfl⟩
    have hx0 : x ≠ 0 := by rw [← hx]; exact (HH.out (by omega)).2
    have hxb : (x == 0) = false := beq_eq_false_iff_ne.2 hx0
    have HX := hidden hx
    clear hx
    go_enter Try.func9, Try.ntmps9
    go_wp2_with (first
      | (go_at_call 25; go_must (refine (G0.out _).mono ?_; rintro e w1 ⟨rfl, hB1⟩))
      | (go_at_call 21; go_must (refine (decodedText_calls s t HS.out HTB.out (by rw [HM.out]; omega) _).mono ?_; intro e w2 hq; have hq2 : ImpBack w1 d e w2 := (by rw [HT.out] at hq; exact hq.back HDB.out); have hB2 := below_next hB1 hq2.below; obtain ⟨v2, rfl, hO2⟩ := hq2.res; obtain ⟨A2, c2, rfl, hc2, hr2, hA2⟩ := hO2.read; rw [nums_len, HK.out]; rw [nums_len, HK.out] at hc2; obtain ⟨bb, oo, rfl, _, cx⟩ := hr2.at 0 (by rw [HK.out]; exact hk0); rw [HX.out, Nat.add_zero] at cx; clear hq hq2; dsimp only))
      | (go_at_call 26; go_must (refine (partNumber_calls _ k c2 _ d _ hr2 HK.out HDB.out hd8 HVn.out).mono ?_; rintro e w3 ⟨rfl, rfl⟩))
      | (go_at_call 20; go_must (refine (partOf_calls _ k c2 d _ hr2 HK.out HDB.out hc2 (by omega)).mono ?_; rintro e w4 ⟨v4, rfl, hO4, hB4⟩; rw [← HT.out] at hO4; obtain ⟨A4, c4, rfl, hc4, hr4, hA4⟩ := hO4.read; rw [nums_len, HM.out]; have k4 := run_string (P := Try.prog) (c := c4) Try.underlying22 Try.underlying5 Try.underlying9 hr4 HM.out; rw [← HS.out] at k4))
      | (go_at_call 14; go_must (refine (partAwake_calls _).mono ?_; rintro e w8 ⟨rfl, hB8⟩)))
    go_ret
    exact ⟨rfl, below_next (below_next hB2 hB4) hB8⟩
end Go.Proofs.Ytmibnnmampfalaa
