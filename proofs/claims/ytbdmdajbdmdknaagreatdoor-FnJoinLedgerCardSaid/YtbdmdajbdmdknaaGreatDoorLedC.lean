/- laws.joinOpened, at every text. -/
import Derived.Test.YtbdmdajbdmdknaaGreatDoorLedB
import Derived.Test.YtbdmdajbdmdknaaGreatDoorM18
namespace Go.Proofs.YtbdmdajbdmdknaaGreatDoor
open Go.RowKit
set_option linter.unusedVariables false
set_option linter.unusedSimpArgs false

/-- What Decoded gives, in one form. -/
def DecG (w : World) (l : List Int) (e : Ending) (w' : World) : Prop := Below w.heap.size w w' ∧ ∃ (X : Option Addr) (m c : Nat) (b : Bool) (out : List Int), e = .returned (.tuple #[.slice X m c, .bool b]) ∧ ArgB w' X m c out ∧ (b = true → decOf l = some out) ∧ m ≤ l.length ∧ FreshA w w' X
theorem decG_calls (W : World) (A : Option Addr) (n c : Nat) (l : List Int) (h : ArgB W A n c l) (hn : n ≤ 100000) : Calls Tryz.prog 36 #[.slice A n c] W (DecG W l) :=
  (decoded_calls A n c l W h.rd h.len h.cap h.nil h.isB hn).mono fun e w' hx => by
    rcases hx.res with ⟨v, out, rfl, hd, hO, hb⟩ | ⟨rfl, hd⟩
    · obtain ⟨A', c', rfl, ha, hf⟩ := own_argF hO hb
      exact ⟨hx.below, A', _, c', true, out, rfl, ha, fun _ => hd, decOf_len hd, hf⟩
    · exact ⟨hx.below, none, 0, 0, false, [], rfl, ArgB.nilB _, fun h => by (cases h), Nat.zero_le _, FreshA.none _ _⟩
theorem ret4_runG {P : Program} {fn : Func} {t u v s : Tmp} (h : fn.results = #[.tmp t, .tmp u, .tmp v, .tmp s]) (tmps : Array Value) (w : World) :
    (results fn tmps).run P w = .ok (.tuple #[tmps.getD t undef, tmps.getD u undef, tmps.getD v undef, tmps.getD s undef]) w := by
  simp [results, h]
/-- What joinOpened hands back, of any text. -/
def OpenT (w : World) (key J : List Int) (e : Ending) (w' : World) : Prop := Below w.heap.size w w' ∧ ∃ (X : Option Addr) (m c : Nat) (a k : ByteArray) (b : Bool) (pl : List Int), e = .returned (.tuple #[.slice X m c, .string a, .string k, .bool b]) ∧ ArgB w' X m c pl ∧ m ≤ J.length ∧ FreshA w w' X ∧
  (b = true → ∃ P T M r, ThreeP J P T M ∧ SumIs (markL key (P ++ [46] ++ T)) r ∧ decOf M = some r)
set_option maxRecDepth 100000 in
set_option maxHeartbeats 8000000 in
theorem joinOpenedT_calls (A : Option Addr) (n c : Nat) (key : List Int) (B : Option Addr) (q d : Nat) (J : List Int) (w : World) (h1 : ArgB w A n c key) (n1 : n ≤ 2000) (h2 : ArgB w B q d J) (bq : q ≤ 20000) (ae : Addr) (hE : ErrAt w ae) (hS : SynAt w) :
    Calls Tryz.prog 20 #[.slice A n c, .slice B q d, .bool true] w (OpenT w key J) := by
  have E0 := hidden h1
  have E1 := hidden h2
  have HE := hidden hE
  have HSY := hidden hS
  rcases three_or J with ⟨P, T, M, h3⟩ | hC
  case inr =>
    have HC := hidden hC
    clear h1 h2 hE hS hC
    go_enter Tryz.func20, Tryz.ntmps20
    go_wp2_with (first
      | (go_at_call 18; ((with_reducible refine (ownB_calls w _ _ _ _ E1.out (by omega)).mono ?_); rintro e w1x ⟨hB, At1, ct1, rfl, ha⟩; have HB1 := hidden hB; have Ht1 := hidden ha; clear hB ha))
      | (go_at_call 41; ((with_reducible refine (split_noG _ _ _ _ w1x ae (HE.out.below HB1.out) Ht1.out (by omega) HC.out).mono ?_); rintro e w2x ⟨rfl, hB⟩; have HB2 := hidden (below_next HB1.out hB); clear hB; dsimp only)))
    try simp only [Exit.inBlock, Exit.then]
    refine bodyPost_ret (ret4_runG rfl _ _) rfl ?_
    exact ⟨HB2.out, _, _, _, _, _, _, _, rfl, ArgB.nilB _, Nat.zero_le _, FreshA.none _ _, fun h => by (cases h)⟩
  have hJ := h3.1
  have hJl := h2.len
  rw [hJ] at hJl
  simp only [List.length_append, List.length_cons] at hJl
  obtain ⟨pP, lP⟩ : ∃ p, P.length = p := ⟨_, rfl⟩
  obtain ⟨pT, lT⟩ : ∃ p, T.length = p := ⟨_, rfl⟩
  obtain ⟨pM, lM⟩ : ∃ p, M.length = p := ⟨_, rfl⟩
  rw [lP, lT, lM] at hJl
  obtain ⟨S, hSS⟩ : ∃ S, P ++ [46] ++ T = S := ⟨_, rfl⟩
  obtain ⟨p, lS⟩ : ∃ p, S.length = p := ⟨_, rfl⟩
  have hpS : p ≤ 20000 := by
    have : p = pP + 1 + pT := by rw [← lS, ← hSS, List.length_append, List.length_append, lP, lT]; rfl
    omega
  have hJl2 : pP ≤ 20000 ∧ pT ≤ 20000 ∧ pM ≤ 20000 ∧ pP + pT + pM ≤ q := by omega
  obtain ⟨hb1, hb2, hb3, hb4⟩ := hJl2
  clear hJl
  obtain ⟨r, hr⟩ : ∃ r, SumIs (markL key S) r := ⟨_, ⟨rfl⟩⟩
  have bJ := h2.isB
  have bS : IsB S := by
    intro x hx
    rw [← hSS] at hx
    apply bJ
    rw [hJ]
    simp only [List.mem_append, List.mem_cons, List.mem_nil_iff, or_false] at hx ⊢
    rcases hx with (h | h) | h
    · exact .inl h
    · exact .inr (.inl h)
    · exact .inr (.inr (.inl h))
  have HX := hidden (And.intro lP (And.intro lT (And.intro lM (show J = P ++ 46 :: (T ++ 46 :: M) ∧ (46 : Int) ∉ P ∧ (46 : Int) ∉ T ∧ (46 : Int) ∉ M from h3))))
  have HS := hidden (And.intro hSS (And.intro lS bS))
  have HR := hidden hr
  have HLJ := hidden h2.len
  clear h1 h2 hE hS hJ lP lT lM h3 hSS lS bS bJ hr
  go_enter Tryz.func20, Tryz.ntmps20
  go_upto_region 7 with (first
    | (go_at_call 18; first
      | ((with_reducible refine (ownB_calls w _ _ _ _ E1.out (by omega)).mono ?_); rintro e w1x ⟨hB, At1, ct1, rfl, ha⟩; have HB1 := hidden (below_next (Below.refl _ w) hB); have Hk_1 := hidden (E0.out.below hB (Nat.le_refl _)); have Ht_1 := hidden (E1.out.below hB (Nat.le_refl _)); have Ht1_1 := hidden ha; clear hB ha)
      | ((with_reducible refine (ownB_calls w2x _ _ _ _ Ha_2.out (by omega)).mono ?_); rintro e w3x ⟨hB, Aa1, ca1, rfl, ha⟩; have HB3 := hidden (below_next HB2.out hB); have Hk_3 := hidden (Hk_2.out.below hB (Nat.le_refl _)); have Ha_3 := hidden (Ha_2.out.below hB (Nat.le_refl _)); have Hb_3 := hidden (Hb_2.out.below hB (Nat.le_refl _)); have Hc_3 := hidden (Hc_2.out.below hB (Nat.le_refl _)); have Ha1_3 := hidden ha; clear hB ha)
      | ((with_reducible refine (ownB_calls w4x _ _ _ _ Hc_4.out (by omega)).mono ?_); rintro e w5x ⟨hB, Ac1, cc1, rfl, ha⟩; have HB5 := hidden (below_next HB4.out hB); have Hk_5 := hidden (Hk_4.out.below hB (Nat.le_refl _)); have Ha_5 := hidden (Ha_4.out.below hB (Nat.le_refl _)); have Hb_5 := hidden (Hb_4.out.below hB (Nat.le_refl _)); have Hc_5 := hidden (Hc_4.out.below hB (Nat.le_refl _)); have Hdh_5 := hidden (Hdh_4.out.below hB (Nat.le_refl _)); have Hc1_5 := hidden ha; clear hB ha)
      | ((with_reducible refine (partOwn_calls _ _ _ _ w6x Ha_6.out.rd Ha_6.out.len (by omega)).mono ?_); rintro e v1x ⟨vA, rfl, hO, hB⟩; have HP1 : Hid (OB w6x v1x vA P) := hidden ⟨hO, hB⟩; clear hO hB))
    | (go_at_call 41; ((with_reducible refine (splitB_calls w1x _ _ _ J P T M pP pT pM HX.out.1 HX.out.2.1 HX.out.2.2.1 HX.out.2.2.2.1 HX.out.2.2.2.2.1 HX.out.2.2.2.2.2.1 HX.out.2.2.2.2.2.2 Ht1_1.out (by omega)).mono ?_); rintro e w2x ⟨hB, Aa, ca, Ab, cb, Ac, cc, rfl, ha, hb, hc⟩; have HB2 := hidden (below_next HB1.out hB); have Hk_2 := hidden (Hk_1.out.below hB (Nat.le_refl _)); have Ht_2 := hidden (Ht_1.out.below hB (Nat.le_refl _)); have Ht1_2 := hidden (Ht1_1.out.below hB (Nat.le_refl _)); have Ha_2 := hidden ha; have Hb_2 := hidden hb; have Hc_2 := hidden hc; clear hB ha hb hc; dsimp only))
    | (go_at_call 36; first
      | ((with_reducible refine (decG_calls w3x _ _ _ _ Ha1_3.out (by omega)).mono ?_); rintro e w4x ⟨hB, Xdh, mdh, cdh, bdh, odh, rfl, ha, hd, hm, _⟩; have HB4 := hidden (below_next HB3.out hB); have Hk_4 := hidden (Hk_3.out.below hB (Nat.le_refl _)); have Ha_4 := hidden (Ha_3.out.below hB (Nat.le_refl _)); have Hb_4 := hidden (Hb_3.out.below hB (Nat.le_refl _)); have Hc_4 := hidden (Hc_3.out.below hB (Nat.le_refl _)); have Ha1_4 := hidden (Ha1_3.out.below hB (Nat.le_refl _)); have Hdh_4 := hidden ha; clear hB ha; have HDdh := hidden (And.intro hd hm); clear hd hm; dsimp only)
      | ((with_reducible refine (decG_calls w5x _ _ _ _ Hc1_5.out (by omega)).mono ?_); rintro e w6x ⟨hB, Xdm, mdm, cdm, bdm, odm, rfl, ha, hd, hm, _⟩; have HB6 := hidden (below_next HB5.out hB); have Hk_6 := hidden (Hk_5.out.below hB (Nat.le_refl _)); have Ha_6 := hidden (Ha_5.out.below hB (Nat.le_refl _)); have Hb_6 := hidden (Hb_5.out.below hB (Nat.le_refl _)); have Hc_6 := hidden (Hc_5.out.below hB (Nat.le_refl _)); have Hdh_6 := hidden (Hdh_5.out.below hB (Nat.le_refl _)); have Hc1_6 := hidden (Hc1_5.out.below hB (Nat.le_refl _)); have Hdm_6 := hidden ha; clear hB ha; have HDdm := hidden (And.intro hd hm); clear hd hm; dsimp only))
    | ((with_reducible refine at_dst 46 ?_); refine walk_app (base := w6x.heap.size) rfl (.tmp 44) (.tmp 45) rfl Tryz.underlying31 info_u8 rfl (by decide) rfl rfl (HP1.out.own.alloc _) (Rd.new v1x 5 (nums .u8 [46]) _ rfl) rfl (nums_one _ _) (Nat.le_trans HP1.out.below.size (below_alloc0 v1x _).size) (by simp only [List.length_append, nums_len, List.length_cons, List.length_nil, HX.out.1]; omega) ?_; intro v2 v2x hO2 hg2 _; have HP2 := hidden (HP1.out.put (below_alloc0 v1x _) hO2 hg2); clear hO2 hg2)
    | ((with_reducible refine at_dst 48 ?_); refine walk_app (base := w6x.heap.size) rfl (.tmp 46) (.tmp 47) rfl Tryz.underlying31 info_u8 rfl (by decide) rfl rfl HP2.out.own (Hb_6.out.rd.below HP2.out.below (Nat.le_refl _)) (by rw [nums_len]; exact Hb_6.out.len) (nums_one _ _) HP2.out.below.size (by simp only [List.length_append, nums_len, List.length_cons, List.length_nil, HX.out.1, HX.out.2.1]; omega) ?_; intro v4 w7x hO4 hg4 _; have HP4 := hidden (HP2.out.put (Below.refl _ _) hO4 hg4); clear hO4 hg4; have hPP := HP4.out; rw [HS.out.1] at hPP; obtain ⟨As, cs, hv4, has⟩ := own_arg hPP.own HS.out.2.2; rw [HS.out.2.1] at hv4 has; subst hv4; have hB := hPP.below; have HB7 := hidden (below_next HB6.out hB); have Hk_7 := hidden (Hk_6.out.below hB (Nat.le_refl _)); have Hb_7 := hidden (Hb_6.out.below hB (Nat.le_refl _)); have Hdh_7 := hidden (Hdh_6.out.below hB (Nat.le_refl _)); have Hdm_7 := hidden (Hdm_6.out.below hB (Nat.le_refl _)); have Hs_7 := hidden has; clear hB has hPP))
  have fail : ∀ (e : Ending) (W : World), Below w.heap.size w W → e = .returned (.tuple #[.slice none 0 0, .string ⟨#[]⟩, .string ⟨#[]⟩, .bool false]) → OpenT w key J e W := fun e W hB he => ⟨hB, _, _, _, _, _, _, _, he, ArgB.nilB _, Nat.zero_le _, FreshA.none _ _, fun h => by (cases h)⟩
  have FAIL := hidden fail
  clear fail
  have hmd : mdh ≤ 20000 := by have := HDdh.out.2; rw [HX.out.1] at this; omega
  have KA : Hid (∀ W A m c t, ArgB W A m c t → m ≤ 20000 → SynAt W → Calls Tryz.prog 29 #[.slice A m c, .string ⟨#[97, 108, 103]⟩] W fun e w' => (∃ v b, e = .returned (.tuple #[.string v, .bool b])) ∧ Below W.heap.size W w') := hidden (fun W A m c t h hm hs => headStr_any W A m c t h (by omega) [97, 108, 103] atoiNo_alg hs)
  have KK : Hid (∀ W A m c t, ArgB W A m c t → m ≤ 20000 → SynAt W → Calls Tryz.prog 29 #[.slice A m c, .string ⟨#[107, 105, 100]⟩] W fun e w' => (∃ v b, e = .returned (.tuple #[.string v, .bool b])) ∧ Below W.heap.size W w') := hidden (fun W A m c t h hm hs => headStr_any W A m c t h (by omega) [107, 105, 100] atoiNo_kid hs)
  cases bdh with
  | false =>
    go_wp2
    try simp only [Exit.inBlock, Exit.then]
    refine bodyPost_ret (ret4_runG rfl _ _) rfl ?_
    exact FAIL.out _ _ HB7.out rfl
  | true =>
    cases bdm with
    | false =>
      go_wp2
      try simp only [Exit.inBlock, Exit.then]
      refine bodyPost_ret (ret4_runG rfl _ _) rfl ?_
      exact FAIL.out _ _ HB7.out rfl
    | true =>
      obtain ⟨D, hD⟩ : ∃ D : Bool, D = decide (odm = r) := ⟨_, rfl⟩
      have HDD := hidden hD
      have KS : Hid (∀ W A c B c', ArgB W A mdm c odm → ArgB W B 32 c' r → Calls Tryz.prog 21 #[.slice A mdm c, .slice B 32 c'] W fun e w' => e = .returned (.bool D) ∧ W = w') := hidden (fun W A c B c' a b => sameB_calls W A B mdm c 32 c' odm r a b D hD)
      clear hD
      cases D with
      | false =>
        go_wp2_with (first
          | (go_at_call 24; ((with_reducible refine (joinMark_calls _ _ _ _ _ _ _ _ r w7x Hk_7.out (by omega) Hs_7.out (by omega) HR.out).mono ?_); rintro e w8x ⟨hB, Am, cm, rfl, ha⟩; have HB8 := hidden (below_next HB7.out hB); have Hk_8 := hidden (Hk_7.out.below hB (Nat.le_refl _)); have Hb_8 := hidden (Hb_7.out.below hB (Nat.le_refl _)); have Hdh_8 := hidden (Hdh_7.out.below hB (Nat.le_refl _)); have Hdm_8 := hidden (Hdm_7.out.below hB (Nat.le_refl _)); have Hs_8 := hidden (Hs_7.out.below hB (Nat.le_refl _)); have Hm_8 := hidden ha; clear hB ha))
          | (go_at_call 21; ((with_reducible refine (KS.out w8x _ _ _ _ Hdm_8.out Hm_8.out).mono ?_); rintro e w' ⟨rfl, rfl⟩)))
        try simp only [Exit.inBlock, Exit.then]
        refine bodyPost_ret (ret4_runG rfl _ _) rfl ?_
        exact FAIL.out _ _ HB8.out rfl
      | true =>
        go_upto_region 14 with (first
          | (go_at_call 24; ((with_reducible refine (joinMark_calls _ _ _ _ _ _ _ _ r w7x Hk_7.out (by omega) Hs_7.out (by omega) HR.out).mono ?_); rintro e w8x ⟨hB, Am, cm, rfl, ha⟩; have HB8 := hidden (below_next HB7.out hB); have Hk_8 := hidden (Hk_7.out.below hB (Nat.le_refl _)); have Hb_8 := hidden (Hb_7.out.below hB (Nat.le_refl _)); have Hdh_8 := hidden (Hdh_7.out.below hB (Nat.le_refl _)); have Hdm_8 := hidden (Hdm_7.out.below hB (Nat.le_refl _)); have Hs_8 := hidden (Hs_7.out.below hB (Nat.le_refl _)); have Hm_8 := hidden ha; clear hB ha))
          | (go_at_call 21; ((with_reducible refine (KS.out w8x _ _ _ _ Hdm_8.out Hm_8.out).mono ?_); rintro e w' ⟨rfl, rfl⟩))
          | (go_at_call 18; first
            | ((with_reducible refine (ownB_calls w8x _ _ _ _ Hdh_8.out (by omega)).mono ?_); rintro e w9x ⟨hB, Ah3, ch3, rfl, ha⟩; have HB9 := hidden (below_next HB8.out hB); have Hb_9 := hidden (Hb_8.out.below hB (Nat.le_refl _)); have Hdh_9 := hidden (Hdh_8.out.below hB (Nat.le_refl _)); have Hh3_9 := hidden ha; clear hB ha)
            | ((with_reducible refine (ownB_calls w10x _ _ _ _ Hdh_10.out (by omega)).mono ?_); rintro e w11x ⟨hB, Ah4, ch4, rfl, ha⟩; have HB11 := hidden (below_next HB10.out hB); have Hb_11 := hidden (Hb_10.out.below hB (Nat.le_refl _)); have Hdh_11 := hidden (Hdh_10.out.below hB (Nat.le_refl _)); have Hh4_11 := hidden ha; clear hB ha)
            | ((with_reducible refine (ownB_calls w12x _ _ _ _ Hb_12.out (by omega)).mono ?_); rintro e w13x ⟨hB, Ab2, cb2, rfl, ha⟩; have HB13 := hidden (below_next HB12.out hB); have Hb_13 := hidden (Hb_12.out.below hB (Nat.le_refl _)); have Hb2_13 := hidden ha; clear hB ha)
            | ((with_reducible refine (ownB_calls w13x _ _ _ _ Hb_13.out (by omega)).mono ?_); rintro e w14x ⟨hB, Ab3, cb3, rfl, ha⟩; have HB14 := hidden (below_next HB13.out hB); have Hb_14 := hidden (Hb_13.out.below hB (Nat.le_refl _)); have Hb3_14 := hidden ha; clear hB ha))
          | (go_at_call 29; first
            | ((with_reducible refine (KA.out w9x _ _ _ _ Hh3_9.out hmd (HSY.out.next HB9.out)).mono ?_); rintro e w10x ⟨⟨va, ba, rfl⟩, hB⟩; have HB10 := hidden (below_next HB9.out hB); have Hb_10 := hidden (Hb_9.out.below hB (Nat.le_refl _)); have Hdh_10 := hidden (Hdh_9.out.below hB (Nat.le_refl _)); have Hh3_10 := hidden (Hh3_9.out.below hB (Nat.le_refl _)); clear hB ; dsimp only)
            | ((with_reducible refine (KK.out w11x _ _ _ _ Hh4_11.out hmd (HSY.out.next HB11.out)).mono ?_); rintro e w12x ⟨⟨vk, bk, rfl⟩, hB⟩; have HB12 := hidden (below_next HB11.out hB); have Hb_12 := hidden (Hb_11.out.below hB (Nat.le_refl _)); have Hdh_12 := hidden (Hdh_11.out.below hB (Nat.le_refl _)); have Hh4_12 := hidden (Hh4_11.out.below hB (Nat.le_refl _)); clear hB ; dsimp only))
          | (go_at_call 36; ((with_reducible refine (decG_calls w14x _ _ _ _ Hb3_14.out (by omega)).mono ?_); rintro e w15x ⟨hB, Xf, mf, cf, bf, of, rfl, ha, hd, hm, hfr⟩; have HB15 := hidden (below_next HB14.out hB); have Hb_15 := hidden (Hb_14.out.below hB (Nat.le_refl _)); have Hb3_15 := hidden (Hb3_14.out.below hB (Nat.le_refl _)); have Hf_15 := hidden ha; clear hB ha; have HDf := hidden hm; have HFR := hidden hfr; clear hd hm hfr; dsimp only)))
        have HFIN : Hid (∀ (b : Bool) (e : Ending), e = .returned (.tuple #[.slice Xf mf cf, .string va, .string vk, .bool b]) → OpenT w key J e w15x) := hidden (fun b e he => ⟨HB15.out, _, _, _, _, _, b, _, he, Hf_15.out, by have := HDf.out; have := HLJ.out; rw [HX.out.2.1] at *; omega, HFR.out.wide HB14.out.size (Nat.le_refl _), fun _ => ⟨P, T, M, r, HX.out.2.2.2, by rw [HS.out.1]; exact HR.out, by have h1 := HDdm.out.1 (by trivial); have h2 := HDD.out; simp at h2; rw [h1, h2]⟩⟩)
        cases ba <;> cases bk <;> cases bf <;> (
          go_wp2
          try simp only [Exit.inBlock, Exit.then]
          refine bodyPost_ret (ret4_runG rfl _ _) rfl ?_
          exact HFIN.out _ _ rfl)
end Go.Proofs.YtbdmdajbdmdknaaGreatDoor
