/- The head of a token, as the parser sees it. Nothing here speaks of the program. The walks of laws.joinSigned and laws.joinOpened. impl.EncodedText, laws.joinLink. A slice of slices of bytes that came in, opened. -/
import Derived.Test.YtbdmdajbdmdknaaGreatDoorM4
import Derived.Test.YtbdmdajbdmdknaaGreatDoorM18
import Derived.Test.YtbdmdajbdmdknaaGreatDoorM7
import Derived.Test.YtbdmdajbdmdknaaGreatDoorLedC
import Derived.Test.YtbdmdajbdmdknaaGreatDoorM14
import Derived.Test.YtbdmdajbdmdknaaGreatDoorM13
import Derived.Test.YtbdmdajbdmdknaaGreatDoorM16
import Derived.OpenShut
import Derived.ChangeArms
namespace Go.Proofs.YtbdmdajbdmdknaaGreatDoor
open Go.RowKit
set_option linter.unusedVariables false
set_option linter.unusedSimpArgs false

theorem rawS_plain : ∀ (x y : Bs), (34 : UInt8) ∉ x → (92 : UInt8) ∉ x → rawS false (x ++ 34 :: y) = some (x, y)
  | [], y, _, _ => by simp [rawS]
  | c :: x, y, h1, h2 => by
    rw [List.mem_cons, not_or] at h1 h2
    have hc : (c == 92) = false := by simpa using Ne.symm h2.1
    rw [List.cons_append, rawS_f, if_neg (Ne.symm h1.1), hc, rawS_plain x y h1.2 h2.2]
    rfl
theorem skipW_nw {c : UInt8} (l : Bs) (h : isWS c = false) : skipW (c :: l) = c :: l := by unfold skipW; rw [List.dropWhile_cons, h]; rfl
/-- The head of an algorithm and a key's name. -/
def headL (a k : Bs) : Bs := 123 :: 34 :: ([97, 108, 103] ++ 34 :: 58 :: 34 :: (a ++ 34 :: 44 :: 34 :: ([107, 105, 100] ++ 34 :: 58 :: 34 :: (k ++ 34 :: 125 :: []))))
theorem pText_headL (a k : Bs) (h1 : (34 : UInt8) ∉ a) (h2 : (92 : UInt8) ∉ a) (h3 : (34 : UInt8) ∉ k) (h4 : (92 : UInt8) ∉ k) : pText (headL a k) = some (.obj [([97, 108, 103], .str a), ([107, 105, 100], .str k)]) := by
  obtain ⟨g, hg⟩ : ∃ g, 2 * (headL a k).length + 2 = g + 4 := ⟨2 * (headL a k).length - 2, by simp [headL]; omega⟩
  unfold pText
  rw [hg]
  have hk : pObj (g + 2) 1 (34 :: ([107, 105, 100] ++ 34 :: 58 :: 34 :: (k ++ 34 :: 125 :: []))) = some ([([107, 105, 100], .str k)], []) := by
    refine pObj_close (skipW_nw _ rfl) (rawS_plain [107, 105, 100] _ (by decide) (by decide)) (skipW_nw _ rfl) (v := .str k) (r3 := 125 :: []) ?_ (skipW_nw _ rfl)
    rw [skipW_nw _ rfl, pVal_str (by omega), rawS_plain k _ h3 h4]
    rfl
  have ho : pObj (g + 3) 1 (34 :: ([97, 108, 103] ++ 34 :: 58 :: 34 :: (a ++ 34 :: 44 :: 34 :: ([107, 105, 100] ++ 34 :: 58 :: 34 :: (k ++ 34 :: 125 :: []))))) = some ([([97, 108, 103], .str a), ([107, 105, 100], .str k)], []) := by
    rw [pObj_comma (skipW_nw _ rfl) (rawS_plain [97, 108, 103] _ (by decide) (by decide)) (skipW_nw _ rfl) (v := .str a) (r3 := 44 :: 34 :: ([107, 105, 100] ++ 34 :: 58 :: 34 :: (k ++ 34 :: 125 :: []))) ?_ (skipW_nw _ rfl), hk]
    · rfl
    · rw [skipW_nw _ rfl, pVal_str (by omega), rawS_plain a _ h1 h2]
      rfl
  have hv : pVal (g + 4) 0 (skipW (headL a k)) = some (.obj [([97, 108, 103], .str a), ([107, 105, 100], .str k)], []) := by
    unfold headL
    rw [skipW_nw _ rfl, pVal_obj (by omega)]
    unfold oRest
    rw [skipW_nw _ rfl]
    simp only [ho]
    rfl
  rw [hv]
  rfl
end Go.Proofs.YtbdmdajbdmdknaaGreatDoor
namespace Go.Proofs.YtbdmdajbdmdknaaGreatDoor
open Go.RowKit
set_option linter.unusedVariables false
set_option linter.unusedSimpArgs false

theorem withSigB_calls (W : World) (A : Option Addr) (n c : Nat) (S : List Int) (B : Option Addr) (m d : Nat) (r J : List Int) (q : Nat) (hJ : J = S ++ [46] ++ encF (alpha true) r) (hq : J.length = q) (h1 : ArgB W A n c S) (n1 : n ≤ 100000) (h2 : ArgB W B m d r) (n2 : m ≤ 20000) :
    Calls Tryz.prog 40 #[.slice A n c, .slice B m d] W (HeadB W q J) :=
  (withSig_calls W A n c S B m d r h1 n1 h2 n2).mono fun e w' k => HeadB.of (by rw [hJ]; exact k) (by rw [hJ]; exact isB_app (isB_app h1.isB isB_46) (encF_isB true h2.isB)) hq
set_option maxRecDepth 100000 in
set_option maxHeartbeats 4000000 in
theorem joinSigned_calls (a k : ByteArray) (nH : Nat) (hd : List Int) (hhd : hd = bts (headS a k)) (hnH : nH = a.size + k.size + 19) (hnb : nH ≤ 200) (A : Option Addr) (n c : Nat) (key : List Int) (B : Option Addr) (m d : Nat) (pl S : List Int) (p : Nat) (hS : S = signF true hd pl) (hp : S.length = p) (r : List Int) (hm : SumIs (markL key S) r) (J : List Int) (q : Nat) (hJ : J = S ++ [46] ++ encF (alpha true) r) (hq : J.length = q) (w : World) (h1 : ArgB w A n c key) (n1 : n ≤ 2000) (h2 : ArgB w B m d pl) (n2 : m ≤ 14000) (bp : p ≤ 20000) :
    Calls Tryz.prog 19 #[.slice A n c, .string a, .string k, .slice B m d, .bool true] w (HeadB w q J) := by
  have KH : Hid (∀ W, Calls Tryz.prog 39 #[.string a, .string k] W (HeadB W nH hd)) := hidden (fun W => joinHead_calls a k nH hd hhd hnH W (by omega) (by omega))
  have HX := hidden (And.intro hS (And.intro hp (And.intro hJ hq)))
  have HM := hidden hm
  have E0 := hidden h1
  have E1 := hidden h2
  have Hr := hidden hm.len
  clear hhd hnH hS hp hm hJ hq h1 h2
  go_enter Tryz.func19, Tryz.ntmps19
  go_wp2_with (first
    | (go_at_call 39; ((with_reducible refine (KH.out w).mono ?_); rintro e w1x ⟨hB, Ah, ch, rfl, ha⟩; have HB1 := hidden (below_next (Below.refl _ w) hB); have Hk_1 := hidden (E0.out.below hB (Nat.le_refl _)); have Hp_1 := hidden (E1.out.below hB (Nat.le_refl _)); have Hh_1 := hidden ha; clear hB ha))
    | (go_at_call 18; first
      | ((with_reducible refine (ownB_calls w1x _ _ _ _ Hp_1.out (by omega)).mono ?_); rintro e w2x ⟨hB, Ap1, cp1, rfl, ha⟩; have HB2 := hidden (below_next HB1.out hB); have Hk_2 := hidden (Hk_1.out.below hB (Nat.le_refl _)); have Hp_2 := hidden (Hp_1.out.below hB (Nat.le_refl _)); have Hh_2 := hidden (Hh_1.out.below hB (Nat.le_refl _)); have Hp1_2 := hidden ha; clear hB ha)
      | ((with_reducible refine (ownB_calls w3x _ _ _ _ Hs1_3.out (by omega)).mono ?_); rintro e w4x ⟨hB, As2, cs2, rfl, ha⟩; have HB4 := hidden (below_next HB3.out hB); have Hk_4 := hidden (Hk_3.out.below hB (Nat.le_refl _)); have Hs1_4 := hidden (Hs1_3.out.below hB (Nat.le_refl _)); have Hs2_4 := hidden ha; clear hB ha))
    | (go_at_call 38; ((with_reducible refine (signB_calls w2x _ _ _ _ _ _ _ _ true S p HX.out.1 HX.out.2.1 Hh_2.out (by omega) Hp1_2.out (by omega)).mono ?_); rintro e w3x ⟨hB, As1, cs1, rfl, ha⟩; have HB3 := hidden (below_next HB2.out hB); have Hk_3 := hidden (Hk_2.out.below hB (Nat.le_refl _)); have Hh_3 := hidden (Hh_2.out.below hB (Nat.le_refl _)); have Hp1_3 := hidden (Hp1_2.out.below hB (Nat.le_refl _)); have Hs1_3 := hidden ha; clear hB ha))
    | (go_at_call 24; ((with_reducible refine (joinMark_calls _ _ _ _ _ _ _ _ r w4x Hk_4.out (by omega) Hs1_4.out (by omega) HM.out).mono ?_); rintro e w5x ⟨hB, Am, cm, rfl, ha⟩; have HB5 := hidden (below_next HB4.out hB); have Hk_5 := hidden (Hk_4.out.below hB (Nat.le_refl _)); have Hs1_5 := hidden (Hs1_4.out.below hB (Nat.le_refl _)); have Hs2_5 := hidden (Hs2_4.out.below hB (Nat.le_refl _)); have Hm_5 := hidden ha; clear hB ha))
    | (go_at_call 40; ((with_reducible refine (withSigB_calls w5x _ _ _ S _ _ _ r J q HX.out.2.2.1 HX.out.2.2.2 Hs2_5.out (by omega) Hm_5.out (by omega)).mono ?_); rintro e w6x ⟨hB, AJ, cJ, rfl, ha⟩; have HB6 := hidden (below_next HB5.out hB); have Hs2_6 := hidden (Hs2_5.out.below hB (Nat.le_refl _)); have Hm_6 := hidden (Hm_5.out.below hB (Nat.le_refl _)); have HJ_6 := hidden ha; clear hB ha)))
  go_ret
  exact ⟨HB6.out, _, _, rfl, HJ_6.out⟩
theorem bts_bI (s : ByteArray) : bts s = bI s := rfl
theorem headS_L (a k : ByteArray) : (headS a k).data.toList = headL a.data.toList k.data.toList := by
  unfold headS headL
  simp only [ByteArray.data_append, Array.toList_append]
  simp
/-- Nothing in a text that a JSON text would write otherwise. -/
structure Tame (a : ByteArray) : Prop where
  no34 : (34 : UInt8) ∉ a.data.toList
  no92 : (92 : UInt8) ∉ a.data.toList
theorem headStrAt (W : World) (A : Option Addr) (n c : Nat) (hd : List Int) (a k : ByteArray) (hhd : hd = bts (headS a k)) (h : ArgB W A n c hd) (hn : n ≤ 1000) (ha : Tame a) (hk : Tame k) (q : Bs) (v : ByteArray) (hq : (q = [97, 108, 103] ∧ v = a) ∨ (q = [107, 105, 100] ∧ v = k)) (hS : SynAt W) :
    Calls Tryz.prog 29 #[.slice A n c, .string (bs q)] W fun e w' => e = .returned (.tuple #[.string v, .bool true]) ∧ Below W.heap.size W w' := by
  have hsz : (headS a k).size = n := by rw [← bts_len, ← hhd]; exact h.len
  have hp := pText_headL a.data.toList k.data.toList ha.no34 ha.no92 hk.no34 hk.no92
  have hT : headT (fun x => x) (some (.obj [([97, 108, 103], .str a.data.toList), ([107, 105, 100], .str k.data.toList)])) q = some v.data.toList := by
    rcases hq with ⟨rfl, rfl⟩ | ⟨rfl, rfl⟩ <;> rfl
  refine (implHeadString_calls W (headS a k) A n c (fun x => x) q (by rw [← bts_bI, ← hhd]; exact h.rd) hsz h.cap h.nil (by omega) _ (by rw [headS_L]; exact hp) ?_ ?_ hS _ hT).mono ?_
  · rintro u hu
    cases hu
    refine ⟨⟨fun l hl => ?_, fun l hl => (by cases hl)⟩, fun t ht => (by cases ht)⟩
    cases hl
    refine ⟨fun p hp => ?_, by simp⟩
    rcases List.mem_cons.1 hp with rfl | hp
    · exact unC_plain [97, 108, 103] (by decide)
    · rcases List.mem_singleton.1 hp with rfl
      exact unC_plain [107, 105, 100] (by decide)
  · intro u hu
    have hu2 : u = .str a.data.toList ∨ u = .str k.data.toList := by
      rcases hq with ⟨rfl, rfl⟩ | ⟨rfl, rfl⟩
      · left; exact (Option.some.inj hu).symm
      · right; exact (Option.some.inj hu).symm
    rcases hu2 with rfl | rfl
    · exact ⟨fun t ht => (by cases ht), fun s hs => (by cases hs; exact unC_plain _ ha.no92)⟩
    · exact ⟨fun t ht => (by cases ht), fun s hs => (by cases hs; exact unC_plain _ hk.no92)⟩
  · rintro e w' ⟨hB, rfl⟩
    exact ⟨by rw [Option.getD_some, bs_self]; rfl, hB⟩
theorem ret4_run {P : Program} {fn : Func} {t u v s : Tmp} (h : fn.results = #[.tmp t, .tmp u, .tmp v, .tmp s]) (tmps : Array Value) (w : World) :
    (results fn tmps).run P w = .ok (.tuple #[tmps.getD t undef, tmps.getD u undef, tmps.getD v undef, tmps.getD s undef]) w := by
  simp [results, h]
/-- What joinOpened hands back. -/
structure OpenP (w : World) (m : Nat) (pl : List Int) (a k : ByteArray) (e : Ending) (w' : World) : Prop where
  below : Below w.heap.size w w'
  res : ∃ A c, e = .returned (.tuple #[.slice A m c, .string a, .string k, .bool true]) ∧ ArgB w' A m c pl ∧ FreshA w w' A
set_option maxRecDepth 100000 in
set_option maxHeartbeats 8000000 in
theorem joinOpened_calls (a k : ByteArray) (nH : Nat) (hd : List Int) (hhd : hd = bts (headS a k)) (hnH : hd.length = nH) (hnb : nH ≤ 200) (ha : Tame a) (hk : Tame k) (A : Option Addr) (n c : Nat) (key : List Int) (B : Option Addr) (q d : Nat) (J pl S P T M r : List Int) (m p pP pT pM : Nat) (hP : P = encF (alpha true) hd) (hT : T = encF (alpha true) pl) (hM : M = encF (alpha true) r) (lP : P.length = pP) (lT : T.length = pT) (lM : M.length = pM) (lp : pl.length = m) (bpl : IsB pl) (hm : SumIs (markL key S) r) (hS : S = P ++ [46] ++ T) (lS : S.length = p) (hJ : J = P ++ 46 :: (T ++ 46 :: M)) (w : World) (h1 : ArgB w A n c key) (n1 : n ≤ 2000) (h2 : ArgB w B q d J) (bP : pP ≤ 20000) (bT : pT ≤ 20000) (bM : pM ≤ 20000) (bm : m ≤ 20000) (bp : p ≤ 20000) (bq : q ≤ 100000) (hSY : SynAt w) :
    Calls Tryz.prog 20 #[.slice A n c, .slice B q d, .bool true] w (OpenP w m pl a k) := by
  have bhd : IsB hd := by rw [hhd]; exact bts_isB _
  have nP : (46 : Int) ∉ P := by rw [hP]; exact encF_no46 bhd
  have nT : (46 : Int) ∉ T := by rw [hT]; exact encF_no46 bpl
  have nM : (46 : Int) ∉ M := by rw [hM]; exact encF_no46 hm.isB
  have bPb : IsB P := by rw [hP]; exact encF_isB true bhd
  have bSb : IsB S := by rw [hS, hP, hT]; exact isB_app (isB_app (encF_isB true bhd) isB_46) (encF_isB true bpl)
  have KA : Hid (∀ W A c, ArgB W A nH c hd → SynAt W → Calls Tryz.prog 29 #[.slice A nH c, .string ⟨#[97, 108, 103]⟩] W fun e w' => e = .returned (.tuple #[.string a, .bool true]) ∧ Below W.heap.size W w') := hidden (fun W A c h hs => headStrAt W A nH c hd a k hhd h (by omega) ha hk [97, 108, 103] a (.inl ⟨rfl, rfl⟩) hs)
  have KK : Hid (∀ W A c, ArgB W A nH c hd → SynAt W → Calls Tryz.prog 29 #[.slice A nH c, .string ⟨#[107, 105, 100]⟩] W fun e w' => e = .returned (.tuple #[.string k, .bool true]) ∧ Below W.heap.size W w') := hidden (fun W A c h hs => headStrAt W A nH c hd a k hhd h (by omega) ha hk [107, 105, 100] k (.inr ⟨rfl, rfl⟩) hs)
  have KS : Hid (∀ W A c B c', ArgB W A 32 c r → ArgB W B 32 c' r → Calls Tryz.prog 21 #[.slice A 32 c, .slice B 32 c'] W fun e w' => e = .returned (.bool true) ∧ W = w') := hidden (fun W A c B c' a b => sameB_calls W A B 32 c 32 c' r r a b true (by simp))
  have HX := hidden (And.intro lP (And.intro lT (And.intro lM (And.intro hJ (And.intro nP (And.intro nT nM))))))
  have HD := hidden (And.intro bhd (And.intro hnH hP))
  have HT := hidden (And.intro bpl (And.intro lp hT))
  have HM := hidden (And.intro hm.isB (And.intro hm.len hM))
  have HR := hidden hm
  have HS := hidden (And.intro hS (And.intro lS (And.intro bSb bPb)))
  have lP2 : P.length ≤ 20000 := by omega
  have lT2 : T.length ≤ 20000 := by omega
  have HSY := hidden hSY
  have E0 := hidden h1
  have E1 := hidden h2
  clear hSY bhd nP nT nM bPb bSb hhd hnH ha hk hP hT hM lP lT lM lp bpl hm hS lS hJ h1 h2
  go_enter Tryz.func20, Tryz.ntmps20
  go_wp2_with (first
    | (go_at_call 18; first
      | ((with_reducible refine (ownB_calls w _ _ _ _ E1.out (by omega)).mono ?_); rintro e w1x ⟨hB, At1, ct1, rfl, ha⟩; have HB1 := hidden (below_next (Below.refl _ w) hB); have Hk_1 := hidden (E0.out.below hB (Nat.le_refl _)); have Ht_1 := hidden (E1.out.below hB (Nat.le_refl _)); have Ht1_1 := hidden ha; clear hB ha)
      | ((with_reducible refine (ownB_calls w2x _ _ _ _ Ha_2.out (by omega)).mono ?_); rintro e w3x ⟨hB, Aa1, ca1, rfl, ha⟩; have HB3 := hidden (below_next HB2.out hB); have Hk_3 := hidden (Hk_2.out.below hB (Nat.le_refl _)); have Ha_3 := hidden (Ha_2.out.below hB (Nat.le_refl _)); have Hb_3 := hidden (Hb_2.out.below hB (Nat.le_refl _)); have Hc_3 := hidden (Hc_2.out.below hB (Nat.le_refl _)); have Ha1_3 := hidden ha; clear hB ha)
      | ((with_reducible refine (ownB_calls w4x _ _ _ _ Hc_4.out (by omega)).mono ?_); rintro e w5x ⟨hB, Ac1, cc1, rfl, ha⟩; have HB5 := hidden (below_next HB4.out hB); have Hk_5 := hidden (Hk_4.out.below hB (Nat.le_refl _)); have Ha_5 := hidden (Ha_4.out.below hB (Nat.le_refl _)); have Hb_5 := hidden (Hb_4.out.below hB (Nat.le_refl _)); have Hc_5 := hidden (Hc_4.out.below hB (Nat.le_refl _)); have Hdh_5 := hidden (Hdh_4.out.below hB (Nat.le_refl _)); have Hc1_5 := hidden ha; clear hB ha)
      | ((with_reducible refine (partOwn_calls _ _ _ _ w6x Ha_6.out.rd Ha_6.out.len (by omega)).mono ?_); rintro e v1x ⟨vA, rfl, hO, hB⟩; have HP1 : Hid (OB w6x v1x vA P) := hidden ⟨hO, hB⟩; clear hO hB)
      | ((with_reducible refine (ownB_calls w8x _ _ _ _ Hdh_8.out (by omega)).mono ?_); rintro e w9x ⟨hB, Ah3, ch3, rfl, ha⟩; have HB9 := hidden (below_next HB8.out hB); have Hb_9 := hidden (Hb_8.out.below hB (Nat.le_refl _)); have Hdh_9 := hidden (Hdh_8.out.below hB (Nat.le_refl _)); have Hh3_9 := hidden ha; clear hB ha)
      | ((with_reducible refine (ownB_calls w10x _ _ _ _ Hdh_10.out (by omega)).mono ?_); rintro e w11x ⟨hB, Ah4, ch4, rfl, ha⟩; have HB11 := hidden (below_next HB10.out hB); have Hb_11 := hidden (Hb_10.out.below hB (Nat.le_refl _)); have Hdh_11 := hidden (Hdh_10.out.below hB (Nat.le_refl _)); have Hh4_11 := hidden ha; clear hB ha)
      | ((with_reducible refine (ownB_calls w12x _ _ _ _ Hb_12.out (by omega)).mono ?_); rintro e w13x ⟨hB, Ab2, cb2, rfl, ha⟩; have HB13 := hidden (below_next HB12.out hB); have Hb_13 := hidden (Hb_12.out.below hB (Nat.le_refl _)); have Hb2_13 := hidden ha; clear hB ha)
      | ((with_reducible refine (ownB_calls w13x _ _ _ _ Hb_13.out (by omega)).mono ?_); rintro e w14x ⟨hB, Ab3, cb3, rfl, ha⟩; have HB14 := hidden (below_next HB13.out hB); have Hb_14 := hidden (Hb_13.out.below hB (Nat.le_refl _)); have Hb3_14 := hidden ha; clear hB ha))
    | (go_at_call 41; ((with_reducible refine (splitB_calls w1x _ _ _ J P T M pP pT pM HX.out.1 HX.out.2.1 HX.out.2.2.1 HX.out.2.2.2.1 HX.out.2.2.2.2.1 HX.out.2.2.2.2.2.1 HX.out.2.2.2.2.2.2 Ht1_1.out (by omega)).mono ?_); rintro e w2x ⟨hB, Aa, ca, Ab, cb, Ac, cc, rfl, ha, hb, hc⟩; have HB2 := hidden (below_next HB1.out hB); have Hk_2 := hidden (Hk_1.out.below hB (Nat.le_refl _)); have Ht1_2 := hidden (Ht1_1.out.below hB (Nat.le_refl _)); have Ha_2 := hidden ha; have Hb_2 := hidden hb; have Hc_2 := hidden hc; clear hB ha hb hc; dsimp only))
    | (go_at_call 36; first
      | ((with_reducible refine (decodeB_back w3x _ _ _ P hd nH HD.out.1 HD.out.2.1 HD.out.2.2 Ha1_3.out (by omega)).mono ?_); rintro e w4x ⟨hB, Adh, cdh, rfl, ha⟩; have HB4 := hidden (below_next HB3.out hB); have Hk_4 := hidden (Hk_3.out.below hB (Nat.le_refl _)); have Ha_4 := hidden (Ha_3.out.below hB (Nat.le_refl _)); have Hb_4 := hidden (Hb_3.out.below hB (Nat.le_refl _)); have Hc_4 := hidden (Hc_3.out.below hB (Nat.le_refl _)); have Ha1_4 := hidden (Ha1_3.out.below hB (Nat.le_refl _)); have Hdh_4 := hidden ha; clear hB ha; dsimp only)
      | ((with_reducible refine (decodeB_back w5x _ _ _ M r 32 HM.out.1 HM.out.2.1 HM.out.2.2 Hc1_5.out (by omega)).mono ?_); rintro e w6x ⟨hB, Adm, cdm, rfl, ha⟩; have HB6 := hidden (below_next HB5.out hB); have Hk_6 := hidden (Hk_5.out.below hB (Nat.le_refl _)); have Ha_6 := hidden (Ha_5.out.below hB (Nat.le_refl _)); have Hb_6 := hidden (Hb_5.out.below hB (Nat.le_refl _)); have Hdh_6 := hidden (Hdh_5.out.below hB (Nat.le_refl _)); have Hc1_6 := hidden (Hc1_5.out.below hB (Nat.le_refl _)); have Hdm_6 := hidden ha; clear hB ha; dsimp only)
      | ((with_reducible refine (decodeB_backF w14x _ _ _ T pl m HT.out.1 HT.out.2.1 HT.out.2.2 Hb3_14.out (by omega)).mono ?_); rintro e w15x ⟨hB, Ax, cx, rfl, ha, hfr⟩; have HB15 := hidden (below_next HB14.out hB); have Hb3_15 := hidden (Hb3_14.out.below hB (Nat.le_refl _)); have Hx_15 := hidden ha; clear hB ha; have HFR := hidden hfr; clear hfr; dsimp only))
    | ((with_reducible refine at_dst 46 ?_); refine walk_app (base := w6x.heap.size) rfl (.tmp 44) (.tmp 45) rfl Tryz.underlying31 info_u8 rfl (by decide) rfl rfl (HP1.out.own.alloc _) (Rd.new v1x 5 (nums .u8 [46]) _ rfl) rfl (nums_one _ _) (Nat.le_trans HP1.out.below.size (below_alloc0 v1x _).size) (by simp only [List.length_append, nums_len, List.length_cons, List.length_nil]; omega) ?_; intro v2 v2x hO2 hg2 _; have HP2 := hidden (HP1.out.put (below_alloc0 v1x _) hO2 hg2); clear hO2 hg2)
    | ((with_reducible refine at_dst 48 ?_); refine walk_app (base := w6x.heap.size) rfl (.tmp 46) (.tmp 47) rfl Tryz.underlying31 info_u8 rfl (by decide) rfl rfl HP2.out.own (Hb_6.out.rd.below HP2.out.below (Nat.le_refl _)) (by rw [nums_len]; exact Hb_6.out.len) (nums_one _ _) HP2.out.below.size (by simp only [List.length_append, nums_len, List.length_cons, List.length_nil]; omega) ?_; intro v4 w7x hO4 hg4 _; have HP4 := hidden (HP2.out.put (Below.refl _ _) hO4 hg4); clear hO4 hg4; have hPP := HP4.out; rw [← HS.out.1] at hPP; obtain ⟨As, cs, hv4, has⟩ := own_arg hPP.own HS.out.2.2.1; rw [HS.out.2.1] at hv4 has; subst hv4; have hB := hPP.below; have HB7 := hidden (below_next HB6.out hB); have Hk_7 := hidden (Hk_6.out.below hB (Nat.le_refl _)); have Ha_7 := hidden (Ha_6.out.below hB (Nat.le_refl _)); have Hb_7 := hidden (Hb_6.out.below hB (Nat.le_refl _)); have Hdh_7 := hidden (Hdh_6.out.below hB (Nat.le_refl _)); have Hdm_7 := hidden (Hdm_6.out.below hB (Nat.le_refl _)); have Hs_7 := hidden has; clear hB has hPP)
    | (go_at_call 24; ((with_reducible refine (joinMark_calls _ _ _ _ _ _ _ _ r w7x Hk_7.out (by omega) Hs_7.out (by omega) HR.out).mono ?_); rintro e w8x ⟨hB, Am, cm, rfl, ha⟩; have HB8 := hidden (below_next HB7.out hB); have Hk_8 := hidden (Hk_7.out.below hB (Nat.le_refl _)); have Hb_8 := hidden (Hb_7.out.below hB (Nat.le_refl _)); have Hdh_8 := hidden (Hdh_7.out.below hB (Nat.le_refl _)); have Hdm_8 := hidden (Hdm_7.out.below hB (Nat.le_refl _)); have Hs_8 := hidden (Hs_7.out.below hB (Nat.le_refl _)); have Hm_8 := hidden ha; clear hB ha))
    | (go_at_call 21; ((with_reducible refine (KS.out w8x _ _ _ _ Hdm_8.out Hm_8.out).mono ?_); rintro e w' ⟨rfl, rfl⟩))
    | (go_at_call 29; first
      | ((with_reducible refine (KA.out w9x _ _ Hh3_9.out (HSY.out.next HB9.out)).mono ?_); rintro e w10x ⟨rfl, hB⟩; have HB10 := hidden (below_next HB9.out hB); have Hb_10 := hidden (Hb_9.out.below hB (Nat.le_refl _)); have Hdh_10 := hidden (Hdh_9.out.below hB (Nat.le_refl _)); have Hh3_10 := hidden (Hh3_9.out.below hB (Nat.le_refl _)); clear hB ; dsimp only)
      | ((with_reducible refine (KK.out w11x _ _ Hh4_11.out (HSY.out.next HB11.out)).mono ?_); rintro e w12x ⟨rfl, hB⟩; have HB12 := hidden (below_next HB11.out hB); have Hb_12 := hidden (Hb_11.out.below hB (Nat.le_refl _)); have Hh4_12 := hidden (Hh4_11.out.below hB (Nat.le_refl _)); clear hB ; dsimp only)))
  try simp only [Exit.inBlock, Exit.then]
  refine bodyPost_ret (ret4_run rfl _ _) rfl ?_
  exact ⟨HB15.out, _, _, rfl, Hx_15.out, HFR.out.wide HB14.out.size (Nat.le_refl _)⟩
end Go.Proofs.YtbdmdajbdmdknaaGreatDoor
namespace Go.Proofs.YtbdmdajbdmdknaaGreatDoor
open Go.RowKit
set_option linter.unusedVariables false
set_option linter.unusedSimpArgs false

/-- The text of bytes in base64. -/
def encT (l : List Int) : ByteArray := strOfNums (encF (alpha true) l)
def linkS : ByteArray := ⟨#[108, 105, 110, 107]⟩
/-- What a link tells of what stands ahead of it. -/
def kidL (key before : List Int) : ByteArray := encT (shaSum (markL key before))
def headK (key before : List Int) : List Int := bts (headS linkS (kidL key before))
/-- A link. -/
def linkL (key before e : List Int) : List Int := signF true (headK key before) e ++ [46] ++ encF (alpha true) (shaSum (markL key (signF true (headK key before) e)))
theorem encodedText_calls (A : Option Addr) (n c : Nat) (l : List Int) (w : World) (h : ArgB w A n c l) (hN : n ≤ 100000) :
    Calls Tryz.prog 42 #[.slice A n c] w fun e w' => e = .returned (.string (encT l)) ∧ Below w.heap.size w w' := by
  have H := hidden h
  clear h
  go_enter Tryz.func42, Tryz.ntmps42
  go_wp2_with (first
    | (go_at_call 12; go_must (refine (clone_calls A n c l _ H.out.rd H.out.len H.out.cap H.out.nil (by omega)).mono ?_; rintro e w1 ⟨v1, rfl, hO1, hB1⟩; obtain ⟨A1, c1, rfl, ha⟩ := own_arg hO1 H.out.isB; rw [H.out.len] at ha; rw [H.out.len]; have HA := hidden ha; have HB1 := hidden hB1; clear ha hB1 hO1))
    | (go_at_call 61; go_must (refine (textB_calls A1 n c1 l w1 HA.out.rd HA.out.len HA.out.isB HA.out.cap hN).mono ?_; rintro e w2 ⟨rfl, hB2⟩; have HB2 := hidden hB2; clear hB2)))
  go_ret
  exact ⟨rfl, below_next HB1.out HB2.out⟩
theorem encT_size {l : List Int} {n : Nat} (h : l.length = n) : (encT l).size = (4 * n + 2) / 3 := by
  have : (encT l).size = (encF (alpha true) l).length := by
    show (encT l).data.toList.length = _
    unfold encT
    rw [strOfNums_data, List.length_map]
  rw [this, encF_len, h]
  omega
theorem kidL_size (key before : List Int) : (kidL key before).size = 43 := by
  unfold kidL
  rw [encT_size (n := 32) (shaSum_len _)]
set_option maxRecDepth 100000 in
set_option maxHeartbeats 2000000 in
theorem joinLink_calls (A : Option Addr) (n c : Nat) (key : List Int) (B : Option Addr) (q d : Nat) (bf : List Int) (X : Option Addr) (m f : Nat) (en : List Int) (w : World) (h1 : ArgB w A n c key) (n1 : n ≤ 2000) (h2 : ArgB w B q d bf) (n2 : q ≤ 20000) (h3 : ArgB w X m f en) (n3 : m ≤ 1000) (p : Nat) (hp : (linkL key bf en).length = p) :
    Calls Tryz.prog 22 #[.slice A n c, .slice B q d, .slice X m f] w (HeadB w p (linkL key bf en)) := by
  have E0 := hidden h1
  have E1 := hidden h2
  have E2 := hidden h3
  have hks := kidL_size key bf
  obtain ⟨k, hk⟩ : ∃ k, kidL key bf = k := ⟨_, rfl⟩
  rw [hk] at hks
  obtain ⟨r, hr⟩ : ∃ r, shaSum (markL key bf) = r := ⟨_, rfl⟩
  have hrs : SumIs (markL key bf) r := ⟨hr.symm⟩
  have HR := hidden hrs
  have hkr : encT r = k := by rw [← hk, ← hr]; rfl
  have HKR := hidden hkr
  have hhd : headK key bf = bts (headS linkS k) := by unfold headK; rw [hk]
  have hlS : linkS.size = 4 := rfl
  have lhd : (headK key bf).length = 66 := by rw [hhd, headS_len, hks, hlS]
  have hSl : (signF true (headK key bf) en).length ≤ 20000 := by
    have := signF_len (enc := true) (Nat.le_of_eq lhd) (Nat.le_of_eq h3.len)
    omega
  have HHD := hidden hhd
  have HSL := hidden hSl
  have HP := hidden hp
  have KJ : Hid (∀ W, ArgB W A n c key → ArgB W X m f en → Calls Tryz.prog 19 #[.slice A n c, .string ⟨#[108, 105, 110, 107]⟩, .string k, .slice X m f, .bool true] W (HeadB W p (linkL key bf en))) := hidden (fun W ha hb => joinSigned_calls linkS k 66 (headK key bf) HHD.out (by rw [hks, hlS]) (by omega) A n c key X m f en (signF true (headK key bf) en) _ rfl rfl (shaSum (markL key (signF true (headK key bf) en))) ⟨rfl⟩ (linkL key bf en) p rfl HP.out W ha n1 hb (by omega) HSL.out)
  have HK32 := hidden hrs.len
  clear h1 h2 h3 hk hr hrs hkr hhd lhd hSl hp hks hlS
  go_enter Tryz.func22, Tryz.ntmps22
  go_wp2_with (first
    | (go_at_call 24; ((with_reducible refine (joinMark_calls _ _ _ _ _ _ _ _ r w E0.out (by omega) E1.out (by omega) HR.out).mono ?_); rintro e w1 ⟨hB, Am, cm, rfl, ha⟩; have HB1 := hidden hB; have HM := hidden ha; clear hB ha))
    | (go_at_call 42; ((with_reducible refine (encodedText_calls _ _ _ r w1 HM.out (by omega)).mono ?_); rintro e w2 ⟨rfl, hB⟩; have HB2 := hidden (below_next HB1.out hB); rw [HKR.out]; clear hB))
    | (go_at_call 19; ((with_reducible refine (KJ.out w2 (E0.out.below HB2.out (Nat.le_refl _)) (E2.out.below HB2.out (Nat.le_refl _))).mono ?_); rintro e w3 ⟨hB, AJ, cJ, rfl, ha⟩; have HB3 := hidden (below_next HB2.out hB); have HJ := hidden ha; clear hB ha)))
  go_ret
  exact ⟨HB3.out, _, _, rfl, HJ.out⟩
end Go.Proofs.YtbdmdajbdmdknaaGreatDoor
namespace Go.Proofs.YtbdmdajbdmdknaaGreatDoor
open Go.ChangeShapes Go.WideShapes Go.ChangeAt Go.RowKit
set_option linter.unusedVariables false
set_option linter.unusedSimpArgs false
/-- The slices, and what each of them reads as. -/
def SlcIs (W : World) (vs : List (Option Addr × Nat × Nat)) (ls : List (List Int)) : Prop := ls.length = vs.length ∧ ∀ i (h : i < vs.length), ArgB W (vs[i]).1 (vs[i]).2.1 (vs[i]).2.2 (ls.getD i [])
theorem slcs_came {H : Type} {enc : TypeId × Value → H} {P : Program} {W : World} {base : Nat} {held : Bool} {r : Reach} {b0 : Nat} {t e f : TypeId} {v : Value} {d : DataW H} {ps : List MemPlace}
    (ht : P.underlying t = some (.slice e)) (he : P.underlying e = some (.slice f)) (hf0 : P.underlying f = some (.int .u8)) (hc : P.cellsOf e = 1) (hc2 : P.cellsOf f = 1)
    (hv : Value.okWide P W r b0 t v) (h : DataW.Trod enc P W base (fun _ => true) held t v d ps) :
    ∃ (A : Option Addr) (n c : Nat) (vs : List (Option Addr × Nat × Nat)) (ls : List (List Int)), v = .slice A n c ∧ Rd W A (slvs vs) ∧ vs.length = n ∧ n ≤ c ∧ (A = none → c = 0) ∧ n ≤ 9223372036854775807 ∧ SlcIs W vs ls := by
  obtain ⟨a, len, cap, rfl⟩ := okWide_slice ht hv
  obtain ⟨fuel, hf⟩ := h
  rcases DataW.trod_slice ht hf with ⟨hcs, _⟩ | ⟨x, len', cap', elems, rest, n, _, hcs, _, hb, hl, hm, hlen, hel, _⟩
  · simp [Value.cells] at hcs
    obtain ⟨rfl, rfl, rfl⟩ := hcs
    exact ⟨none, 0, 0, [], [], rfl, by simpa [slvs] using Rd.nil W none, rfl, by omega, fun _ => rfl, by omega, rfl, fun i h => by simp at h⟩
  · simp [Value.cells] at hcs
    obtain ⟨rfl, rfl, rfl⟩ := hcs
    have each : ∀ i, i < len → ∃ (q : Option Addr × Nat × Nat) (l : List Int), W.cell? (x.add i) = some (.slice q.1 q.2.1 q.2.2) ∧ ArgB W q.1 q.2.1 q.2.2 l := by
      intro i hi
      have hE := hel i hi
      rw [hc, Nat.mul_one, List.getElem?_eq_getElem (by omega), Option.bind_eq_some_iff] at hE
      obtain ⟨c1, hc1, hy1⟩ := hE
      rcases open_ints he hf0 hc2 hy1 with ⟨rfl, _⟩ | ⟨y, l2, c2, zs, rfl, _, hl2, hm2, hz2, _, hcell, hwf⟩
      · exact ⟨(none, 0, 0), [], cell_of_cells?_one hc1, by simpa [nums] using Rd.nil W none, rfl, Nat.le_refl _, fun _ => rfl, fun z hz => (by simp at hz)⟩
      · refine ⟨(some y, l2, c2), zs.take l2, cell_of_cells?_one hc1, ?_⟩
        have hz3 : zs.length = c2 := by simpa using hz2
        have hI : IsRow .u8 W (some y) l2 c2 zs := .inr ⟨y, rfl, hl2, hm2, hz3, hcell, hwf⟩
        have hC := hI.came
        exact ⟨hC.rd, hC.hlen, hC.hcap, hC.nil, hC.isB⟩
    have eachF : ∃ (F : Nat → Option Addr × Nat × Nat) (G : Nat → List Int), ∀ i, i < len → W.cell? (x.add i) = some (.slice (F i).1 (F i).2.1 (F i).2.2) ∧ ArgB W (F i).1 (F i).2.1 (F i).2.2 (G i) := by
      refine ⟨fun i => if h : i < len then (each i h).choose else (none, 0, 0), fun i => if h : i < len then (each i h).choose_spec.choose else [], fun i hi => ?_⟩
      simp only [dif_pos hi]
      exact (each i hi).choose_spec.choose_spec
    obtain ⟨F, G, hFG⟩ := eachF
    refine ⟨some x, len, cap, (List.range len).map F, (List.range len).map G, rfl, ?_, by simp, hl, (fun h => by cases h), by unfold maxLen at hm; omega, by simp, ?_⟩
    · intro i u hu
      have hi : i < len := by
        have := (List.getElem?_eq_some_iff.1 hu).1
        simpa [slvs] using this
      have h0' := (hFG 0 (by omega)).1
      have hi' := (hFG i hi).1
      obtain ⟨b, o, sp⟩ := x
      have hsp : sp = none := by
        cases sp with
        | none => rfl
        | some s =>
          simp only [Addr.add, if_pos] at h0'
          unfold World.cell? at h0'
          split at h0' <;> simp at h0'
      subst hsp
      rw [addr_add] at hi'
      refine ⟨b, o, rfl, World.block_lt_of_cell? W ⟨b, o + i, none⟩ hi', ?_⟩
      rw [hi', ← hu, slvs_at _ _ (by simpa using hi)]
      simp
    · intro i h
      have hi : i < len := by simpa using h
      have := (hFG i hi).2
      simpa [List.getD_eq_getElem?_getD, hi] using this
end Go.Proofs.YtbdmdajbdmdknaaGreatDoor
