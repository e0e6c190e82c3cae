/- laws.FnHeadName: the walk. -/
import Derived.Test.YtbdmdajbdmdknaaDoorM11
namespace Go.Proofs.YtbdmdajbdmdknaaDoor
open Go.RowKit
set_option linter.unusedVariables false
set_option linter.unusedSimpArgs false

theorem name_short (s : ByteArray) (st n : Int) (w : World) (hs : ¬ (s.size ≤ 200 ∧ Lib.validD s.data.toList = true)) (hm : s.size ≤ 9223372036854775807) (hT : Tabs w) (hSY : SynAt w) :
    Calls Tryd.prog 6 #[.string s, .int .u64 st, .int .u32 n] w fun e w' => e = .returned (.bool true) ∧ Below w.heap.size w w' := by
  have HSY := hidden hSY
  have HV := hidden (fun W h => valid_calls s W hm h)
  have HT := hidden hT
  by_cases h1 : 2147483647 < s.size
  · have h1i : (2147483647 : Int) < (s.size : Int) := by omega
    clear hs hm hT hSY
    go_enter Tryd.func6, Tryd.ntmps6
    go_wp2
    go_ret
    exact ⟨rfl, Below.refl _ _⟩
  have h1i : ¬ (2147483647 : Int) < (s.size : Int) := by omega
  by_cases h2 : 200 < s.size
  · have h2i : (200 : Int) < (s.size : Int) := by omega
    clear hs hm hT hSY h1
    go_enter Tryd.func6, Tryd.ntmps6
    go_wp2_with (go_at_call 10; go_must (refine (headLive_calls _ HSY.out).mono ?_; rintro e w1 ⟨rfl, hB⟩; have HB := hidden hB; clear hB))
    go_ret
    exact ⟨rfl, HB.out⟩
  have h2i : ¬ (200 : Int) < (s.size : Int) := by omega
  have hv : Lib.validD s.data.toList = false := by
    cases h : Lib.validD s.data.toList with
    | false => rfl
    | true => exact absurd ⟨by omega, h⟩ hs
  rw [hv] at HV
  clear hs hm hT hSY h1 h2 hv
  go_enter Tryd.func6, Tryd.ntmps6
  go_wp2_with (first
    | (go_at_call 9; go_must (refine (HV.out _ HT.out).mono ?_; rintro e w1 ⟨rfl, hB⟩; have HB1 := hidden hB; clear hB))
    | (go_at_call 10; go_must (refine (headLive_calls _ (HSY.out.next HB1.out)).mono ?_; rintro e w2 ⟨rfl, hB⟩; have HB2 := hidden hB; clear hB)))
  go_ret
  exact ⟨rfl, below_next HB1.out HB2.out⟩
set_option maxRecDepth 100000 in
set_option maxHeartbeats 2000000 in
theorem name_main (s : ByteArray) (st : Int) (k : Nat) (w : World) (hs : s.size ≤ 200) (hv : Lib.validD s.data.toList = true) (hk : k < 4294967296) (hT : Tabs w) (hSY : SynAt w) :
    Calls Tryd.prog 6 #[.string s, .int .u64 st, .int .u32 (k : Int)] w fun e w' => e = .returned (.bool true) ∧ Below w.heap.size w w' := by
  have HSY := hidden hSY
  have HV := hidden (fun W h => valid_calls s W (by omega) h)
  rw [hv] at HV
  have HT := hidden hT
  have HBD := hidden (headBody_calls s st (by omega))
  have hbl := bodyS_len st s
  obtain ⟨B, hB⟩ : ∃ B, (textS st (runesOf s s.size 0)).1 = B := ⟨_, rfl⟩
  have hun : unB B = s.data.toList := by rw [← hB]; exact bodyS_un st s hv
  have hraw : RawIn B := by rw [← hB]; exact bodyS_raw st s
  have hBl : B.length ≤ 2400 := by rw [← hB]; unfold bodyS at hbl; omega
  rw [hB] at HBD
  have HPR := hidden (print2_calls k (by omega))
  have hDl := decB_len 9 k (by omega)
  obtain ⟨hD1, hD2⟩ := decB_digs (k + 1) k (by omega)
  have hD3 := decB_ne k
  obtain ⟨D, hD⟩ : ∃ D, decB k = D := ⟨_, rfl⟩
  rw [hD] at HPR hDl hD1 hD2 hD3
  have hzB : (bs B).size ≤ 2400 := by rw [size_bs]; exact hBl
  have hzD : (bs D).size ≤ 10 := by rw [size_bs]; exact hDl
  have hX : (⟨#[123, 34]⟩ : ByteArray) ++ bs B ++ ⟨#[34, 58]⟩ ++ bs D ++ ⟨#[125]⟩ = bs ([123, 34] ++ (B ++ ([34, 58] ++ (D ++ [125])))) := by
    rw [show (⟨#[123, 34]⟩ : ByteArray) = bs [123, 34] from rfl, show (⟨#[34, 58]⟩ : ByteArray) = bs [34, 58] from rfl, show (⟨#[125]⟩ : ByteArray) = bs [125] from rfl, bs_app, bs_app, bs_app, bs_app]
    simp only [List.append_assoc]
  have htxt := pText_name B D hraw hD1 hD3
  have hlen : ([123, 34] ++ (B ++ ([34, 58] ++ (D ++ [125])))).length ≤ 3000 := by simp only [List.length_append, List.length_cons, List.length_nil]; omega
  obtain ⟨X, hXX⟩ : ∃ X, [123, 34] ++ (B ++ ([34, 58] ++ (D ++ [125]))) = X := ⟨_, rfl⟩
  rw [hXX] at hX htxt hlen
  have hask := name_ask B (.num D) (by omega)
  have hfnd := name_found B s.data.toList (.num D) hun
  obtain ⟨R, hR⟩ : ∃ R, some (JV.obj [(B, .num D)]) = R := ⟨_, rfl⟩
  have KI : Hid (∀ W A c, SynAt W → Rd W A (nums .u8 (bI (bs X))) → (bs X).size ≤ c → (A = none → c = 0) → Calls Tryd.prog 22 #[.slice A (bs X).size c, .string s] W fun e w' => e = .returned (.tuple #[.int .i64 (k : Int), .bool true]) ∧ Below W.heap.size W w') := hidden (fun W A c h1 h2 h3 h4 => by
    have := implHeadInt64_calls W (bs X) A _ c unB s.data.toList h2 rfl h3 h4 (by rw [size_bs]; omega) _ htxt (hask.reads _) D hfnd hD1 hD3 (by omega) h1
    rwa [bs_self, hD2] at this)
  have KH : Hid (∀ W A c, SynAt W → Rd W A (nums .u8 (bI (bs X))) → (bs X).size ≤ c → (A = none → c = 0) → Calls Tryd.prog 14 #[.slice A (bs X).size c, .string s] W fun e w' => e = .returned (.bool true) ∧ Below W.heap.size W w') := hidden (fun W A c h1 h2 h3 h4 => by
    have := implHeadHas_calls W (bs X) A _ c unB s.data.toList h2 rfl h3 h4 (by rw [size_bs]; omega) _ htxt (hask.reads _) _ hfnd h1
    rwa [bs_self] at this)
  have KC : Hid (∀ W A c, Rd W A (nums .u8 (bI (bs X))) → (bs X).size ≤ c → (A = none → c = 0) → Calls Tryd.prog 15 #[.slice A (bs X).size c] W (NewB W (bI (bs X)))) := hidden (fun W A c h1 h2 h3 => clone_calls A _ c (bI (bs X)) W h1 (by rw [bI_len]) h2 h3 (by rw [size_bs]; omega))
  have Hn : Hid ((nums .u8 (bI (bs X))).length = (bs X).size) := hidden (by rw [nums_len, bI_len])
  have hcv : ∀ (W : World) (t : ByteArray), (convert 9 32 (.string t)).run Tryd.prog W = .ok (.slice (some ⟨W.heap.size, 0, none⟩) t.size (grownCap W t.size 0 5)) (Go.Lib.bytesWorld W 5 t) := fun W t => Go.Lib.run_convert_string_bytes (P := Tryd.prog) W 9 32 5 t Tryd.underlying9 Tryd.underlying32 Tryd.underlying5
  obtain ⟨x, hx⟩ : ∃ x, bs X = x := ⟨_, rfl⟩
  obtain ⟨b, hb⟩ : ∃ x, bs B = x := ⟨_, rfl⟩
  obtain ⟨d, hd⟩ : ∃ x, bs D = x := ⟨_, rfl⟩
  have hxz : x.size ≤ 3000 := by rw [← hx, size_bs]; exact hlen
  rw [hx] at hX KI KH KC Hn
  rw [hb] at hX HBD hzB
  rw [hd] at hX HPR hzD
  have HX := hidden hX
  have w1 : IntKind.u64.wrap (k : Int) = (k : Int) := by rw [IntKind.wrap_u64]; omega
  have w2 : IntKind.i64.wrap (k : Int) = (k : Int) := by rw [IntKind.wrap_i64]; omega
  have w3 : wrap64 (k : Int) = (k : Int) := by unfold wrap64; omega
  have e2 : (⟨#[123, 34]⟩ : ByteArray).size = 2 := rfl
  have h1i : ¬ (2147483647 : Int) < (s.size : Int) := by omega
  have h2i : ¬ (200 : Int) < (s.size : Int) := by omega
  unfold treeV at HPR
  clear hX hv hT hSY hbl hB hun hraw hBl hDl hD1 hD2 hD3 hD htxt hlen hXX hask hfnd hR hx hb hd hs
  go_enter Tryd.func6, Tryd.ntmps6
  go_upto_region 6 with (first
    | (go_at_call 9; go_must (refine (HV.out _ HT.out).mono ?_; rintro e wa ⟨rfl, hB⟩; have HB1 := hidden hB; clear hB))
    | (go_at_call 20; go_must (refine (HBD.out _).mono ?_; rintro e wb ⟨rfl, hB⟩; have HB2 := hidden (below_next HB1.out hB); clear hB))
    | (go_at_call 21; go_must (refine (HPR.out _).mono ?_; rintro e wd ⟨rfl, hB⟩; have HB3 := hidden (below_next HB2.out hB); clear hB)))
  have hsz : 2 + b.size + 2 + d.size + 1 = x.size := by
    rw [← HX.out]
    simp only [ByteArray.size_append]
    rfl
  rw [hsz, HX.out]
  have hge := grownCap_ge wd x.size 0 5
  obtain ⟨cp, hcp⟩ : ∃ c, grownCap wd x.size 0 5 = c := ⟨_, rfl⟩
  rw [hcp] at hge
  rw [hcp]
  have HGE := hidden hge
  have HRD := hidden (rd_bI wd 5 x)
  have HBX := hidden (below_next HB3.out (below_bytes0 wd 5 x))
  obtain ⟨g, hg⟩ : ∃ g, wd.heap.size = g := ⟨_, rfl⟩
  rw [hg] at HRD
  rw [hg]
  clear hg hcp hge hsz hcv HBD HPR HX
  refine wpAbs (fun W => Hid (Rd W (some ⟨g, 0, none⟩) (nums .u8 (bI x)) ∧ Below w.heap.size w W)) (hidden ⟨HRD.out, HBX.out⟩) ?_
  rintro W1 HW1
  clear HRD HBX HB1 HB2 HB3
  go_wp2_with (first
    | (go_at_call 15; first
      | ((with_reducible refine (KC.out W1 (some ⟨g, 0, none⟩) cp HW1.out.1 HGE.out (by simp)).mono ?_); (rintro e wa ⟨v1, rfl, hO1, hB1⟩; obtain ⟨A1, c1, rfl, hc1, hr1, hA1⟩ := hO1.read; rw [Hn.out]; rw [Hn.out] at hc1; have HC1 := hidden (And.intro hr1 (And.intro hc1 hA1)); have HB4 := hidden (below_next HW1.out.2 hB1); have HR4 := hidden (HW1.out.1.below hB1 (Nat.le_refl _)); clear hr1 hB1 hA1 hO1 hc1))
      | ((with_reducible refine (KC.out wb (some ⟨g, 0, none⟩) cp HR5.out HGE.out (by simp)).mono ?_); (rintro e wc ⟨v2, rfl, hO2, hB2⟩; obtain ⟨A2, c2, rfl, hc2, hr2, hA2⟩ := hO2.read; rw [Hn.out]; rw [Hn.out] at hc2; have HC2 := hidden (And.intro hr2 (And.intro hc2 hA2)); have HB6 := hidden (below_next HB5.out hB2); clear hr2 hB2 hA2 hO2 hc2)))
    | (go_at_call 22; go_must (refine (KI.out wa A1 c1 (HSY.out.next HB4.out) HC1.out.1 HC1.out.2.1 HC1.out.2.2).mono ?_; rintro e wb ⟨rfl, hB⟩; have HB5 := hidden (below_next HB4.out hB); have HR5 := hidden (HR4.out.below hB (Nat.le_refl _)); clear hB))
    | (go_at_call 14; go_must (refine (KH.out wc A2 c2 (HSY.out.next HB6.out) HC2.out.1 HC2.out.2.1 HC2.out.2.2).mono ?_; rintro e wd ⟨rfl, hB⟩; have HB7 := hidden (below_next HB6.out hB); clear hB))
    | (go_at_call 10; go_must (refine (headLive_calls wd (HSY.out.next HB7.out)).mono ?_; rintro e we ⟨rfl, hB⟩; have HB8 := hidden (below_next HB7.out hB); clear hB)))
  go_ret
  exact ⟨rfl, HB8.out⟩
theorem headName_walk (s : ByteArray) (st n : Int) (w : World) (hm : s.size ≤ 9223372036854775807) (wn : (Lit.int .u32 n).wf = true) (hT : Tabs w) (hSY : SynAt w) :
    Calls Tryd.prog 6 #[.string s, .int .u64 st, .int .u32 n] w fun e w' => e = .returned (.bool true) ∧ Below w.heap.size w w' := by
  by_cases hs : s.size ≤ 200 ∧ Lib.validD s.data.toList = true
  · simp [Lit.wf, IntKind.min, IntKind.max, IntKind.bits, IntKind.signed] at wn
    obtain ⟨k, rfl⟩ : ∃ k : Nat, n = k := ⟨n.toNat, by omega⟩
    exact name_main s st k w hs.1 hs.2 (by omega) hT hSY
  · exact name_short s st n w hs hm hT hSY
end Go.Proofs.YtbdmdajbdmdknaaDoor
