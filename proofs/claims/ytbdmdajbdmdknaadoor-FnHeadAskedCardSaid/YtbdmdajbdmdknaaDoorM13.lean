/- (*spec.headStyle).value of a field that is a list. Fields in memory; the value of a field, whatever it is. -/
import Derived.Test.YtbdmdajbdmdknaaDoorHdQ
namespace Go.Proofs.YtbdmdajbdmdknaaDoor
open Go.RowKit
set_option linter.unusedVariables false
set_option linter.unusedSimpArgs false

/-- Between two elements of a list. -/
structure LA (w0 : World) (g gb : Nat) (vs : List Value) (b0 : Bs) (i : Nat) (o : Bs) (W : World) : Prop where
  sr : SR w0 g gb vs W
  ps : ∃ ps : List Pc, o = 91 :: (b0 ++ bodyA ps) ∧ ps.length = i ∧ ∀ q ∈ ps, PcOk 0 q ∧ ∀ s, q.J = .str s → True
  len : o.length ≤ 65537 + i * 140000
theorem LA.first {w0 W W2 : World} {g gb : Nat} {vs : List Value} {b0 : Bs} {o : Bs} (h : LA w0 g gb vs b0 0 o W) {x b2 : Bs} {J : JV} (hx : Parses 0 x J) (hb : IsBl b2) (hl : x.length ≤ 3000) (h2 : SR w0 g gb vs W2) : LA w0 g gb vs b0 1 (o ++ x ++ b2) W2 := by
  obtain ⟨ps, ho, hlen, hok⟩ := h.ps
  obtain rfl : ps = [] := List.eq_nil_of_length_eq_zero hlen
  refine ⟨h2, ⟨[⟨[], x, J, b2⟩], ?_, rfl, ?_⟩, ?_⟩
  · rw [ho, bodyA_one]; simp [bodyA]
  · intro q hq
    simp only [List.mem_cons, List.not_mem_nil, or_false] at hq
    subst hq
    exact ⟨⟨AllWS.nil, hb.ws, hx⟩, fun _ _ => trivial⟩
  · have := h.len; have := hb.len; simp only [List.length_append]; omega
theorem LA.next {w0 W W2 : World} {g gb : Nat} {vs : List Value} {b0 : Bs} {i : Nat} {o : Bs} (h : LA w0 g gb vs b0 i o W) (hi : 0 < i) {b1 x b2 : Bs} {J : JV} (h1 : IsBl b1) (hx : Parses 0 x J) (hb : IsBl b2) (hl : x.length ≤ 3000) (h2 : SR w0 g gb vs W2) : LA w0 g gb vs b0 (i + 1) (o ++ (44 :: b1) ++ x ++ b2) W2 := by
  obtain ⟨ps, ho, hlen, hok⟩ := h.ps
  have hne : ps ≠ [] := by rintro rfl; simp at hlen; omega
  refine ⟨h2, ⟨ps ++ [⟨b1, x, J, b2⟩], ?_, by simp [hlen], ?_⟩, ?_⟩
  · rw [ho, bodyA_snoc _ _ hne]; simp
  · intro q hq
    rcases List.mem_append.1 hq with hq | hq
    · exact hok q hq
    · simp only [List.mem_cons, List.not_mem_nil, or_false] at hq
      subst hq
      exact ⟨⟨h1.ws, hb.ws, hx⟩, fun _ _ => trivial⟩
  · have := h.len; have := hb.len; have := h1.len; simp only [List.length_append, List.length_cons]; omega
set_option maxRecDepth 100000 in
set_option maxHeartbeats 4000000 in
theorem value4E {w0 W : World} {g : Nat} (h : SE w0 g W) (f : FD) (hk : f.kind = 4) (A : Option Addr) (z c : Nat) (hz : f.list.length = z) (hz30 : z ≤ 30) (hls : ∀ s ∈ f.list, s.size ≤ 200) (hr : Rd w0 A (strs f.list)) :
    Calls Tryd.prog 28 #[.pointer (some ⟨g, 0, none⟩), valV f A z c] W (VE w0 g f) := by
  obtain ⟨name, kind, is_, minus, num, text, list⟩ := f
  obtain rfl : kind = 4 := hk
  have HL : Hid (list.length = z ∧ (∀ s ∈ list, s.size ≤ 200) ∧ Rd w0 A (strs list)) := hidden ⟨hz, hls, hr⟩
  have hgW := h.lt
  unfold valV fieldV
  dsimp only
  obtain ⟨vs, hvs⟩ : ∃ vs : List Value, [.string name, .int .u8 4, .bool is_, .bool minus, .int .u64 num, .string text, .slice A z c] = vs := ⟨_, rfl⟩
  have HS : Hid (SR w0 g W.heap.size vs (W.alloc (.cells #[.string name, .int .u8 4, .bool is_, .bool minus, .int .u64 num, .string text, .slice A z c] 29))) := hidden ⟨h.alloc _, by rw [← hvs]; exact Row.new W 29 [.string name, .int .u8 4, .bool is_, .bool minus, .int .u64 num, .string text, .slice A z c]⟩
  have HVS := hidden hvs
  have HNE : Hid (W.heap.size ≠ g) := hidden (by omega)
  have e1 : (⟨#[91]⟩ : ByteArray).size = 1 := rfl
  have e2 : (⟨#[44]⟩ : ByteArray).size = 1 := rfl
  have e3 : (⟨#[93]⟩ : ByteArray).size = 1 := rfl
  clear h hls hz hgW hr hvs
  go_enter Tryd.func28, Tryd.ntmps28
  go_upto_region 16 with (fail)
  refine wpAbs (fun W1 => Hid (SR w0 g W.heap.size vs W1)) HS ?_
  clear HS
  rintro W1 HS
  obtain ⟨gb, hgb⟩ : ∃ gb, W.heap.size = gb := ⟨_, rfl⟩
  rw [hgb] at HS HNE ⊢
  clear hgb
  have hcK : ∀ W, SR w0 g gb vs W → W.cell? ⟨gb, 1, none⟩ = some (.int .u8 4) := fun W h => by
    have := h.row.cell 1
    rw [← HVS.out] at this
    exact this
  have hcL : ∀ W, SR w0 g gb vs W → W.cell? ⟨gb, 6, none⟩ = some (.slice A z c) := fun W h => by
    have := h.row.cell 6
    rw [← HVS.out] at this
    exact this
  have HCK := hidden hcK
  have HCL := hidden hcL
  clear hcK hcL
  go_upto_region 17 with (go_at_call 26; go_must (refine (blankE HS.out.se).mono ?_; rintro e W2 ⟨b0, rfl, hb, h2, hG⟩; have HS2 := hidden (SR.grown HS.out h2 hG HNE.out); have HB0 := hidden hb; have z0 : (bs b0).size ≤ 65536 := hb.len; clear hb h2 hG))
  have hc6 := HCL.out W2 HS2.out
  have hcat : (⟨#[91]⟩ : ByteArray) ++ bs b0 = bs (91 :: b0) := by rw [show (⟨#[91]⟩ : ByteArray) = bs [91] from rfl, bs_app]; rfl
  rw [hcat]
  have HLA : Hid (LA w0 g gb vs b0 0 (91 :: b0) W2) := hidden ⟨HS2.out, ⟨[], by simp [bodyA], rfl, by simp⟩, by have := HB0.out.len; simp only [List.length_cons]; omega⟩
  clear hcat z0 HS2 HS
  go_wp2
  go_loopw [5, 66] (fun v5 v66 wr => ∃ (i : Nat) (o : Bs), v5 = .string (bs o) ∧ v66 = .int .i64 i ∧ i ≤ z ∧ Hid (LA w0 g gb vs b0 i o wr)) (fun _ v66 _ => z - (intOf v66).toNat)
  case atStart => exact ⟨0, _, rfl, rfl, by omega, HLA⟩
  case round =>
    clear hc6 HLA
    obtain ⟨i, o, rfl, rfl, hiz, HA⟩ := hrel
    have hon : (bs o).size ≤ 4300000 := by rw [size_bs]; have := HA.out.len; omega
    obtain ⟨O, hO⟩ : ∃ O, bs o = O := ⟨_, rfl⟩
    rw [hO] at hon ⊢
    have HO := hidden hO
    clear hO
    by_cases hlt : i < z
    · have hli : i < list.length := by rw [HL.out.1]; exact hlt
      obtain ⟨ab, ao, rfl, _, c0⟩ := (HL.out.2.2.below HA.out.sr.se.below (Nat.le_refl _)).atS i hli
      have hss : (si list i).size ≤ 200 := HL.out.2.1 _ (by simp only [si, List.getD_eq_getElem?_getD, List.getElem?_eq_getElem hli, Option.getD_some]; exact List.getElem_mem _)
      obtain ⟨s, hs⟩ : ∃ s, si list i = s := ⟨_, rfl⟩
      rw [hs] at c0 hss
      clear hs hli
      have hlti : (i : Int) < (z : Int) := by omega
      have hck := HCK.out wr HA.out.sr
      have KT := hidden (fun W (h : SE w0 g W) => textE h s (by omega))
      have HA0 := hidden HA.out.sr
      by_cases h0 : i = 0
      · have hneg : ¬ (0 : Int) < (i : Int) := by omega
        have HA1 : Hid (LA w0 g gb vs b0 0 o wr) := hidden (by have := HA.out; rwa [h0] at this)
        have H0 := hidden h0
        clear h0
        go_wp2_with (first
          | (go_at_call 27; go_must (refine (KT.out _ HA0.out.se).mono ?_; rintro e W4 ⟨B, rfl, hTx, h3, hG⟩; have HS4 := hidden (SR.grown HA0.out h3 hG HNE.out); have HTx := hidden hTx; have zT : (bs (34 :: (B ++ [34]))).size ≤ 2402 := (by have := hTx.len; rw [size_bs]; simp only [List.length_cons, List.length_append, List.length_nil]; omega); obtain ⟨TT, hTT⟩ : ∃ O, bs (34 :: (B ++ [34])) = O := ⟨_, rfl⟩; rw [hTT] at zT ⊢; have HTT := hidden hTT; have HPX : Hid (Parses 0 (34 :: (B ++ [34])) (.str B) ∧ (34 :: (B ++ [34])).length ≤ 3000) := hidden ⟨str_parses 0 _ hTx.raw, (by have := hTx.len; simp only [List.length_cons, List.length_append, List.length_nil]; omega)⟩; clear hTx h3 hG hTT))
          | (go_at_call 26; ((with_reducible refine (blankE HS4.out.se).mono ?_); (rintro e W5 ⟨b2, rfl, hb, h2, hG⟩; have HS5 := hidden (SR.grown HS4.out h2 hG HNE.out); have HB2 := hidden hb; have z2 : (bs b2).size ≤ 65536 := hb.len; obtain ⟨O2, hO2⟩ : ∃ O, bs b2 = O := ⟨_, rfl⟩; rw [hO2] at z2 ⊢; have HO2 := hidden hO2; clear hb h2 hG hO2))))
        refine ⟨⟨i + 1, _, congrArg Value.string (show O ++ TT ++ O2 = bs (o ++ (34 :: (B ++ [34])) ++ b2) by rw [← HO.out, ← HTT.out, ← HO2.out, bs_app, bs_app]), by go_num, by omega, hidden (by rw [H0.out]; exact LA.first HA1.out HPX.out.1 HB2.out HPX.out.2 HS5.out)⟩, by simp [intOf]; omega⟩
      · have hpos : (0 : Int) < (i : Int) := by omega
        go_wp2_with (first
          | (go_at_call 27; go_must (refine (KT.out _ HS3.out.se).mono ?_; rintro e W4 ⟨B, rfl, hTx, h3, hG⟩; have HS4 := hidden (SR.grown HS3.out h3 hG HNE.out); have HTx := hidden hTx; have zT : (bs (34 :: (B ++ [34]))).size ≤ 2402 := (by have := hTx.len; rw [size_bs]; simp only [List.length_cons, List.length_append, List.length_nil]; omega); obtain ⟨TT, hTT⟩ : ∃ O, bs (34 :: (B ++ [34])) = O := ⟨_, rfl⟩; rw [hTT] at zT ⊢; have HTT := hidden hTT; have HPX : Hid (Parses 0 (34 :: (B ++ [34])) (.str B) ∧ (34 :: (B ++ [34])).length ≤ 3000) := hidden ⟨str_parses 0 _ hTx.raw, (by have := hTx.len; simp only [List.length_cons, List.length_append, List.length_nil]; omega)⟩; clear hTx h3 hG hTT))
          | (go_at_call 26; first
            | ((with_reducible refine (blankE HS4.out.se).mono ?_); (rintro e W5 ⟨b2, rfl, hb, h2, hG⟩; have HS5 := hidden (SR.grown HS4.out h2 hG HNE.out); have HB2 := hidden hb; have z2 : (bs b2).size ≤ 65536 := hb.len; obtain ⟨O2, hO2⟩ : ∃ O, bs b2 = O := ⟨_, rfl⟩; rw [hO2] at z2 ⊢; have HO2 := hidden hO2; clear hb h2 hG hO2))
            | ((with_reducible refine (blankE HA.out.sr.se).mono ?_); (rintro e W3 ⟨b1, rfl, hb, h2, hG⟩; have HS3 := hidden (SR.grown HA.out.sr h2 hG HNE.out); have hck3 := HCK.out W3 HS3.out; have HB1 := hidden hb; have z1 : (bs b1).size ≤ 65536 := hb.len; obtain ⟨O1, hO1⟩ : ∃ O, bs b1 = O := ⟨_, rfl⟩; rw [hO1] at z1 ⊢; have HO1 := hidden hO1; clear hb h2 hG hO1))))
        refine ⟨⟨i + 1, _, congrArg Value.string (show O ++ (⟨#[44]⟩ ++ O1) ++ TT ++ O2 = bs (o ++ (44 :: b1) ++ (34 :: (B ++ [34])) ++ b2) by rw [← HO.out, ← HTT.out, ← HO1.out, ← HO2.out, show (⟨#[44]⟩ : ByteArray) = bs [44] from rfl, bs_app, bs_app, bs_app, bs_app]; rfl), by go_num, by omega, hidden (LA.next HA.out (by omega) HB1.out HPX.out.1 HB2.out HPX.out.2 HS5.out)⟩, by simp [intOf]; omega⟩
    · obtain rfl : i = z := by omega
      obtain ⟨ps, ho, hlen, hok⟩ := HA.out.ps
      have HP := hidden (And.intro ho hok)
      have hnlt : ¬ ((i : Int) < (i : Int)) := by omega
      have hol := HA.out.len
      have HOL := hidden hol
      clear ho hok hol hlen
      go_wp2
      go_ret
      refine ⟨91 :: (b0 ++ (bodyA ps ++ [93])), _, congrArg (fun x => Ending.returned (.string x)) (show O ++ ⟨#[93]⟩ = _ by rw [← HO.out, show (⟨#[93]⟩ : ByteArray) = bs [93] from rfl, bs_app, HP.out.1]; simp), ⟨arr_parses (n := 0) b0 ps HB0.out.ws (fun q hq => (HP.out.2 q hq).1), (fun e => by cases e), (fun _ s e => by cases e), (fun t e => by cases e), ?_⟩, HA.out.sr.se⟩
      have h1 := HOL.out
      rw [HP.out.1] at h1
      simp only [List.length_cons, List.length_append, List.length_nil] at h1 ⊢
      omega
set_option maxRecDepth 100000 in
set_option maxHeartbeats 4000000 in
theorem value6E {w0 W : World} {g : Nat} (h : SE w0 g W) (f : FD) (hk : f.kind = 6) (A : Option Addr) (z c : Nat) (hz : f.list.length = z) (hz30 : z ≤ 30) (hls : ∀ s ∈ f.list, s.size ≤ 200) (hr : Rd w0 A (strs f.list)) :
    Calls Tryd.prog 28 #[.pointer (some ⟨g, 0, none⟩), valV f A z c] W (VE w0 g f) := by
  obtain ⟨name, kind, is_, minus, num, text, list⟩ := f
  obtain rfl : kind = 6 := hk
  have HL : Hid (list.length = z ∧ (∀ s ∈ list, s.size ≤ 200) ∧ Rd w0 A (strs list)) := hidden ⟨hz, hls, hr⟩
  have hgW := h.lt
  unfold valV fieldV
  dsimp only
  obtain ⟨vs, hvs⟩ : ∃ vs : List Value, [.string name, .int .u8 6, .bool is_, .bool minus, .int .u64 num, .string text, .slice A z c] = vs := ⟨_, rfl⟩
  have HS : Hid (SR w0 g W.heap.size vs (W.alloc (.cells #[.string name, .int .u8 6, .bool is_, .bool minus, .int .u64 num, .string text, .slice A z c] 29))) := hidden ⟨h.alloc _, by rw [← hvs]; exact Row.new W 29 [.string name, .int .u8 6, .bool is_, .bool minus, .int .u64 num, .string text, .slice A z c]⟩
  have HVS := hidden hvs
  have HNE : Hid (W.heap.size ≠ g) := hidden (by omega)
  have e1 : (⟨#[91]⟩ : ByteArray).size = 1 := rfl
  have e2 : (⟨#[44]⟩ : ByteArray).size = 1 := rfl
  have e3 : (⟨#[93]⟩ : ByteArray).size = 1 := rfl
  clear h hls hz hgW hr hvs
  go_enter Tryd.func28, Tryd.ntmps28
  go_upto_region 16 with (fail)
  refine wpAbs (fun W1 => Hid (SR w0 g W.heap.size vs W1)) HS ?_
  clear HS
  rintro W1 HS
  obtain ⟨gb, hgb⟩ : ∃ gb, W.heap.size = gb := ⟨_, rfl⟩
  rw [hgb] at HS HNE ⊢
  clear hgb
  have hcK : ∀ W, SR w0 g gb vs W → W.cell? ⟨gb, 1, none⟩ = some (.int .u8 6) := fun W h => by
    have := h.row.cell 1
    rw [← HVS.out] at this
    exact this
  have hcL : ∀ W, SR w0 g gb vs W → W.cell? ⟨gb, 6, none⟩ = some (.slice A z c) := fun W h => by
    have := h.row.cell 6
    rw [← HVS.out] at this
    exact this
  have HCK := hidden hcK
  have HCL := hidden hcL
  clear hcK hcL
  go_upto_region 17 with (go_at_call 26; go_must (refine (blankE HS.out.se).mono ?_; rintro e W2 ⟨b0, rfl, hb, h2, hG⟩; have HS2 := hidden (SR.grown HS.out h2 hG HNE.out); have HB0 := hidden hb; have z0 : (bs b0).size ≤ 65536 := hb.len; clear hb h2 hG))
  have hc6 := HCL.out W2 HS2.out
  have hcat : (⟨#[91]⟩ : ByteArray) ++ bs b0 = bs (91 :: b0) := by rw [show (⟨#[91]⟩ : ByteArray) = bs [91] from rfl, bs_app]; rfl
  rw [hcat]
  have HLA : Hid (LA w0 g gb vs b0 0 (91 :: b0) W2) := hidden ⟨HS2.out, ⟨[], by simp [bodyA], rfl, by simp⟩, by have := HB0.out.len; simp only [List.length_cons]; omega⟩
  clear hcat z0 HS2 HS
  go_wp2
  go_loopw [5, 66] (fun v5 v66 wr => ∃ (i : Nat) (o : Bs), v5 = .string (bs o) ∧ v66 = .int .i64 i ∧ i ≤ z ∧ Hid (LA w0 g gb vs b0 i o wr)) (fun _ v66 _ => z - (intOf v66).toNat)
  case atStart => exact ⟨0, _, rfl, rfl, by omega, HLA⟩
  case round =>
    clear hc6 HLA
    obtain ⟨i, o, rfl, rfl, hiz, HA⟩ := hrel
    have hon : (bs o).size ≤ 4300000 := by rw [size_bs]; have := HA.out.len; omega
    obtain ⟨O, hO⟩ : ∃ O, bs o = O := ⟨_, rfl⟩
    rw [hO] at hon ⊢
    have HO := hidden hO
    clear hO
    by_cases hlt : i < z
    · have hli : i < list.length := by rw [HL.out.1]; exact hlt
      obtain ⟨ab, ao, rfl, _, c0⟩ := (HL.out.2.2.below HA.out.sr.se.below (Nat.le_refl _)).atS i hli
      have hss : (si list i).size ≤ 200 := HL.out.2.1 _ (by simp only [si, List.getD_eq_getElem?_getD, List.getElem?_eq_getElem hli, Option.getD_some]; exact List.getElem_mem _)
      obtain ⟨s, hs⟩ : ∃ s, si list i = s := ⟨_, rfl⟩
      rw [hs] at c0 hss
      clear hs hli
      have hlti : (i : Int) < (z : Int) := by omega
      have hck := HCK.out wr HA.out.sr
      have K := hidden (headDigits_calls s.size (by omega))
      have wu : IntKind.u64.wrap (s.size : Int) = (s.size : Int) := by rw [IntKind.wrap_u64]; omega
      have hL := decB_len 19 s.size (by omega)
      have hD := decB_digs (s.size + 1) s.size (by omega)
      have HPX : Hid (Parses 0 (decB s.size) (.num (decB s.size)) ∧ (decB s.size).length ≤ 3000) := hidden ⟨num_parses 0 _ hD.1 (decB_ne _), by omega⟩
      have zT : (bs (decB s.size)).size ≤ 20 := by rw [size_bs]; exact hL
      obtain ⟨D, hDD⟩ : ∃ D, decB s.size = D := ⟨_, rfl⟩
      rw [hDD] at K zT HPX
      obtain ⟨TT, hTT⟩ : ∃ O, bs D = O := ⟨_, rfl⟩
      rw [hTT] at K zT
      have HTT := hidden hTT
      clear hL hD hDD hTT
      have HA0 := hidden HA.out.sr
      by_cases h0 : i = 0
      · have hneg : ¬ (0 : Int) < (i : Int) := by omega
        have HA1 : Hid (LA w0 g gb vs b0 0 o wr) := hidden (by have := HA.out; rwa [h0] at this)
        have H0 := hidden h0
        clear h0
        go_wp2_with (first
          | (go_at_call 40; go_must (refine (K.out _).mono ?_; rintro e W4 ⟨rfl, rfl⟩))
          | (go_at_call 26; ((with_reducible refine (blankE HA0.out.se).mono ?_); (rintro e W5 ⟨b2, rfl, hb, h2, hG⟩; have HS5 := hidden (SR.grown HA0.out h2 hG HNE.out); have HB2 := hidden hb; have z2 : (bs b2).size ≤ 65536 := hb.len; obtain ⟨O2, hO2⟩ : ∃ O, bs b2 = O := ⟨_, rfl⟩; rw [hO2] at z2 ⊢; have HO2 := hidden hO2; clear hb h2 hG hO2))))
        refine ⟨⟨i + 1, _, congrArg Value.string (show O ++ TT ++ O2 = bs (o ++ D ++ b2) by rw [← HO.out, ← HTT.out, ← HO2.out, bs_app, bs_app]), by go_num, by omega, hidden (by rw [H0.out]; exact LA.first HA1.out HPX.out.1 HB2.out HPX.out.2 HS5.out)⟩, by simp [intOf]; omega⟩
      · have hpos : (0 : Int) < (i : Int) := by omega
        go_wp2_with (first
          | (go_at_call 40; go_must (refine (K.out _).mono ?_; rintro e W4 ⟨rfl, rfl⟩))
          | (go_at_call 26; first
            | ((with_reducible refine (blankE HS3.out.se).mono ?_); (rintro e W5 ⟨b2, rfl, hb, h2, hG⟩; have HS5 := hidden (SR.grown HS3.out h2 hG HNE.out); have HB2 := hidden hb; have z2 : (bs b2).size ≤ 65536 := hb.len; obtain ⟨O2, hO2⟩ : ∃ O, bs b2 = O := ⟨_, rfl⟩; rw [hO2] at z2 ⊢; have HO2 := hidden hO2; clear hb h2 hG hO2))
            | ((with_reducible refine (blankE HA.out.sr.se).mono ?_); (rintro e W3 ⟨b1, rfl, hb, h2, hG⟩; have HS3 := hidden (SR.grown HA.out.sr h2 hG HNE.out); have hck3 := HCK.out W3 HS3.out; have HB1 := hidden hb; have z1 : (bs b1).size ≤ 65536 := hb.len; obtain ⟨O1, hO1⟩ : ∃ O, bs b1 = O := ⟨_, rfl⟩; rw [hO1] at z1 ⊢; have HO1 := hidden hO1; clear hb h2 hG hO1))))
        refine ⟨⟨i + 1, _, congrArg Value.string (show O ++ (⟨#[44]⟩ ++ O1) ++ TT ++ O2 = bs (o ++ (44 :: b1) ++ D ++ b2) by rw [← HO.out, ← HTT.out, ← HO1.out, ← HO2.out, show (⟨#[44]⟩ : ByteArray) = bs [44] from rfl, bs_app, bs_app, bs_app, bs_app]; rfl), by go_num, by omega, hidden (LA.next HA.out (by omega) HB1.out HPX.out.1 HB2.out HPX.out.2 HS5.out)⟩, by simp [intOf]; omega⟩
    · obtain rfl : i = z := by omega
      obtain ⟨ps, ho, hlen, hok⟩ := HA.out.ps
      have HP := hidden (And.intro ho hok)
      have hnlt : ¬ ((i : Int) < (i : Int)) := by omega
      have hol := HA.out.len
      have HOL := hidden hol
      clear ho hok hol hlen
      go_wp2
      go_ret
      refine ⟨91 :: (b0 ++ (bodyA ps ++ [93])), _, congrArg (fun x => Ending.returned (.string x)) (show O ++ ⟨#[93]⟩ = _ by rw [← HO.out, show (⟨#[93]⟩ : ByteArray) = bs [93] from rfl, bs_app, HP.out.1]; simp), ⟨arr_parses (n := 0) b0 ps HB0.out.ws (fun q hq => (HP.out.2 q hq).1), (fun e => by cases e), (fun _ s e => by cases e), (fun t e => by cases e), ?_⟩, HA.out.sr.se⟩
      have h1 := HOL.out
      rw [HP.out.1] at h1
      simp only [List.length_cons, List.length_append, List.length_nil] at h1 ⊢
      omega
end Go.Proofs.YtbdmdajbdmdknaaDoor
namespace Go.Proofs.YtbdmdajbdmdknaaDoor
open Go.RowKit
set_option linter.unusedVariables false
set_option linter.unusedSimpArgs false

/-- A field with the place of its list. -/
structure FM where
  d : FD
  A : Option Addr
  c : Nat
def FM.cells (f : FM) : List Value := [.string f.d.name, .int .u8 f.d.kind, .bool f.d.is_, .bool f.d.minus, .int .u64 f.d.num, .string f.d.text, .slice f.A f.d.list.length f.c]
structure FMs (w : World) (A : Option Addr) (l : List FM) : Prop where
  rd : Rd w A (l.flatMap FM.cells)
  list : ∀ f ∈ l, Rd w f.A (strs f.d.list) ∧ f.d.list.length ≤ 9223372036854775807
  num : ∀ f ∈ l, f.d.num ≤ 18446744073709551615 ∧ f.d.kind ≤ 255
theorem FMs.below {w W : World} {A : Option Addr} {l : List FM} (h : FMs w A l) (hB : Below w.heap.size w W) : FMs W A l :=
  ⟨h.rd.below hB (Nat.le_refl _), fun f hf => ⟨(h.list f hf).1.below hB (Nat.le_refl _), (h.list f hf).2⟩, h.num⟩
theorem flat7 {α β : Type} {f : α → List β} (h7 : ∀ x, (f x).length = 7) : ∀ (l : List α) (j t : Nat) (hj : j < l.length), t < 7 → (l.flatMap f)[j * 7 + t]? = (f l[j])[t]?
  | [], _, _, h, _ => by simp at h
  | x :: l, 0, t, _, ht => by simp [List.getElem?_append_left (show t < (f x).length by rw [h7]; exact ht)]
  | x :: l, j + 1, t, hj, ht => by
    rw [List.flatMap_cons, List.getElem?_append_right (by rw [h7]; omega), h7, show (j + 1) * 7 + t - 7 = j * 7 + t by omega]
    exact flat7 h7 l j t (by simpa using hj) ht
theorem fields_at {w : World} {A : Option Addr} {l : List FM} (h : Rd w A (l.flatMap FM.cells)) (j : Nat) (hj : j < l.length) : ∃ b o, A = some ⟨b, o, none⟩ ∧ b < w.heap.size ∧ w.cell? ⟨b, o + j * 7, none⟩ = some (.string l[j].d.name) ∧ w.cell? ⟨b, o + j * 7 + 1, none⟩ = some (.int .u8 l[j].d.kind) ∧ w.cell? ⟨b, o + j * 7 + 2, none⟩ = some (.bool l[j].d.is_) ∧ w.cell? ⟨b, o + j * 7 + 3, none⟩ = some (.bool l[j].d.minus) ∧ w.cell? ⟨b, o + j * 7 + 4, none⟩ = some (.int .u64 l[j].d.num) ∧ w.cell? ⟨b, o + j * 7 + 5, none⟩ = some (.string l[j].d.text) ∧ w.cell? ⟨b, o + j * 7 + 6, none⟩ = some (.slice l[j].A l[j].d.list.length l[j].c) := by
  have f := fun t => flat7 (f := FM.cells) (fun _ => rfl) l j t hj
  obtain ⟨b, o, rfl, hl, c0⟩ := h _ _ (f 0 (by omega))
  obtain ⟨_, _, e1, _, c1⟩ := h _ _ (f 1 (by omega))
  obtain ⟨_, _, e2, _, c2⟩ := h _ _ (f 2 (by omega))
  obtain ⟨_, _, e3, _, c3⟩ := h _ _ (f 3 (by omega))
  obtain ⟨_, _, e4, _, c4⟩ := h _ _ (f 4 (by omega))
  obtain ⟨_, _, e5, _, c5⟩ := h _ _ (f 5 (by omega))
  obtain ⟨_, _, e6, _, c6⟩ := h _ _ (f 6 (by omega))
  cases e1; cases e2; cases e3; cases e4; cases e5; cases e6
  simp only [← Nat.add_assoc] at c1 c2 c3 c4 c5 c6
  exact ⟨b, o, rfl, hl, c0, c1, c2, c3, c4, c5, c6⟩
/-- What headFits asks of a field, but for its name among the others. -/
structure FitF (f : FD) : Prop where
  kind : f.kind ≤ 6
  len : f.list.length ≤ 30
  name : f.name.size ≤ 200
  text : f.text.size ≤ 200
  list : ∀ s ∈ f.list, s.size ≤ 200
theorem valueE {w0 W : World} {g : Nat} (h : SE w0 g W) (f : FM) (hf : FitF f.d) (hr : Rd w0 f.A (strs f.d.list)) (hn : f.d.num ≤ 18446744073709551615) :
    Calls Tryd.prog 28 #[.pointer (some ⟨g, 0, none⟩), .agg f.cells.toArray] W (VE w0 g f.d) := by
  have hk := hf.kind
  rcases Nat.lt_or_ge f.d.kind 3 with h3 | h3
  · rcases Nat.lt_or_ge f.d.kind 1 with h1 | h1
    · exact value0E h f.d (by omega) f.A _ f.c
    · rcases Nat.lt_or_ge f.d.kind 2 with h2 | h2
      · exact value1E h f.d (by omega) f.A _ f.c
      · exact value2E h f.d (by omega) hn f.A _ f.c
  · rcases Nat.lt_or_ge f.d.kind 5 with h5 | h5
    · rcases Nat.lt_or_ge f.d.kind 4 with h4 | h4
      · exact value3E h f.d (by omega) hf.text f.A _ f.c
      · exact value4E h f.d (by omega) f.A _ f.c rfl hf.len hf.list hr
    · rcases Nat.lt_or_ge f.d.kind 6 with h6 | h6
      · exact value5E h f.d (by omega) hf.text f.A _ f.c
      · exact value6E h f.d (by omega) f.A _ f.c rfl hf.len hf.list hr
/-- What HeadText writes of fields. -/
structure FOk (f : FD) (p : Po) : Prop where
  ok : PoOk 1 p
  tx : IsTx f.name p.B
  val : ValOf f p.x p.J
structure LO (w0 : World) (g : Nat) (l : List FM) (a0 b0 : Bs) (i : Nat) (o : Bs) (W : World) : Prop where
  se : SE w0 g W
  ps : ∃ ps : List Po, o = a0 ++ (123 :: (b0 ++ bodyO ps)) ∧ ps.length = i ∧ ∀ j (h : j < ps.length) (h2 : j < l.length), FOk l[j].d ps[j]
  len : o.length ≤ 200000 + i * 5400000
theorem LO.first {w0 W W2 : World} {g : Nat} {l : List FM} {a0 b0 o : Bs} (h : LO w0 g l a0 b0 0 o W) (hl : 0 < l.length) {p : Po} (hp : FOk l[0].d p) (hlen : (onePo p).length ≤ 5300000) (h2 : SE w0 g W2) : LO w0 g l a0 b0 1 (o ++ onePo p) W2 := by
  obtain ⟨ps, ho, hps, hok⟩ := h.ps
  obtain rfl : ps = [] := List.eq_nil_of_length_eq_zero hps
  refine ⟨h2, ⟨[p], by rw [ho, bodyO_one]; simp [bodyO], rfl, fun j hj h3 => ?_⟩, ?_⟩
  · simp only [List.length_cons, List.length_nil] at hj
    obtain rfl : j = 0 := by omega
    exact hp
  · have := h.len; simp only [List.length_append]; omega
theorem LO.next {w0 W W2 : World} {g : Nat} {l : List FM} {a0 b0 o : Bs} {i : Nat} (h : LO w0 g l a0 b0 i o W) (hi : 0 < i) (hl : i < l.length) {p : Po} (hp : FOk l[i].d p) (h1 : IsBl p.b1) (hlen : (onePo p).length ≤ 5300000) (h2 : SE w0 g W2) : LO w0 g l a0 b0 (i + 1) (o ++ (44 :: p.b1) ++ onePo p) W2 := by
  obtain ⟨ps, ho, hps, hok⟩ := h.ps
  have hne : ps ≠ [] := by rintro rfl; simp at hps; omega
  refine ⟨h2, ⟨ps ++ [p], by rw [ho, bodyO_snoc _ _ hne]; simp, by simp [hps], fun j hj h3 => ?_⟩, ?_⟩
  · rcases Nat.lt_or_ge j ps.length with h4 | h4
    · rw [List.getElem_append_left h4]; exact hok j h4 h3
    · rw [List.length_append, List.length_cons, List.length_nil] at hj
      obtain rfl : j = i := by omega
      rw [List.getElem_append_right h4]
      simpa using hp
  · have := h.len; have := h1.len; simp only [List.length_append, List.length_cons]; omega
/-- A text of fields is read as them. -/
structure HTx (l : List FM) (T : Bs) : Prop where
  ps : ∃ ps : List Po, pText T = some (.obj (ps.map kvO)) ∧ ps.length = l.length ∧ ∀ j (h : j < ps.length) (h2 : j < l.length), FOk l[j].d ps[j]
  len : T.length ≤ 180000000
theorem LO.done {w0 W : World} {g : Nat} {l : List FM} {a0 b0 o : Bs} (h : LO w0 g l a0 b0 l.length o W) (hl : l.length ≤ 31) (ha : IsBl a0) (hb : IsBl b0) {a9 : Bs} (h9 : IsBl a9) : HTx l (o ++ (125 :: a9)) := by
  obtain ⟨ps, ho, hps, hok⟩ := h.ps
  refine ⟨⟨ps, ?_, hps, hok⟩, ?_⟩
  · rw [ho]
    have := text_parses (n := 1) (by omega) a0 b0 a9 ps ha.ws hb.ws h9.ws (fun q hq => by
      obtain ⟨j, hj, rfl⟩ := List.mem_iff_getElem.1 hq
      exact (hok j hj (by omega)).ok)
    simpa using this
  · have := h.len; have := h9.len
    simp only [List.length_append, List.length_cons]
    have : l.length * 5400000 ≤ 31 * 5400000 := Nat.mul_le_mul_right _ hl
    omega
/-- The world between the calls of a round. -/
theorem loadF {w0 W : World} {g gb : Nat} {f : FM} (h : SR w0 g gb f.cells W) : (loadVar 29 ⟨gb, 0, none⟩).run Tryd.prog W = .ok (.agg f.cells.toArray) W :=
  run_loadVar_row W gb 29 29 f.cells.toArray (0, 0) _ h.row Tryd.underlying29 rfl (by kernel_rfl)
theorem loadN {w0 W : World} {g gb : Nat} {f : FM} (h : SR w0 g gb f.cells W) : W.cell? ⟨gb, 0, none⟩ = some (.string f.d.name) := h.row.cell 0
theorem cellsF {w0 W : World} {g gb : Nat} {f : FM} (h : SR w0 g gb f.cells W) : W.cell? ⟨gb, 0, none⟩ = some (.string f.d.name) ∧ W.cell? ⟨gb, 1, none⟩ = some (.int .u8 f.d.kind) ∧ W.cell? ⟨gb, 2, none⟩ = some (.bool f.d.is_) ∧ W.cell? ⟨gb, 3, none⟩ = some (.bool f.d.minus) ∧ W.cell? ⟨gb, 4, none⟩ = some (.int .u64 f.d.num) ∧ W.cell? ⟨gb, 5, none⟩ = some (.string f.d.text) ∧ W.cell? ⟨gb, 6, none⟩ = some (.slice f.A f.d.list.length f.c) :=
  ⟨h.row.cell 0, h.row.cell 1, h.row.cell 2, h.row.cell 3, h.row.cell 4, h.row.cell 5, h.row.cell 6⟩
end Go.Proofs.YtbdmdajbdmdknaaDoor
