/- Signing, Joined, WithSignature of impl. -/
import Derived.Test.YtmibnnmampfalaaDoorB64W
namespace Go.Proofs.YtmibnnmampfalaaDoor
open Go.RowKit
set_option linter.unusedVariables false
set_option linter.unusedSimpArgs false

/-- A slice of bytes that is read. -/
structure ArgB (w : World) (A : Option Addr) (n c : Nat) (l : List Int) : Prop where
  rd : Rd w A (nums .u8 l)
  len : l.length = n
  cap : n ≤ c
  nil : A = none → c = 0
  isB : IsB l
theorem ArgB.below {w w1 : World} {B n c : Nat} {A : Option Addr} {l : List Int} (h : ArgB w A n c l) (hb : Below B w w1) (hB : w.heap.size ≤ B) : ArgB w1 A n c l := ⟨h.rd.below hb hB, h.len, h.cap, h.nil, h.isB⟩
theorem ArgB.nilB (w : World) : ArgB w none 0 0 [] := ⟨Rd.nil _ _, rfl, Nat.le_refl _, fun _ => rfl, by intro x hx; simp at hx⟩
theorem ArgB.alloc {w : World} {n c : Nat} {A : Option Addr} {l : List Int} (h : ArgB w A n c l) (o : Obj) : ArgB (w.alloc o) A n c l := ⟨h.rd.alloc o, h.len, h.cap, h.nil, h.isB⟩
theorem own_arg {w : World} {base : Nat} {v : Value} {l : List Int} (h : Own w base 5 v (nums .u8 l)) (hb : IsB l) : ∃ A c, v = .slice A l.length c ∧ ArgB w A l.length c l := by
  obtain ⟨A, c, rfl, hc, hr, hA⟩ := h.read
  rw [nums_len] at hc ⊢
  exact ⟨A, c, rfl, hr, rfl, hc, hA, hb⟩
theorem rdOff_of {W : World} {v0 : Value} {B base n c : Nat} {A : Option Addr} {l : List Int} (H0 : ∀ k, v0.ownBlock = some k → k < B) (hO : Own W base 5 (.slice A n c) (nums .u8 l)) (hB : B ≤ base) (hb : IsB l) : RdOff W v0 A n c l := by
  obtain ⟨A', c', hv, hc, hr, _⟩ := hO.read
  rw [nums_len] at hv hc
  cases hv
  refine ⟨hr, ⟨?_, ?_⟩, rfl, hc, hb⟩
  · rintro b f rfl
    exact (hO.lt b rfl).2
  · rintro b f rfl h
    have h1 := (hO.lt b rfl).1
    have h2 := H0 b h
    omega
theorem tailF_isB {enc : Bool} {l : List Int} (h : IsB l) : IsB (tailF enc l) := by
  cases enc
  · exact h
  · exact encF_isB true h
theorem isB_app {a b : List Int} (ha : IsB a) (hb : IsB b) : IsB (a ++ b) := fun x hx => (List.mem_append.1 hx).elim (ha x) (hb x)
theorem isB_46 : IsB [46] := by intro x hx; simp at hx; omega
/-- The bytes that are signed. -/
def signF (enc : Bool) (hd pl : List Int) : List Int := encF (alpha true) hd ++ [46] ++ tailF enc pl
def joinF (enc : Bool) (hd pl sg : List Int) : List Int := signF enc hd pl ++ [46] ++ encF (alpha true) sg
theorem signF_isB {enc : Bool} {hd pl : List Int} (h1 : IsB hd) (h2 : IsB pl) : IsB (signF enc hd pl) := isB_app (isB_app (encF_isB true h1) isB_46) (tailF_isB h2)
theorem joinF_isB {enc : Bool} {hd pl sg : List Int} (h1 : IsB hd) (h2 : IsB pl) (h3 : IsB sg) : IsB (joinF enc hd pl sg) := isB_app (isB_app (signF_isB h1 h2) isB_46) (encF_isB true h3)
theorem tailF_len {enc : Bool} {l : List Int} {n : Nat} (h : l.length ≤ n) : (tailF enc l).length ≤ 2 * n + 4 := by
  cases enc
  · show l.length ≤ _; omega
  · show (encF (alpha true) l).length ≤ _; rw [encLen_eq]; unfold encLen; omega
theorem signF_len {enc : Bool} {hd pl : List Int} {n m : Nat} (h1 : hd.length ≤ n) (h2 : pl.length ≤ m) : (signF enc hd pl).length ≤ 2 * n + 2 * m + 10 := by
  have := tailF_len (enc := enc) h2
  unfold signF
  rw [List.length_append, List.length_append, encLen_eq]
  unfold encLen
  simp only [List.length_cons, List.length_nil]
  omega
theorem joinF_len {enc : Bool} {hd pl sg : List Int} {n m q : Nat} (h1 : hd.length ≤ n) (h2 : pl.length ≤ m) (h3 : sg.length ≤ q) : (joinF enc hd pl sg).length ≤ 2 * n + 2 * m + 2 * q + 20 := by
  have := signF_len (enc := enc) h1 h2
  unfold joinF
  rw [List.length_append, List.length_append, encLen_eq]
  unfold encLen
  simp only [List.length_cons, List.length_nil]
  omega

set_option maxRecDepth 100000 in
set_option maxHeartbeats 4000000 in
theorem signing_calls (w : World) (Ab : Option Addr) (nb cb : Nat) (lb : List Int) (A : Option Addr) (n c : Nat) (hd : List Int) (B : Option Addr) (m d : Nat) (pl : List Int) (enc : Bool) (h0 : ArgB w Ab nb cb lb) (n0 : nb ≤ 20000) (h1 : ArgB w A n c hd) (n1 : n ≤ 20000) (h2 : ArgB w B m d pl) (n2 : m ≤ 20000) :
    Calls Tryd.prog 16 #[.slice Ab nb cb, .slice A n c, .slice B m d, .bool enc] w fun e w' => NewB w (signF enc hd pl) e w' := by
  have K0 : Hid (∀ W, Below w.heap.size w W → Calls Tryd.prog 21 #[.slice Ab nb cb] W (NewB W lb)) := hidden (fun W hB => have hx := h0.below hB (Nat.le_refl _); clone_calls Ab nb cb lb W hx.rd hx.len hx.cap hx.nil (by omega))
  have K1 : Hid (∀ W, Below w.heap.size w W → Calls Tryd.prog 21 #[.slice A n c] W (NewB W hd)) := hidden (fun W hB => have hx := h1.below hB (Nat.le_refl _); clone_calls A n c hd W hx.rd hx.len hx.cap hx.nil (by omega))
  have K2 : Hid (∀ W, Below w.heap.size w W → Calls Tryd.prog 21 #[.slice B m d] W (NewB W pl)) := hidden (fun W hB => have hx := h2.below hB (Nat.le_refl _); clone_calls B m d pl W hx.rd hx.len hx.cap hx.nil (by omega))
  have I0 : Hid (IsB lb ∧ lb.length = nb) := hidden ⟨h0.isB, h0.len⟩
  have I1 : Hid (IsB hd ∧ hd.length = n) := hidden ⟨h1.isB, h1.len⟩
  have I2 : Hid (IsB pl ∧ pl.length = m) := hidden ⟨h2.isB, h2.len⟩
  clear h0 h1 h2
  go_enter Tryd.func16, Tryd.ntmps16
  go_wp2_with (first
    | (go_at_call 21; first
      | ((with_reducible refine (K0.out _ (Below.refl _ _)).mono ?_); rintro e w1 ⟨u0, rfl, hO, hB⟩; have HBs0 := hidden hB; have HL0 := hidden hO.lt; have HO0 := hidden hO; clear hO hB)
      | ((with_reducible refine (K1.out _ HBs0.out).mono ?_); rintro e w2 ⟨u1, rfl, hO, hB⟩; have HS2 := hidden hB.size; have HM := hidden hB.size; have HBs1 := hidden (below_next HBs0.out hB); have HO0 := hidden (HO0.out.below hB); obtain ⟨A1, c1, hv, _, _, _⟩ := hO.read; rw [nums_len, I1.out.2] at hv; subst hv; have HO1 := hidden hO; clear hO hB)
      | ((with_reducible refine (K2.out _ HBs1.out).mono ?_); rintro e w3 ⟨u2, rfl, hO, hB⟩; have HS3 := hidden (Nat.le_trans HS2.out hB.size); have HM := hidden (Nat.le_trans HM.out hB.size); have HBs2 := hidden (below_next HBs1.out hB); have HO0 := hidden (HO0.out.below hB); have HO1 := hidden (HO1.out.below hB); obtain ⟨A2, c2, hv, _, _, _⟩ := hO.read; rw [nums_len, I2.out.2] at hv; subst hv; have HO2 := hidden hO; clear hO hB))
    | (go_at_call 25; go_must (refine (defEnc_calls _).mono ?_; rintro e wE ⟨g, rfl, hE, hg, hB⟩; have HE := hidden hE; have Hg := hidden hg; have HBs := hidden (below_next HBs2.out hB); have HO0 := hidden (HO0.out.below hB); have HO1 := hidden (HO1.out.below hB); have HO2 := hidden (HO2.out.below hB); clear hE hg hB))
    | (go_at_call 24; go_must (refine (signBuf_calls g w.heap.size u0 lb hd pl A1 n c1 A2 m c2 enc _ HO0.out HBs.out.size ⟨HE.out, fun h => by have h1 := (HL0.out g h).2; have h2 := Hg.out; have h3 := HM.out; omega⟩ (rdOff_of (fun k hk => (HL0.out k hk).2) HO1.out (Nat.le_refl _) I1.out.1) (rdOff_of (fun k hk => (HL0.out k hk).2) HO2.out HS2.out I2.out.1) (by omega) (by omega)).mono ?_; rintro e wF ⟨v', rfl, hP⟩; have HP := hidden hP; clear hP)))
  go_ret
  exact ⟨v', rfl, HP.out.own, below_app HBs.out HP.out.grown HO0.out (Nat.le_refl _) HBs.out.size⟩
set_option maxRecDepth 100000 in
set_option maxHeartbeats 4000000 in
theorem joined_calls (w : World) (Ab : Option Addr) (nb cb : Nat) (lb : List Int) (A : Option Addr) (n c : Nat) (hd : List Int) (B : Option Addr) (m d : Nat) (pl : List Int) (C : Option Addr) (q f : Nat) (sg : List Int) (enc : Bool) (h0 : ArgB w Ab nb cb lb) (n0 : nb ≤ 20000) (h1 : ArgB w A n c hd) (n1 : n ≤ 20000) (h2 : ArgB w B m d pl) (n2 : m ≤ 20000) (h3 : ArgB w C q f sg) (n3 : q ≤ 20000) :
    Calls Tryd.prog 17 #[.slice Ab nb cb, .slice A n c, .slice B m d, .slice C q f, .bool enc] w fun e w' => ∃ v, e = .returned (.tuple #[v, .bool true]) ∧ Own w' w.heap.size 5 v (nums .u8 (joinF enc hd pl sg)) ∧ Below w.heap.size w w' := by
  have K0 : Hid (∀ W, Below w.heap.size w W → Calls Tryd.prog 21 #[.slice Ab nb cb] W (NewB W lb)) := hidden (fun W hB => have hx := h0.below hB (Nat.le_refl _); clone_calls Ab nb cb lb W hx.rd hx.len hx.cap hx.nil (by omega))
  have K1 : Hid (∀ W, Below w.heap.size w W → Calls Tryd.prog 21 #[.slice A n c] W (NewB W hd)) := hidden (fun W hB => have hx := h1.below hB (Nat.le_refl _); clone_calls A n c hd W hx.rd hx.len hx.cap hx.nil (by omega))
  have K2 : Hid (∀ W, Below w.heap.size w W → Calls Tryd.prog 21 #[.slice B m d] W (NewB W pl)) := hidden (fun W hB => have hx := h2.below hB (Nat.le_refl _); clone_calls B m d pl W hx.rd hx.len hx.cap hx.nil (by omega))
  have K3 : Hid (∀ W, Below w.heap.size w W → Calls Tryd.prog 21 #[.slice C q f] W (NewB W sg)) := hidden (fun W hB => have hx := h3.below hB (Nat.le_refl _); clone_calls C q f sg W hx.rd hx.len hx.cap hx.nil (by omega))
  have I0 : Hid (IsB lb ∧ lb.length = nb) := hidden ⟨h0.isB, h0.len⟩
  have I1 : Hid (IsB hd ∧ hd.length = n) := hidden ⟨h1.isB, h1.len⟩
  have I2 : Hid (IsB pl ∧ pl.length = m) := hidden ⟨h2.isB, h2.len⟩
  have I3 : Hid (IsB sg ∧ sg.length = q) := hidden ⟨h3.isB, h3.len⟩
  clear h0 h1 h2 h3
  go_enter Tryd.func17, Tryd.ntmps17
  go_wp2_with (first
    | (go_at_call 21; first
      | ((with_reducible refine (K0.out _ (Below.refl _ _)).mono ?_); rintro e w1 ⟨u0, rfl, hO, hB⟩; have HBs0 := hidden hB; have HL0 := hidden hO.lt; have HO0 := hidden hO; clear hO hB)
      | ((with_reducible refine (K1.out _ HBs0.out).mono ?_); rintro e w2 ⟨u1, rfl, hO, hB⟩; have HS2 := hidden hB.size; have HM := hidden hB.size; have HBs1 := hidden (below_next HBs0.out hB); have HO0 := hidden (HO0.out.below hB); obtain ⟨A1, c1, hv, _, _, _⟩ := hO.read; rw [nums_len, I1.out.2] at hv; subst hv; have HO1 := hidden hO; clear hO hB)
      | ((with_reducible refine (K2.out _ HBs1.out).mono ?_); rintro e w3 ⟨u2, rfl, hO, hB⟩; have HS3 := hidden (Nat.le_trans HS2.out hB.size); have HM := hidden (Nat.le_trans HM.out hB.size); have HBs2 := hidden (below_next HBs1.out hB); have HO0 := hidden (HO0.out.below hB); have HO1 := hidden (HO1.out.below hB); obtain ⟨A2, c2, hv, _, _, _⟩ := hO.read; rw [nums_len, I2.out.2] at hv; subst hv; have HO2 := hidden hO; clear hO hB)
      | ((with_reducible refine (K3.out _ HBs2.out).mono ?_); rintro e w4 ⟨u3, rfl, hO, hB⟩; have HM := hidden (Nat.le_trans HM.out hB.size); have HBs3 := hidden (below_next HBs2.out hB); have HO0 := hidden (HO0.out.below hB); have HO1 := hidden (HO1.out.below hB); have HO2 := hidden (HO2.out.below hB); obtain ⟨A3, c3, hv, _, _, _⟩ := hO.read; rw [nums_len, I3.out.2] at hv; subst hv; have HO3 := hidden hO; clear hO hB))
    | (go_at_call 25; go_must (refine (defEnc_calls _).mono ?_; rintro e wE ⟨g, rfl, hE, hg, hB⟩; have HE := hidden hE; have Hg := hidden hg; have HBs := hidden (below_next HBs3.out hB); have HO0 := hidden (HO0.out.below hB); have HO1 := hidden (HO1.out.below hB); have HO2 := hidden (HO2.out.below hB); have HO3 := hidden (HO3.out.below hB); clear hE hg hB))
    | (go_at_call 26; go_must (refine (joinCompact_calls g w.heap.size u0 lb hd pl sg A1 n c1 A2 m c2 A3 q c3 enc _ HO0.out HBs.out.size ⟨HE.out, fun h => by have h1 := (HL0.out g h).2; have h2 := Hg.out; have h3 := HM.out; omega⟩ (rdOff_of (fun k hk => (HL0.out k hk).2) HO1.out (Nat.le_refl _) I1.out.1) (rdOff_of (fun k hk => (HL0.out k hk).2) HO2.out HS2.out I2.out.1) (rdOff_of (fun k hk => (HL0.out k hk).2) HO3.out HS3.out I3.out.1) (by omega) (by omega) (by omega)).mono ?_; rintro e wF ⟨v', rfl, hP⟩; have HP := hidden hP; clear hP)))
  go_ret2
  exact ⟨v', rfl, HP.out.own, below_app HBs.out HP.out.grown HO0.out (Nat.le_refl _) HBs.out.size⟩
end Go.Proofs.YtmibnnmampfalaaDoor
