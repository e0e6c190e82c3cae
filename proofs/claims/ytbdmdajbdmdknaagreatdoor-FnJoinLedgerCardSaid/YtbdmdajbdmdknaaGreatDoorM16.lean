/- A signature that is put behind a signing input; the functions of impl that make compact forms. Signing, Joined, WithSignature of impl. WithSignature of impl; PartSigning and PartJoined of spec. The walk of FnPartJoined. -/
import Derived.Test.YtbdmdajbdmdknaaGreatDoorB64V
namespace Go.Proofs.YtbdmdajbdmdknaaGreatDoor
open Go.RowKit
set_option linter.unusedVariables false
set_option linter.unusedSimpArgs false

set_option maxRecDepth 100000 in
set_option maxHeartbeats 4000000 in
theorem appSig_calls (g base : Nat) (v : Value) (l0 sg : List Int) (A0 : Option Addr) (k c0 : Nat) (A : Option Addr) (n c : Nat) (w : World) (hv : v = .slice A0 k c0) (hk : k = l0.length) (hk2 : k ≤ 500000) (hroom : k + n + 1 ≤ c0) (HO : Own w base 5 v (nums .u8 l0)) (hbase : base ≤ w.heap.size) (hE : EncOff w v g) (hA : RdOff w v A n c sg) (hn : n ≤ 50000) :
    Calls Tryz.prog 59 #[v, .slice A n c, .iface 161 (.pointer (some ⟨g, 0, none⟩))] w fun e w' => ∃ v', e = .returned v' ∧ AppP w base v (l0 ++ [46] ++ encF (alpha true) sg) v' w' := by
  have S1 : Hid (∀ v1 w1 l1, AppP w base v l1 v1 w1 → l1.length ≤ 1000000 → Calls Tryz.prog 174 #[.pointer (some ⟨g, 0, none⟩), v1, .slice A n c] w1 fun e w' => ∃ v', e = .returned v' ∧ AppP w base v (l1 ++ encF (alpha true) sg) v' w') := hidden (fun v1 w1 l1 a hl => appStep g base v v1 l1 sg A n c w w1 a hE hA (by omega) hbase hl)
  have HP1 : Hid (AppP w base v l0 v w) := hidden (appP_refl HO)
  have hl2 : (l0 ++ [46]).length ≤ 1000000 := by simp only [List.length_append, List.length_cons, List.length_nil]; omega
  have hlk : l0.length ≤ 500000 := by omega
  have hri : ¬ (c0 : Int) < (k : Int) + (n : Int) + 1 := by omega
  subst hv
  clear HO hE hA hk
  go_enter Tryz.func59, Tryz.ntmps59
  go_wp2_with (first
    | (go_at_call 174; ((with_reducible refine (S1.out _ _ _ HP2.out hl2).mono ?_); rintro e w3 ⟨v3, rfl, hP3⟩; have HP3 := hidden hP3; clear hP3))
    | (at_builtin; refine walk_app (base := base) rfl (.tmp 20) (.tmp 21) rfl Tryz.underlying31 info_u8 rfl (by decide) rfl rfl (HP1.out.own.alloc _) (Rd.new w 5 (nums .u8 [46]) _ rfl) rfl (nums_one _ _) (Nat.le_trans hbase (World.grownBy_alloc w _ none).size) (by simp only [List.length_append, nums_len, List.length_cons, List.length_nil]; omega) ?_; intro v2 w2 hO2 hg2 hk2'; have HP2 := hidden (HP1.out.put (World.grownBy_alloc w _ none) hO2 hg2 hk2'); clear hO2 hg2 hk2'))
  go_ret
  exact ⟨v3, rfl, HP3.out⟩
theorem defEnc_calls (w : World) : Calls Tryz.prog 58 #[] w fun e w' => ∃ g, e = .returned (.iface 161 (.pointer (some ⟨g, 0, none⟩))) ∧ EncAt w' g (alpha true) (tab true) (-1) ∧ w.heap.size ≤ g ∧ Below w.heap.size w w' := by
  go_enter Tryz.func58, Tryz.ntmps58
  go_wp2_with (go_at_call 74; go_must (refine (getEnc_calls _).mono ?_; rintro e w1 ⟨g, rfl, hE1, hg1, hB1⟩; have HE1 := hidden hE1; have HB1 := hidden hB1; have Hg1 := hidden hg1; clear hE1 hB1 hg1))
  go_ret
  exact ⟨g, rfl, HE1.out, Hg1.out, HB1.out⟩
end Go.Proofs.YtbdmdajbdmdknaaGreatDoor
namespace Go.Proofs.YtbdmdajbdmdknaaGreatDoor
open Go.RowKit
set_option linter.unusedVariables false
set_option linter.unusedSimpArgs false

/-- A slice of bytes that is read. -/
structure ArgB (w : World) (A : Option Addr) (n c : Nat) (l : List Int) : Prop where
  rd : Rd w A (nums .u8 l)
  len : l.length = n
  cap : n ≤ c
  nil : A = none → c = 0
  isB : IsB l
theorem ArgB.below {w w1 : World} {B n c : Nat} {A : Option Addr} {l : List Int} (h : ArgB w A n c l) (hb : Below B w w1) (hB : w.heap.size ≤ B) : ArgB w1 A n c l := ⟨h.rd.below hb hB, h.len, h.cap, h.nil, h.isB⟩
theorem ArgB.nilB (w : World) : ArgB w none 0 0 [] := ⟨Rd.nil _ _, rfl, Nat.le_refl _, fun _ => rfl, by intro x hx; simp at hx⟩
theorem ArgB.alloc {w : World} {n c : Nat} {A : Option Addr} {l : List Int} (h : ArgB w A n c l) (o : Obj) : ArgB (w.alloc o) A n c l := ⟨h.rd.alloc o, h.len, h.cap, h.nil, h.isB⟩
theorem own_arg {w : World} {base : Nat} {v : Value} {l : List Int} (h : Own w base 5 v (nums .u8 l)) (hb : IsB l) : ∃ A c, v = .slice A l.length c ∧ ArgB w A l.length c l := by
  obtain ⟨A, c, rfl, hc, hr, hA⟩ := h.read
  rw [nums_len] at hc ⊢
  exact ⟨A, c, rfl, hr, rfl, hc, hA, hb⟩
theorem rdOff_of {W : World} {v0 : Value} {B base n c : Nat} {A : Option Addr} {l : List Int} (H0 : ∀ k, v0.ownBlock = some k → k < B) (hO : Own W base 5 (.slice A n c) (nums .u8 l)) (hB : B ≤ base) (hb : IsB l) : RdOff W v0 A n c l := by
  obtain ⟨A', c', hv, hc, hr, _⟩ := hO.read
  rw [nums_len] at hv hc
  cases hv
  refine ⟨hr, ⟨?_, ?_⟩, rfl, hc, hb⟩
  · rintro b f rfl
    exact (hO.lt b rfl).2
  · rintro b f rfl h
    have h1 := (hO.lt b rfl).1
    have h2 := H0 b h
    omega
theorem tailF_isB {enc : Bool} {l : List Int} (h : IsB l) : IsB (tailF enc l) := by
  cases enc
  · exact h
  · exact encF_isB true h
theorem isB_app {a b : List Int} (ha : IsB a) (hb : IsB b) : IsB (a ++ b) := fun x hx => (List.mem_append.1 hx).elim (ha x) (hb x)
theorem isB_46 : IsB [46] := by intro x hx; simp at hx; omega
/-- The bytes that are signed. -/
def signF (enc : Bool) (hd pl : List Int) : List Int := encF (alpha true) hd ++ [46] ++ tailF enc pl
def joinF (enc : Bool) (hd pl sg : List Int) : List Int := signF enc hd pl ++ [46] ++ encF (alpha true) sg
theorem signF_isB {enc : Bool} {hd pl : List Int} (h1 : IsB hd) (h2 : IsB pl) : IsB (signF enc hd pl) := isB_app (isB_app (encF_isB true h1) isB_46) (tailF_isB h2)
theorem joinF_isB {enc : Bool} {hd pl sg : List Int} (h1 : IsB hd) (h2 : IsB pl) (h3 : IsB sg) : IsB (joinF enc hd pl sg) := isB_app (isB_app (signF_isB h1 h2) isB_46) (encF_isB true h3)
theorem tailF_len {enc : Bool} {l : List Int} {n : Nat} (h : l.length ≤ n) : (tailF enc l).length ≤ 2 * n + 4 := by
  cases enc
  · show l.length ≤ _; omega
  · show (encF (alpha true) l).length ≤ _; rw [encLen_eq]; unfold encLen; omega
theorem signF_len {enc : Bool} {hd pl : List Int} {n m : Nat} (h1 : hd.length ≤ n) (h2 : pl.length ≤ m) : (signF enc hd pl).length ≤ 2 * n + 2 * m + 10 := by
  have := tailF_len (enc := enc) h2
  unfold signF
  rw [List.length_append, List.length_append, encLen_eq]
  unfold encLen
  simp only [List.length_cons, List.length_nil]
  omega
theorem joinF_len {enc : Bool} {hd pl sg : List Int} {n m q : Nat} (h1 : hd.length ≤ n) (h2 : pl.length ≤ m) (h3 : sg.length ≤ q) : (joinF enc hd pl sg).length ≤ 2 * n + 2 * m + 2 * q + 20 := by
  have := signF_len (enc := enc) h1 h2
  unfold joinF
  rw [List.length_append, List.length_append, encLen_eq]
  unfold encLen
  simp only [List.length_cons, List.length_nil]
  omega

set_option maxRecDepth 100000 in
set_option maxHeartbeats 4000000 in
theorem signing_calls (w : World) (Ab : Option Addr) (nb cb : Nat) (lb : List Int) (A : Option Addr) (n c : Nat) (hd : List Int) (B : Option Addr) (m d : Nat) (pl : List Int) (enc : Bool) (h0 : ArgB w Ab nb cb lb) (n0 : nb ≤ 20000) (h1 : ArgB w A n c hd) (n1 : n ≤ 20000) (h2 : ArgB w B m d pl) (n2 : m ≤ 20000) :
    Calls Tryz.prog 38 #[.slice Ab nb cb, .slice A n c, .slice B m d, .bool enc] w fun e w' => NewB w (signF enc hd pl) e w' := by
  have K0 : Hid (∀ W, Below w.heap.size w W → Calls Tryz.prog 12 #[.slice Ab nb cb] W (NewB W lb)) := hidden (fun W hB => have hx := h0.below hB (Nat.le_refl _); clone_calls Ab nb cb lb W hx.rd hx.len hx.cap hx.nil (by omega))
  have K1 : Hid (∀ W, Below w.heap.size w W → Calls Tryz.prog 12 #[.slice A n c] W (NewB W hd)) := hidden (fun W hB => have hx := h1.below hB (Nat.le_refl _); clone_calls A n c hd W hx.rd hx.len hx.cap hx.nil (by omega))
  have K2 : Hid (∀ W, Below w.heap.size w W → Calls Tryz.prog 12 #[.slice B m d] W (NewB W pl)) := hidden (fun W hB => have hx := h2.below hB (Nat.le_refl _); clone_calls B m d pl W hx.rd hx.len hx.cap hx.nil (by omega))
  have I0 : Hid (IsB lb ∧ lb.length = nb) := hidden ⟨h0.isB, h0.len⟩
  have I1 : Hid (IsB hd ∧ hd.length = n) := hidden ⟨h1.isB, h1.len⟩
  have I2 : Hid (IsB pl ∧ pl.length = m) := hidden ⟨h2.isB, h2.len⟩
  clear h0 h1 h2
  go_enter Tryz.func38, Tryz.ntmps38
  go_wp2_with (first
    | (go_at_call 12; first
      | ((with_reducible refine (K0.out _ (Below.refl _ _)).mono ?_); rintro e w1 ⟨u0, rfl, hO, hB⟩; have HBs0 := hidden hB; have HL0 := hidden hO.lt; have HO0 := hidden hO; clear hO hB)
      | ((with_reducible refine (K1.out _ HBs0.out).mono ?_); rintro e w2 ⟨u1, rfl, hO, hB⟩; have HS2 := hidden hB.size; have HM := hidden hB.size; have HBs1 := hidden (below_next HBs0.out hB); have HO0 := hidden (HO0.out.below hB); obtain ⟨A1, c1, hv, _, _, _⟩ := hO.read; rw [nums_len, I1.out.2] at hv; subst hv; have HO1 := hidden hO; clear hO hB)
      | ((with_reducible refine (K2.out _ HBs1.out).mono ?_); rintro e w3 ⟨u2, rfl, hO, hB⟩; have HS3 := hidden (Nat.le_trans HS2.out hB.size); have HM := hidden (Nat.le_trans HM.out hB.size); have HBs2 := hidden (below_next HBs1.out hB); have HO0 := hidden (HO0.out.below hB); have HO1 := hidden (HO1.out.below hB); obtain ⟨A2, c2, hv, _, _, _⟩ := hO.read; rw [nums_len, I2.out.2] at hv; subst hv; have HO2 := hidden hO; clear hO hB))
    | (go_at_call 58; go_must (refine (defEnc_calls _).mono ?_; rintro e wE ⟨g, rfl, hE, hg, hB⟩; have HE := hidden hE; have Hg := hidden hg; have HBs := hidden (below_next HBs2.out hB); have HO0 := hidden (HO0.out.below hB); have HO1 := hidden (HO1.out.below hB); have HO2 := hidden (HO2.out.below hB); clear hE hg hB))
    | (go_at_call 57; go_must (refine (signBuf_calls g w.heap.size u0 lb hd pl A1 n c1 A2 m c2 enc _ HO0.out HBs.out.size ⟨HE.out, fun h => by have h1 := (HL0.out g h).2; have h2 := Hg.out; have h3 := HM.out; omega⟩ (rdOff_of (fun k hk => (HL0.out k hk).2) HO1.out (Nat.le_refl _) I1.out.1) (rdOff_of (fun k hk => (HL0.out k hk).2) HO2.out HS2.out I2.out.1) (by omega) (by omega)).mono ?_; rintro e wF ⟨v', rfl, hP⟩; have HP := hidden hP; clear hP)))
  go_ret
  exact ⟨v', rfl, HP.out.own, below_app HBs.out HP.out.grown HO0.out (Nat.le_refl _) HBs.out.size⟩
end Go.Proofs.YtbdmdajbdmdknaaGreatDoor
namespace Go.Proofs.YtbdmdajbdmdknaaGreatDoor
open Go.RowKit
set_option linter.unusedVariables false
set_option linter.unusedSimpArgs false

/-- make of a row of zeros. -/
theorem walk_makeC {ops : Array Oper} {rest : List Oper} {o : Oper} {a : Act} {Q : Exit → Act → World → Prop} {w : World} {k n : Nat} (hg : o.guard = none) (l c : Operand) (hop : o.op = Op.makeSlice 31 l c) {C : Int} (hl : a.eval l = .int .i64 k) (hc : a.eval c = .int .i64 C) (hC : C = (n : Int)) (hkn : k ≤ n) (hn : n ≤ 10000000)
    (h : ∀ W, Hid (Row W w.heap.size 5 (nums .u8 (List.replicate n 0))) → Hid (Below w.heap.size w W) → Hid (W.heap.size = w.heap.size + 1) → wpList Tryz.prog ops Q rest (a.put o.dst (.slice (some ⟨w.heap.size, 0, none⟩) k n)) W) : wpList Tryz.prog ops Q (o :: rest) a w := by
  refine walk_make2 (k := k) hg l c hop Tryz.underlying31 info_u8 rfl hl hc rfl hC hkn (by omega) (by omega) (h _ (hidden ?_) (hidden (below_alloc0 _ _)) (hidden (by simp)))
  have := Row.new w 5 (nums .u8 (List.replicate n 0))
  simpa [nums] using this
theorem splice_zeros (N n : Nat) (M : List Int) (h : M.length = n) (hn : n ≤ N) : splice (List.replicate N (0 : Int)) 0 (M.take n) = M ++ List.replicate (N - n) 0 := by
  unfold splice
  rw [show M.take n = M from List.take_of_length_le (by omega), List.take_zero, List.nil_append, Nat.zero_add, List.drop_replicate, h]
/-- Bytes of one's own, and nothing old that changed. -/
structure OB (w W : World) (v : Value) (l : List Int) : Prop where
  own : Own W w.heap.size 5 v (nums .u8 l)
  below : Below w.heap.size w W
theorem OB.next {w W W1 : World} {v : Value} {l : List Int} (h : OB w W v l) (hb : Below W.heap.size W W1) : OB w W1 v l := ⟨h.own.below hb, below_next h.below hb⟩
theorem OB.put {w W Wm W2 : World} {v v2 : Value} {l ys : List Int} (h : OB w W v l) (hm : Below W.heap.size W Wm) (hO : Own W2 w.heap.size 5 v2 (nums .u8 l ++ nums .u8 ys)) (hg : Wm.grownBy W2 v.ownBlock) : OB w W2 v2 (l ++ ys) :=
  ⟨by rw [nums_app]; exact hO, below_app (below_next h.below hm) hg (h.own.below hm) (Nat.le_refl _) (Nat.le_trans h.below.size hm.size)⟩
set_option maxRecDepth 100000 in
set_option maxHeartbeats 4000000 in
theorem withSig_calls (w : World) (Ab : Option Addr) (nb cb : Nat) (lb : List Int) (A : Option Addr) (n c : Nat) (sg : List Int) (h0 : ArgB w Ab nb cb lb) (n0 : nb ≤ 100000) (h1 : ArgB w A n c sg) (n1 : n ≤ 20000) :
    Calls Tryz.prog 40 #[.slice Ab nb cb, .slice A n c] w (NewB w (lb ++ [46] ++ encF (alpha true) sg)) := by
  have K1 : Hid (∀ W, Below w.heap.size w W → Calls Tryz.prog 12 #[.slice A n c] W (NewB W sg)) := hidden (fun W hB => have hx := h1.below hB (Nat.le_refl _); clone_calls A n c sg W hx.rd hx.len hx.cap hx.nil (by omega))
  have I0 : Hid (IsB lb ∧ lb.length = nb) := hidden ⟨h0.isB, h0.len⟩
  have I1 : Hid (IsB sg ∧ sg.length = n) := hidden ⟨h1.isB, h1.len⟩
  have H0 := hidden h0
  clear h0 h1
  go_enter Tryz.func40, Tryz.ntmps40
  go_wp2_with (first
    | (with_reducible refine at_dst 15 ?_; go_must (refine walk_makeC (k := nb) (n := nb + 2 * n + 8) rfl _ _ rfl rfl rfl (by omega) (by omega) (by omega) ?_; intro W HR0 HB0 HS0))
    | (with_reducible refine at_dst 18 ?_; go_must (refine walk_copy rfl _ _ rfl Tryz.underlying31 size_u8' (k := .u8) (L := List.replicate (nb + 2 * n + 8) 0) (M := lb) rfl rfl HR0.out (H0.out.rd.below HB0.out (Nat.le_refl _)) I0.out.2 (by rw [List.length_replicate]; omega) ?_; intro w2 hR2 hg2 hs2; rw [splice_zeros _ _ _ I0.out.2 (by omega), nums_app] at hR2; have HO2 := hidden (Own.of_row (base := w.heap.size) (c := nb + 2 * n + 8) hR2 (Nat.le_refl _) (by rw [nums_len, nums_len, List.length_replicate, I0.out.2]; omega) (by unfold maxLen; omega)); rw [nums_len, I0.out.2] at HO2; have HB2 := hidden (HB0.out.grown hg2 HB0.out.size (by rintro k ⟨⟩; exact Nat.le_refl _)); have HS2 := hidden (hs2.trans HS0.out); clear hR2 hg2 hs2))
    | (go_at_call 12; go_must (refine (K1.out _ HB2.out).mono ?_; rintro e w3 ⟨u1, rfl, hO, hB⟩; have HB3 := hidden (below_next HB2.out hB); have HO3 := hidden (HO2.out.below hB); have HS3 := hidden hB.size; obtain ⟨A1, c1, hv, _, _, _⟩ := hO.read; rw [nums_len, I1.out.2] at hv; subst hv; have HC3 := hidden hO; clear hO hB))
    | (go_at_call 58; go_must (refine (defEnc_calls _).mono ?_; rintro e w4 ⟨g, rfl, hE, hg, hB⟩; have HE := hidden hE; have Hg := hidden hg; have HB4 := hidden (below_next HB3.out hB); have HO4 := hidden (HO3.out.below hB); have HC4 := hidden (HC3.out.below hB); clear hE hg hB))
    | (go_at_call 59; go_must (refine (appSig_calls g w.heap.size _ lb sg (some ⟨w.heap.size, 0, none⟩) nb (nb + 2 * n + 8) A1 n c1 _ rfl I0.out.2.symm (by omega) (by omega) HO4.out HB4.out.size ⟨HE.out, fun h => by have h2 := Hg.out; have h3 := HS3.out; have h4 := HS2.out; have h5 : w.heap.size = g := Option.some.inj h; omega⟩ (rdOff_of (B := w2.heap.size) (fun k hk => by have h4 := HS2.out; have h5 : w.heap.size = k := Option.some.inj hk; omega) HC4.out (Nat.le_refl _) I1.out.1) (by omega)).mono ?_; rintro e wF ⟨v', rfl, hP⟩; have HP := hidden hP; clear hP)))
  go_ret
  exact ⟨v', rfl, HP.out.own, below_app HB4.out HP.out.grown HO4.out (Nat.le_refl _) HB4.out.size⟩
end Go.Proofs.YtbdmdajbdmdknaaGreatDoor
namespace Go.Proofs.YtbdmdajbdmdknaaGreatDoor
open Go.RowKit
set_option linter.unusedVariables false
set_option linter.unusedSimpArgs false

theorem Came.arg {w : World} {a : Option Addr} {len cap : Nat} {l : List Int} (h : Came .u8 w a len cap l) : ArgB w a len cap l := ⟨h.rd, h.hlen, h.hcap, h.nil, h.isB⟩
end Go.Proofs.YtbdmdajbdmdknaaGreatDoor
