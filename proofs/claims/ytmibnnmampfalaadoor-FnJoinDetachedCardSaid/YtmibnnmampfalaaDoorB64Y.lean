/- WithSignature of impl; PartSigning and PartJoined of spec. -/
import Derived.Test.YtmibnnmampfalaaDoorB64X
namespace Go.Proofs.YtmibnnmampfalaaDoor
open Go.RowKit
set_option linter.unusedVariables false
set_option linter.unusedSimpArgs false

/-- make of a row of zeros. -/
theorem walk_makeC {ops : Array Oper} {rest : List Oper} {o : Oper} {a : Act} {Q : Exit → Act → World → Prop} {w : World} {k n : Nat} (hg : o.guard = none) (l c : Operand) (hop : o.op = Op.makeSlice 22 l c) {C : Int} (hl : a.eval l = .int .i64 k) (hc : a.eval c = .int .i64 C) (hC : C = (n : Int)) (hkn : k ≤ n) (hn : n ≤ 10000000)
    (h : ∀ W, Hid (Row W w.heap.size 5 (nums .u8 (List.replicate n 0))) → Hid (Below w.heap.size w W) → Hid (W.heap.size = w.heap.size + 1) → wpList Tryd.prog ops Q rest (a.put o.dst (.slice (some ⟨w.heap.size, 0, none⟩) k n)) W) : wpList Tryd.prog ops Q (o :: rest) a w := by
  refine walk_make2 (k := k) hg l c hop Tryd.underlying22 info_u8 rfl hl hc rfl hC hkn (by omega) (by omega) (h _ (hidden ?_) (hidden (below_alloc0 _ _)) (hidden (by simp)))
  have := Row.new w 5 (nums .u8 (List.replicate n 0))
  simpa [nums] using this
theorem splice_zeros (N n : Nat) (M : List Int) (h : M.length = n) (hn : n ≤ N) : splice (List.replicate N (0 : Int)) 0 (M.take n) = M ++ List.replicate (N - n) 0 := by
  unfold splice
  rw [show M.take n = M from List.take_of_length_le (by omega), List.take_zero, List.nil_append, Nat.zero_add, List.drop_replicate, h]
/-- Bytes of one's own, and nothing old that changed. -/
structure OB (w W : World) (v : Value) (l : List Int) : Prop where
  own : Own W w.heap.size 5 v (nums .u8 l)
  below : Below w.heap.size w W
theorem OB.next {w W W1 : World} {v : Value} {l : List Int} (h : OB w W v l) (hb : Below W.heap.size W W1) : OB w W1 v l := ⟨h.own.below hb, below_next h.below hb⟩
theorem OB.put {w W Wm W2 : World} {v v2 : Value} {l ys : List Int} (h : OB w W v l) (hm : Below W.heap.size W Wm) (hO : Own W2 w.heap.size 5 v2 (nums .u8 l ++ nums .u8 ys)) (hg : Wm.grownBy W2 v.ownBlock) : OB w W2 v2 (l ++ ys) :=
  ⟨by rw [nums_app]; exact hO, below_app (below_next h.below hm) hg (h.own.below hm) (Nat.le_refl _) (Nat.le_trans h.below.size hm.size)⟩
set_option maxRecDepth 100000 in
set_option maxHeartbeats 4000000 in
theorem partSigning_calls (w : World) (A : Option Addr) (n c : Nat) (hd : List Int) (B : Option Addr) (m d : Nat) (pl : List Int) (enc : Bool) (h1 : ArgB w A n c hd) (n1 : n ≤ 20000) (h2 : ArgB w B m d pl) (n2 : m ≤ 20000) :
    Calls Tryd.prog 8 #[.slice A n c, .slice B m d, .bool enc] w fun e w' => ∃ v, e = .returned v ∧ OB w w' v (signF enc hd pl) := by
  have K1 : Hid (∀ W, Below w.heap.size w W → Calls Tryd.prog 12 #[.slice A n c] W (NewB W (encF (alpha true) hd))) := hidden (fun W hB => have hx := h1.below hB (Nat.le_refl _); partOf_calls A n c hd W hx.rd hx.len hx.isB hx.cap (by omega))
  have K2 : Hid (∀ W, Below w.heap.size w W → Calls Tryd.prog 12 #[.slice B m d] W (NewB W (encF (alpha true) pl))) := hidden (fun W hB => have hx := h2.below hB (Nat.le_refl _); partOf_calls B m d pl W hx.rd hx.len hx.isB hx.cap (by omega))
  have H2 := hidden h2
  have hx1 : (encF (alpha true) hd).length ≤ 200000 := by rw [encLen_eq, h1.len]; unfold encLen; omega
  have hx2 : (encF (alpha true) pl).length ≤ 200000 := by rw [encLen_eq, h2.len]; unfold encLen; omega
  have hpl : pl.length ≤ 20000 := by rw [h2.len]; exact n2
  obtain ⟨x1, hX1⟩ : ∃ x, x = encF (alpha true) hd := ⟨_, rfl⟩
  obtain ⟨x2, hX2⟩ : ∃ x, x = encF (alpha true) pl := ⟨_, rfl⟩
  rw [← hX1] at K1 hx1
  rw [← hX2] at K2 hx2
  unfold signF tailF
  rw [← hX1, ← hX2]
  clear hX1 hX2 h1 h2
  cases enc with
  | true =>
    simp only [if_true]
    go_enter Tryd.func8, Tryd.ntmps8
    go_wp2_with (first
      | (go_at_call 12; first
        | ((with_reducible refine (K1.out _ (Below.refl _ _)).mono ?_); rintro e w1 ⟨v1, rfl, hO, hB⟩; have HP1 : Hid (OB w w1 v1 x1) := hidden ⟨hO, hB⟩; clear hO hB)
        | ((with_reducible refine (K2.out _ HP2.out.below).mono ?_); rintro e w3 ⟨v3, rfl, hO, hB⟩; have HP3 : Hid (OB w w3 v2 (x1 ++ [46])) := hidden (HP2.out.next hB); obtain ⟨A3, c3, hv, _, hr3, _⟩ := hO.read; rw [nums_len] at hv; subst hv; have HR3 := hidden hr3; clear hO hB hr3))
      | (at_builtin; refine walk_app (base := w.heap.size) rfl (.tmp 9) (.tmp 10) rfl Tryd.underlying22 info_u8 rfl (by decide) rfl rfl (HP1.out.own.alloc _) (Rd.new w1 5 (nums .u8 [46]) _ rfl) rfl (nums_one _ _) (Nat.le_trans HP1.out.below.size (below_alloc0 w1 _).size) (by simp only [List.length_append, nums_len, List.length_cons, List.length_nil]; omega) ?_; intro v2 w2 hO2 hg2 _; have HP2 := hidden (HP1.out.put (below_alloc0 w1 _) hO2 hg2); clear hO2 hg2)
      | (at_builtin; refine walk_app (base := w.heap.size) rfl (.tmp 13) (.tmp 15) rfl Tryd.underlying22 info_u8 rfl (by decide) rfl rfl HP3.out.own HR3.out (nums_len _ _) (nums_one _ _) HP3.out.below.size (by simp only [List.length_append, nums_len, List.length_cons, List.length_nil]; omega) ?_; intro v4 w4 hO4 hg4 _; have HP4 := hidden (HP3.out.put (Below.refl _ _) hO4 hg4); clear hO4 hg4))
    go_ret
    exact ⟨v4, rfl, HP4.out⟩
  | false =>
    simp only [Bool.false_eq_true, if_false]
    go_enter Tryd.func8, Tryd.ntmps8
    go_wp2_with (first
      | (go_at_call 12; ((with_reducible refine (K1.out _ (Below.refl _ _)).mono ?_); rintro e w1 ⟨v1, rfl, hO, hB⟩; have HP1 : Hid (OB w w1 v1 x1) := hidden ⟨hO, hB⟩; clear hO hB))
      | (at_builtin; refine walk_app (base := w.heap.size) rfl (.tmp 9) (.tmp 10) rfl Tryd.underlying22 info_u8 rfl (by decide) rfl rfl (HP1.out.own.alloc _) (Rd.new w1 5 (nums .u8 [46]) _ rfl) rfl (nums_one _ _) (Nat.le_trans HP1.out.below.size (below_alloc0 w1 _).size) (by simp only [List.length_append, nums_len, List.length_cons, List.length_nil]; omega) ?_; intro v2 w2 hO2 hg2 _; have HP2 := hidden (HP1.out.put (below_alloc0 w1 _) hO2 hg2); clear hO2 hg2)
      | (at_builtin; refine walk_app (base := w.heap.size) rfl (.tmp 17) (.tmp 18) rfl Tryd.underlying22 info_u8 rfl (by decide) rfl rfl HP2.out.own (H2.out.rd.below HP2.out.below (Nat.le_refl _)) (by rw [nums_len]; exact H2.out.len) (nums_one _ _) HP2.out.below.size (by simp only [List.length_append, nums_len, List.length_cons, List.length_nil]; omega) ?_; intro v4 w4 hO4 hg4 _; have HP4 := hidden (HP2.out.put (Below.refl _ _) hO4 hg4); clear hO4 hg4))
    go_ret
    exact ⟨v4, rfl, HP4.out⟩
set_option maxRecDepth 100000 in
set_option maxHeartbeats 4000000 in
theorem partJoined_calls (w : World) (A : Option Addr) (n c : Nat) (hd : List Int) (B : Option Addr) (m d : Nat) (pl : List Int) (C : Option Addr) (q f : Nat) (sg : List Int) (enc : Bool) (h1 : ArgB w A n c hd) (n1 : n ≤ 20000) (h2 : ArgB w B m d pl) (n2 : m ≤ 20000) (h3 : ArgB w C q f sg) (n3 : q ≤ 20000) :
    Calls Tryd.prog 7 #[.slice A n c, .slice B m d, .slice C q f, .bool enc] w fun e w' => ∃ v, e = .returned v ∧ OB w w' v (joinF enc hd pl sg) := by
  have K1 : Hid (∀ W, Below w.heap.size w W → Calls Tryd.prog 8 #[.slice A n c, .slice B m d, .bool enc] W fun e w' => ∃ v, e = .returned v ∧ OB W w' v (signF enc hd pl)) := hidden (fun W hB => partSigning_calls W A n c hd B m d pl enc (h1.below hB (Nat.le_refl _)) n1 (h2.below hB (Nat.le_refl _)) n2)
  have K2 : Hid (∀ W, Below w.heap.size w W → Calls Tryd.prog 12 #[.slice C q f] W (NewB W (encF (alpha true) sg))) := hidden (fun W hB => have hx := h3.below hB (Nat.le_refl _); partOf_calls C q f sg W hx.rd hx.len hx.isB hx.cap (by omega))
  have hx1 : (signF enc hd pl).length ≤ 200000 := by have := signF_len (enc := enc) (Nat.le_of_eq h1.len) (Nat.le_of_eq h2.len); omega
  have hx2 : (encF (alpha true) sg).length ≤ 200000 := by rw [encLen_eq, h3.len]; unfold encLen; omega
  obtain ⟨x1, hX1⟩ : ∃ x, x = signF enc hd pl := ⟨_, rfl⟩
  obtain ⟨x2, hX2⟩ : ∃ x, x = encF (alpha true) sg := ⟨_, rfl⟩
  rw [← hX1] at K1 hx1
  rw [← hX2] at K2 hx2
  unfold joinF
  rw [← hX1, ← hX2]
  clear hX1 hX2 h1 h2 h3
  go_enter Tryd.func7, Tryd.ntmps7
  go_wp2_with (first
    | (go_at_call 8; ((with_reducible refine (K1.out _ (Below.refl _ _)).mono ?_); rintro e w1 ⟨v1, rfl, hP⟩; have HP1 : Hid (OB w w1 v1 x1) := hidden hP; clear hP))
    | (go_at_call 12; ((with_reducible refine (K2.out _ HP2.out.below).mono ?_); rintro e w3 ⟨v3, rfl, hO, hB⟩; have HP3 : Hid (OB w w3 v2 (x1 ++ [46])) := hidden (HP2.out.next hB); obtain ⟨A3, c3, hv, _, hr3, _⟩ := hO.read; rw [nums_len] at hv; subst hv; have HR3 := hidden hr3; clear hO hB hr3))
    | (at_builtin; refine walk_app (base := w.heap.size) rfl (.tmp 13) (.tmp 14) rfl Tryd.underlying22 info_u8 rfl (by decide) rfl rfl (HP1.out.own.alloc _) (Rd.new w1 5 (nums .u8 [46]) _ rfl) rfl (nums_one _ _) (Nat.le_trans HP1.out.below.size (below_alloc0 w1 _).size) (by simp only [List.length_append, nums_len, List.length_cons, List.length_nil]; omega) ?_; intro v2 w2 hO2 hg2 _; have HP2 := hidden (HP1.out.put (below_alloc0 w1 _) hO2 hg2); clear hO2 hg2)
    | (at_builtin; refine walk_app (base := w.heap.size) rfl (.tmp 16) (.tmp 18) rfl Tryd.underlying22 info_u8 rfl (by decide) rfl rfl HP3.out.own HR3.out (nums_len _ _) (nums_one _ _) HP3.out.below.size (by simp only [List.length_append, nums_len, List.length_cons, List.length_nil]; omega) ?_; intro v4 w4 hO4 hg4 _; have HP4 := hidden (HP3.out.put (Below.refl _ _) hO4 hg4); clear hO4 hg4))
  go_ret
  exact ⟨v4, rfl, HP4.out⟩
end Go.Proofs.YtmibnnmampfalaaDoor
