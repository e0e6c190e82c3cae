/- KeyOps of impl, and the operations of the reference. -/
import Derived.Test.YtmibnnmampfalaaKeyB
namespace Go.Proofs.Ytmibnnmampfalaa
open Go.RowKit
set_option linter.unusedVariables false
set_option linter.unusedSimpArgs false

theorem strs_take (l : List ByteArray) (k : Nat) (h : k < l.length) : strs (l.take k) ++ strs [si l k] = strs (l.take (k + 1)) := by
  unfold strs
  rw [List.take_succ_eq_append_getElem h, List.map_append]
  simp [si, List.getD_eq_getElem?_getD, h]
theorem left_of {p q : Prop} (h : (true = true ∧ p) ∨ (true = false ∧ q)) : p := by
  rcases h with h | h
  · exact h.2
  · cases h.1
theorem right_of {p q : Prop} (h : (false = true ∧ p) ∨ (false = false ∧ q)) : q := by
  rcases h with h | h
  · cases h.1
  · exact h.2
/-- No operation of the standard. -/
def notOp (x : ByteArray) : Bool := ops8.all fun y => !decide (x = y)
theorem notOp_iff (x : ByteArray) : notOp x = true ↔ x ∉ ops8 := by
  unfold notOp
  rw [List.all_eq_true]
  constructor
  · intro h hx
    have := h x hx
    simp at this
  · intro h y hy
    have : x ≠ y := fun e => h (e ▸ hy)
    simp [this]
set_option maxHeartbeats 1000000 in
theorem operations_calls (A : Option Addr) (n c : Nat) (l : List ByteArray) (w : World) (h : Rd w A (strs l)) (hn : l.length = n) (hb : n ≤ 100000) :
    Calls Try.prog 65 #[.slice A n c] w (NewS w l) := by
  have Hh := hidden h
  have Hl := hidden hn
  clear h hn
  go_enter Try.func65, Try.ntmps65
  go_wp2
  go_loopw [3, 8] (fun v i wr => ∃ k : Nat, k ≤ n ∧ i = .int .i64 k ∧ Hid (Own wr w.heap.size 9 v (strs (l.take k))) ∧ Hid (Below w.heap.size w wr)) (fun _ i _ => n - (intOf i).toNat)
  case atStart => exact ⟨0, by omega, rfl, hidden (Own.nil _ _ _), hidden (Below.refl _ _)⟩
  case round =>
    obtain ⟨k, hk, rfl, HO, HB⟩ := hrel
    by_cases hlt : k < n
    · obtain ⟨b0, o0, rfl, hlt0, c0⟩ := Hh.out.atS k (by rw [Hl.out]; exact hlt)
      have c1 : wr.cell? ⟨b0, o0 + k, none⟩ = some (.string (si l k)) := (HB.out.cell (p := ⟨b0, o0 + k, none⟩) hlt0).trans c0
      have Ht := hidden (strs_take l k (by rw [Hl.out]; exact hlt))
      have Hlen : Hid ((strs (l.take k)).length = k) := hidden (by rw [strs_len, List.length_take, Hl.out]; omega)
      clear c0 hlt0
      generalize hs : si l k = s at *
      clear hs
      go_wp2_with (at_builtin; refine walk_app (base := w.heap.size) rfl (.tmp 12) (.tmp 14) rfl Try.underlying48 info_str rfl (by decide) rfl rfl (HO.out.alloc _) (Rd.new wr 9 (strs [s]) _ rfl) rfl (strs_one _) (Nat.le_trans HB.out.size (below_alloc0 wr _).size) (by rw [Hlen.out]; simp [strs]; omega) ?_; intro v2 w2 hO2 hg2 _; have HO2 := hidden hO2; rw [Ht.out] at HO2; have HB2 := hidden (below_app (below_next HB.out (below_alloc0 wr _)) hg2 (HO.out.alloc _) (Nat.le_refl _) (Nat.le_trans HB.out.size (below_alloc0 wr _).size)); clear hO2 hg2)
      go_roundw
      case rel => exact ⟨k + 1, by omega, by go_num, HO2, HB2⟩
      case measure => simp [intOf]; omega
    · obtain rfl : k = n := by omega
      have Htake : Hid (l.take k = l) := hidden (List.take_of_length_le (by rw [Hl.out]; omega))
      rw [Htake.out] at HO
      go_wp2
      go_ret
      exact ⟨_, rfl, HO.out, HB.out⟩
theorem getOps_calls (g : Nat) (v : Value) (w : World) (HR : Row w g 86 [v]) :
    Calls Try.prog 66 #[.pointer (some ⟨g, 0, none⟩)] w fun e w' => e = .returned v ∧ w = w' := by
  have c0 := HR.cell 0
  clear HR
  go_enter Try.func66, Try.ntmps66
  go_wp2
  go_ret
  exact ⟨rfl, rfl⟩
/-- What KeyOps hands back. -/
def KOPost (w : World) (l : List ByteArray) (r : Bool) (e : Ending) (w' : World) : Prop := Below w.heap.size w w' ∧ ∃ A n c, e = .returned (.tuple #[.slice A n c, .bool r]) ∧ (r = true → Rd w' A (strs l) ∧ l.length = n)
set_option maxHeartbeats 1000000 in
theorem keyOps_calls (A : Option Addr) (n c : Nat) (l : List ByteArray) (w : World) (h : Rd w A (strs l)) (hn : l.length = n) (hb : n ≤ 100000) (r : Bool) (hr : r = true ↔ ∀ x ∈ l, x ∈ ops8) :
    Calls Try.prog 43 #[.slice A n c] w (KOPost w l r) := by
  have Hh := hidden h
  have Hl := hidden hn
  have Hr := hidden hr
  clear h hn hr
  have hz := ownS_empty (w.alloc (.cells #[.slice none 0 0] 86))
  rw [World.size_alloc] at hz
  have HZ := hidden hz
  clear hz
  have HR0 : Hid (Row ((w.alloc (.cells #[.slice none 0 0] 86)).alloc (.cells #[] 9)) w.heap.size 86 [.slice none 0 0]) := hidden ((Row.new w _ [.slice none 0 0]).alloc _)
  have HB0 : Hid (Below w.heap.size w ((w.alloc (.cells #[.slice none 0 0] 86)).alloc (.cells #[] 9))) := hidden ((below_alloc0 w _).alloc (by simp) _)
  cases r with
  | true =>
    go_enter Try.func43, Try.ntmps43
    go_wp2_with (first
      | (at_builtin; go_must (refine walk_app (v := .slice (some ⟨w.heap.size + 1, 0, none⟩) 0 0) (base := w.heap.size + 1) rfl (.tmp 5) (.tmp 6) rfl Try.underlying48 info_str rfl (by decide) rfl rfl HZ.out ((Hh.out.alloc _).alloc _) (by rw [strs_len]; exact Hl.out) (strs_one _) (by simp) (by simp [strs_len]; rw [Hl.out]; omega) ?_); intro v1 w1 hO1 hg1 _; have HB1 := hidden (HB0.out.grown hg1 (by simp; omega) (fun k hk => by have := (HZ.out.lt k hk).1; omega)); have HR1 := hidden (HR0.out.grown hg1 (fun e => by have := (HZ.out.lt _ e.symm).1; omega)); rw [List.nil_append] at hO1; obtain ⟨A1, c1, rfl, _, hr1, _⟩ := hO1.read; rw [strs_len, Hl.out]; have Hr1 := hidden hr1; clear hO1 hg1 hr1)
      | (go_at_call 64; go_must (refine (acceptOps_calls w.heap.size _ A1 n c1 l w1 HR1.out Hr1.out Hl.out hb true Hr.out).mono ?_); intro e w2 hpost; obtain ⟨rfl, hR2, hL2, hg2⟩ := left_of hpost; clear hpost; have HR2 := hidden hR2; have HL2 := hidden (Rd.row hL2); have HB2 := hidden (HB1.out.grown hg2 HB1.out.size (by rintro k ⟨⟩; exact Nat.le_refl _)); clear hR2 hL2 hg2)
      | (go_at_call 66; go_must (refine (getOps_calls w.heap.size _ w2 HR2.out).mono ?_; rintro e w3 ⟨rfl, rfl⟩))
      | (go_at_call 65; go_must (refine (operations_calls _ n _ l w2 HL2.out Hl.out hb).mono ?_; rintro e w4 ⟨v4, rfl, hO4, hB4⟩; obtain ⟨A4, c4, rfl, _, hr4, _⟩ := hO4.read; rw [strs_len, Hl.out]; have HO4 := hidden hr4; have HB4 := hidden (below_next HB2.out hB4); clear hO4 hB4 hr4)))
    go_ret2
    exact ⟨HB4.out, _, _, _, rfl, fun _ => ⟨HO4.out, Hl.out⟩⟩
  | false =>
    go_enter Try.func43, Try.ntmps43
    go_wp2_with (first
      | (at_builtin; go_must (refine walk_app (v := .slice (some ⟨w.heap.size + 1, 0, none⟩) 0 0) (base := w.heap.size + 1) rfl (.tmp 5) (.tmp 6) rfl Try.underlying48 info_str rfl (by decide) rfl rfl HZ.out ((Hh.out.alloc _).alloc _) (by rw [strs_len]; exact Hl.out) (strs_one _) (by simp) (by simp [strs_len]; rw [Hl.out]; omega) ?_); intro v1 w1 hO1 hg1 _; have HB1 := hidden (HB0.out.grown hg1 (by simp; omega) (fun k hk => by have := (HZ.out.lt k hk).1; omega)); have HR1 := hidden (HR0.out.grown hg1 (fun e => by have := (HZ.out.lt _ e.symm).1; omega)); rw [List.nil_append] at hO1; obtain ⟨A1, c1, rfl, _, hr1, _⟩ := hO1.read; rw [strs_len, Hl.out]; have Hr1 := hidden hr1; clear hO1 hg1 hr1)
      | (go_at_call 64; go_must (refine (acceptOps_calls w.heap.size _ A1 n c1 l w1 HR1.out Hr1.out Hl.out hb false Hr.out).mono ?_); intro e w2 hpost; obtain ⟨⟨a2, rfl⟩, hB2⟩ := right_of hpost; clear hpost; have HB2 := hidden (below_next HB1.out hB2); clear hB2))
    go_ret2
    exact ⟨HB2.out, _, _, _, rfl, fun h => by cases h⟩
theorem ops8_calls (w : World) :
    Calls Try.prog 67 #[] w fun e w' => e = .returned (.slice (some ⟨w.heap.size, 0, none⟩) 8 8) ∧ Row w' w.heap.size 9 (strs ops8) ∧ Below w.heap.size w w' := by
  go_enter Try.func67, Try.ntmps67
  go_wp2
  go_ret
  exact ⟨rfl, Row.new w _ (strs ops8), below_alloc0 _ _⟩
set_option maxHeartbeats 1000000 in
theorem predOps (b9 g8 : Nat) (w : World) (h9 : Row w b9 48 [.slice (some ⟨g8, 0, none⟩) 8 8]) (h8 : Row w g8 9 (strs ops8)) :
    PredS 68 #[.pointer (some ⟨b9, 0, none⟩)] notOp w := by
  intro W x hB
  have c9 := (h9.below hB h9.lt).cell 0
  have K := hidden (fun r hr => containsS_calls (some ⟨g8, 0, none⟩) 8 8 ops8 x W (Rd.row (h8.below hB h8.lt)) rfl (by omega) r hr)
  have HB := hidden hB
  clear hB h8 h9
  have Hd : Hid (∀ r : Bool, (r = true ↔ x ∈ ops8) → (!r) = notOp x) := hidden (fun r hr => by
    have h1 := notOp_iff x
    rw [Bool.eq_iff_iff, h1, ← hr]; simp)
  obtain ⟨r, hr⟩ : ∃ r : Bool, r = true ↔ x ∈ ops8 := ⟨!notOp x, by have h1 := notOp_iff x; by_cases hx : x ∈ ops8 <;> simp [hx] at h1 ⊢ <;> exact h1⟩
  have e := Hd.out r hr
  have K2 := hidden (K.out r hr)
  rw [← e]
  clear e hr K Hd
  simp only [List.append_toArray, List.cons_append, List.nil_append]
  go_enter Try.func68, Try.ntmps68
  go_wp2_with (go_at_call 69; go_must (refine K2.out.mono ?_; rintro e w1 ⟨rfl, hB1⟩))
  go_ret
  exact ⟨rfl, below_next HB.out hB1⟩
set_option maxHeartbeats 1000000 in
theorem specOps_calls (A : Option Addr) (n c : Nat) (l : List ByteArray) (w : World) (h : Rd w A (strs l)) (hn : l.length = n) (hb : n ≤ 100000) (r : Bool) (hr : r = true ↔ ∀ x ∈ l, x ∈ ops8) :
    Calls Try.prog 44 #[.slice A n c] w fun e w' => e = .returned (.bool r) ∧ Below w.heap.size w w' := by
  have Hq : Hid (l.any notOp = !r) := hidden (by
    rw [Bool.eq_iff_iff, List.any_eq_true]
    cases r with
    | true =>
      constructor
      · rintro ⟨x, hx, h⟩
        exact ((notOp_iff x).1 h (hr.1 rfl x hx)).elim
      · intro h; simp at h
    | false =>
      constructor
      · intro _; rfl
      · intro _
        refine Classical.byContradiction fun hno => ?_
        have := hr.2 (fun x hx => Classical.byContradiction fun hn => hno ⟨x, hx, (notOp_iff x).2 hn⟩)
        cases this)
  have Hh := hidden h
  have Hl := hidden hn
  clear h hn hr
  have K : Hid (∀ W b9 g8, Below w.heap.size w W → Row W b9 48 [.slice (some ⟨g8, 0, none⟩) 8 8] → Row W g8 9 (strs ops8) → Calls Try.prog 37 #[.slice A n c, .func (.func 68) #[] #[.pointer (some ⟨b9, 0, none⟩)]] W fun e w' => e = .returned (.bool (!r)) ∧ Below W.heap.size W w') := hidden (fun W b9 g8 hB h9 h8 => containsFnS_calls b9 _ A n c l W (predOps b9 g8 W h9 h8) (Hh.out.below hB (Nat.le_refl _)) Hl.out (by omega) _ Hq.out)
  go_enter Try.func44, Try.ntmps44
  go_wp2_with (first
    | (go_at_call 67; go_must (refine (ops8_calls _).mono ?_; rintro e w1 ⟨rfl, hR1, hB1⟩; have HR1 := hidden hR1; have HB1 := hidden hB1; clear hR1 hB1))
    | (go_at_call 37; go_must (refine (K.out _ w1.heap.size w.heap.size ((HB1.out.alloc HB1.out.size _)) (Row.new w1 _ [.slice (some ⟨w.heap.size, 0, none⟩) 8 8]) (HR1.out.alloc _)).mono ?_; rintro e w2 ⟨rfl, hB2⟩)))
  go_ret
  exact ⟨by simp, below_next (HB1.out.alloc HB1.out.size _) hB2⟩
set_option maxHeartbeats 1000000 in
theorem opsLive_calls (w : World) :
    Calls Try.prog 39 #[] w fun e w' => e = .returned (.bool true) ∧ Below w.heap.size w w' := by
  have K1 : Hid (Calls Try.prog 43 #[.slice (some ⟨w.heap.size, 0, none⟩) 2 2] (w.alloc (.cells #[.string ⟨#[115, 105, 103, 110]⟩, .string ⟨#[118, 101, 114, 105, 102, 121]⟩] 9)) (KOPost (w.alloc (.cells #[.string ⟨#[115, 105, 103, 110]⟩, .string ⟨#[118, 101, 114, 105, 102, 121]⟩] 9)) [⟨#[115, 105, 103, 110]⟩, ⟨#[118, 101, 114, 105, 102, 121]⟩] true)) := hidden (keyOps_calls _ 2 2 _ _ (Rd.new w 9 (strs [⟨#[115, 105, 103, 110]⟩, ⟨#[118, 101, 114, 105, 102, 121]⟩]) _ rfl) rfl (by omega) true (by simp [ops8]))
  have K2 : Hid (∀ W : World, Calls Try.prog 43 #[.slice (some ⟨W.heap.size, 0, none⟩) 1 1] (W.alloc (.cells #[.string ⟨#[102, 108, 121]⟩] 9)) (KOPost (W.alloc (.cells #[.string ⟨#[102, 108, 121]⟩] 9)) [⟨#[102, 108, 121]⟩] false)) := hidden (fun W => keyOps_calls _ 1 1 _ _ (Rd.new W 9 (strs [⟨#[102, 108, 121]⟩]) _ rfl) rfl (by omega) false (by simp [ops8]))
  go_enter Try.func39, Try.ntmps39
  go_wp2_with (first
    | (go_at_call 43; go_loud (first
      | ((with_reducible refine (K1.out).mono ?_); rintro e w1 ⟨hB1, A1, n1, c1, rfl, hR1⟩; obtain ⟨hQ1, rfl⟩ := hR1 rfl; have HB1 := hidden (below_next (below_alloc0 w _) hB1); have HR1 := hidden hQ1; clear hB1 hR1 hQ1)
      | ((with_reducible refine (K2.out _).mono ?_); rintro e w2 ⟨hB2, A2, n2, c2, rfl, _⟩; have HB2 := hidden (below_next (HB1.out.alloc HB1.out.size _) hB2); have HR2 := hidden ((HR1.out.alloc (.cells #[.string ⟨#[102, 108, 121]⟩] 9)).below hB2 (Nat.le_refl _)); clear hB2)))
    | (go_at_call 35; go_must (refine (equalS_calls A1 _ 2 c1 2 2 [⟨#[115, 105, 103, 110]⟩, ⟨#[118, 101, 114, 105, 102, 121]⟩] [⟨#[115, 105, 103, 110]⟩, ⟨#[118, 101, 114, 105, 102, 121]⟩] _ (HR2.out.alloc _) rfl (Rd.new w2 9 (strs [⟨#[115, 105, 103, 110]⟩, ⟨#[118, 101, 114, 105, 102, 121]⟩]) _ rfl) rfl (by omega) true (by simp)).mono ?_; rintro e w3 ⟨rfl, hB3⟩)))
  go_ret
  exact ⟨rfl, below_next (HB2.out.alloc HB2.out.size _) hB3⟩
end Go.Proofs.Ytmibnnmampfalaa
