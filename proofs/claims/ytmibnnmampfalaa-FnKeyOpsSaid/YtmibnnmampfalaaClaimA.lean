/- What a list of texts accepts. -/
import Derived.Test.YtmibnnmampfalaaStr
import Derived.Laws.Cover2
namespace Go.Proofs.Ytmibnnmampfalaa
open Go.RowKit
set_option linter.unusedVariables false
set_option linter.unusedSimpArgs false

/-- A new slice of texts. -/
def NewS (w : World) (l : List ByteArray) (e : Ending) (w' : World) : Prop := ∃ v, e = .returned v ∧ Own w' w.heap.size 9 v (strs l) ∧ Below w.heap.size w w'
theorem ownS_empty (w : World) : Own (w.alloc (.cells #[] 9)) w.heap.size 9 (.slice (some ⟨w.heap.size, 0, none⟩) 0 0) [] :=
  Own.of_row (vs := []) (rest := []) (Row.new w 9 []) (Nat.le_refl _) rfl (by simp [maxLen])
set_option maxHeartbeats 400000 in
theorem cloneS_calls (A : Option Addr) (n c : Nat) (l : List ByteArray) (w : World) (h : Rd w A (strs l)) (hn : l.length = n) (hc : n ≤ c) (hA : A = none → c = 0) (hb : n ≤ 100000) :
    Calls Try.prog 40 #[.slice A n c] w (NewS w l) := by
  subst hn
  cases A with
  | none =>
    have hc0 := hA rfl
    subst hc0
    have hl : l = [] := List.eq_nil_of_length_eq_zero (by omega)
    subst hl
    clear hA hc hb h
    have heq : ∀ W : World, (binOp .eql 48 (.slice none 0 0) (.slice none 0 0)).run Try.prog W = .ok (.bool true) W := fun W => Lib.run_eql_slice_nil W _ _ _ _ _ _ _ Try.underlying48
    simp only [List.length_nil]
    go_enter Try.func40, Try.ntmps40
    go_wp2
    go_ret
    exact ⟨.slice none 0 0, rfl, Own.nil _ _ _, Below.refl _ _⟩
  | some ad =>
    clear hA
    have heq : ∀ W : World, (binOp .eql 48 (.slice (some ad) l.length c) (.slice none 0 0)).run Try.prog W = .ok (.bool false) W := fun W => Lib.run_eql_slice_nil W _ _ _ _ _ _ _ Try.underlying48
    go_enter Try.func40, Try.ntmps40
    go_wp2_with (at_builtin; refine walk_app (base := w.heap.size) rfl (.tmp 5) (.tmp 6) rfl Try.underlying48 info_str rfl (by decide) rfl rfl (ownS_empty w) (h.alloc _) (strs_len _) (strs_one _) (by simp) (by simp [strs_len]; omega) ?_; intro v1 w1 HO1 hg1 _)
    go_ret
    exact ⟨v1, rfl, by simpa using HO1, below_app (below_alloc0 w _) hg1 (ownS_empty w) (Nat.le_refl _) (by simp)⟩
set_option maxHeartbeats 400000 in
theorem fits2_calls (A : Option Addr) (n c : Nat) (l : List ByteArray) (w : World) (h : Rd w A (strs l)) (hn : l.length = n) (r : Bool) (hr : r = true ↔ n ≤ 2147483647 ∧ ∀ x ∈ l, x.size ≤ 2147483647) (hb : n ≤ 9223372036854775807) :
    Calls Try.prog 36 #[.slice A n c] w fun e w' => e = .returned (.bool r) ∧ w = w' := by
  have Hr := hidden hr
  clear hr
  by_cases hbig : n ≤ 2147483647
  · go_enter Try.func36, Try.ntmps36
    go_wp2
    go_loop [10] (fun i => ∃ k : Nat, k ≤ n ∧ i = .int .i64 k ∧ Hid (∀ j (hj : j < l.length), j < k → (l[j]'hj).size ≤ 2147483647)) (fun i => n - (intOf i).toNat)
    case atStart => exact ⟨0, by omega, rfl, hidden (by omega)⟩
    case round =>
      obtain ⟨k, hk, rfl, hle⟩ := hrel
      by_cases hlt : k < n
      · have hlt' : k < l.length := by omega
        obtain ⟨b0, o0, rfl, _, c0⟩ := h.atS k hlt'
        have hx : Hid (∀ x, x = l[k] → x ∈ l) := hidden (fun x hx => hx ▸ List.getElem_mem _)
        have hsk : Hid (si l k = l[k]) := hidden (by simp [si, List.getD_eq_getElem?_getD, hlt'])
        generalize hs : si l k = s at *
        clear h
        by_cases h2 : s.size ≤ 2147483647
        · have h2i : ¬ (2147483647 : Int) < (s.size : Int) := by omega
          go_wp2
          go_round
          case rel =>
            refine ⟨k + 1, by omega, by go_num, hidden (fun j hj hjk => ?_)⟩
            rcases Nat.lt_succ_iff_lt_or_eq.1 hjk with h | rfl
            · exact hle.out j hj h
            · rw [← hsk.out]; exact h2
          case measure => simp [intOf]; omega
        · have h2i : (2147483647 : Int) < (s.size : Int) := by omega
          have hrf : r = false := by
            cases r with
            | false => rfl
            | true => exact absurd ((Hr.out.1 rfl).2 _ (hx.out _ hsk.out)) h2
          subst hrf
          go_wp2
          go_ret
          exact ⟨rfl, rfl⟩
      · obtain rfl : k = n := by omega
        have hrt : r = true := Hr.out.2 ⟨hbig, fun x hx => by
          obtain ⟨j, hj, rfl⟩ := List.mem_iff_getElem.1 hx
          exact hle.out j hj (by omega)⟩
        subst hrt
        go_wp2
        go_ret
        exact ⟨rfl, rfl⟩
  · have hrf : r = false := by
      cases r with
      | false => rfl
      | true => exact absurd (Hr.out.1 rfl).1 hbig
    subst hrf
    go_enter Try.func36, Try.ntmps36
    go_wp2
    go_ret
    exact ⟨rfl, rfl⟩
/-- A plain value, as it is handed over. -/
def plainV (k : Int) (t : ByteArray) (b : Bool) (m : Int) (A : Option Addr) (n c : Nat) : Value := .agg #[.int .i64 k, .string t, .bool b, .int .i32 m, .slice A n c]
set_option maxHeartbeats 400000 in
theorem fits1_calls (k : Int) (t : ByteArray) (b : Bool) (m : Int) (A : Option Addr) (n c : Nat) (l : List ByteArray) (w : World) (h : Rd w A (strs l)) (hn : l.length = n) (r : Bool) (hr : r = true ↔ t.size ≤ 2147483647 ∧ n ≤ 2147483647 ∧ ∀ x ∈ l, x.size ≤ 2147483647) (hb : n ≤ 9223372036854775807) :
    Calls Try.prog 30 #[plainV k t b m A n c] w fun e w' => e = .returned (.bool r) ∧ Below w.heap.size w w' := by
  unfold plainV
  have Hr := hidden hr
  clear hr
  by_cases ht : t.size ≤ 2147483647
  · have hti : ¬ (2147483647 : Int) < (t.size : Int) := by omega
    have Hr2 : Hid (r = true ↔ n ≤ 2147483647 ∧ ∀ x ∈ l, x.size ≤ 2147483647) := hidden (by rw [Hr.out]; simp [ht])
    cases r with
    | false =>
      go_enter Try.func30, Try.ntmps30
      go_wp2_with (go_at_call 36; go_must (refine (fits2_calls A n c l _ (h.alloc _) hn false Hr2.out hb).mono ?_; rintro e w1 ⟨rfl, rfl⟩))
      go_ret
      exact ⟨rfl, below_alloc0 _ _⟩
    | true =>
      go_enter Try.func30, Try.ntmps30
      go_wp2_with (go_at_call 36; go_must (refine (fits2_calls A n c l _ (h.alloc _) hn true Hr2.out hb).mono ?_; rintro e w1 ⟨rfl, rfl⟩))
      go_ret
      exact ⟨rfl, below_alloc0 _ _⟩
  · have hti : (2147483647 : Int) < (t.size : Int) := by omega
    have hrf : r = false := by
      cases r with
      | false => rfl
      | true => exact absurd (Hr.out.1 rfl).1 ht
    subst hrf
    go_enter Try.func30, Try.ntmps30
    go_wp2
    go_ret
    exact ⟨rfl, below_alloc0 _ _⟩
/-! The value as an interface, and what the list makes of it. -/
theorem newErrS_calls (s : ByteArray) (w : World) :
    Calls Try.prog 75 #[.string s] w fun e w' => e = .returned (.iface 123 (.pointer (some ⟨w.heap.size, 0, none⟩))) ∧ Below w.heap.size w w' := by
  go_enter Try.func75, Try.ntmps75
  go_wp2
  go_ret
  exact ⟨rfl, below_alloc0 _ _⟩
set_option maxHeartbeats 1000000 in
theorem value0_calls (t : ByteArray) (b : Bool) (m : Int) (A : Option Addr) (n c : Nat) (w : World) :
    Calls Try.prog 59 #[plainV 0 t b m A n c] w fun e w' => e = .returned (.iface 9 (.string t)) ∧ Below w.heap.size w w' := by
  unfold plainV
  go_enter Try.func59, Try.ntmps59
  go_wp2
  go_ret
  exact ⟨rfl, below_alloc0 _ _⟩
set_option maxHeartbeats 1000000 in
theorem value1_calls (t : ByteArray) (b : Bool) (m : Int) (A : Option Addr) (n c : Nat) (w : World) :
    Calls Try.prog 59 #[plainV 1 t b m A n c] w fun e w' => e = .returned (.iface 4 (.bool b)) ∧ Below w.heap.size w w' := by
  unfold plainV
  go_enter Try.func59, Try.ntmps59
  go_wp2
  go_ret
  exact ⟨rfl, below_alloc0 _ _⟩
set_option maxHeartbeats 1000000 in
theorem value2_calls (t : ByteArray) (b : Bool) (m : Int) (A : Option Addr) (n c : Nat) (w : World) :
    Calls Try.prog 59 #[plainV 2 t b m A n c] w fun e w' => (∃ f, e = .returned (.iface 106 f)) ∧ Below w.heap.size w w' := by
  obtain ⟨f, hf⟩ : ∃ f, ∀ W : World, (convert 21 106 (.int .i32 m)).run Try.prog W = .ok f W := ⟨_, fun W => run_convert_int_float W _ _ _ _ _ (by kernel_rfl) Try.underlying106⟩
  unfold plainV
  go_enter Try.func59, Try.ntmps59
  go_wp2
  go_ret
  exact ⟨⟨_, rfl⟩, below_alloc0 _ _⟩
set_option maxHeartbeats 1000000 in
theorem value3_calls (t : ByteArray) (b : Bool) (m : Int) (A : Option Addr) (n c : Nat) (l : List ByteArray) (w : World) (h : Rd w A (strs l)) (hn : l.length = n) (hb : n ≤ 100000) :
    Calls Try.prog 59 #[plainV 3 t b m A n c] w fun e w' => ∃ v, e = .returned (.iface 48 v) ∧ Own w' w.heap.size 9 v (strs l) ∧ Below w.heap.size w w' := by
  unfold plainV
  have hz := ownS_empty (w.alloc (.cells #[.int .i64 3, .string t, .bool b, .int .i32 m, .slice A n c] 50))
  rw [World.size_alloc] at hz
  go_enter Try.func59, Try.ntmps59
  go_wp2_with (at_builtin; go_must (refine walk_app (v := .slice (some ⟨w.heap.size + 1, 0, none⟩) 0 0) (base := w.heap.size + 1) rfl (.tmp 23) (.tmp 25) rfl Try.underlying48 info_str rfl (by decide) rfl rfl hz ((h.alloc _).alloc _) (by rw [strs_len]; exact hn) (strs_one _) (by simp) (by simp [strs_len]; omega) ?_); intro v1 w1 HO1 hg1 _)
  go_ret
  have hB1 : Below w.heap.size w w1 := ((below_alloc0 w _).alloc (by simp) _).grown hg1 (by simp; omega) (fun k hk => by have := (hz.lt k hk).1; omega)
  exact ⟨v1, rfl, by simpa using HO1.lower (by omega), hB1⟩
end Go.Proofs.Ytmibnnmampfalaa
