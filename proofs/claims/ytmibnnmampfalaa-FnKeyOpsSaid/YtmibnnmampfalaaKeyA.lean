/- ContainsFunc of texts, Index and Contains; the operations of the standard. -/
import Derived.Test.YtmibnnmampfalaaClaimA
namespace Go.Proofs.Ytmibnnmampfalaa
open Go.RowKit
set_option linter.unusedVariables false
set_option linter.unusedSimpArgs false

/-- What is asked of a predicate over texts. -/
def PredS (g : Nat) (lb : Array Value) (p : ByteArray → Bool) (w : World) : Prop :=
  ∀ (W : World) (x : ByteArray), Below w.heap.size w W → Calls Try.prog g (#[.string x] ++ lb) W fun e w' => e = .returned (.bool (p x)) ∧ Below w.heap.size w w'
theorem any_no {p : ByteArray → Bool} {l : List ByteArray} (h : ∀ j, j < l.length → p (si l j) = false) : l.any p = false := by
  rw [List.any_eq_false]
  intro x hx
  obtain ⟨j, hj, rfl⟩ := List.mem_iff_getElem.1 hx
  have := h j hj
  simpa [si, List.getD_eq_getElem?_getD, hj] using this
theorem any_yes {p : ByteArray → Bool} {l : List ByteArray} {k : Nat} (hk : k < l.length) (h : p (si l k) = true) : l.any p = true := by
  rw [List.any_eq_true]
  exact ⟨si l k, by simp [si, List.getD_eq_getElem?_getD, hk], h⟩
/-- The place that is found, or -1. -/
def IdxPost (w : World) (b : Bool) (e : Ending) (w' : World) : Prop := ∃ i : Int, e = .returned (.int .i64 i) ∧ decide (0 ≤ i) = b ∧ Below w.heap.size w w'
set_option maxHeartbeats 1000000 in
theorem indexFnK_calls (p : ByteArray → Bool) (A : Option Addr) (n c : Nat) (l : List ByteArray) (w : World) (hp : PredS 38 #[] p w) (h : Rd w A (strs l)) (hn : l.length = n) (hb : n ≤ 140737488355328) :
    Calls Try.prog 61 #[.slice A n c, .func (.func 38) #[] #[]] w (IdxPost w (l.any p)) := by
  have Hp := hidden hp
  have Hh := hidden h
  have Hl := hidden hn
  clear hp h hn
  go_enter Try.func61, Try.ntmps61
  go_wp2
  go_loopw [8] (fun i wr => ∃ k : Nat, k ≤ n ∧ i = .int .i64 k ∧ Hid (Below w.heap.size w wr) ∧ Hid (∀ j, j < k → p (si l j) = false)) (fun i _ => n - (intOf i).toNat)
  case atStart => exact ⟨0, by omega, rfl, hidden (Below.refl _ _), hidden (by omega)⟩
  case round =>
    obtain ⟨k, hk, rfl, BW, HA⟩ := hrel
    by_cases hlt : k < n
    · have hlt' := hidden (show k < l.length by rw [Hl.out]; exact hlt)
      obtain ⟨b0, o0, rfl, hlt0, c0⟩ := Hh.out.atS k hlt'.out
      have c1 : wr.cell? ⟨b0, o0 + k, none⟩ = some (.string (si l k)) := (BW.out.cell (p := ⟨b0, o0 + k, none⟩) hlt0).trans c0
      have hcall := Hp.out wr (si l k) BW.out
      have Hany := hidden (any_yes (p := p) hlt'.out)
      have HB0 := hidden hlt0
      clear c0 hlt0
      generalize hs : si l k = s at c1 hcall Hany
      have Hs := hidden hs
      clear hs
      cases hq : p s with
      | true =>
        rw [hq] at hcall
        have Hq := hidden hq
        clear hq
        go_wp2_with (go_at_call 38; refine hcall.mono ?_; rintro e w' ⟨rfl, hb'⟩)
        go_ret
        exact ⟨_, rfl, by rw [Hany.out Hq.out]; exact decide_eq_true (by omega), hb'⟩
      | false =>
        rw [hq] at hcall
        have Hq := hidden hq
        clear hq
        go_wp2_with (go_at_call 38; refine hcall.mono ?_; rintro e w' ⟨rfl, hb'⟩)
        go_roundw
        case rel => exact ⟨k + 1, by omega, by go_num, hidden hb', hidden (fun j hj => by rcases Nat.lt_succ_iff_lt_or_eq.1 hj with h | rfl; exact HA.out j h; rw [Hs.out]; exact Hq.out)⟩
        case measure => simp [intOf]; omega
    · obtain rfl : k = n := by omega
      have hno := hidden (any_no (p := p) (l := l) (fun j hj => HA.out j (by rw [← Hl.out]; exact hj)))
      go_wp2
      go_ret
      exact ⟨_, rfl, by rw [hno.out]; rfl, BW.out⟩
set_option maxHeartbeats 1000000 in
theorem containsFnK_calls (p : ByteArray → Bool) (A : Option Addr) (n c : Nat) (l : List ByteArray) (w : World) (hp : PredS 38 #[] p w) (h : Rd w A (strs l)) (hn : l.length = n) (hb : n ≤ 140737488355328) (r : Bool) (hr : l.any p = r) :
    Calls Try.prog 37 #[.slice A n c, .func (.func 38) #[] #[]] w fun e w' => e = .returned (.bool r) ∧ Below w.heap.size w w' := by
  have K := hidden (indexFnK_calls  p A n c l w hp h hn hb)
  rw [hr] at K
  clear hp h hr hn
  go_enter Try.func37, Try.ntmps37
  go_wp2_with (go_at_call 61; go_must (refine K.out.mono ?_; rintro e w1 ⟨i, rfl, hi, hB⟩; have Hi := hidden hi; clear hi))
  go_ret
  exact ⟨by rw [← Hi.out]; rfl, hB⟩
set_option maxHeartbeats 1000000 in
theorem indexFnS_calls (b9 : Nat) (p : ByteArray → Bool) (A : Option Addr) (n c : Nat) (l : List ByteArray) (w : World) (hp : PredS 68 #[.pointer (some ⟨b9, 0, none⟩)] p w) (h : Rd w A (strs l)) (hn : l.length = n) (hb : n ≤ 140737488355328) :
    Calls Try.prog 61 #[.slice A n c, .func (.func 68) #[] #[.pointer (some ⟨b9, 0, none⟩)]] w (IdxPost w (l.any p)) := by
  have Hp := hidden hp
  have Hh := hidden h
  have Hl := hidden hn
  clear hp h hn
  go_enter Try.func61, Try.ntmps61
  go_wp2
  go_loopw [8] (fun i wr => ∃ k : Nat, k ≤ n ∧ i = .int .i64 k ∧ Hid (Below w.heap.size w wr) ∧ Hid (∀ j, j < k → p (si l j) = false)) (fun i _ => n - (intOf i).toNat)
  case atStart => exact ⟨0, by omega, rfl, hidden (Below.refl _ _), hidden (by omega)⟩
  case round =>
    obtain ⟨k, hk, rfl, BW, HA⟩ := hrel
    by_cases hlt : k < n
    · have hlt' := hidden (show k < l.length by rw [Hl.out]; exact hlt)
      obtain ⟨b0, o0, rfl, hlt0, c0⟩ := Hh.out.atS k hlt'.out
      have c1 : wr.cell? ⟨b0, o0 + k, none⟩ = some (.string (si l k)) := (BW.out.cell (p := ⟨b0, o0 + k, none⟩) hlt0).trans c0
      have hcall := Hp.out wr (si l k) BW.out
      have Hany := hidden (any_yes (p := p) hlt'.out)
      have HB0 := hidden hlt0
      clear c0 hlt0
      generalize hs : si l k = s at c1 hcall Hany
      have Hs := hidden hs
      clear hs
      cases hq : p s with
      | true =>
        rw [hq] at hcall
        have Hq := hidden hq
        clear hq
        go_wp2_with (go_at_call 68; refine hcall.mono ?_; rintro e w' ⟨rfl, hb'⟩)
        go_ret
        exact ⟨_, rfl, by rw [Hany.out Hq.out]; exact decide_eq_true (by omega), hb'⟩
      | false =>
        rw [hq] at hcall
        have Hq := hidden hq
        clear hq
        go_wp2_with (go_at_call 68; refine hcall.mono ?_; rintro e w' ⟨rfl, hb'⟩)
        go_roundw
        case rel => exact ⟨k + 1, by omega, by go_num, hidden hb', hidden (fun j hj => by rcases Nat.lt_succ_iff_lt_or_eq.1 hj with h | rfl; exact HA.out j h; rw [Hs.out]; exact Hq.out)⟩
        case measure => simp [intOf]; omega
    · obtain rfl : k = n := by omega
      have hno := hidden (any_no (p := p) (l := l) (fun j hj => HA.out j (by rw [← Hl.out]; exact hj)))
      go_wp2
      go_ret
      exact ⟨_, rfl, by rw [hno.out]; rfl, BW.out⟩
set_option maxHeartbeats 1000000 in
theorem containsFnS_calls (b9 : Nat) (p : ByteArray → Bool) (A : Option Addr) (n c : Nat) (l : List ByteArray) (w : World) (hp : PredS 68 #[.pointer (some ⟨b9, 0, none⟩)] p w) (h : Rd w A (strs l)) (hn : l.length = n) (hb : n ≤ 140737488355328) (r : Bool) (hr : l.any p = r) :
    Calls Try.prog 37 #[.slice A n c, .func (.func 68) #[] #[.pointer (some ⟨b9, 0, none⟩)]] w fun e w' => e = .returned (.bool r) ∧ Below w.heap.size w w' := by
  have K := hidden (indexFnS_calls b9 p A n c l w hp h hn hb)
  rw [hr] at K
  clear hp h hr hn
  go_enter Try.func37, Try.ntmps37
  go_wp2_with (go_at_call 61; go_must (refine K.out.mono ?_; rintro e w1 ⟨i, rfl, hi, hB⟩; have Hi := hidden hi; clear hi))
  go_ret
  exact ⟨by rw [← Hi.out]; rfl, hB⟩
set_option maxHeartbeats 1000000 in
theorem indexS_calls (A : Option Addr) (n c : Nat) (l : List ByteArray) (x : ByteArray) (w : World) (h : Rd w A (strs l)) (hn : l.length = n) (hb : n ≤ 140737488355328) (r : Bool) (hr : r = true ↔ x ∈ l) :
    Calls Try.prog 88 #[.slice A n c, .string x] w (IdxPost w r) := by
  have Hn : Hid (∀ k, k < n → si l k ∈ l) := hidden (fun k hk => by simp [si, List.getD_eq_getElem?_getD, show k < l.length by omega])
  have Hh := hidden h
  have Hr := hidden hr
  have Hl := hidden hn
  clear h hr hn
  go_enter Try.func88, Try.ntmps88
  go_wp2
  go_loop [8] (fun i => ∃ k : Nat, k ≤ n ∧ i = .int .i64 k ∧ Hid (∀ j, j < k → si l j ≠ x)) (fun i => n - (intOf i).toNat)
  case atStart => exact ⟨0, by omega, rfl, hidden (by omega)⟩
  case round =>
    obtain ⟨k, hk, rfl, HA⟩ := hrel
    by_cases hlt : k < n
    · obtain ⟨b0, o0, rfl, _, c0⟩ := Hh.out.atS k (by rw [Hl.out]; exact hlt)
      have hq := bytes_eq x (si l k)
      have hm := hidden (Hn.out k hlt)
      by_cases hg : x = si l k
      · rw [decide_eq_true hg] at hq
        obtain rfl : r = true := Hr.out.2 (by rw [hg]; exact hm.out)
        clear hg
        generalize si l k = s at *
        go_wp2
        go_ret
        exact ⟨_, rfl, decide_eq_true (by omega), Below.refl _ _⟩
      · rw [decide_eq_false hg] at hq
        have Hg := hidden hg
        clear hg
        generalize hs : si l k = s at *
        have Hs := hidden hs
        clear hs
        go_wp2
        go_round
        case rel => exact ⟨k + 1, by omega, by go_num, hidden (fun j hj => by rcases Nat.lt_succ_iff_lt_or_eq.1 hj with h | rfl; exact HA.out j h; rw [Hs.out]; exact fun e => Hg.out e.symm)⟩
        case measure => simp [intOf]; omega
    · obtain rfl : k = n := by omega
      obtain rfl : r = false := by
        cases r with
        | false => rfl
        | true =>
          obtain ⟨j, hj, e⟩ := List.mem_iff_getElem.1 (Hr.out.1 rfl)
          exact (HA.out j (by rw [← Hl.out]; exact hj) (by rw [← e]; simp [si, List.getD_eq_getElem?_getD, hj])).elim
      go_wp2
      go_ret
      exact ⟨_, rfl, rfl, Below.refl _ _⟩
set_option maxHeartbeats 1000000 in
theorem containsS_calls (A : Option Addr) (n c : Nat) (l : List ByteArray) (x : ByteArray) (w : World) (h : Rd w A (strs l)) (hn : l.length = n) (hb : n ≤ 140737488355328) (r : Bool) (hr : r = true ↔ x ∈ l) :
    Calls Try.prog 69 #[.slice A n c, .string x] w fun e w' => e = .returned (.bool r) ∧ Below w.heap.size w w' := by
  have K := hidden (indexS_calls A n c l x w h hn hb r hr)
  clear h hr hn
  go_enter Try.func69, Try.ntmps69
  go_wp2_with (go_at_call 88; go_must (refine K.out.mono ?_; rintro e w1 ⟨i, rfl, hi, hB⟩; have Hi := hidden hi; clear hi))
  go_ret
  exact ⟨by rw [← Hi.out]; rfl, hB⟩
end Go.Proofs.Ytmibnnmampfalaa
