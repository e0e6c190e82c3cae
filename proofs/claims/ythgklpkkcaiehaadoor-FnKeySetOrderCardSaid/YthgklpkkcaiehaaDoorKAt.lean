/- The place of a key among those that were made; the key of a set with an ID. -/
import Derived.Test.YthgklpkkcaiehaaDoorKNew
namespace Go.Proofs.YthgklpkkcaiehaaDoor
open Go.RowKit
set_option linter.unusedVariables false
set_option linter.unusedSimpArgs false

theorem na_add (g n : Nat) (W : World) : (nilAhead (n + 1) 108 (.pointer (some ⟨g, 0, none⟩)) "AddKey").run Tryd.prog W = .ok (some false) W := by kernel_rfl
theorem na_rem (g n : Nat) (W : World) : (nilAhead (n + 1) 108 (.pointer (some ⟨g, 0, none⟩)) "RemoveKey").run Tryd.prog W = .ok (some false) W := by kernel_rfl
theorem na_idx (g n : Nat) (W : World) : (nilAhead (n + 1) 108 (.pointer (some ⟨g, 0, none⟩)) "Index").run Tryd.prog W = .ok (some false) W := by kernel_rfl
theorem range_getD (m j : Nat) (h : j < m) : (List.range m).getD j 0 = j := by simp [h]
set_option maxRecDepth 100000 in
set_option maxHeartbeats 1000000 in
theorem at_calls (bk : Nat → Nat) (m : Nat) (k : Nat) (w : World) (mc c : Nat) (A : Option Addr) (hc : w.cell? ⟨mc, 0, none⟩ = some (.slice A m c)) (hR : Rd w A (keysV bk (List.range m))) (hm : m ≤ 1000) (ha : Apart bk m) (hkin : KeysIn w bk m) (hk : k < m) :
    Calls Tryd.prog 35 #[keyV bk k, .pointer (some ⟨mc, 0, none⟩)] w fun e w' => e = .returned (.int .i64 k) ∧ w = w' := by
  obtain ⟨K, hK⟩ : ∃ K, bk k = K := ⟨_, rfl⟩
  have Hk := hidden (fun j (hj : j < m) => eql_keys hkin ha hj hk)
  unfold keyV
  rw [hK] at Hk ⊢
  clear ha hkin
  go_enter Tryd.func35, Tryd.ntmps35
  go_wp2
  go_loop [8] (fun i => ∃ j : Nat, j ≤ k ∧ i = .int .i64 j) (fun i => m - (intOf i).toNat)
  case atStart => exact ⟨0, by omega, rfl⟩
  case round =>
    obtain ⟨j, hj, rfl⟩ := hrel
    obtain ⟨b0, o0, rfl, _, c0⟩ := hR _ _ (keysV_at bk (List.range m) j (by simp; omega))
    rw [range_getD m j (by omega)] at c0
    have hq := Hk.out j (by omega)
    unfold keyV at c0
    obtain ⟨J, hJ⟩ : ∃ J, bk j = J := ⟨_, rfl⟩
    rw [hJ] at c0 hq
    have hjm : j < m := by omega
    clear hR
    by_cases he : j = k
    · subst he
      rw [decide_eq_true rfl] at hq
      go_wp2
      go_ret
      exact ⟨rfl, rfl⟩
    · rw [decide_eq_false he] at hq
      have hjk : j + 1 ≤ k := by omega
      clear he
      go_wp2
      go_round
      case rel => exact ⟨j + 1, hjk, by go_num⟩
      case measure => simp [intOf]; omega
def keyOr (bk : Nat → Nat) : Option Nat → Value
  | some k => keyV bk k
  | none => .nilIface
theorem find_yes {α : Type} {p : α → Bool} : ∀ (s : List α) (i : Nat) (h : i < s.length), (∀ j (hj : j < i), p (s[j]'(by omega)) = false) → p (s[i]'h) = true → s.find? p = some (s[i]'h)
  | [], i, h, _, _ => by simp at h
  | x :: s, 0, h, _, hp => by simp at hp; simp [hp]
  | x :: s, i + 1, h, hno, hp => by
    have h0 := hno 0 (by omega)
    simp at h0
    rw [List.find?_cons, h0]
    exact find_yes s i (by simpa using h) (fun j hj => by have := hno (j + 1) (by omega); simpa using this) (by simpa using hp)
theorem find_no {α : Type} {p : α → Bool} {s : List α} (h : ∀ j (hj : j < s.length), p s[j] = false) : s.find? p = none := by
  rw [List.find?_eq_none]
  intro x hx
  obtain ⟨j, hj, rfl⟩ := List.mem_iff_getElem.1 hx
  simp [h j hj]
set_option maxRecDepth 100000 in
set_option maxHeartbeats 2000000 in
theorem lookup_calls (bk : Nat → Nat) (ids : Nat → Option ByteArray) (m : Nat) (s : List Nat) (id : ByteArray) (w : World) (gs mb base : Nat) (v : Value) (h : SetAt w gs mb base v (keysV bk s)) (hb : s.length ≤ 1000) (hid : ∀ k, k ∈ s → KidAt w (bk k) (ids k)) (r : Option Nat) (hr : r = s.find? (fun k => decide (ids k = some id))) :
    Calls Tryd.prog 135 #[.pointer (some ⟨gs, 0, none⟩), .string id] w fun e w' => e = .returned (.tuple #[keyOr bk r, .bool r.isSome]) ∧ w = w' := by
  have Hr := hidden hr
  clear hr
  obtain ⟨n, hn⟩ : ∃ n, s.length = n := ⟨_, rfl⟩
  obtain ⟨A, c, rfl, hc, hR, _⟩ := h.kl.read
  rw [keysV_len, hn] at hc h
  have c0 := h.row.cell 0
  have c1 := h.row.cell 1
  simp at c0 c1
  clear h
  go_enter Tryd.func135, Tryd.ntmps135
  go_wp2
  go_loop [15] (fun i => ∃ j : Nat, j ≤ n ∧ i = .int .i64 j ∧ Hid (∀ q (hq : q < s.length), q < j → decide (ids s[q] = some id) = false)) (fun i => n - (intOf i).toNat)
  case atStart => exact ⟨0, by omega, rfl, hidden (by omega)⟩
  case round =>
    obtain ⟨j, hj, rfl, Hno⟩ := hrel
    by_cases hlt : j < n
    · obtain ⟨b0, o0, rfl, _, c0⟩ := hR _ _ (keysV_at bk s j (by omega))
      have hjs : j < s.length := by omega
      have hg : s.getD j 0 = s[j] := by simp [hjs]
      rw [hg] at c0
      have K := hidden (keyID_calls w (bk s[j]) (ids s[j]) (hid _ (by simp)))
      have Hf := hidden (fun (hp : decide (ids s[j] = some id) = true) => Hr.out.trans (find_yes (p := fun k => decide (ids k = some id)) s j hjs (fun q hq => Hno.out q (by omega) hq) hp))
      have Hn := hidden (fun (hp : decide (ids s[j] = some id) = false) q (hq : q < s.length) (hqj : q < j + 1) => show decide (ids s[q] = some id) = false from by
        rcases Nat.lt_succ_iff_lt_or_eq.1 hqj with h | rfl
        · exact Hno.out q hq h
        · exact hp)
      clear hR hid hg
      unfold keyV at c0
      generalize hx : s[j] = x at c0 K Hf
      cases hi : ids x with
      | none =>
        rw [hi] at K Hf
        have HN := hidden (Hn.out (by rw [hx, hi]; exact decide_eq_false (fun e => by cases e)))
        clear hi hx Hn
        go_wp2_with (go_at_call 109; go_must (refine K.out.mono ?_; rintro e w1 ⟨rfl, rfl⟩; dsimp only [Option.getD_none, Option.isSome_none]))
        go_round
        case rel => exact ⟨j + 1, by omega, by go_num, HN⟩
        case measure => simp [intOf]; omega
      | some t =>
        rw [hi] at K Hf
        have hq := bytes_eq t id
        by_cases ht : t = id
        · have hrk : r = some x := Hf.out (by rw [ht]; exact decide_eq_true rfl)
          rw [decide_eq_true ht] at hq
          subst hrk
          clear hi hx Hn Hf ht Hr
          go_wp2_with (go_at_call 109; go_must (refine K.out.mono ?_; rintro e w1 ⟨rfl, rfl⟩; dsimp only [Option.getD_some, Option.isSome_some]))
          go_ret2
          exact ⟨rfl, rfl⟩
        · have HN := hidden (Hn.out (by rw [hx, hi]; exact decide_eq_false (fun e => ht (by cases e; rfl))))
          rw [decide_eq_false ht] at hq
          clear hi hx Hn Hf ht Hr
          go_wp2_with (go_at_call 109; go_must (refine K.out.mono ?_; rintro e w1 ⟨rfl, rfl⟩; dsimp only [Option.getD_some, Option.isSome_some]))
          go_round
          case rel => exact ⟨j + 1, by omega, by go_num, HN⟩
          case measure => simp [intOf]; omega
    · obtain rfl : j = n := by omega
      have hrn : r = none := Hr.out.trans (find_no (p := fun k => decide (ids k = some id)) fun q hq => Hno.out q hq (by omega))
      subst hrn
      clear hR hid Hr
      go_wp2
      go_ret2
      exact ⟨rfl, rfl⟩
end Go.Proofs.YthgklpkkcaiehaaDoor
