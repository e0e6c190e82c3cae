/- Words for the laws about parts of compact forms. -/
import Derived.Test.YtmibnnmampfalaaDoorB64P
import Derived.Test.YtmibnnmampfalaaDoorRowkit
namespace Go.Proofs.YtmibnnmampfalaaDoor
open Go.RowKit
set_option linter.unusedVariables false
set_option linter.unusedSimpArgs false

def slvs (l : List (Option Addr × Nat × Nat)) : List Value := l.map fun x => .slice x.1 x.2.1 x.2.2
theorem slvs_at (l : List (Option Addr × Nat × Nat)) (i : Nat) (h : i < l.length) : (slvs l)[i]? = some (.slice (l[i]'h).1 (l[i]'h).2.1 (l[i]'h).2.2) := by simp [slvs, h]
set_option maxHeartbeats 400000 in
theorem partShort_calls (X : Option Addr) (n c : Nat) (l : List (Option Addr × Nat × Nat)) (w : World) (h : Rd w X (slvs l)) (hn : l.length = n) (hb : n ≤ 1000) (r : Bool) (hr : r = true ↔ ∀ x ∈ l, x.2.1 ≤ 2000) :
    Calls Tryd.prog 5 #[.slice X n c] w fun e w' => e = .returned (.bool r) ∧ w = w' := by
  have Hr := hidden hr
  clear hr
  go_enter Tryd.func5, Tryd.ntmps5
  go_wp2
  go_loop [7] (fun i => ∃ k : Nat, k ≤ n ∧ i = .int .i64 k ∧ Hid (∀ j (hj : j < l.length), j < k → (l[j]'hj).2.1 ≤ 2000)) (fun i => n - (intOf i).toNat)
  case atStart => exact ⟨0, by omega, rfl, hidden (by omega)⟩
  case round =>
    obtain ⟨k, hk, rfl, hle⟩ := hrel
    by_cases hlt : k < n
    · have hlt' : k < l.length := by omega
      obtain ⟨b0, o0, rfl, _, c0⟩ := h k _ (slvs_at l k hlt')
      have hx : Hid (∀ x, x = l[k] → x ∈ l) := hidden (fun x hx => hx ▸ List.getElem_mem _)
      generalize hs : l[k] = s at c0
      have Hs := hidden hs
      clear hs h
      obtain ⟨sA, sn, sc⟩ := s
      simp only at c0
      by_cases h2 : sn ≤ 2000
      · have h2i : ¬ (2000 : Int) < (sn : Int) := by omega
        go_wp2
        go_round
        case rel =>
          refine ⟨k + 1, by omega, by go_num, hidden (fun j hj hjk => ?_)⟩
          rcases Nat.lt_succ_iff_lt_or_eq.1 hjk with h | rfl
          · exact hle.out j hj h
          · rw [Hs.out]; exact h2
        case measure => simp [intOf]; omega
      · have h2i : (2000 : Int) < (sn : Int) := by omega
        have hrf : r = false := by
          cases r with
          | false => rfl
          | true => exact absurd (Hr.out.1 rfl _ (hx.out _ Hs.out.symm)) h2
        subst hrf
        go_wp2
        go_ret
        exact ⟨rfl, rfl⟩
    · obtain rfl : k = n := by omega
      have hrt : r = true := Hr.out.2 fun x hx => by
        obtain ⟨j, hj, rfl⟩ := List.mem_iff_getElem.1 hx
        exact hle.out j hj (by omega)
      subst hrt
      go_wp2
      go_ret
      exact ⟨rfl, rfl⟩
structure RetP (w w' : World) (l : List Int) (A : Option Addr) (c : Nat) : Prop where
  cap : l.length ≤ c
  nil : A = none → c = 0
  rd : Rd w' A (nums .u8 l)
  bel : Below w.heap.size w w'
theorem RetP.of {w w' : World} {e : Ending} {l : List Int} (h : NewB w l e w') : ∃ A c, e = .returned (.slice A l.length c) ∧ RetP w w' l A c := by
  obtain ⟨v, rfl, hO, hB⟩ := h
  obtain ⟨A, c, rfl, hc, hr, hA⟩ := hO.read
  rw [nums_len] at hc ⊢
  exact ⟨A, c, rfl, ⟨hc, hA, hr, hB⟩⟩
end Go.Proofs.YtmibnnmampfalaaDoor
