/- A text is read, whatever its form. -/
import Derived.Test.YtmibnnmampfalaaDoorB64M
namespace Go.Proofs.YtmibnnmampfalaaDoor
open Go.RowKit
set_option linter.unusedVariables false
set_option linter.unusedSimpArgs false

set_option maxHeartbeats 1000000 in
theorem hasPad_calls (A : Option Addr) (n c g : Nat) (l : List Int) (w : World) (h : Rd w A (nums .u8 l)) (hn : l.length = n) (hc : n ≤ c) (hb : IsB l) (hN : n ≤ 100000) (h' : Rd w (some ⟨g, 0, none⟩) (nums .u8 [61])) (r : Bool) (hr : r = padded? l) :
    Calls Tryd.prog 75 #[.slice A n c, .slice (some ⟨g, 0, none⟩) 1 1] w fun e w' => e = .returned (.bool r) ∧ w = w' := by
  by_cases h0 : n = 0
  · subst h0
    have hrf : r = false := by rw [hr, padded?, hn]; rfl
    subst hrf
    clear h hn hr h'
    go_enter Tryd.func75, Tryd.ntmps75
    go_wp2
    go_ret
    exact ⟨rfl, rfl⟩
  · have h1 : 1 ≤ n := by omega
    have h1i : (1 : Int) ≤ (n : Int) := by omega
    obtain ⟨p, hp⟩ : ∃ p, p = n - 1 := ⟨_, rfl⟩
    have hpi : (n : Int) - 1 = (p : Int) := by omega
    have hnp : n - p = 1 := by omega
    have q1 := fun W => run_from (W := W) Tryd.underlying22 size_u8' A n c (p : Int) p rfl (by omega) hc
    rw [hnp] at q1
    have hne : ¬ c = p := by omega
    simp only [if_neg hne] at q1
    have hl1 : l.drop p = [gi l p] := by
      rw [drop_gi l (by omega), List.drop_of_length_le (by omega)]
    have hRd := Rd.drop h p c (by rw [nums_len]; omega)
    rw [if_neg hne, show (nums .u8 l).drop p = nums .u8 (l.drop p) from (List.map_drop ..).symm, hl1] at hRd
    have hx : 0 ≤ gi l p ∧ gi l p < 256 := gi_byte hb p
    have Hx1 : Hid (IsB [gi l p]) := hidden (by intro x hx2; rw [List.mem_singleton.1 hx2]; exact hx)
    have Hx2 : Hid (IsB [61]) := hidden (by intro x hx2; rw [List.mem_singleton.1 hx2]; omega)
    have Hr : Hid (r = decide ([gi l p] = [61])) := hidden (by
      rw [hr, padded?, hn, ← hp]
      have : (decide (0 < n)) = true := decide_eq_true (by omega)
      rw [this, Bool.true_and, Bool.eq_iff_iff]
      simp)
    obtain ⟨A', hA'⟩ : ∃ A', A' = Option.map (fun x : Addr => x.add p) A := ⟨_, rfl⟩
    rw [← hA'] at hRd
    simp only [← hA'] at q1
    have HRd := hidden hRd
    have H' := hidden h'
    clear h hr hp hnp hl1 hRd h' hA' hn
    go_enter Tryd.func75, Tryd.ntmps75
    go_wp2_with (go_at_call 77; go_must (refine (bytesEqual_calls A' _ 1 (c - p) 1 1 [gi l p] [61] _ HRd.out rfl H'.out rfl Hx1.out Hx2.out r Hr.out).mono ?_; rintro e w1 ⟨rfl, rfl⟩))
    go_ret
    exact ⟨rfl, rfl⟩
def guessN (url pad : Bool) : Int := if !pad && url then 4 else if url then 2 else if !pad then 3 else 1
set_option maxHeartbeats 1000000 in
theorem guess_calls (A : Option Addr) (n c : Nat) (l : List Int) (w : World) (h : Rd w A (nums .u8 l)) (hn : l.length = n) (hc : n ≤ c) (hb : IsB l) (hN : n ≤ 100000) (u p : Bool) (hu : u = stdIn l) (hp : p = padded? l) :
    Calls Tryd.prog 70 #[.slice A n c] w fun e w' => e = .returned (.int .i64 (guessN (!u) p)) ∧ Below w.heap.size w w' := by
  have H := hidden h
  have Hn := hidden hn
  have Hu := hidden hu
  have Hp := hidden hp
  clear h hn hu hp
  cases u <;> cases p
  all_goals
    go_enter Tryd.func70, Tryd.ntmps70
    go_wp2_with (first
      | (go_at_call 75; go_must (refine (hasPad_calls A n c _ l _ (H.out.alloc _) Hn.out hc hb hN (Rd.new w 5 (nums .u8 [61]) _ rfl) _ Hp.out).mono ?_; rintro e w1 ⟨rfl, rfl⟩))
      | (go_at_call 76; go_must (refine (zzStd_calls A n c l _ (H.out.alloc _) Hn.out hb hN _ Hu.out).mono ?_; rintro e w1 ⟨rfl, rfl⟩)))
    go_ret
    exact ⟨rfl, below_alloc0 _ _⟩
end Go.Proofs.YtmibnnmampfalaaDoor
