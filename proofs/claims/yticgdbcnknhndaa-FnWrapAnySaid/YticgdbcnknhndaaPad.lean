/- Padding: what is padded, and how much padding is told. -/
import Derived.Test.YticgdbcnknhndaaBytes
import Derived.StillTailTactics
namespace Go.Proofs.Yticgdbcnknhndaa
open Go.RowKit
set_option linter.unusedVariables false
set_option linter.unusedSimpArgs false

theorem size_u8p : (Try.prog.info? 5).map (·.size) = some 1 := by kernel_rfl
/-- The text behind which a number stands so many times. -/
def padBy (l : List Int) (r : Nat) : List Int := l ++ List.replicate r (r : Int)
def padded (l : List Int) (n : Nat) : List Int := padBy l (n - l.length % n)
theorem padBy_len (l : List Int) (r : Nat) : (padBy l r).length = l.length + r := by simp [padBy]
theorem padBy_isB {l : List Int} (hb : IsB l) {r : Nat} (hr : r ≤ 255) : IsB (padBy l r) := by
  intro x hx
  rcases List.mem_append.1 hx with h | h
  · exact hb x h
  · rw [List.eq_of_mem_replicate h]; omega
theorem padBy_hi (l : List Int) (r i : Nat) (h1 : l.length ≤ i) (h2 : i < l.length + r) : gi (padBy l r) i = (r : Int) := by
  unfold padBy
  rw [gi_app2 h1, gi, List.getD_eq_getElem?_getD, List.getElem?_replicate, if_pos (by omega)]; rfl
theorem padBy_lo (l : List Int) (r i : Nat) (h1 : i < l.length) : gi (padBy l r) i = gi l i := gi_app1 _ h1
theorem padBy_inj {a b : List Int} {r s : Nat} (hr : 0 < r) (hs : 0 < s) (h : padBy a r = padBy b s) : a = b := by
  have hl := congrArg List.length h
  rw [padBy_len, padBy_len] at hl
  have e1 := padBy_hi a r (a.length + r - 1) (by omega) (by omega)
  have e2 := padBy_hi b s (a.length + r - 1) (by omega) (by omega)
  rw [h] at e1
  have hrs : r = s := by have := e1.symm.trans e2; omega
  subst hrs
  unfold padBy at h
  exact (List.append_inj h (by omega)).1
theorem splice_pad (l : List Int) (s k : Nat) (hl : l.length = k) (hs : k ≤ s) : splice (List.replicate s (0 : Int)) 0 (l.take s) = l ++ List.replicate (s - k) 0 := by
  rw [List.take_of_length_le (by omega)]
  unfold splice
  simp [hl]

set_option maxRecDepth 10000 in
set_option maxHeartbeats 400000 in
theorem pad_calls (A : Option Addr) (k c n r : Nat) (l : List Int) (w : World) (h : Rd w A (nums .u8 l)) (hl : l.length = k) (hn : 1 ≤ n) (hn2 : n ≤ 255) (hk : k ≤ 100000) (hr : r = n - k % n) :
    Calls Try.prog 68 #[.slice A k c, .int .i64 n] w (NewB w (padBy l r)) := by
  have hmod : k % n < n := Nat.mod_lt _ (by omega)
  have htm : ((k : Int)).tmod (n : Int) = ((k % n : Nat) : Int) := by rw [Int.tmod_eq_emod_of_nonneg (by omega)]; rfl
  generalize hj : k % n = j at *
  have hnj : (n : Int) - (j : Int) = (r : Int) := by omega
  have hr0 : ¬ r = 0 := by omega
  obtain ⟨s, hs⟩ : ∃ s, s = k + r := ⟨_, rfl⟩
  have hks : (k : Int) + (r : Int) = (s : Int) := by omega
  have hsb : ¬ (268435456 : Int) < (s : Int) := by omega
  have hn0 : ¬ n = 0 := by omega
  have hr256 : (r : Int) % 256 = (r : Int) := by omega
  have Hr := hidden hr
  have Hs := hidden hs
  have hks0 : k ≤ s := by omega
  have hsr : s ≤ k + 255 := by omega
  clear hj hr hs
  go_enter Try.func68, Try.ntmps68
  go_wp2_with (first
    | (with_reducible refine at_dst 28 ?_; go_must (refine walk_make rfl _ _ (n := s) rfl Try.underlying35 info_u8 rfl rfl rfl rfl rfl (by omega) (by omega) ?_))
    | (with_reducible refine at_dst 31 ?_; go_must (refine walk_copy (L := List.replicate s 0) (M := l) rfl (.tmp 29) (.tmp 30) rfl Try.underlying35 size_u8p rfl rfl (by have := Row.new w 5 (nums .u8 (List.replicate s 0)); simpa [nums] using this) (h.alloc _) hl (by simp) ?_); intro w6 hR6 hg6 hz6))
  rw [splice_pad l s k hl (by omega)] at hR6
  have hB6 : Below w.heap.size w w6 := (below_alloc0 w _).grown hg6 (by simp) (by rintro q hq; cases hq; exact Nat.le_refl _)
  clear hg6 hz6 h
  generalize hbb : w.heap.size = B at *
  have hBB := hidden hbb
  clear hbb
  go_loopw [9] (fun i wr => ∃ m : Nat, k ≤ m ∧ m ≤ s ∧ i = .int .i64 m ∧ Below B w wr ∧ ∃ o, o.length = s ∧ (∀ j, gi o j = if j < k then gi l j else if j < m then (r : Int) else 0) ∧ Row wr B 5 (nums .u8 o)) (fun i _ => s - (intOf i).toNat)
  case atStart =>
    refine ⟨k, Nat.le_refl _, by omega, rfl, hB6, _, by rw [List.length_append, List.length_replicate]; omega, fun j => ?_, hR6⟩
    by_cases hj : j < k
    · rw [if_pos hj, gi_app1 _ (by omega)]
    · rw [if_neg hj, if_neg hj, gi_app2 (by omega), gi, List.getD_eq_getElem?_getD, List.getElem?_replicate]
      split <;> rfl
  case round =>
    obtain ⟨m, hkm, hms, rfl, hBr, o, ho, hoj, hRr⟩ := hrel
    clear hB6 hR6
    by_cases hlt : m < s
    · have c0 := hRr.icell m (by omega)
      have f0 := hRr.free m
      have Ho := hidden ho
      have Hoj := hidden hoj
      have hRlt := hidden hRr.lt
      have HR := hidden hRr
      clear ho hoj hRr
      go_wp2
      go_roundw
      case rel =>
        refine ⟨m + 1, by omega, by omega, by go_num, hBr.setCell (by simp) _, _, by rw [List.length_set]; exact Ho.out, fun j => ?_, HR.out.iset m _⟩
        rw [gi_set _ _ _ _ (by have := Ho.out; omega)]
        by_cases hj : j = m
        · subst hj; rw [if_pos rfl, if_neg (by omega), if_pos (by omega)]
        · rw [if_neg hj, Hoj.out j]
          by_cases h1 : j < k
          · rw [if_pos h1, if_pos h1]
          · rw [if_neg h1, if_neg h1]
            by_cases h2 : j < m
            · rw [if_pos h2, if_pos (by omega)]
            · rw [if_neg h2, if_neg (by omega)]
      case measure => simp [intOf]; omega
    · obtain rfl : m = s := by omega
      have hoe : o = padBy l r := by
        refine gi_ext (by rw [padBy_len]; omega) fun i hi => ?_
        rw [hoj]
        by_cases h1 : i < k
        · rw [if_pos h1, padBy_lo _ _ _ (by omega)]
        · rw [if_neg h1, if_pos (by omega), padBy_hi _ _ _ (by omega) (by omega)]
      subst hoe
      have hO := Own.of_row (base := B) (c := m) (rest := []) (vs := nums .u8 (padBy l r)) (by rw [List.append_nil]; exact hRr) (Nat.le_refl _) (by rw [nums_len, ho]; rfl) (by simp [maxLen]; omega)
      rw [nums_len, ho] at hO
      have HO := hidden hO
      clear hO hoj hRr
      go_wp2
      go_ret
      exact ⟨_, rfl, by rw [hBB.out]; exact HO.out, by rw [hBB.out]; exact hBr⟩
theorem padDoor_calls (A : Option Addr) (k c n r : Nat) (l : List Int) (w : World) (h : Rd w A (nums .u8 l)) (hl : l.length = k) (hn : 1 ≤ n) (hn2 : n ≤ 255) (hk : k ≤ 100000) (hr : r = n - k % n) :
    Calls Try.prog 50 #[.slice A k c, .int .i64 n] w (NewB w (padBy l r)) := by
  have Hr := hidden hr
  clear hr
  go_enter Try.func50, Try.ntmps50
  go_wp2_with (go_at_call 68; go_must (refine (pad_calls A k c n r l _ h hl hn hn2 hk Hr.out).mono ?_; rintro e w1 ⟨v, rfl, hO, hB⟩))
  go_ret
  exact ⟨v, rfl, hO, hB⟩
theorem padded_calls (A : Option Addr) (k c n : Nat) (l : List Int) (w : World) (h : Rd w A (nums .u8 l)) (hl : l.length = k) (hc : k ≤ c) (hA : A = none → c = 0) (hn : 1 ≤ n) (hn2 : n ≤ 255) (hk : k ≤ 100000) :
    Calls Try.prog 21 #[.slice A k c, .int .i64 n] w (NewB w (padded l n)) := by
  have hn3 : ¬ (n : Int) < 1 := by omega
  have hn4 : ¬ (255 : Int) < (n : Int) := by omega
  have hr : padded l n = padBy l (n - k % n) := by rw [padded, hl]
  have Hr := hidden hr
  have HA := hidden hA
  have hn3' : ¬ n = 0 := by omega
  have hn4' : n ≤ 255 := hn2
  clear hr hA
  go_enter Try.func21, Try.ntmps21
  go_wp2_with (first
    | (go_at_call 51; go_must (refine (clone_calls A k c l _ h hl hc HA.out (by omega)).mono ?_; rintro e w1 ⟨v1, rfl, hO1, hB1⟩; obtain ⟨A1, c1, rfl, hc1, hr1, hA1⟩ := hO1.read; rw [nums_len, hl]))
    | (go_at_call 50; go_must (refine (padDoor_calls A1 k c1 n _ l _ hr1 hl hn hn2 hk rfl).mono ?_; rintro e w2 ⟨v2, rfl, hO2, hB2⟩)))
  go_ret
  exact ⟨v2, rfl, by rw [Hr.out]; exact hO2.lower hB1.size, below_next hB1 hB2⟩
end Go.Proofs.Yticgdbcnknhndaa
