/- The walk of FnKeyOps. -/
import Derived.Test.YtmibnnmampfalaaKeyC
import Derived.Test.YtmibnnmampfalaaShelfSort
import Derived.Sort.OwnSorted
namespace Go.Proofs.Ytmibnnmampfalaa
open Go.RowKit
set_option linter.unusedVariables false
set_option linter.unusedSimpArgs false

theorem strs_enc (l : List ByteArray) : strs l = (l.map fun b => b.data.toList).map Go.Proofs.encStr := by
  simp [strs, Go.Proofs.encStr, List.map_map]
/-- slices.Sort of texts of one's own. -/
theorem sortS_calls (g c n base : Nat) (l : List ByteArray) (W : World) (HO : Own W base 9 (.slice (some ⟨g, 0, none⟩) n c) (strs l)) (hn : l.length = n) (hb : n ≤ 100000) :
    Calls Try.prog 41 #[.slice (some ⟨g, 0, none⟩) n c] W fun e w' => e = .returned (.tuple #[]) ∧ W.grownBy w' (some g) ∧ ∃ ss : List (List UInt8), ss.length = n ∧ Own w' base 9 (.slice (some ⟨g, 0, none⟩) n c) (ss.map Go.Proofs.encStr) := by
  subst hn
  rcases HO.2 with ⟨h, _⟩ | ⟨g', cap, cur, hv, hbase, hb1, h1, h2, h3, h4⟩
  · cases h
  · obtain ⟨rfl, hl', rfl⟩ : g = g' ∧ l.length = (strs l).length ∧ c = cap := by simpa using hv
    clear hv
    rw [strs_enc, Nat.mul_one, List.length_map, List.length_map] at h4
    rw [strs_len] at h1
    have hH : Go.Sort.Holds Go.Proofs.encStr W g 0 (l.map fun b => b.data.toList).toArray := holds_of_block hb1 (by rw [List.length_map]; exact h4)
    have hgl : g < W.heap.size := (Array.getElem?_eq_some_iff.1 hb1).1
    have K := Try.slices_Sort_string g 0 c (l.map fun b => b.data.toList) W hH hgl (by rw [List.length_map]; omega)
    rw [List.length_map] at K
    refine K.mono ?_
    rintro e w' ⟨rfl, nn, os, rfl⟩
    refine ⟨rfl, grownBy_sorted _, (l.map fun b => b.data.toList).mergeSort (fun x y => decide (x ≤ y)), by simp, ?_⟩
    · have := ownsRow_sorted (n := nn) (os := os) (ss := l.map fun b => b.data.toList) (ts := (l.map fun b => b.data.toList).mergeSort fun x y => decide (x ≤ y)) (by simp) hbase hb1 (by rw [List.length_map]; exact h1) h2 h3
      unfold Own
      rw [List.length_map] at this
      rw [List.length_map, List.length_mergeSort, List.length_map]
      exact this
/-- slices.Compact of texts of one's own. -/
theorem compactS_calls (g c n base : Nat) (ss : List (List UInt8)) (W : World) (HO : Own W base 9 (.slice (some ⟨g, 0, none⟩) n c) (ss.map Go.Proofs.encStr)) (hn : ss.length = n) (hb : n ≤ 100000) :
    Calls Try.prog 42 #[.slice (some ⟨g, 0, none⟩) n c] W fun e w' => (∃ m : Nat, e = .returned (.slice (some ⟨g, 0, none⟩) m c)) ∧ W.grownBy w' (some g) := by
  subst hn
  rcases HO.2 with ⟨h, _⟩ | ⟨g', cap, cur, hv, hbase, hb1, h1, h2, h3, h4⟩
  · cases h
  · obtain ⟨rfl, rfl⟩ : g = g' ∧ c = cap := by simpa using hv
    clear hv
    rw [Nat.mul_one, List.length_map] at h4
    rw [List.length_map] at h1
    have hH : Go.Sort.Holds Go.Proofs.encStr W g 0 ss.toArray := holds_of_block hb1 h4
    refine (Try.slices_Compact_string g 0 c ss W hH (by omega) h1).mono ?_
    rintro e w' ⟨rfl, q, rfl⟩
    refine ⟨⟨_, rfl⟩, ?_⟩
    have := grownBy_sorted (w := W) (g := g) (n := q) (os := #[]) (Lib.compact ss ++ List.replicate (ss.length - (Lib.compact ss).length) []).toArray
    rwa [Go.Sort.grow_empty] at this
theorem ownS_pos {w : World} {base : Nat} {v : Value} {l : List ByteArray} (h : Own w base 9 v (strs l)) (h0 : 0 < l.length) : ∃ g c, v = .slice (some ⟨g, 0, none⟩) l.length c ∧ base ≤ g ∧ Own w base 9 (.slice (some ⟨g, 0, none⟩) l.length c) (strs l) := by
  rcases h.block with ⟨_, h2⟩ | ⟨g, rest, rfl, hg, _, _⟩
  · have e : l.length = 0 := by rw [← strs_len, h2]; rfl
    omega
  · rw [strs_len] at h ⊢
    exact ⟨g, _, rfl, hg, h⟩
theorem predLong (w : World) : PredS 38 #[] (fun x => decide (60 < x.size)) w := by
  intro W x hB
  have HB := hidden hB
  clear hB
  simp only [List.append_toArray, List.append_nil]
  by_cases h : 60 < x.size
  · have hi : (60 : Int) < (x.size : Int) := by omega
    rw [decide_eq_true h]
    clear h
    go_enter Try.func38, Try.ntmps38
    go_wp2
    go_ret
    exact ⟨rfl, HB.out⟩
  · have hi : ¬ (60 : Int) < (x.size : Int) := by omega
    rw [decide_eq_false h]
    clear h
    go_enter Try.func38, Try.ntmps38
    go_wp2
    go_ret
    exact ⟨rfl, HB.out⟩
set_option maxRecDepth 100000 in
set_option maxHeartbeats 4000000 in
theorem keyOps_walk (A : Option Addr) (n c : Nat) (l : List ByteArray) (w : World) (h : Rd w A (strs l)) (hn : l.length = n) (hc : n ≤ c) (hA : A = none → c = 0) (hb : n ≤ 9223372036854775807) :
    Calls Try.prog 12 #[.slice A n c] w fun e w' => e = .returned (.bool true) ∧ Below w.heap.size w w' := by
  obtain ⟨r1, hr1⟩ : ∃ r : Bool, r = true ↔ n ≤ 2147483647 ∧ ∀ x ∈ l, x.size ≤ 2147483647 := by
    by_cases hx : n ≤ 2147483647 ∧ ∀ x ∈ l, x.size ≤ 2147483647
    · exact ⟨true, iff_of_true rfl hx⟩
    · exact ⟨false, iff_of_false (by simp) hx⟩
  have K1 := hidden (fits2_calls A n c l w h hn r1 hr1 hb)
  cases r1 with
  | false =>
    clear h hn hr1
    go_enter Try.func12, Try.ntmps12
    go_wp2_with (go_at_call 36; go_must (refine K1.out.mono ?_; rintro e w1 ⟨rfl, rfl⟩))
    go_ret
    exact ⟨rfl, Below.refl _ _⟩
  | true =>
    clear hr1
    by_cases hshort : n ≠ 0 ∧ n ≤ 20 ∧ l.any (fun x => decide (60 < x.size)) = false
    case neg =>
      have hcase : n = 0 ∨ (n ≠ 0 ∧ 20 < n) ∨ (n ≠ 0 ∧ n ≤ 20 ∧ l.any (fun x => decide (60 < x.size)) = true) := by
        by_cases h0 : n = 0
        · exact .inl h0
        · by_cases h20 : n ≤ 20
          · refine .inr (.inr ⟨h0, h20, ?_⟩)
            cases hq : l.any (fun x => decide (60 < x.size)) with
            | true => rfl
            | false => exact absurd ⟨h0, h20, hq⟩ hshort
          · exact .inr (.inl ⟨h0, by omega⟩)
      clear hshort
      rcases hcase with rfl | ⟨h0, h20⟩ | ⟨h0, h20, hq⟩
      · clear h hn
        go_enter Try.func12, Try.ntmps12
        go_wp2_with (first
          | (go_at_call 36; go_must (refine K1.out.mono ?_; rintro e w1 ⟨rfl, rfl⟩))
          | (go_at_call 39; go_must (refine (opsLive_calls _).mono ?_; rintro e w2 ⟨rfl, hB2⟩)))
        go_ret
        exact ⟨rfl, hB2⟩
      · have h0i : ((n : Int) == 0) = false := by simp; omega
        have h20i : (20 : Int) < (n : Int) := by omega
        clear h hn
        go_enter Try.func12, Try.ntmps12
        go_wp2_with (first
          | (go_at_call 36; go_must (refine K1.out.mono ?_; rintro e w1 ⟨rfl, rfl⟩))
          | (go_at_call 39; go_must (refine (opsLive_calls _).mono ?_; rintro e w2 ⟨rfl, hB2⟩)))
        go_ret
        exact ⟨rfl, hB2⟩
      · have h0i : ((n : Int) == 0) = false := by simp; omega
        have h20i : ¬ (20 : Int) < (n : Int) := by omega
        have K2 := hidden (containsFnK_calls _ A n c l w (predLong w) h hn (by omega) true hq)
        clear h hn hq
        go_enter Try.func12, Try.ntmps12
        go_wp2_with (first
          | (go_at_call 36; go_must (refine K1.out.mono ?_; rintro e w1 ⟨rfl, rfl⟩))
          | (go_at_call 37; go_must (refine K2.out.mono ?_; rintro e w2 ⟨rfl, hB2⟩; have HB2 := hidden hB2; clear hB2))
          | (go_at_call 39; go_must (refine (opsLive_calls _).mono ?_; rintro e w3 ⟨rfl, hB3⟩)))
        go_ret
        exact ⟨rfl, below_next HB2.out hB3⟩
    case pos =>
      obtain ⟨h0, h20, hq⟩ := hshort
      have h0i : ((n : Int) == 0) = false := by simp; omega
      have h20i : ¬ (20 : Int) < (n : Int) := by omega
      have K2 := hidden (containsFnK_calls _ A n c l w (predLong w) h hn (by omega) false hq)
      obtain ⟨r, hr⟩ : ∃ r : Bool, r = true ↔ ∀ x ∈ l, x ∈ ops8 := by
        by_cases hx : ∀ x ∈ l, x ∈ ops8
        · exact ⟨true, iff_of_true rfl hx⟩
        · exact ⟨false, iff_of_false (by simp) hx⟩
      have Hh := hidden h
      have Hl := hidden hn
      have Kc : Hid (∀ W, Below w.heap.size w W → Calls Try.prog 40 #[.slice A n c] W (NewS W l)) := hidden (fun W hB => cloneS_calls A n c l W (Hh.out.below hB (Nat.le_refl _)) hn hc hA (by omega))
      have Kk : Hid (∀ W A' c', Rd W A' (strs l) → Calls Try.prog 43 #[.slice A' n c'] W (KOPost W l r)) := hidden (fun W A' c' h' => keyOps_calls A' n c' l W h' hn (by omega) r hr)
      have Ks : Hid (∀ W, Below w.heap.size w W → Calls Try.prog 44 #[.slice A n c] W fun e w' => e = .returned (.bool r) ∧ Below W.heap.size W w') := hidden (fun W hB => specOps_calls A n c l W (Hh.out.below hB (Nat.le_refl _)) hn (by omega) r hr)
      have Ke : Hid (∀ W A' c', Below w.heap.size w W → Rd W A' (strs l) → Calls Try.prog 35 #[.slice A' n c', .slice A n c] W fun e w' => e = .returned (.bool true) ∧ Below W.heap.size W w') := hidden (fun W A' c' hB h' => equalS_calls A' A n c' n c l l W h' hn (Hh.out.below hB (Nat.le_refl _)) hn (by omega) true (by simp))
      have Hpos : Hid (0 < l.length) := hidden (by omega)
      clear h hn hr hq hA hc h0
      cases r with
      | true =>
        go_enter Try.func12, Try.ntmps12
        go_wp2_with (first
          | (go_at_call 36; go_must (refine K1.out.mono ?_; rintro e w1 ⟨rfl, rfl⟩))
          | (go_at_call 37; go_must (refine K2.out.mono ?_; rintro e w2 ⟨rfl, hB2⟩; have HB2 := hidden hB2; clear hB2))
          | (go_at_call 40; first
            | ((with_reducible refine (Kc.out w2 HB2.out).mono ?_); rintro e w3 ⟨v3, rfl, hO3, hB3⟩; have HB3 := hidden (below_next HB2.out hB3); obtain ⟨g3, c3, rfl, hg3, hO3b⟩ := ownS_pos hO3 Hpos.out; have HG3 := hidden (Nat.le_trans HB2.out.size hg3); have HO3 := hidden hO3b; rw [Hl.out] at HO3; rw [Hl.out]; clear hB3 hO3 hO3b hg3)
            | ((with_reducible refine (Kc.out w5 HB5.out).mono ?_); rintro e w6 ⟨v6, rfl, hO6, hB6⟩; have HB6 := hidden (below_next HB5.out hB6); obtain ⟨A6, c6, rfl, _, hr6, _⟩ := hO6.read; rw [strs_len, Hl.out]; have HR6 := hidden hr6; clear hB6 hO6 hr6))
          | (go_at_call 41; go_must (refine (sortS_calls g3 c3 n _ l w3 HO3.out Hl.out (by omega)).mono ?_; rintro e w4 ⟨rfl, hg4, ss, hss, hO4⟩; have HO4 := hidden hO4; have Hss := hidden hss; have HB4 := hidden (HB3.out.grown hg4 HB3.out.size (by rintro k ⟨⟩; exact HG3.out)); clear hg4 hss hO4))
          | (go_at_call 42; go_must (refine (compactS_calls g3 c3 n _ ss w4 HO4.out Hss.out (by omega)).mono ?_; rintro e w5 ⟨⟨m5, rfl⟩, hg5⟩; have HB5 := hidden (HB4.out.grown hg5 HB4.out.size (by rintro k ⟨⟩; exact HG3.out)); clear hg5))
          | (go_at_call 39; first
            | ((with_reducible refine (opsLive_calls w5).mono ?_); rintro e w9 ⟨rfl, hB9⟩; have HB9 := hidden (below_next HB5.out hB9); clear hB9)
            | ((with_reducible refine (opsLive_calls w10).mono ?_); rintro e w9 ⟨rfl, hB9⟩; have HB9 := hidden (below_next HB10.out hB9); clear hB9))
          | (go_at_call 43; go_must (refine (Kk.out w6 A6 c6 HR6.out).mono ?_; rintro e w7 ⟨hB7, A7, n7, c7, rfl, hR7⟩; have HB7 := hidden (below_next HB6.out hB7); obtain ⟨hQ7, hn7⟩ := hR7 rfl; obtain rfl : n = n7 := Hl.out.symm.trans hn7; have HQ7 := hidden hQ7; clear hB7 hR7 hQ7 hn7))
          | (go_at_call 44; go_must (refine (Ks.out w7 HB7.out).mono ?_; rintro e w8 ⟨rfl, hB8⟩; have HB8 := hidden (below_next HB7.out hB8); have HR8 := hidden (HQ7.out.below hB8 (Nat.le_refl _)); clear hB8))
          | (go_at_call 35; go_must (refine (Ke.out w8 A7 c7 HB8.out HR8.out).mono ?_; rintro e w10 ⟨rfl, hB10⟩; have HB10 := hidden (below_next HB8.out hB10); clear hB10)))
        all_goals
          go_ret
          exact ⟨rfl, HB9.out⟩
      | false =>
        go_enter Try.func12, Try.ntmps12
        go_wp2_with (first
          | (go_at_call 36; go_must (refine K1.out.mono ?_; rintro e w1 ⟨rfl, rfl⟩))
          | (go_at_call 37; go_must (refine K2.out.mono ?_; rintro e w2 ⟨rfl, hB2⟩; have HB2 := hidden hB2; clear hB2))
          | (go_at_call 40; first
            | ((with_reducible refine (Kc.out w2 HB2.out).mono ?_); rintro e w3 ⟨v3, rfl, hO3, hB3⟩; have HB3 := hidden (below_next HB2.out hB3); obtain ⟨g3, c3, rfl, hg3, hO3b⟩ := ownS_pos hO3 Hpos.out; have HG3 := hidden (Nat.le_trans HB2.out.size hg3); have HO3 := hidden hO3b; rw [Hl.out] at HO3; rw [Hl.out]; clear hB3 hO3 hO3b hg3)
            | ((with_reducible refine (Kc.out w5 HB5.out).mono ?_); rintro e w6 ⟨v6, rfl, hO6, hB6⟩; have HB6 := hidden (below_next HB5.out hB6); obtain ⟨A6, c6, rfl, _, hr6, _⟩ := hO6.read; rw [strs_len, Hl.out]; have HR6 := hidden hr6; clear hB6 hO6 hr6))
          | (go_at_call 41; go_must (refine (sortS_calls g3 c3 n _ l w3 HO3.out Hl.out (by omega)).mono ?_; rintro e w4 ⟨rfl, hg4, ss, hss, hO4⟩; have HO4 := hidden hO4; have Hss := hidden hss; have HB4 := hidden (HB3.out.grown hg4 HB3.out.size (by rintro k ⟨⟩; exact HG3.out)); clear hg4 hss hO4))
          | (go_at_call 42; go_must (refine (compactS_calls g3 c3 n _ ss w4 HO4.out Hss.out (by omega)).mono ?_; rintro e w5 ⟨⟨m5, rfl⟩, hg5⟩; have HB5 := hidden (HB4.out.grown hg5 HB4.out.size (by rintro k ⟨⟩; exact HG3.out)); clear hg5))
          | (go_at_call 39; first
            | ((with_reducible refine (opsLive_calls w5).mono ?_); rintro e w9 ⟨rfl, hB9⟩; have HB9 := hidden (below_next HB5.out hB9); clear hB9)
            | ((with_reducible refine (opsLive_calls w8).mono ?_); rintro e w9 ⟨rfl, hB9⟩; have HB9 := hidden (below_next HB8.out hB9); clear hB9))
          | (go_at_call 43; go_must (refine (Kk.out w6 A6 c6 HR6.out).mono ?_; rintro e w7 ⟨hB7, A7, n7, c7, rfl, hR7⟩; have HB7 := hidden (below_next HB6.out hB7); clear hB7 hR7))
          | (go_at_call 44; go_must (refine (Ks.out w7 HB7.out).mono ?_; rintro e w8 ⟨rfl, hB8⟩; have HB8 := hidden (below_next HB7.out hB8); clear hB8)))
        all_goals
          go_ret
          exact ⟨rfl, HB9.out⟩
end Go.Proofs.Ytmibnnmampfalaa
