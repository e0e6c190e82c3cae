/- The walk of the law FnWrapPadApart. -/
import Derived.Test.YticgdbcnknhndaaPadAwake
import Derived.Test.YticgdbcnknhndaaRowkit
namespace Go.Proofs.Yticgdbcnknhndaa
open Go.RowKit
set_option linter.unusedVariables false
set_option linter.unusedSimpArgs false

def slvs (l : List (Option Addr × Nat × Nat)) : List Value := l.map fun x => .slice x.1 x.2.1 x.2.2
theorem slvs_at (l : List (Option Addr × Nat × Nat)) (i : Nat) (h : i < l.length) : (slvs l)[i]? = some (.slice (l[i]'h).1 (l[i]'h).2.1 (l[i]'h).2.2) := by simp [slvs, h]
set_option maxHeartbeats 400000 in
theorem partShort_calls (X : Option Addr) (n c : Nat) (l : List (Option Addr × Nat × Nat)) (w : World) (h : Rd w X (slvs l)) (hn : l.length = n) (hb : n ≤ 1000) (r : Bool) (hr : r = true ↔ ∀ x ∈ l, x.2.1 ≤ 2000) :
    Calls Try.prog 18 #[.slice X n c] w fun e w' => e = .returned (.bool r) ∧ w = w' := by
  have Hr := hidden hr
  clear hr
  go_enter Try.func18, Try.ntmps18
  go_wp2
  go_loop [7] (fun i => ∃ k : Nat, k ≤ n ∧ i = .int .i64 k ∧ Hid (∀ j (hj : j < l.length), j < k → (l[j]'hj).2.1 ≤ 2000)) (fun i => n - (intOf i).toNat)
  case atStart => exact ⟨0, by omega, rfl, hidden (by omega)⟩
  case round =>
    obtain ⟨k, hk, rfl, hle⟩ := hrel
    by_cases hlt : k < n
    · have hlt' : k < l.length := by omega
      obtain ⟨b0, o0, rfl, _, c0⟩ := h k _ (slvs_at l k hlt')
      have hx : Hid (∀ x, x = l[k] → x ∈ l) := hidden (fun x hx => hx ▸ List.getElem_mem _)
      generalize hs : l[k] = s at c0
      have Hs := hidden hs
      clear hs h
      obtain ⟨sA, sn, sc⟩ := s
      simp only at c0
      by_cases h2 : sn ≤ 2000
      · have h2i : ¬ (2000 : Int) < (sn : Int) := by omega
        go_wp2
        go_round
        case rel =>
          refine ⟨k + 1, by omega, by go_num, hidden (fun j hj hjk => ?_)⟩
          rcases Nat.lt_succ_iff_lt_or_eq.1 hjk with h | rfl
          · exact hle.out j hj h
          · rw [Hs.out]; exact h2
        case measure => simp [intOf]; omega
      · have h2i : (2000 : Int) < (sn : Int) := by omega
        have hrf : r = false := by
          cases r with
          | false => rfl
          | true => exact absurd (Hr.out.1 rfl _ (hx.out _ Hs.out.symm)) h2
        subst hrf
        go_wp2
        go_ret
        exact ⟨rfl, rfl⟩
    · obtain rfl : k = n := by omega
      have hrt : r = true := Hr.out.2 fun x hx => by
        obtain ⟨j, hj, rfl⟩ := List.mem_iff_getElem.1 hx
        exact hle.out j hj (by omega)
      subst hrt
      go_wp2
      go_ret
      exact ⟨rfl, rfl⟩
theorem padded_isB {l : List Int} (hb : IsB l) {q : Nat} (h1 : 1 ≤ q) (h2 : q ≤ 255) : IsB (padded l q) := padBy_isB hb (by omega)
theorem padded_inj (a b : List Int) (q : Nat) (h1 : 1 ≤ q) : padded a q = padded b q ↔ a = b := by
  constructor
  · intro h
    have ha : a.length % q < q := Nat.mod_lt _ h1
    have hb : b.length % q < q := Nat.mod_lt _ h1
    exact padBy_inj (by omega) (by omega) h
  · rintro rfl; rfl
structure RetP (w w' : World) (l : List Int) (A : Option Addr) (c : Nat) : Prop where
  cap : l.length ≤ c
  nil : A = none → c = 0
  rd : Rd w' A (nums .u8 l)
  bel : Below w.heap.size w w'
theorem RetP.of {w w' : World} {e : Ending} {l : List Int} (h : NewB w l e w') : ∃ A c, e = .returned (.slice A l.length c) ∧ RetP w w' l A c := by
  obtain ⟨v, rfl, hO, hB⟩ := h
  obtain ⟨A, c, rfl, hc, hr, hA⟩ := hO.read
  rw [nums_len] at hc ⊢
  exact ⟨A, c, rfl, ⟨hc, hA, hr, hB⟩⟩
set_option maxRecDepth 10000 in
set_option maxHeartbeats 2000000 in
theorem padApart_walk (A : Option Addr) (n c : Nat) (zs : List Int) (B : Option Addr) (m c' : Nat) (ys : List Int) (blk : Int) (w : World) (hrow : IsRow .u8 w A n c zs) (hy : n * 1 ≤ 140737488351232) (hrow' : IsRow .u8 w B m c' ys) (hy' : m * 1 ≤ 140737488351232) (wb : (Lit.int .u8 blk).wf = true) :
    Calls Try.prog 5 #[.slice A n c, .slice B m c', .int .u8 blk] w fun e w' => e = .returned (.bool true) ∧ Below w.heap.size w w' := by
  have hcame := hrow.came
  have hcame' := hrow'.came
  generalize zs.take n = a at hcame
  generalize ys.take m = b at hcame'
  have HC := hidden hcame
  have HC' := hidden hcame'
  clear hcame hrow hcame' hrow'
  obtain ⟨q, rfl, hq⟩ : ∃ q : Nat, blk = (q : Int) ∧ q ≤ 255 := by
    simp [Lit.wf, IntKind.min, IntKind.max, IntKind.bits, IntKind.signed] at wb
    exact ⟨blk.toNat, by omega, by omega⟩
  clear wb
  have hs : ∃ r : Bool, r = true ↔ ∀ x ∈ [(A, n, c), (B, m, c')], x.2.1 ≤ 2000 := ⟨decide (∀ x ∈ [(A, n, c), (B, m, c')], x.2.1 ≤ 2000), by simp⟩
  obtain ⟨r, hr⟩ := hs
  have Hr := hidden hr
  clear hr
  by_cases hbig : n ≤ 2147483647
  · by_cases hbig' : m ≤ 2147483647
    · cases r with
      | false =>
        go_enter Try.func5, Try.ntmps5
        go_wp2_with (first
          | (go_at_call 18; go_must (refine (partShort_calls _ 2 2 [(A, n, c), (B, m, c')] _ (Rd.new w _ (slvs [(A, n, c), (B, m, c')]) _ rfl) rfl (by omega) false Hr.out).mono ?_; rintro e w1 ⟨rfl, rfl⟩))
          | (go_at_call 19; go_must (refine (padAwake_calls _).mono ?_; rintro e w2 ⟨rfl, hB2⟩)))
        go_ret
        exact ⟨rfl, below_next (below_alloc0 _ _) hB2⟩
      | true =>
        have hnm : n ≤ 2000 ∧ m ≤ 2000 := by have := Hr.out.1 rfl; simpa using this
        by_cases hq0 : q = 0
        · subst hq0
          go_enter Try.func5, Try.ntmps5
          go_wp2_with (first
            | (go_at_call 18; go_must (refine (partShort_calls _ 2 2 [(A, n, c), (B, m, c')] _ (Rd.new w _ (slvs [(A, n, c), (B, m, c')]) _ rfl) rfl (by omega) true Hr.out).mono ?_; rintro e w1 ⟨rfl, rfl⟩))
            | (go_at_call 19; go_must (refine (padAwake_calls _).mono ?_; rintro e w2 ⟨rfl, hB2⟩)))
          go_ret
          exact ⟨rfl, below_next (below_alloc0 _ _) hB2⟩
        · obtain ⟨d, hd⟩ : ∃ d, d = decide (a = b) := ⟨_, rfl⟩
          have Hd := hidden hd
          have Hpi : Hid (decide (padded a q = padded b q) = d) := hidden (by rw [hd]; exact decide_eq_decide.2 (padded_inj a b q (by omega)))
          have hb1 : Hid (IsB (padded a q)) := hidden (padded_isB HC.out.isB (by omega) hq)
          have hb2 : Hid (IsB (padded b q)) := hidden (padded_isB HC'.out.isB (by omega) hq)
          have hb3 : Hid (IsB a) := hidden HC.out.isB
          have hb4 : Hid (IsB b) := hidden HC'.out.isB
          have hq1 : 1 ≤ q := by omega
          clear hd
          generalize hpa : padded a q = pa at *
          generalize hpb : padded b q = pb at *
          have Hpa := hidden hpa
          have Hpb := hidden hpb
          clear hpa hpb
          go_enter Try.func5, Try.ntmps5
          go_wp2_with (first
            | (go_at_call 18; go_must (refine (partShort_calls _ 2 2 [(A, n, c), (B, m, c')] _ (Rd.new w _ (slvs [(A, n, c), (B, m, c')]) _ rfl) rfl (by omega) true Hr.out).mono ?_; rintro e w1 ⟨rfl, rfl⟩; have hB1 := below_alloc0 w (.cells (slvs [(A, n, c), (B, m, c')]).toArray 35); generalize (w.alloc (.cells (slvs [(A, n, c), (B, m, c')]).toArray 35)) = w1 at *; have hra := HC.out.rd.below hB1 (Nat.le_refl _); have hrb := HC'.out.rd.below hB1 (Nat.le_refl _)))
            | (go_at_call 22; first
                | (with_reducible refine (partOwn_calls A n c a _ hra HC.out.hlen (by omega)).mono ?_; rintro e w2 hN; obtain ⟨A2, c2, rfl, hN2⟩ := RetP.of hN; clear hN)
                | (with_reducible refine (partOwn_calls B m c' b _ ((hrb.below hN2.bel (Nat.le_refl _)).below hN3.bel (Nat.le_refl _)) HC'.out.hlen (by omega)).mono ?_; rintro e w4 hN; obtain ⟨A4, c4, rfl, hN4⟩ := RetP.of hN; clear hN))
            | (go_at_call 21; first
                | (with_reducible refine (padded_calls A2 a.length c2 q a _ hN2.rd rfl hN2.cap hN2.nil hq1 hq (by rw [HC.out.hlen]; omega)).mono ?_; rintro e w3 hN; rw [Hpa.out] at hN; obtain ⟨A3, c3, rfl, hN3⟩ := RetP.of hN; clear hN)
                | (with_reducible refine (padded_calls A4 b.length c4 q b _ hN4.rd rfl hN4.cap hN4.nil hq1 hq (by rw [HC'.out.hlen]; omega)).mono ?_; rintro e w5 hN; rw [Hpb.out] at hN; obtain ⟨A5, c5, rfl, hN5⟩ := RetP.of hN; clear hN))
            | (go_at_call 20; first
                | (with_reducible refine (partSame_calls A3 A5 pa.length c3 pb.length c5 pa pb _ ((hN3.rd.below hN4.bel (Nat.le_refl _)).below hN5.bel (Nat.le_refl _)) rfl hN5.rd rfl hb1.out hb2.out).mono ?_; rintro e w6 ⟨rfl, rfl⟩; rw [Hpi.out])
                | (with_reducible refine (partSame_calls A B n c m c' a b _ ((((hra.below hN2.bel (Nat.le_refl _)).below hN3.bel (Nat.le_refl _)).below hN4.bel (Nat.le_refl _)).below hN5.bel (Nat.le_refl _)) HC.out.hlen ((((hrb.below hN2.bel (Nat.le_refl _)).below hN3.bel (Nat.le_refl _)).below hN4.bel (Nat.le_refl _)).below hN5.bel (Nat.le_refl _)) HC'.out.hlen hb3.out hb4.out).mono ?_; rintro e w7 ⟨rfl, rfl⟩; rw [← Hd.out]))
            | (go_at_call 19; go_must (refine (padAwake_calls _).mono ?_; rintro e w8 ⟨rfl, hB8⟩)))
          go_ret
          exact ⟨rfl, below_next (below_next (below_next (below_next (below_next hB1 hN2.bel) hN3.bel) hN4.bel) hN5.bel) hB8⟩
    · go_enter Try.func5, Try.ntmps5
      go_wp2
      go_ret
      exact ⟨rfl, Below.refl _ _⟩
  · go_enter Try.func5, Try.ntmps5
    go_wp2
    go_ret
    exact ⟨rfl, Below.refl _ _⟩
end Go.Proofs.Yticgdbcnknhndaa
