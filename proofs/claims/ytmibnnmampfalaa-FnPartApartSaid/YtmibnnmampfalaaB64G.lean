/- The doors of writing: Encoded, and as a text. -/
import Derived.Test.YtmibnnmampfalaaB64F
namespace Go.Proofs.Ytmibnnmampfalaa
open Go.RowKit
set_option linter.unusedVariables false
set_option linter.unusedSimpArgs false

theorem alpha_isB (url : Bool) : IsB (alpha url) := by
  intro x hx
  obtain ⟨i, hi, rfl⟩ := List.mem_iff_getElem.1 hx
  have h := alpha_at url (i := i) (by rw [alpha_len] at hi; exact hi)
  have e : gi (alpha url) i = (alpha url)[i] := by simp [gi, List.getD_eq_getElem?_getD, hi]
  rw [e] at h; omega
theorem encF_isB (url : Bool) {l : List Int} (hb : IsB l) : IsB (encF (alpha url) l) := by
  intro x hx
  obtain ⟨i, hi, rfl⟩ := encF_mem _ l hb x hx
  have := alpha_at url hi
  omega
set_option maxRecDepth 100000 in
set_option maxHeartbeats 1000000 in
theorem encoded_calls (A : Option Addr) (n c : Nat) (l : List Int) (w : World) (h : Rd w A (nums .u8 l)) (hn : l.length = n) (hb : IsB l) (hc : n ≤ c) (hA : A = none → c = 0) (hN : n ≤ 100000) :
    Calls Try.prog 17 #[.slice A n c] w (NewB w (encF (alpha true) l)) := by
  have HA := hidden hA
  have H := hidden h
  clear hA h
  go_enter Try.func17, Try.ntmps17
  go_wp2_with (first
    | (go_at_call 46; go_must (refine (clone_calls A n c l _ H.out hn hc HA.out (by omega)).mono ?_; rintro e w1 ⟨v1, rfl, hO1, hB1⟩; obtain ⟨A1, c1, rfl, hc1, hr1, hA1⟩ := hO1.read; rw [nums_len, hn]; rw [nums_len, hn] at hc1))
    | (go_at_call 47; go_must (refine (encodeB_calls A1 n c1 l _ hr1 hn hb hc1 hN).mono ?_; rintro e w2 ⟨v2, rfl, hO2, hB2⟩)))
  go_ret
  exact ⟨v2, rfl, hO2.lower hB1.size, below_next hB1 hB2⟩
set_option maxRecDepth 100000 in
set_option maxHeartbeats 1000000 in
theorem toText_calls (g : Nat) (A : Option Addr) (n c : Nat) (al dm l : List Int) (w : World) (hE : EncAt w g al dm (-1)) (h : Rd w A (nums .u8 l)) (hn : l.length = n) (hb : IsB l) (hc : n ≤ c) (hN : n ≤ 100000) :
    Calls Try.prog 134 #[.pointer (some ⟨g, 0, none⟩), .slice A n c] w fun e w' => e = .returned (.string (strOfNums (encF al l))) ∧ Below w.heap.size w w' := by
  obtain ⟨m, hm⟩ : ∃ m, m = encLen n := ⟨_, rfl⟩
  have hmb : m ≤ 200000 := by rw [hm]; unfold encLen; omega
  have Hlen : Hid ((encF al l).length = m) := hidden (by rw [encLen_eq, hn, hm])
  have Hm := hidden hm
  have H := hidden h
  have hmi : ¬ (m : Int) < 0 := by omega
  clear hm h
  go_enter Try.func134, Try.ntmps134
  go_wp2_with (first
    | (go_at_call 135; go_must (refine (encodedLen_calls g _ _ n m hN Hm.out _ hE).mono ?_; rintro e w2 ⟨rfl, rfl⟩))
    | (with_reducible refine at_dst 10 ?_; go_must (refine walk_make rfl _ _ (n := m) rfl Try.underlying22 info_u8 rfl rfl rfl rfl rfl (by omega) (by omega) ?_))
    | (go_at_call 133; go_must (refine (encodeX_calls g _ 5 0 m m _ _ A n c l (List.replicate m 0) _ (hE.alloc _) (H.out.alloc _) hn hb hc (zeros_row _ m _) Hm.out (Nat.le_refl _) (by simp) (Nat.ne_of_lt hE.lt) (rd_lt H.out hn (Nat.le_refl _)) hN).mono ?_; rintro e w3 ⟨rfl, hR3, hg3⟩; rw [splice_full m _ Hlen.out] at hR3; have ks := run_string (P := Try.prog) (c := m) Try.underlying22 Try.underlying5 Try.underlying9 (Rd.row hR3) Hlen.out)))
  go_ret
  exact ⟨rfl, (below_alloc0 _ _).grown hg3 (by simp) (by rintro k ⟨⟩; exact Nat.le_refl _)⟩
end Go.Proofs.Ytmibnnmampfalaa
