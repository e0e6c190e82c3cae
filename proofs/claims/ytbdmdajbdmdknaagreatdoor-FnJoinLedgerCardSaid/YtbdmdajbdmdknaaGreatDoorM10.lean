/- Bytes written as letters. The doors of writing: Encoded, and as a text. -/
import Derived.Test.YtbdmdajbdmdknaaGreatDoorB64E
namespace Go.Proofs.YtbdmdajbdmdknaaGreatDoor
open Go.RowKit
set_option linter.unusedVariables false
set_option linter.unusedSimpArgs false

theorem encLen_eq (al l : List Int) : (encF al l).length = encLen l.length := encF_len al l
set_option maxRecDepth 100000 in
theorem encode0_calls (g : Nat) (al dm : List Int) (A D : Option Addr) (m cd c : Nat) (w : World) :
    Calls Tryz.prog 175 #[.pointer (some ⟨g, 0, none⟩), .slice D m cd, .slice A 0 c] w fun e w' => e = .returned (.tuple #[]) ∧ w = w' := by
  go_enter Tryz.func175, Tryz.ntmps175
  go_wp2
  (try simp only [Exit.inBlock, Exit.then])
  refine bodyPost_ret (results_none rfl _ _ _) rfl ?_
  exact ⟨rfl, rfl⟩
theorem rd_lt {w : World} {A : Option Addr} {l : List Int} {n k : Nat} (h : Rd w A (nums .u8 l)) (hn : l.length = n) (hk : w.heap.size ≤ k) (h0 : 0 < n) : ∀ b f, A = some ⟨b, f, none⟩ → b ≠ k := by
  obtain ⟨b, o, rfl, hlt, _⟩ := h.all (by omega)
  intro b' f e
  cases e
  omega
theorem encodeX_calls (g gd T o m cd : Nat) (al dm : List Int) (A : Option Addr) (n c : Nat) (l L : List Int) (w : World) (hE : EncAt w g al dm (-1)) (h : Rd w A (nums .u8 l)) (hn : l.length = n) (hb : IsB l) (hc : n ≤ c)
    (hR : Row w gd T (nums .u8 L)) (hm : m = encLen n) (hcd : m ≤ cd) (ho : o + m ≤ L.length) (hg : g ≠ gd) (hA : 0 < n → ∀ b f, A = some ⟨b, f, none⟩ → b ≠ gd) (hN : n ≤ 100000) :
    Calls Tryz.prog 175 #[.pointer (some ⟨g, 0, none⟩), .slice (some ⟨gd, o, none⟩) m cd, .slice A n c] w fun e w' => e = .returned (.tuple #[]) ∧ Row w' gd T (nums .u8 (splice L o (encF al l))) ∧ w.grownBy w' (some gd) := by
  by_cases h0 : 0 < n
  · exact encode_calls g gd T o m cd al dm A n c l L w hE h hn hb hc h0 hR hm hcd ho hg (hA h0) hN
  · obtain rfl : n = 0 := by omega
    obtain rfl : l = [] := List.eq_nil_of_length_eq_zero hn
    refine (encode0_calls g al dm A _ m cd c w).mono ?_
    rintro e w' ⟨rfl, rfl⟩
    exact ⟨rfl, by rw [encF, splice_nil]; exact hR, World.grownBy.refl w _⟩
theorem zeros_row (w : World) (m T : Nat) : Row (w.alloc (.cells (Array.replicate m (.int .u8 0)) T)) w.heap.size T (nums .u8 (List.replicate m 0)) := by
  have := Row.new w T (nums .u8 (List.replicate m 0))
  simpa [nums] using this
theorem splice_full (n : Nat) (M : List Int) (h : M.length = n) : splice (List.replicate n (0 : Int)) 0 M = M := by
  unfold splice
  rw [List.take_zero, List.nil_append, Nat.zero_add, List.drop_of_length_le (by simp [h]), List.append_nil]
set_option maxRecDepth 100000 in
set_option maxHeartbeats 1000000 in
theorem encodeB_calls (A : Option Addr) (n c : Nat) (l : List Int) (w : World) (h : Rd w A (nums .u8 l)) (hn : l.length = n) (hb : IsB l) (hc : n ≤ c) (hN : n ≤ 100000) :
    Calls Tryz.prog 56 #[.slice A n c] w (NewB w (encF (alpha true) l)) := by
  obtain ⟨m, hm⟩ : ∃ m, m = encLen n := ⟨_, rfl⟩
  have hmb : m ≤ 200000 := by rw [hm]; unfold encLen; omega
  have Hlen : Hid ((encF (alpha true) l).length = m) := hidden (by rw [encLen_eq, hn, hm])
  have Hm := hidden hm
  have H := hidden h
  have hmi : ¬ (m : Int) < 0 := by omega
  clear hm h
  go_enter Tryz.func56, Tryz.ntmps56
  go_wp2_with (first
    | (go_at_call 74; go_must (refine (getEnc_calls _).mono ?_; rintro e w1 ⟨g, rfl, hE1, hg1, hB1⟩))
    | (go_at_call 177; go_must (refine (encodedLen_calls g _ _ n m hN Hm.out _ hE1).mono ?_; rintro e w2 ⟨rfl, rfl⟩))
    | (with_reducible refine at_dst 10 ?_; go_must (refine walk_make rfl _ _ (n := m) rfl Tryz.underlying31 info_u8 rfl rfl rfl rfl rfl (by omega) (by omega) ?_))
    | (go_at_call 175; go_must (refine (encodeX_calls g w2.heap.size 5 0 m m _ _ A n c l (List.replicate m 0) _ (hE1.alloc _) ((H.out.below hB1 (Nat.le_refl _)).alloc _) hn hb hc (zeros_row w2 m _) Hm.out (Nat.le_refl _) (by simp) (Nat.ne_of_lt hE1.lt) (rd_lt H.out hn hB1.size) hN).mono ?_; rintro e w3 ⟨rfl, hR3, hg3⟩)))
  go_ret
  rw [splice_full m _ Hlen.out] at hR3
  refine ⟨_, rfl, ?_, ((hB1.trans ((below_alloc0 w2 _).mono hB1.size)).grown hg3 (by simp; have := hB1.size; omega) (by rintro k ⟨⟩; exact hB1.size))⟩
  have := Own.of_row (base := w.heap.size) (rest := []) (c := m) (by rw [List.append_nil]; exact hR3) hB1.size (by simp [nums_len, Hlen.out]) (by simp only [maxLen]; omega)
  rwa [nums_len, Hlen.out] at this
end Go.Proofs.YtbdmdajbdmdknaaGreatDoor
namespace Go.Proofs.YtbdmdajbdmdknaaGreatDoor
open Go.RowKit
set_option linter.unusedVariables false
set_option linter.unusedSimpArgs false

theorem alpha_isB (url : Bool) : IsB (alpha url) := by
  intro x hx
  obtain ⟨i, hi, rfl⟩ := List.mem_iff_getElem.1 hx
  have h := alpha_at url (i := i) (by rw [alpha_len] at hi; exact hi)
  have e : gi (alpha url) i = (alpha url)[i] := by simp [gi, List.getD_eq_getElem?_getD, hi]
  rw [e] at h; omega
theorem encF_isB (url : Bool) {l : List Int} (hb : IsB l) : IsB (encF (alpha url) l) := by
  intro x hx
  obtain ⟨i, hi, rfl⟩ := encF_mem _ l hb x hx
  have := alpha_at url hi
  omega
set_option maxRecDepth 100000 in
set_option maxHeartbeats 1000000 in
theorem encoded_calls (A : Option Addr) (n c : Nat) (l : List Int) (w : World) (h : Rd w A (nums .u8 l)) (hn : l.length = n) (hb : IsB l) (hc : n ≤ c) (hA : A = none → c = 0) (hN : n ≤ 100000) :
    Calls Tryz.prog 37 #[.slice A n c] w (NewB w (encF (alpha true) l)) := by
  have HA := hidden hA
  have H := hidden h
  clear hA h
  go_enter Tryz.func37, Tryz.ntmps37
  go_wp2_with (first
    | (go_at_call 12; go_must (refine (clone_calls A n c l _ H.out hn hc HA.out (by omega)).mono ?_; rintro e w1 ⟨v1, rfl, hO1, hB1⟩; obtain ⟨A1, c1, rfl, hc1, hr1, hA1⟩ := hO1.read; rw [nums_len, hn]; rw [nums_len, hn] at hc1))
    | (go_at_call 56; go_must (refine (encodeB_calls A1 n c1 l _ hr1 hn hb hc1 hN).mono ?_; rintro e w2 ⟨v2, rfl, hO2, hB2⟩)))
  go_ret
  exact ⟨v2, rfl, hO2.lower hB1.size, below_next hB1 hB2⟩
set_option maxRecDepth 100000 in
set_option maxHeartbeats 1000000 in
theorem toText_calls (g : Nat) (A : Option Addr) (n c : Nat) (al dm l : List Int) (w : World) (hE : EncAt w g al dm (-1)) (h : Rd w A (nums .u8 l)) (hn : l.length = n) (hb : IsB l) (hc : n ≤ c) (hN : n ≤ 100000) :
    Calls Tryz.prog 176 #[.pointer (some ⟨g, 0, none⟩), .slice A n c] w fun e w' => e = .returned (.string (strOfNums (encF al l))) ∧ Below w.heap.size w w' := by
  obtain ⟨m, hm⟩ : ∃ m, m = encLen n := ⟨_, rfl⟩
  have hmb : m ≤ 200000 := by rw [hm]; unfold encLen; omega
  have Hlen : Hid ((encF al l).length = m) := hidden (by rw [encLen_eq, hn, hm])
  have Hm := hidden hm
  have H := hidden h
  have hmi : ¬ (m : Int) < 0 := by omega
  clear hm h
  go_enter Tryz.func176, Tryz.ntmps176
  go_wp2_with (first
    | (go_at_call 177; go_must (refine (encodedLen_calls g _ _ n m hN Hm.out _ hE).mono ?_; rintro e w2 ⟨rfl, rfl⟩))
    | (with_reducible refine at_dst 10 ?_; go_must (refine walk_make rfl _ _ (n := m) rfl Tryz.underlying31 info_u8 rfl rfl rfl rfl rfl (by omega) (by omega) ?_))
    | (go_at_call 175; go_must (refine (encodeX_calls g _ 5 0 m m _ _ A n c l (List.replicate m 0) _ (hE.alloc _) (H.out.alloc _) hn hb hc (zeros_row _ m _) Hm.out (Nat.le_refl _) (by simp) (Nat.ne_of_lt hE.lt) (rd_lt H.out hn (Nat.le_refl _)) hN).mono ?_; rintro e w3 ⟨rfl, hR3, hg3⟩; rw [splice_full m _ Hlen.out] at hR3; have ks := run_string (P := Tryz.prog) (c := m) Tryz.underlying31 Tryz.underlying5 Tryz.underlying9 (Rd.row hR3) Hlen.out)))
  go_ret
  exact ⟨rfl, (below_alloc0 _ _).grown hg3 (by simp) (by rintro k ⟨⟩; exact Nat.le_refl _)⟩
end Go.Proofs.YtbdmdajbdmdknaaGreatDoor
