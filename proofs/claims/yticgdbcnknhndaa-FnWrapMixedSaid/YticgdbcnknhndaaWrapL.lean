/- Wrapped and Unwrapped, the keys of whole words, and the fixed example of the laws. -/
import Derived.Test.YticgdbcnknhndaaWrapK
import Derived.Lib.SmallJoins
namespace Go.Proofs.Yticgdbcnknhndaa
open Go.RowKit
set_option linter.unusedVariables false
set_option linter.unusedSimpArgs false

/-- A slice of bytes, read in a later world. -/
structure RetB (w w' : World) (l : List Int) (n : Nat) (A : Option Addr) (c : Nat) : Prop where
  len : l.length = n
  cap : n ≤ c
  nil : A = none → c = 0
  rd : Rd w' A (nums .u8 l)
  bel : Below w.heap.size w w'
theorem RetB.of {w w' : World} {e : Ending} {l : List Int} (h : NewB w l e w') (n : Nat) (hn : l.length = n) : ∃ A c, e = .returned (.slice A n c) ∧ RetB w w' l n A c := by
  obtain ⟨v, rfl, hO, hB⟩ := h
  obtain ⟨A, c, rfl, hc, hr, hA⟩ := hO.read
  rw [nums_len, hn] at hc
  rw [nums_len, hn]
  exact ⟨A, c, rfl, ⟨hn, hc, hA, hr, hB⟩⟩
theorem RetB.own {w w' : World} {v : Value} {l : List Int} {b : Nat} (hO : Own w' b 5 v (nums .u8 l)) (hB : Below w.heap.size w w') (n : Nat) (hn : l.length = n) : ∃ A c, v = .slice A n c ∧ RetB w w' l n A c := by
  obtain ⟨A, c, rfl, hc, hr, hA⟩ := hO.read
  rw [nums_len, hn] at hc
  rw [nums_len, hn]
  exact ⟨A, c, rfl, ⟨hn, hc, hA, hr, hB⟩⟩
theorem RetB.from {w0 w w' : World} {l : List Int} {n : Nat} {A : Option Addr} {c : Nat} (h : RetB w w' l n A c) (hb : Below w0.heap.size w0 w) : RetB w0 w' l n A c := by
  obtain ⟨h1, h2, h3, h4, h5⟩ := h
  exact ⟨h1, h2, h3, h4, below_next hb h5⟩

set_option maxHeartbeats 400000 in
theorem wrapped_calls (seed : Int) (A : Option Addr) (m c : Nat) (l : List Int) (w : World) (h : Rd w A (nums .u8 l)) (hl : l.length = 8 * m) (h0 : 0 < m) (hm : m ≤ 1000) (hc : 8 * m ≤ c) (hA : A = none → c = 0) (hb : IsB l) :
    Calls Try.prog 32 #[.int .u64 seed, .slice A (8 * m) c] w fun e w' => ∃ A' c', e = .returned (.tuple #[.slice A' (8 * (m + 1)) c', .bool true]) ∧ RetB w w' (WrapPlain.wrapB (mixC seed) m l) (8 * (m + 1)) A' c' := by
  have hlen := hidden (WrapPlain.wrapB_len (mixC seed) h0 hb hl)
  have Hl := hidden hl
  have HA := hidden hA
  have Hb := hidden hb
  clear hl hA hb
  go_enter Try.func32, Try.ntmps32
  go_wp2_with (first
    | (go_at_call 51; go_must (refine (clone_calls A (8 * m) c l _ h Hl.out hc HA.out (by omega)).mono ?_; rintro e w1 hN; obtain ⟨A1, c1, rfl, hN1⟩ := RetB.of hN (8 * m) Hl.out; clear hN))
    | (go_at_call 58; go_must (refine (wrap_calls seed A1 m c1 l _ hN1.rd Hl.out h0 hm hN1.cap Hb.out).mono ?_; rintro e w2 ⟨v, rfl, hO, hB2⟩; obtain ⟨A2, c2, rfl, hN2⟩ := RetB.own hO hB2 (8 * (m + 1)) hlen.out; clear hO hB2)))
  go_ret2
  exact ⟨_, _, rfl, hN2.from hN1.bel⟩
set_option maxHeartbeats 400000 in
theorem unwrapped_calls (seed : Int) (A : Option Addr) (m c : Nat) (l : List Int) (w : World) (h : Rd w A (nums .u8 l)) (hl : l.length = 8 * (m + 1)) (h0 : 0 < m) (hm : m ≤ 1000) (hc : 8 * (m + 1) ≤ c) (hA : A = none → c = 0) (hb : IsB l) :
    Calls Try.prog 31 #[.int .u64 seed, .slice A (8 * (m + 1)) c] w fun e w' =>
      ((WrapPlain.openS (mixC seed) m l).1 = WrapPlain.iv ∧ ∃ A' c', e = .returned (.tuple #[.slice A' (8 * m) c', .bool true]) ∧ RetB w w' (WrapPlain.openB (mixC seed) m l) (8 * m) A' c') ∨
      ((WrapPlain.openS (mixC seed) m l).1 ≠ WrapPlain.iv ∧ e = .returned (.tuple #[.slice none 0 0, .bool false]) ∧ Below w.heap.size w w') := by
  have hlen := hidden (WrapPlain.openB_len (mixC seed) h0 hb hl)
  have Hl := hidden hl
  have HA := hidden hA
  have Hb := hidden hb
  clear hl hA hb
  go_enter Try.func31, Try.ntmps31
  go_wp2_with (first
    | (go_at_call 51; go_must (refine (clone_calls A (8 * (m + 1)) c l _ h Hl.out hc HA.out (by omega)).mono ?_; rintro e w1 hN; obtain ⟨A1, c1, rfl, hN1⟩ := RetB.of hN (8 * (m + 1)) Hl.out; clear hN))
    | (go_at_call 57; go_must (refine (unwrap_calls seed A1 m c1 l _ hN1.rd Hl.out h0 hm hN1.cap Hb.out).mono ?_; rintro e w2 ⟨hB2, ⟨hiv, v, rfl, hO⟩ | ⟨hiv, a, rfl⟩⟩)))
  · obtain ⟨A2, c2, rfl, hN2⟩ := RetB.own hO hB2 (8 * m) hlen.out
    clear hO hB2
    go_wp2
    go_ret2
    exact .inl ⟨hiv, _, _, rfl, hN2.from hN1.bel⟩
  · go_wp2
    go_ret2
    exact .inr ⟨hiv, rfl, below_next hN1.bel hB2⟩
/-- What was wrapped is opened. -/
theorem reopened_calls (seed : Int) (A : Option Addr) (m c : Nat) (key : List Int) (w : World) (h : Rd w A (nums .u8 (WrapPlain.wrapB (mixC seed) m key))) (hl : key.length = 8 * m) (h0 : 0 < m) (hm : m ≤ 1000) (hc : 8 * (m + 1) ≤ c) (hA : A = none → c = 0) (hb : IsB key) :
    Calls Try.prog 31 #[.int .u64 seed, .slice A (8 * (m + 1)) c] w fun e w' => ∃ A' c', e = .returned (.tuple #[.slice A' (8 * m) c', .bool true]) ∧ RetB w w' key (8 * m) A' c' := by
  refine (unwrapped_calls seed A m c _ w h (WrapPlain.wrapB_len (mixC seed) h0 hb hl) h0 hm hc hA (WrapPlain.wrapB_isB (mixC seed) h0 hb hl)).mono ?_
  intro e w' hU
  rcases hU with ⟨_, A', c', he, hR⟩ | ⟨hiv, _⟩
  · rw [WrapPlain.openB_wrap (mixC seed) h0 hb hl] at hR
    exact ⟨A', c', he, hR⟩
  · exact absurd (by rw [WrapPlain.openS_wrap (mixC seed) h0 hb hl]) hiv
def WholeP (w w' : World) (e : Ending) (key : List Int) (q : Nat) : Prop := ∃ A' c' b, e = .returned (.tuple #[.slice A' (8 * q) c', .bool b]) ∧ (b = true → 2 ≤ q ∧ q ≤ 50) ∧ RetB w w' key (8 * q) A' c'
set_option maxHeartbeats 400000 in
theorem whole_calls (A : Option Addr) (n c : Nat) (l : List Int) (w : World) (h : Rd w A (nums .u8 l)) (hn : l.length = n) (hc : n ≤ c) (hm : n ≤ 2147483647) (q : Nat) (hq : q = n / 8) (key : List Int) (hkey : key = l.take (8 * q)) :
    Calls Try.prog 29 #[.slice A n c] w fun e w' => WholeP w w' e key q := by
  have htd : ((n : Int)).tdiv 8 = (q : Int) := by rw [Int.tdiv_eq_ediv_of_nonneg (by omega)]; omega
  have hq8 : 8 * q ≤ n := by omega
  have hu : ∀ W', (Instr.slice 35 (.slice A n c) none (some (.int .i64 ((q : Int) * 8))) none).run Try.prog W' = .ok (.slice A (8 * q) c) W' := fun W' => run_upto (W := W') Try.underlying35 size_u8 A n c _ (8 * q) (by omega) (by omega)
  have ht : (l.take (8 * q)).length = 8 * q := by rw [List.length_take]; omega
  have hR : Rd w A (nums .u8 (l.take (8 * q))) := by have := h.take (8 * q); rwa [show (nums .u8 l).take (8 * q) = nums .u8 (l.take (8 * q)) from (List.map_take ..).symm] at this
  have Ht := hidden ht
  clear ht hq h hn
  rw [← hkey] at hR Ht
  clear hkey
  by_cases h16 : 16 ≤ 8 * q
  · go_enter Try.func29, Try.ntmps29
    go_wp2_with (go_at_call 22; go_must (refine (partOwn_calls A (8 * q) c key _ hR Ht.out (by omega)).mono ?_; rintro e w1 hN; obtain ⟨A1, c1, rfl, hN1⟩ := RetB.of hN (8 * q) Ht.out; clear hN))
    go_ret2
    refine ⟨_, _, _, rfl, fun hb => ?_, hN1⟩
    have := of_decide_eq_true hb
    omega
  · go_enter Try.func29, Try.ntmps29
    go_wp2_with (go_at_call 22; go_must (refine (partOwn_calls A (8 * q) c key _ hR Ht.out (by omega)).mono ?_; rintro e w1 hN; obtain ⟨A1, c1, rfl, hN1⟩ := RetB.of hN (8 * q) Ht.out; clear hN))
    go_ret2
    exact ⟨_, _, _, rfl, (fun hb => by cases hb), hN1⟩

def awakeKey : List Int := [48, 49, 50, 51, 52, 53, 54, 55, 56, 57, 97, 98, 99, 100, 101, 102]
set_option maxRecDepth 10000 in
set_option maxHeartbeats 1000000 in
theorem wrapAwake_calls (w : World) : Calls Try.prog 30 #[] w fun e w' => e = .returned (.bool true) ∧ Below w.heap.size w w' := by
  have hk : awakeKey.length = 8 * 2 := rfl
  have hb : IsB awakeKey := by unfold IsB awakeKey; decide
  have Hb := hidden hb
  have hR0 : Rd (w.alloc (.cells (nums .u8 awakeKey).toArray 5 (16, 17))) (some ⟨w.heap.size, 0, none⟩) (nums .u8 awakeKey) := fun i v hv => ⟨_, _, rfl, by simp, by rw [Nat.zero_add, World.cell?_alloc_mark]; simpa using hv⟩
  have hB0 := below_alloc0 w (.cells (nums .u8 awakeKey).toArray 5 (16, 17))
  have hcv : (convert 35 35 (.slice (some ⟨w.heap.size, 0, none⟩) 16 16)).run Try.prog (w.alloc (.cells #[.int .u8 48, .int .u8 49, .int .u8 50, .int .u8 51, .int .u8 52, .int .u8 53, .int .u8 54, .int .u8 55, .int .u8 56, .int .u8 57, .int .u8 97, .int .u8 98, .int .u8 99, .int .u8 100, .int .u8 101, .int .u8 102] 5)) = .ok (.slice (some ⟨w.heap.size, 0, none⟩) 16 16) (w.alloc (.cells (nums .u8 awakeKey).toArray 5 (16, 17))) := Lib.run_convert_bytes_const w _ _ _ 16 16 Try.underlying35 Try.underlying5
  have HR0 := hidden hR0
  have HB0 := hidden hB0
  clear hR0 hB0 hb hk
  go_enter Try.func30, Try.ntmps30
  go_wp2_with (first
    | (go_at_call 32; go_must (refine (wrapped_calls 7 _ 2 16 awakeKey _ HR0.out rfl (by omega) (by omega) (by omega) (by intro h; cases h) Hb.out).mono ?_; rintro e w1 ⟨A1, c1, rfl, hN1⟩))
    | (go_at_call 31; go_must (refine (reopened_calls 7 A1 2 c1 awakeKey _ hN1.rd rfl (by omega) (by omega) hN1.cap hN1.nil Hb.out).mono ?_; rintro e w2 ⟨A2, c2, rfl, hN2⟩))
    | (go_at_call 20; go_must (refine (partSame_calls A2 _ 16 c2 16 16 awakeKey awakeKey _ hN2.rd rfl ((HR0.out.below hN1.bel (Nat.le_refl _)).below hN2.bel (Nat.le_refl _)) rfl Hb.out Hb.out).mono ?_; rintro e w3 ⟨rfl, rfl⟩; rw [show decide (awakeKey = awakeKey) = true from rfl])))
  go_ret
  exact ⟨rfl, below_next (below_next HB0.out hN1.bel) hN2.bel⟩
end Go.Proofs.Yticgdbcnknhndaa
