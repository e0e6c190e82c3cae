/- The doors of reading, and the fixed example. -/
import Derived.Test.YtmibnnmampfalaaDoorB64O
import Derived.Lib.SmallJoins
namespace Go.Proofs.YtmibnnmampfalaaDoor
open Go.RowKit
set_option linter.unusedVariables false
set_option linter.unusedSimpArgs false

theorem defDec_calls (A : Option Addr) (n c : Nat) (l : List Int) (w : World) (h : Rd w A (nums .u8 l)) (hn : l.length = n) (hc : n ≤ c) (hb : IsB l) (hN : n ≤ 100000) :
    Calls Tryd.prog 69 #[.agg #[], .slice A n c] w fun e w' => DecPost w l e w' := by
  cases hu : stdIn l <;> cases hp : padded? l
  · exact dec_zzRawURL A n c l w h hn hc hb hN hu.symm hp.symm
  · exact dec_zzURL A n c l w h hn hc hb hN hu.symm hp.symm
  · exact dec_zzRawStd A n c l w h hn hc hb hN hu.symm hp.symm
  · exact dec_zzStdPadded A n c l w h hn hc hb hN hu.symm hp.symm
set_option maxHeartbeats 1000000 in
theorem getDec_calls (w : World) : Calls Tryd.prog 35 #[] w fun e w' => e = .returned (.iface 80 (.agg #[])) ∧ w = w' := by
  go_enter Tryd.func35, Tryd.ntmps35
  go_wp2
  go_ret
  exact ⟨rfl, rfl⟩
set_option maxHeartbeats 1000000 in
theorem decodeB_calls (A : Option Addr) (n c : Nat) (l : List Int) (w : World) (h : Rd w A (nums .u8 l)) (hn : l.length = n) (hc : n ≤ c) (hb : IsB l) (hN : n ≤ 100000) :
    Calls Tryd.prog 27 #[.slice A n c] w fun e w' => DecPost w l e w' := by
  have H := hidden h
  have Hn := hidden hn
  clear h hn
  go_enter Tryd.func27, Tryd.ntmps27
  go_wp2_with (first
    | (go_at_call 35; go_must (refine (getDec_calls _).mono ?_; rintro e w1 ⟨rfl, rfl⟩))
    | (go_at_call 69; go_must (refine (defDec_calls A n c l _ H.out Hn.out hc hb hN).mono ?_; intro e w2 hd; have HD := hidden hd; rcases hd.res with ⟨v, out, rfl, hdec, hO, hIB⟩ | ⟨t', v', rfl, hdec⟩; all_goals clear hdec; all_goals dsimp only)))
  · go_ret2
    exact HD.out
  · go_ret2
    exact HD.out
/-- What the door of reading gives. -/
structure ImpPost (w : World) (l : List Int) (e : Ending) (w' : World) : Prop where
  below : Below w.heap.size w w'
  res : (∃ (v : Value) (out : List Int), e = .returned (.tuple #[v, .bool true]) ∧ decOf l = some out ∧ Own w' w.heap.size 5 v (nums .u8 out) ∧ IsB out) ∨
    (e = .returned (.tuple #[.slice none 0 0, .bool false]) ∧ decOf l = none)
set_option maxHeartbeats 1000000 in
theorem decoded_calls (A : Option Addr) (n c : Nat) (l : List Int) (w : World) (h : Rd w A (nums .u8 l)) (hn : l.length = n) (hc : n ≤ c) (hA : A = none → c = 0) (hb : IsB l) (hN : n ≤ 100000) :
    Calls Tryd.prog 18 #[.slice A n c] w fun e w' => ImpPost w l e w' := by
  have H := hidden h
  have Hn := hidden hn
  have HA := hidden hA
  clear h hn hA
  go_enter Tryd.func18, Tryd.ntmps18
  go_wp2_with (first
    | (go_at_call 21; go_must (refine (clone_calls A n c l _ H.out Hn.out hc HA.out (by omega)).mono ?_; rintro e w1 ⟨v1, rfl, hO1, hB1⟩; obtain ⟨A1, c1, rfl, hc1, hr1, hA1⟩ := hO1.read; rw [nums_len, Hn.out]; rw [nums_len, Hn.out] at hc1))
    | (go_at_call 27; go_must (refine (decodeB_calls A1 n c1 l _ hr1 Hn.out hc1 hb hN).mono ?_; intro e w2 hd; have hB2 := below_next hB1 hd.below; rcases hd.res with ⟨v, out, rfl, hdec, hO, hIB⟩ | ⟨t', v', rfl, hdec⟩; all_goals (have HD := hidden hdec); all_goals clear hdec; all_goals dsimp only)))
  · go_ret2
    exact ⟨hB2, .inl ⟨v, out, rfl, HD.out, hO.lower hB1.size, hIB⟩⟩
  · go_ret2
    exact ⟨hB2, .inr ⟨rfl, HD.out⟩⟩
theorem Rd.marked (w : World) (t : Nat) (vs : List Value) (fr : Nat × Nat) (k : Nat) (h : k = w.heap.size) : Rd (w.alloc (.cells vs.toArray t fr)) (some ⟨k, 0, none⟩) vs := by
  subst h
  intro i v hv
  refine ⟨_, _, rfl, by simp, ?_⟩
  rw [Nat.zero_add, World.cell?_alloc_mark]
  simpa using hv
theorem awake_dec : decOf [90, 109, 56] = some [102, 111] := by kernel_rfl
theorem awake_enc : encF (alpha true) [102, 111] = [90, 109, 56] := by kernel_rfl
set_option maxRecDepth 100000 in
set_option maxHeartbeats 1000000 in
theorem partAwake_calls (w : World) : Calls Tryd.prog 6 #[] w fun e w' => e = .returned (.bool true) ∧ Below w.heap.size w w' := by
  have hb1 : Hid (IsB [90, 109, 56]) := hidden (by unfold IsB; decide)
  have hb2 : Hid (IsB [102, 111]) := hidden (by unfold IsB; decide)
  have hd : Hid (decOf [90, 109, 56] = some [102, 111]) := hidden awake_dec
  have he : Hid (encF (alpha true) [102, 111] = [90, 109, 56]) := hidden awake_enc
  have s1 : strOfNums [102, 111] = ⟨#[102, 111]⟩ := by rfl
  have s2 : strOfNums [90, 109, 56] = ⟨#[90, 109, 56]⟩ := by rfl
  have hcv1 := Go.Joins.run_convert_bytes_const_at (P := Tryd.prog) w 22 5 #[.int .u8 90, .int .u8 109, .int .u8 56] 3 3 _ rfl Tryd.underlying22 Tryd.underlying5
  go_enter Tryd.func6, Tryd.ntmps6
  go_wp2_with (first
    | (go_at_call 18; go_must (refine (decoded_calls _ 3 3 [90, 109, 56] _ (Rd.marked w 5 (nums .u8 [90, 109, 56]) _ _ rfl) rfl (by omega) (by intro h; cases h) hb1.out (by omega)).mono ?_; intro e w1 hq; have hB1 := below_next (below_alloc0 _ _) hq.below; obtain ⟨v, rfl, hO1⟩ : ∃ v, e = .returned (.tuple #[v, .bool true]) ∧ Own w1 _ 5 v (nums .u8 [102, 111]) := (by rcases hq.res with ⟨v, out, h1, h2, h3, h4⟩ | ⟨h1, h2⟩; (rw [hd.out] at h2; cases h2; exact ⟨v, h1, h3⟩); (rw [hd.out] at h2; cases h2)); obtain ⟨A1, c1, rfl, hc1, hr1, hA1⟩ := hO1.read; rw [show (nums .u8 [102, 111]).length = 2 from rfl] at hc1; rw [show (nums .u8 [102, 111]).length = 2 from rfl]; have k1 := run_string (P := Tryd.prog) (c := c1) Tryd.underlying22 Tryd.underlying5 Tryd.underlying9 hr1 (n := 2) rfl; rw [s1] at k1; clear hq; clear hcv1; have hcv2 := Go.Joins.run_convert_bytes_const_at (P := Tryd.prog) w1 22 5 #[.int .u8 102, .int .u8 111] 2 2 _ rfl Tryd.underlying22 Tryd.underlying5; dsimp only))
    | (go_at_call 19; go_must (refine (encoded_calls _ 2 2 [102, 111] _ (Rd.marked w1 5 (nums .u8 [102, 111]) _ _ rfl) rfl hb2.out (by omega) (by intro h; cases h) (by omega)).mono ?_; rintro e w2 ⟨v2, rfl, hO2, hB2⟩; clear hcv2; rw [he.out] at hO2; obtain ⟨A2, c2, rfl, hc2, hr2, hA2⟩ := hO2.read; rw [show (nums .u8 [90, 109, 56]).length = 3 from rfl]; have k2 := run_string (P := Tryd.prog) (c := c2) Tryd.underlying22 Tryd.underlying5 Tryd.underlying9 hr2 (n := 3) rfl; rw [s2] at k2)))
  go_ret
  exact ⟨rfl, below_next (below_next hB1 (below_alloc0 _ _)) hB2⟩
end Go.Proofs.YtmibnnmampfalaaDoor
