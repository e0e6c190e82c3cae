/- parseValue, at every text: by the texts' length. A whole text is parsed: Parser.Parse, ParseBytes. -/
import Derived.Test.YtbdmdajbdmdknaaGreatDoorM15
import Derived.Test.YtbdmdajbdmdknaaGreatDoorJsonX
import Derived.Test.YtbdmdajbdmdknaaGreatDoorM1
namespace Go.Proofs.YtbdmdajbdmdknaaGreatDoor
open Go.RowKit
set_option linter.unusedVariables false
set_option linter.unusedSimpArgs false

theorem callsV (f : Nat) : CallsV f := by
  induction f using Nat.strongRecOn with
  | ind f ih =>
    intro w C co VB n cap s d hC hf hN hd
    obtain ⟨g, rfl⟩ : ∃ g, f = g + 1 := ⟨f - 1, by omega⟩
    cases hs : s.data.toList with
    | nil =>
      rw [show pVal (g + 1) d ([] : Bs) = none from by rw [pVal]]
      exact val_empty w C co VB n d s (emp_of hs)
    | cons c r =>
      have hsz := (cons_of hs).1
      by_cases h300 : d = 300
      · rw [pVal_deep (by omega)]
        exact val_deep w C co VB n d s (by omega) h300
      · have hd2 : d < 300 := by omega
        have hV : ∀ q, q < g → CallsV q := fun q hq => ih q (by omega)
        by_cases h1 : c = 123
        · subst h1
          rw [pVal_obj hd2]
          exact val_obj g d hV w C co VB n cap s hC hf hN hd2 r hs
        by_cases h2 : c = 91
        · subst h2
          rw [pVal_arr hd2]
          exact val_arr g d hV w C co VB n cap s hC hf hN hd2 r hs
        by_cases h3 : c = 34
        · subst h3
          rw [pVal_str hd2]
          exact val_str d w C co VB n cap s hC hN hd2 r hs
        by_cases h4 : c = 116
        · subst h4
          rw [pVal_t hd2]
          exact val_t d w C co VB n cap s hC hN hd2 r hs
        by_cases h5 : c = 102
        · subst h5
          rw [pVal_f hd2]
          exact val_f d w C co VB n cap s hC hN hd2 r hs
        by_cases h6 : c = 110
        · subst h6
          rw [pVal_n hd2]
          exact val_n d w C co VB n cap s hC hN hd2 r hs
        · rw [pVal_num hd2 h1 h2 h3 h4 h5 h6]
          exact val_num d w C co VB n cap s hC hN hd2 c r hs h1 h2 h3 h4 h5 h6
end Go.Proofs.YtbdmdajbdmdknaaGreatDoor
namespace Go.Proofs.YtbdmdajbdmdknaaGreatDoor
open Go.RowKit
set_option linter.unusedVariables false
set_option linter.unusedSimpArgs false

/-- The bytes of a text, as numbers. -/
def bI (s : ByteArray) : List Int := s.data.toList.map fun b => (b.toNat : Int)
theorem bI_len (s : ByteArray) : (bI s).length = s.size := by unfold bI; rw [List.length_map]; rfl
theorem bI_isB (s : ByteArray) : IsB (bI s) := by
  intro x hx
  obtain ⟨b, _, rfl⟩ := List.mem_map.1 hx
  have := b.toNat_lt
  omega
theorem bI_cells (s : ByteArray) : byteCells s = nums .u8 (bI s) := by unfold byteCells nums bI; rw [List.map_map]; rfl
theorem str_bI (s : ByteArray) : strOfNums (bI s) = s := by
  rw [← bs_self (strOfNums (bI s)), strOfNums_data]
  unfold bI
  rw [List.map_map]
  have : s.data.toList.map ((fun z => UInt8.ofNat z.toNat) ∘ fun b => (b.toNat : Int)) = s.data.toList := by
    conv => rhs; rw [← List.map_id s.data.toList]
    apply List.map_congr_left
    intro b _
    simp
  first | (rw [this]; exact bs_self s) | skip
section
variable {P : Program}
theorem run_appStr {W : World} {t ts ty e : TypeId} {z : Value} (ht : P.underlying t = some (.slice e)) (hts : P.underlying ts = some .string) (hinfo : (P.info? e).map (fun i => (i.zero, i.size, i.bytes)) = some (some z, 1, 1)) (s : ByteArray) (hl : s.size ≤ 1000000000) :
    ∃ A c w1, (Builtin.append_ #[t, ts] ty #[.slice none 0 0, .string s]).run P W = .ok (.slice A s.size c) w1 ∧ Below W.heap.size W w1 ∧ Rd w1 A (nums .u8 (bI s)) ∧ ∀ ad, A = some ad → W.heap.size ≤ ad.block := by
  obtain ⟨i0, hi, hzz⟩ := Option.map_eq_some_iff.1 hinfo
  simp only [Prod.mk.injEq] at hzz
  obtain ⟨hz0, hz1, hz2⟩ := hzz
  rcases Nat.eq_zero_or_pos s.size with h0 | h0
  · refine ⟨none, 0, W, ?_, Below.refl _ _, ?_⟩
    · rw [h0]
      have hl2 : (Builtin.lenOf (.string s)).run P W = .ok 0 W := by simp [Builtin.lenOf, h0]
      have hf : (Builtin.firstCells 1 0 (.string s)).run P W = .ok #[] W := by
        have := firstCells_string (P := P) s W
        rw [h0] at this
        rw [this]
        have : byteCells s = [] := List.eq_nil_of_length_eq_zero (by rw [byteCells_length, h0])
        rw [this]
      simp [Builtin.append_, run_underlying ht, run_underlying hts, sizeOf, typeInfo, hi, hz1, hl2, h0, Builtin.lenOf, Builtin.firstCells]
    · have : bI s = [] := List.eq_nil_of_length_eq_zero (by rw [bI_len, h0])
      rw [this]
      exact ⟨Rd.nil _ _, fun ad h => by cases h⟩
  · have hs := Src.ofString (P := P) W hts s
    rw [← hz1] at hs
    have hr := run_append_grow_src (P := P) W t ts ty e i0 z ht hi hz0 none 0 0 [] (run_firstCells_none W.drew i0.size 0 0 0) (.string s) s.size (byteCells s) hs (by omega) (by omega) (growslice_fits (by omega) (by rw [hz2]; omega))
    rw [Nat.zero_add] at hr
    refine ⟨_, _, _, hr, (below_drewN0 (Below.refl _ _) 1).trans (below_alloc0 W.drew _), ?_⟩
    have e2 : (([] ++ byteCells s).toArray ++ Builtin.zeroCells z.cells (grownCap W s.size 0 e - s.size)) = (nums .u8 (bI s) ++ (Builtin.zeroCells z.cells (grownCap W s.size 0 e - s.size)).toList).toArray := by
      rw [← bI_cells]; apply Array.ext'; simp
    rw [e2]
    exact ⟨Rd.left (Rd.new W.drew e _ _ rfl), fun ad h => by cases h; exact Nat.le_refl _⟩
end
theorem Rd.altC {w w1 : World} {A : Option Addr} {vs : List Value} {S : Nat → Nat → Prop} (h : Rd w A vs) (k : AltC w w1 S) (hn : ∀ ad, A = some ad → ∀ y, ¬ S ad.block y) : Rd w1 A vs := by
  intro i v hv
  obtain ⟨b, o, e, hlt, hc⟩ := h i v hv
  have := (k.cell b (o + i) hlt (hn _ e _)).1
  exact ⟨b, o, e, Nat.lt_of_lt_of_le hlt k.size, this.trans hc⟩
set_option maxRecDepth 100000 in
set_option maxHeartbeats 1000000 in
theorem b2s_calls (A : Option Addr) (n c : Nat) (s : ByteArray) (w : World) (h : Rd w A (nums .u8 (bI s))) (hn : s.size = n) :
    Calls Tryz.prog 84 #[.slice A n c] w fun e w' => e = .returned (.string s) ∧ w = w' := by
  have hr : (convert 31 9 (.slice A n c)).run Tryz.prog w = .ok (.string s) w := by
    have := run_string (P := Tryz.prog) (W := w) (c := c) Tryz.underlying31 Tryz.underlying5 Tryz.underlying9 h (by rw [bI_len, hn])
    rwa [str_bI] at this
  clear h
  go_enter Tryz.func84, Tryz.ntmps84
  go_wp2
  go_ret
  exact ⟨rfl, rfl⟩
end Go.Proofs.YtbdmdajbdmdknaaGreatDoor
