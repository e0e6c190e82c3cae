/- One short field. -/
import Derived.Test.YtmibnnmampfalaaClaimG
namespace Go.Proofs.Ytmibnnmampfalaa
open Go.RowKit
set_option linter.unusedVariables false
set_option linter.unusedSimpArgs false

/-- What follows from a field being called short. -/
structure ShortR (k : Int) (n : Nat) (r : Bool) : Prop where
  out : r = true → 0 ≤ k ∧ k ≤ 3 ∧ n ≤ 20
/-- The answer. -/
structure ShortP (k : Int) (n : Nat) (w : World) (e : Ending) (w' : World) : Prop where
  out : ∃ r, e = .returned (.bool r) ∧ ShortR k n r ∧ Below w.heap.size w w'
set_option maxRecDepth 10000 in
set_option maxHeartbeats 2000000 in
theorem mapShort_calls (g : Nat) (k : Int) (t : ByteArray) (b : Bool) (m : Int) (A : Option Addr) (n c : Nat) (l : List ByteArray) (w : World) (HR : Row w g 76 [.string ⟨#[120]⟩, .int .i64 k, .string t, .bool b, .int .i32 m, .slice A n c]) (h : Rd w A (strs l)) (hn : l.length = n) :
    Calls Try.prog 57 #[.int .i64 2, .slice (some ⟨g, 0, none⟩) 1 1] w (ShortP k n w) := by
  have c0 := HR.cell 0
  have c1 := HR.cell 1
  have c2 := HR.cell 2
  have c3 := HR.cell 3
  have c4 := HR.cell 4
  have c5 := HR.cell 5
  have hlt := HR.lt
  simp only [List.getElem?_cons_zero, List.getElem?_cons_succ, Nat.zero_add] at c0 c1 c2 c3 c4 c5
  clear HR
  have Hh := hidden h
  clear h
  by_cases hok : t.size ≤ 200 ∧ n ≤ 20 ∧ 0 ≤ k ∧ k ≤ 3
  · obtain ⟨h1, h2, h3, h4⟩ := hok
    have i1 : ¬ (200 : Int) < (t.size : Int) := by omega
    have i2 : ¬ (20 : Int) < (n : Int) := by omega
    have i3 : ¬ k < 0 := by omega
    have i4 : ¬ 3 < k := by omega
    go_enter Try.func57, Try.ntmps57
    go_wp2
    go_loopw [14] (fun i wr => (i = .int .i64 0 ∧ wr = w) ∨ (i = .int .i64 1 ∧ Hid (Below w.heap.size w wr))) (fun i _ => 1 - (intOf i).toNat)
    case atStart => exact .inl ⟨rfl, rfl⟩
    case round =>
      rcases hrel with ⟨rfl, rfl⟩ | ⟨rfl, HBw⟩
      · go_wp2_with (go_at_call 76; go_must (refine (mapOther_calls _).mono ?_; rintro e w1 ⟨rfl, hB1⟩; have hr1 := (Row.new wr 76 [.string ⟨#[120]⟩, .int .i64 k, .string t, .bool b, .int .i32 m, .slice A n c]).below hB1 (by simp); have d5 := hr1.cell 5; simp only [List.getElem?_cons_zero, List.getElem?_cons_succ, Nat.zero_add] at d5; have HB1 := hidden hB1; clear hB1 hr1))
        have hrd := (Hh.out.alloc (.cells #[.string ⟨#[120]⟩, .int .i64 k, .string t, .bool b, .int .i32 m, .slice A n c] 76)).below HB1.out (Nat.le_refl _)
        have HBB := hidden (below_next (below_alloc0 wr (.cells #[.string ⟨#[120]⟩, .int .i64 k, .string t, .bool b, .int .i32 m, .slice A n c] 76)) HB1.out)
        clear HB1 Hh c0 c1 c2 c3 c4 c5
        go_loop [58] (fun i => ∃ j : Nat, j ≤ n ∧ i = .int .i64 j) (fun i => n - (intOf i).toNat)
        case atStart => exact ⟨0, by omega, rfl⟩
        case round =>
          obtain ⟨j, hj, rfl⟩ := hrel
          by_cases hlt2 : j < n
          · obtain ⟨b0, o0, rfl, _, e0⟩ := hrd.atS j (by omega)
            clear hrd
            generalize si l j = s at *
            by_cases hs : s.size ≤ 200
            · have hsi : ¬ (200 : Int) < (s.size : Int) := by omega
              go_wp2
              go_round
              case rel => exact ⟨j + 1, by omega, by go_num⟩
              case measure => simp [intOf]; omega
            · have hsi : (200 : Int) < (s.size : Int) := by omega
              go_wp2
              go_ret
              exact ⟨⟨false, rfl, ⟨fun h => by cases h⟩, HBB.out⟩⟩
          · obtain rfl : j = n := by omega
            clear hrd
            go_wp2
            go_roundw
            case rel => exact .inr ⟨by go_num, HBB⟩
            case measure => simp [intOf]
      · go_wp2
        go_ret
        exact ⟨⟨true, rfl, ⟨fun _ => ⟨h3, h4, h2⟩⟩, HBw.out⟩⟩
  · have hbad : (200 : Int) < (t.size : Int) ∨ (¬ (200 : Int) < (t.size : Int) ∧ (20 : Int) < (n : Int)) ∨ (¬ (200 : Int) < (t.size : Int) ∧ ¬ (20 : Int) < (n : Int) ∧ k < 0) ∨ (¬ (200 : Int) < (t.size : Int) ∧ ¬ (20 : Int) < (n : Int) ∧ ¬ k < 0 ∧ 3 < k) := by omega
    clear hok
    rcases hbad with i1 | ⟨i1, i2⟩ | ⟨i1, i2, i3⟩ | ⟨i1, i2, i3, i4⟩
    · go_enter Try.func57, Try.ntmps57
      go_wp2
      go_loopw [14] (fun i wr => i = .int .i64 0 ∧ wr = w) (fun i _ => 1 - (intOf i).toNat)
      case atStart => exact ⟨rfl, rfl⟩
      case round =>
        obtain ⟨rfl, rfl⟩ := hrel
        go_wp2
        go_ret
        exact ⟨⟨false, rfl, ⟨fun h => by cases h⟩, below_alloc0 _ _⟩⟩
    · go_enter Try.func57, Try.ntmps57
      go_wp2
      go_loopw [14] (fun i wr => i = .int .i64 0 ∧ wr = w) (fun i _ => 1 - (intOf i).toNat)
      case atStart => exact ⟨rfl, rfl⟩
      case round =>
        obtain ⟨rfl, rfl⟩ := hrel
        go_wp2
        go_ret
        exact ⟨⟨false, rfl, ⟨fun h => by cases h⟩, below_alloc0 _ _⟩⟩
    · go_enter Try.func57, Try.ntmps57
      go_wp2
      go_loopw [14] (fun i wr => i = .int .i64 0 ∧ wr = w) (fun i _ => 1 - (intOf i).toNat)
      case atStart => exact ⟨rfl, rfl⟩
      case round =>
        obtain ⟨rfl, rfl⟩ := hrel
        go_wp2
        go_ret
        exact ⟨⟨false, rfl, ⟨fun h => by cases h⟩, below_alloc0 _ _⟩⟩
    · go_enter Try.func57, Try.ntmps57
      go_wp2
      go_loopw [14] (fun i wr => i = .int .i64 0 ∧ wr = w) (fun i _ => 1 - (intOf i).toNat)
      case atStart => exact ⟨rfl, rfl⟩
      case round =>
        obtain ⟨rfl, rfl⟩ := hrel
        go_wp2
        go_ret
        exact ⟨⟨false, rfl, ⟨fun h => by cases h⟩, below_alloc0 _ _⟩⟩
end Go.Proofs.Ytmibnnmampfalaa
