/- How much padding is told of a padded text. -/
import Derived.Test.YticgdbcnknhndaaPad
namespace Go.Proofs.Yticgdbcnknhndaa
open Go.RowKit
set_option linter.unusedVariables false
set_option linter.unusedSimpArgs false

theorem wrapU8 (n : Int) : IntKind.u8.wrap n = n % 256 := by simp [IntKind.wrap, IntKind.bits, IntKind.signed]
theorem and8_eq (x y : Int) : bits .and .u8 x y = ((BitVec.ofInt 8 x &&& BitVec.ofInt 8 y).toNat : Int) := by
  have h := (BitVec.ofInt 8 x &&& BitVec.ofInt 8 y).isLt
  show IntKind.u8.wrap ((BitVec.ofInt 8 x &&& BitVec.ofInt 8 y).toNat : Int) = _
  rw [wrapU8]; omega
theorem xor8_self (x : Int) : bits .xor .u8 x x = 0 := by
  show IntKind.u8.wrap ((BitVec.ofInt 8 x ^^^ BitVec.ofInt 8 x).toNat : Int) = _
  rw [BitVec.xor_self, wrapU8]; rfl
theorem and8_zero (x : Int) : bits .and .u8 0 x = 0 := by
  rw [and8_eq, show BitVec.ofInt 8 0 = 0#8 from rfl, BitVec.zero_and]; rfl
theorem and8_all (x : Int) (h : 0 ≤ x ∧ x < 256) : bits .and .u8 x 255 = x := by
  rw [and8_eq, show BitVec.ofInt 8 255 = BitVec.allOnes 8 from by decide, BitVec.and_allOnes, BitVec.toNat_ofInt]; omega
def msk (t : Int) : Int := wrap32 (bits .xor .u64 IntKind.u64.max t) / 2147483648 % 256
theorem xor_max (t : Int) (h : 0 ≤ t ∧ t < 18446744073709551616) : bits .xor .u64 IntKind.u64.max t = 18446744073709551615 - t := by
  have hlt := (BitVec.ofInt 64 IntKind.u64.max ^^^ BitVec.ofInt 64 t).isLt
  show IntKind.u64.wrap ((BitVec.ofInt 64 IntKind.u64.max ^^^ BitVec.ofInt 64 t).toNat : Int) = _
  rw [show IntKind.u64.wrap ((BitVec.ofInt 64 IntKind.u64.max ^^^ BitVec.ofInt 64 t).toNat : Int) = ((BitVec.ofInt 64 IntKind.u64.max ^^^ BitVec.ofInt 64 t).toNat : Int) % 18446744073709551616 by simp [IntKind.wrap, IntKind.bits, IntKind.signed]]
  rw [show BitVec.ofInt 64 IntKind.u64.max = BitVec.allOnes 64 from by decide, BitVec.allOnes_xor, BitVec.toNat_not, BitVec.toNat_ofInt]
  omega
theorem msk_pos (t : Int) (h : 0 ≤ t ∧ t < 2147483648) : msk t = 255 := by
  unfold msk
  rw [xor_max t (by omega)]
  unfold wrap32
  omega
theorem msk_neg (t : Int) (h : 18446744071562067968 ≤ t ∧ t < 18446744073709551616) : msk t = 0 := by
  unfold msk
  rw [xor_max t (by omega)]
  unfold wrap32
  omega
set_option maxRecDepth 10000 in
set_option maxHeartbeats 1000000 in
theorem extract_calls (A : Option Addr) (n c r : Nat) (b : List Int) (w : World) (h : Rd w A (nums .u8 (padBy b r))) (hl : b.length + r = n) (hr : 1 ≤ r) (hr2 : r ≤ 255) (hn : n ≤ 100000) :
    Calls Try.prog 78 #[.slice A n c] w fun e w' => e = .returned (.tuple #[.int .i64 r, .int .u8 255]) ∧ ∃ m, w' = w.drewN m := by
  obtain ⟨b0, o0, rfl, _, c0⟩ := h.at (n - 1) (by rw [padBy_len]; omega)
  rw [padBy_hi _ _ _ (by omega) (by omega)] at c0
  have hn1 : ((n : Int) - 1) = ((n - 1 : Nat) : Int) := by omega
  generalize hp : n - 1 = p at *
  have hn1n : ¬ n < 1 := by omega
  have hn0 : ¬ n = 0 := by omega
  have hpn : p < n := by omega
  have hpi : (p : Int) < (n : Int) := by omega
  clear hp
  have hnt : (n : Int) - (r : Int) = ((n - r : Nat) : Int) := by omega
  have hm0 : wrap32 (bits BinOp.xor IntKind.u64 IntKind.u64.max ((n - r : Nat) : Int)) / 2147483648 % 256 = 255 := msk_pos _ (by omega)
  have g1 : bits BinOp.and IntKind.u8 255 240 = 240 := by decide
  have g2 : bits BinOp.and IntKind.u8 240 192 = 192 := by decide
  have g3 : bits BinOp.and IntKind.u8 192 128 = 128 := by decide
  have g5 : Hid (IntKind.i8.wrap 128 / 128 % 256 = 255) := hidden (by simp [IntKind.wrap, IntKind.bits, IntKind.signed])
  have g6 : Hid (wrap64 (r : Int) = (r : Int)) := hidden (by unfold wrap64; omega)
  have g4 : Hid (bits .and .u8 (r : Int) 255 = r) := hidden (and8_all (r : Int) (by omega))
  obtain ⟨q, hq⟩ : ∃ q, (256 ≤ n ∧ q = 256) ∨ (n < 256 ∧ q = n) := by
    by_cases h256 : 256 ≤ n
    · exact ⟨256, .inl ⟨h256, rfl⟩⟩
    · exact ⟨n, .inr ⟨by omega, rfl⟩⟩
  have hqn : q ≤ n := by omega
  have hrq : r ≤ q := by omega
  have hq256 : q ≤ 256 := by omega
  have HR := hidden h
  have Hl := hidden hl
  clear h hl
  go_enter Try.func78, Try.ntmps78
  rcases hq with ⟨h256, rfl⟩ | ⟨h256, rfl⟩
  · go_wp2
    clear c0 hpn hpi hn1 hm0 hnt
    go_loopw [3, 7] (fun g i wr => ∃ m : Nat, 1 ≤ m ∧ m ≤ 256 + 1 ∧ i = .int .i64 m ∧ g = .int .u8 255 ∧ ∃ d, wr = w.drewN d) (fun _ i _ => 256 + 1 - (intOf i).toNat)
    case atStart => exact ⟨1, by omega, by omega, rfl, rfl, 0, rfl⟩
    case round =>
      obtain ⟨m, hm1, hmq, rfl, rfl, d, rfl⟩ := hrel
      by_cases hlt : m ≤ 256
      · have hni : (n : Int) - (m : Int) = ((n - m : Nat) : Int) := by omega
        have hlo : 0 ≤ n - m := by omega
        have hrd := HR.out.at (n - m) (by have := Hl.out; rw [padBy_len]; omega)
        obtain ⟨b1, o1, e1, _, c1⟩ := hrd
        cases e1
        have hx0 : Hid (bits .xor .u8 (bits .and .u8 (msk (IntKind.u64.wrap ((r : Int) - (m : Int)))) (r : Int)) (bits .and .u8 (msk (IntKind.u64.wrap ((r : Int) - (m : Int)))) (gi (padBy b r) (n - m))) = 0) := hidden (by
          by_cases hmr : m ≤ r
          · have := Hl.out
            rw [padBy_hi _ _ _ (by omega) (by omega)]; exact xor8_self _
          · rw [show IntKind.u64.wrap ((r : Int) - (m : Int)) = 18446744073709551616 + (r : Int) - m by simp only [IntKind.wrap, IntKind.bits, IntKind.signed]; simp; omega, msk_neg _ (by omega), and8_zero, and8_zero]; rfl)
        generalize hx : gi (padBy b r) (n - m) = x at *
        clear hx
        go_wp2
        go_roundw
        case rel => exact ⟨m + 1, by omega, by omega, by go_num, congrArg (Value.int .u8) (by have h9 := hx0.out; unfold msk at h9; rw [h9]; decide), _, rfl⟩
        case measure => simp [intOf]; omega
      · obtain rfl : m = 256 + 1 := by omega
        go_wp2
        go_ret2
        refine ⟨?_, d, rfl⟩
        show Ending.returned (Value.tuple #[.int .i64 (wrap64 (bits .and .u8 (r : Int) (IntKind.i8.wrap 128 / 128 % 256))), .int .u8 (IntKind.i8.wrap 128 / 128 % 256)]) = _
        rw [g5.out, g4.out, g6.out]
  · go_wp2
    clear c0 hpn hpi hn1 hm0 hnt
    go_loopw [3, 7] (fun g i wr => ∃ m : Nat, 1 ≤ m ∧ m ≤ q + 1 ∧ i = .int .i64 m ∧ g = .int .u8 255 ∧ ∃ d, wr = w.drewN d) (fun _ i _ => q + 1 - (intOf i).toNat)
    case atStart => exact ⟨1, by omega, by omega, rfl, rfl, 0, rfl⟩
    case round =>
      obtain ⟨m, hm1, hmq, rfl, rfl, d, rfl⟩ := hrel
      by_cases hlt : m ≤ q
      · have hni : (q : Int) - (m : Int) = ((q - m : Nat) : Int) := by omega
        have hlo : 0 ≤ q - m := by omega
        have hrd := HR.out.at (q - m) (by have := Hl.out; rw [padBy_len]; omega)
        obtain ⟨b1, o1, e1, _, c1⟩ := hrd
        cases e1
        have hx0 : Hid (bits .xor .u8 (bits .and .u8 (msk (IntKind.u64.wrap ((r : Int) - (m : Int)))) (r : Int)) (bits .and .u8 (msk (IntKind.u64.wrap ((r : Int) - (m : Int)))) (gi (padBy b r) (q - m))) = 0) := hidden (by
          by_cases hmr : m ≤ r
          · have := Hl.out
            rw [padBy_hi _ _ _ (by omega) (by omega)]; exact xor8_self _
          · rw [show IntKind.u64.wrap ((r : Int) - (m : Int)) = 18446744073709551616 + (r : Int) - m by simp only [IntKind.wrap, IntKind.bits, IntKind.signed]; simp; omega, msk_neg _ (by omega), and8_zero, and8_zero]; rfl)
        generalize hx : gi (padBy b r) (q - m) = x at *
        clear hx
        go_wp2
        go_roundw
        case rel => exact ⟨m + 1, by omega, by omega, by go_num, congrArg (Value.int .u8) (by have h9 := hx0.out; unfold msk at h9; rw [h9]; decide), _, rfl⟩
        case measure => simp [intOf]; omega
      · obtain rfl : m = q + 1 := by omega
        go_wp2
        go_ret2
        refine ⟨?_, d, rfl⟩
        show Ending.returned (Value.tuple #[.int .i64 (wrap64 (bits .and .u8 (r : Int) (IntKind.i8.wrap 128 / 128 % 256))), .int .u8 (IntKind.i8.wrap 128 / 128 % 256)]) = _
        rw [g5.out, g4.out, g6.out]
theorem extractDoor_calls (A : Option Addr) (n c r : Nat) (b : List Int) (w : World) (h : Rd w A (nums .u8 (padBy b r))) (hl : b.length + r = n) (hr : 1 ≤ r) (hr2 : r ≤ 255) (hn : n ≤ 100000) :
    Calls Try.prog 65 #[.slice A n c] w fun e w' => e = .returned (.tuple #[.int .i64 r, .int .u8 255]) ∧ ∃ m, w' = w.drewN m := by
  go_enter Try.func65, Try.ntmps65
  go_wp2_with (go_at_call 78; go_must (refine (extract_calls A n c r b _ h hl hr hr2 hn).mono ?_; rintro e w1 ⟨rfl, m, rfl⟩))
  go_ret2
  exact ⟨rfl, m, rfl⟩
theorem unpadded_calls (A : Option Addr) (n c r : Nat) (b : List Int) (w : World) (h : Rd w A (nums .u8 (padBy b r))) (hl : b.length + r = n) (hc : n ≤ c) (hA : A = none → c = 0) (hr : 1 ≤ r) (hr2 : r ≤ 255) (hn : n ≤ 100000) :
    Calls Try.prog 37 #[.slice A n c] w fun e w' => e = .returned (.tuple #[.int .i64 r, .bool true]) ∧ Below w.heap.size w w' := by
  have hpl : Hid ((padBy b r).length = n) := hidden (by rw [padBy_len]; exact hl)
  have HA := hidden hA
  clear hA
  go_enter Try.func37, Try.ntmps37
  go_wp2_with (first
    | (go_at_call 51; go_must (refine (clone_calls A n c (padBy b r) _ h hpl.out hc HA.out (by omega)).mono ?_; rintro e w1 ⟨v1, rfl, hO1, hB1⟩; obtain ⟨A1, c1, rfl, hc1, hr1, hA1⟩ := hO1.read; rw [nums_len, hpl.out]))
    | (go_at_call 65; go_must (refine (extractDoor_calls A1 n c1 r b _ hr1 hl hr hr2 hn).mono ?_; rintro e w2 ⟨rfl, m, rfl⟩)))
  go_ret2
  exact ⟨rfl, below_drewN0 hB1 m⟩
end Go.Proofs.Yticgdbcnknhndaa
