/- Four and eight letters at once, and how a number is laid down. What holds between two steps of reading. -/
import Derived.Test.YtbdmdajbdmdknaaGreatDoorB64Q
namespace Go.Proofs.YtbdmdajbdmdknaaGreatDoor
open Go.RowKit
set_option linter.unusedVariables false
set_option linter.unusedSimpArgs false

def Dg (x : Int) : Prop := x = 255 ∨ (0 ≤ x ∧ x < 64)
set_option maxRecDepth 100000 in
theorem or8_dg {x y : Int} (hx : Dg x) (hy : Dg y) : Dg (bits .or .u8 x y) ∧ (bits .or .u8 x y = 255 ↔ (x = 255 ∨ y = 255)) := by
  have key : ∀ a b : Nat, a < 256 → b < 256 → bits .or .u8 (a : Int) (b : Int) = ((a ||| b : Nat) : Int) := by
    intro a b ha hb
    show IntKind.u8.wrap ((BitVec.ofInt 8 (a : Int) ||| BitVec.ofInt 8 (b : Int)).toNat : Int) = _
    rw [BitVec.toNat_or, BitVec.ofInt_natCast, BitVec.ofInt_natCast, BitVec.toNat_ofNat, BitVec.toNat_ofNat, Nat.mod_eq_of_lt (by omega), Nat.mod_eq_of_lt (by omega)]
    have hlt : a ||| b < 2 ^ 8 := Nat.or_lt_two_pow (by omega) (by omega)
    have : IntKind.u8.wrap ((a ||| b : Nat) : Int) = ((a ||| b : Nat) : Int) % 256 := by simp [IntKind.wrap, IntKind.bits, IntKind.signed]
    rw [this]; omega
  have k1 : ∀ b : Nat, b < 256 → 255 ||| b = 255 := by decide
  have k2 : ∀ b : Nat, b < 256 → b ||| 255 = 255 := by decide
  rcases hx with rfl | ⟨hx0, hx1⟩
  · obtain ⟨b, rfl⟩ : ∃ b : Nat, y = (b : Int) := ⟨y.toNat, by rcases hy with rfl | h <;> omega⟩
    have hb : b < 256 := by rcases hy with h | h <;> omega
    have := key 255 b (by omega) hb
    rw [k1 b hb] at this
    rw [show (255 : Int) = ((255 : Nat) : Int) from rfl, this]
    exact ⟨.inl rfl, by simp⟩
  · obtain ⟨a, rfl⟩ : ∃ b : Nat, x = (b : Int) := ⟨x.toNat, by omega⟩
    rcases hy with rfl | ⟨hy0, hy1⟩
    · have := key a 255 (by omega) (by omega)
      rw [k2 a (by omega)] at this
      rw [show (255 : Int) = ((255 : Nat) : Int) from rfl, this]
      exact ⟨.inl rfl, by simp⟩
    · obtain ⟨b, rfl⟩ : ∃ b : Nat, y = (b : Int) := ⟨y.toNat, by omega⟩
      have hlt : a ||| b < 2 ^ 6 := Nat.or_lt_two_pow (by omega) (by omega)
      rw [key a b (by omega) (by omega)]
      exact ⟨.inr ⟨by omega, by omega⟩, by omega⟩
theorem wrapU32 (n : Int) : IntKind.u32.wrap n = n % 4294967296 := by simp [IntKind.wrap, IntKind.bits, IntKind.signed]
theorem or32 (x y k : Nat) (hx : x % 2 ^ k = 0) (hy : y < 2 ^ k) (h : x + y < 4294967296) : bits .or .u32 (x : Int) (y : Int) = ((x + y : Nat) : Int) := by
  show IntKind.u32.wrap ((BitVec.ofInt 32 (x : Int) ||| BitVec.ofInt 32 (y : Int)).toNat : Int) = _
  rw [BitVec.toNat_or, BitVec.ofInt_natCast, BitVec.ofInt_natCast, BitVec.toNat_ofNat, BitVec.toNat_ofNat, Nat.mod_eq_of_lt (by omega), Nat.mod_eq_of_lt (by omega), nat_or_add x y k hx hy, wrapU32]
  omega
theorem splice_set4 (L : List Int) (o : Nat) (y0 y1 y2 y3 : Int) (h : o + 4 ≤ L.length) : (((L.set o y0).set (o + 1) y1).set (o + 2) y2).set (o + 3) y3 = splice L o [y0, y1, y2, y3] := by
  have := splice_snoc4 L o o [] y0 y1 y2 y3 rfl h
  simpa [splice_nil] using this
theorem splice_set8 (L : List Int) (o : Nat) (y0 y1 y2 y3 y4 y5 y6 y7 : Int) (h : o + 8 ≤ L.length) : (((((((L.set o y0).set (o + 1) y1).set (o + 2) y2).set (o + 3) y3).set (o + 4) y4).set (o + 5) y5).set (o + 6) y6).set (o + 7) y7 = splice L o [y0, y1, y2, y3, y4, y5, y6, y7] := by
  rw [splice_set4 L o y0 y1 y2 y3 (by omega)]
  have := splice_snoc4 L o (o + 4) [y0, y1, y2, y3] y4 y5 y6 y7 rfl (by omega)
  simpa [Nat.add_assoc] using this

set_option maxRecDepth 100000 in
set_option maxHeartbeats 1000000 in
theorem assemble64_bad (x1 x2 x3 x4 x5 x6 x7 x8 : Int) (h1 : Dg x1) (h2 : Dg x2) (h3 : Dg x3) (h4 : Dg x4) (h5 : Dg x5) (h6 : Dg x6) (h7 : Dg x7) (h8 : Dg x8) (hbad : x1 = 255 ∨ x2 = 255 ∨ x3 = 255 ∨ x4 = 255 ∨ x5 = 255 ∨ x6 = 255 ∨ x7 = 255 ∨ x8 = 255) (w : World) :
    Calls Tryz.prog 168 #[.int .u8 x1, .int .u8 x2, .int .u8 x3, .int .u8 x4, .int .u8 x5, .int .u8 x6, .int .u8 x7, .int .u8 x8] w fun e w' => e = .returned (.tuple #[.int .u64 0, .bool false]) ∧ w' = w := by
  have B0 := hidden hbad
  clear hbad
  have hd1 := hidden h1
  obtain ⟨o2, ho2⟩ : ∃ o, bits .or .u8 x1 x2 = o := ⟨_, rfl⟩
  have q2 := hidden (ho2 ▸ or8_dg hd1.out h2)
  have hd2 := hidden q2.out.1
  obtain ⟨o3, ho3⟩ : ∃ o, bits .or .u8 o2 x3 = o := ⟨_, rfl⟩
  have q3 := hidden (ho3 ▸ or8_dg hd2.out h3)
  have hd3 := hidden q3.out.1
  obtain ⟨o4, ho4⟩ : ∃ o, bits .or .u8 o3 x4 = o := ⟨_, rfl⟩
  have q4 := hidden (ho4 ▸ or8_dg hd3.out h4)
  have hd4 := hidden q4.out.1
  obtain ⟨o5, ho5⟩ : ∃ o, bits .or .u8 o4 x5 = o := ⟨_, rfl⟩
  have q5 := hidden (ho5 ▸ or8_dg hd4.out h5)
  have hd5 := hidden q5.out.1
  obtain ⟨o6, ho6⟩ : ∃ o, bits .or .u8 o5 x6 = o := ⟨_, rfl⟩
  have q6 := hidden (ho6 ▸ or8_dg hd5.out h6)
  have hd6 := hidden q6.out.1
  obtain ⟨o7, ho7⟩ : ∃ o, bits .or .u8 o6 x7 = o := ⟨_, rfl⟩
  have q7 := hidden (ho7 ▸ or8_dg hd6.out h7)
  have hd7 := hidden q7.out.1
  obtain ⟨o8, ho8⟩ : ∃ o, bits .or .u8 o7 x8 = o := ⟨_, rfl⟩
  have q8 := hidden (ho8 ▸ or8_dg hd7.out h8)
  have hd8 := hidden q8.out.1
  have hall : o8 = 255 := by
    have e2 := q2.out.2
    have e3 := q3.out.2
    have e4 := q4.out.2
    have e5 := q5.out.2
    have e6 := q6.out.2
    have e7 := q7.out.2
    have e8 := q8.out.2
    have b := B0.out
    simp only [e8, e7, e6, e5, e4, e3, e2]
    omega
  clear h1 h2 h3 h4 h5 h6 h7 h8 q2 hd2 q3 hd3 q4 hd4 q5 hd5 q6 hd6 q7 hd7 q8 hd8
  go_enter Tryz.func168, Tryz.ntmps168
  go_wp2
  go_ret2
  exact ⟨rfl, rfl⟩
set_option maxRecDepth 100000 in
set_option maxHeartbeats 1000000 in
theorem assemble64_good (x1 x2 x3 x4 x5 x6 x7 x8 : Nat) (h1 : x1 < 64) (h2 : x2 < 64) (h3 : x3 < 64) (h4 : x4 < 64) (h5 : x5 < 64) (h6 : x6 < 64) (h7 : x7 < 64) (h8 : x8 < 64) (w : World) (V : Nat) (hV : V = x1 * 288230376151711744 + x2 * 4503599627370496 + x3 * 70368744177664 + x4 * 1099511627776 + x5 * 17179869184 + x6 * 268435456 + x7 * 4194304 + x8 * 65536) :
    Calls Tryz.prog 168 #[.int .u8 x1, .int .u8 x2, .int .u8 x3, .int .u8 x4, .int .u8 x5, .int .u8 x6, .int .u8 x7, .int .u8 x8] w fun e w' => e = .returned (.tuple #[.int .u64 V, .bool true]) ∧ w' = w := by
  have d1 : Dg (x1 : Int) := .inr ⟨by omega, by omega⟩
  have d2 : Dg (x2 : Int) := .inr ⟨by omega, by omega⟩
  have d3 : Dg (x3 : Int) := .inr ⟨by omega, by omega⟩
  have d4 : Dg (x4 : Int) := .inr ⟨by omega, by omega⟩
  have d5 : Dg (x5 : Int) := .inr ⟨by omega, by omega⟩
  have d6 : Dg (x6 : Int) := .inr ⟨by omega, by omega⟩
  have d7 : Dg (x7 : Int) := .inr ⟨by omega, by omega⟩
  have d8 : Dg (x8 : Int) := .inr ⟨by omega, by omega⟩
  have hd1 := hidden d1
  obtain ⟨o2, ho2⟩ : ∃ o, bits .or .u8 (x1 : Int) (x2 : Int) = o := ⟨_, rfl⟩
  have q2 := hidden (ho2 ▸ or8_dg hd1.out d2)
  have hd2 := hidden q2.out.1
  obtain ⟨o3, ho3⟩ : ∃ o, bits .or .u8 o2 (x3 : Int) = o := ⟨_, rfl⟩
  have q3 := hidden (ho3 ▸ or8_dg hd2.out d3)
  have hd3 := hidden q3.out.1
  obtain ⟨o4, ho4⟩ : ∃ o, bits .or .u8 o3 (x4 : Int) = o := ⟨_, rfl⟩
  have q4 := hidden (ho4 ▸ or8_dg hd3.out d4)
  have hd4 := hidden q4.out.1
  obtain ⟨o5, ho5⟩ : ∃ o, bits .or .u8 o4 (x5 : Int) = o := ⟨_, rfl⟩
  have q5 := hidden (ho5 ▸ or8_dg hd4.out d5)
  have hd5 := hidden q5.out.1
  obtain ⟨o6, ho6⟩ : ∃ o, bits .or .u8 o5 (x6 : Int) = o := ⟨_, rfl⟩
  have q6 := hidden (ho6 ▸ or8_dg hd5.out d6)
  have hd6 := hidden q6.out.1
  obtain ⟨o7, ho7⟩ : ∃ o, bits .or .u8 o6 (x7 : Int) = o := ⟨_, rfl⟩
  have q7 := hidden (ho7 ▸ or8_dg hd6.out d7)
  have hd7 := hidden q7.out.1
  obtain ⟨o8, ho8⟩ : ∃ o, bits .or .u8 o7 (x8 : Int) = o := ⟨_, rfl⟩
  have q8 := hidden (ho8 ▸ or8_dg hd7.out d8)
  have hd8 := hidden q8.out.1
  have hall : ¬ o8 = 255 := by
    have e2 := q2.out.2
    have e3 := q3.out.2
    have e4 := q4.out.2
    have e5 := q5.out.2
    have e6 := q6.out.2
    have e7 := q7.out.2
    have e8 := q8.out.2
    simp only [e8, e7, e6, e5, e4, e3, e2]
    omega
  have hallb : (o8 == 255) = false := beq_eq_false_iff_ne.2 hall
  clear d1 d2 d3 d4 d5 d6 d7 d8 q2 hd2 q3 hd3 q4 hd4 q5 hd5 q6 hd6 q7 hd7 q8 hd8
  obtain ⟨U2, hU2⟩ : ∃ U, U = x1 * 288230376151711744 + x2 * 4503599627370496 := ⟨_, rfl⟩
  have v2 : bits .or .u64 ((x1 : Int) * 288230376151711744) ((x2 : Int) * 4503599627370496) = (U2 : Int) := by rw [hU2]; exact or64 (x1 * 288230376151711744) (x2 * 4503599627370496) 58 (by omega) (by omega) (by omega)
  obtain ⟨U3, hU3⟩ : ∃ U, U = U2 + x3 * 70368744177664 := ⟨_, rfl⟩
  have v3 : bits .or .u64 (U2 : Int) ((x3 : Int) * 70368744177664) = (U3 : Int) := by rw [hU3]; exact or64 (U2) (x3 * 70368744177664) 52 (by omega) (by omega) (by omega)
  obtain ⟨U4, hU4⟩ : ∃ U, U = U3 + x4 * 1099511627776 := ⟨_, rfl⟩
  have v4 : bits .or .u64 (U3 : Int) ((x4 : Int) * 1099511627776) = (U4 : Int) := by rw [hU4]; exact or64 (U3) (x4 * 1099511627776) 46 (by omega) (by omega) (by omega)
  obtain ⟨U5, hU5⟩ : ∃ U, U = U4 + x5 * 17179869184 := ⟨_, rfl⟩
  have v5 : bits .or .u64 (U4 : Int) ((x5 : Int) * 17179869184) = (U5 : Int) := by rw [hU5]; exact or64 (U4) (x5 * 17179869184) 40 (by omega) (by omega) (by omega)
  obtain ⟨U6, hU6⟩ : ∃ U, U = U5 + x6 * 268435456 := ⟨_, rfl⟩
  have v6 : bits .or .u64 (U5 : Int) ((x6 : Int) * 268435456) = (U6 : Int) := by rw [hU6]; exact or64 (U5) (x6 * 268435456) 34 (by omega) (by omega) (by omega)
  obtain ⟨U7, hU7⟩ : ∃ U, U = U6 + x7 * 4194304 := ⟨_, rfl⟩
  have v7 : bits .or .u64 (U6 : Int) ((x7 : Int) * 4194304) = (U7 : Int) := by rw [hU7]; exact or64 (U6) (x7 * 4194304) 28 (by omega) (by omega) (by omega)
  obtain ⟨U8, hU8⟩ : ∃ U, U = U7 + x8 * 65536 := ⟨_, rfl⟩
  have v8 : bits .or .u64 (U7 : Int) ((x8 : Int) * 65536) = (U8 : Int) := by rw [hU8]; exact or64 (U7) (x8 * 65536) 22 (by omega) (by omega) (by omega)
  obtain rfl : V = U8 := by omega
  clear hV hU2 hU3 hU4 hU5 hU6 hU7 hU8
  have w1 : IntKind.u64.wrap ((x1 : Int) * 288230376151711744) = (x1 : Int) * 288230376151711744 := by rw [wrapU64]; omega
  have w2 : IntKind.u64.wrap ((x2 : Int) * 4503599627370496) = (x2 : Int) * 4503599627370496 := by rw [wrapU64]; omega
  have w3 : IntKind.u64.wrap ((x3 : Int) * 70368744177664) = (x3 : Int) * 70368744177664 := by rw [wrapU64]; omega
  have w4 : IntKind.u64.wrap ((x4 : Int) * 1099511627776) = (x4 : Int) * 1099511627776 := by rw [wrapU64]; omega
  have w5 : IntKind.u64.wrap ((x5 : Int) * 17179869184) = (x5 : Int) * 17179869184 := by rw [wrapU64]; omega
  have w6 : IntKind.u64.wrap ((x6 : Int) * 268435456) = (x6 : Int) * 268435456 := by rw [wrapU64]; omega
  have w7 : IntKind.u64.wrap ((x7 : Int) * 4194304) = (x7 : Int) * 4194304 := by rw [wrapU64]; omega
  have w8 : IntKind.u64.wrap ((x8 : Int) * 65536) = (x8 : Int) * 65536 := by rw [wrapU64]; omega
  go_enter Tryz.func168, Tryz.ntmps168
  go_wp2
  go_ret2
  exact ⟨rfl, rfl⟩

set_option maxRecDepth 100000 in
set_option maxHeartbeats 1000000 in
theorem assemble32_bad (x1 x2 x3 x4 : Int) (h1 : Dg x1) (h2 : Dg x2) (h3 : Dg x3) (h4 : Dg x4) (hbad : x1 = 255 ∨ x2 = 255 ∨ x3 = 255 ∨ x4 = 255) (w : World) :
    Calls Tryz.prog 171 #[.int .u8 x1, .int .u8 x2, .int .u8 x3, .int .u8 x4] w fun e w' => e = .returned (.tuple #[.int .u32 0, .bool false]) ∧ w' = w := by
  have B0 := hidden hbad
  clear hbad
  have hd1 := hidden h1
  obtain ⟨o2, ho2⟩ : ∃ o, bits .or .u8 x1 x2 = o := ⟨_, rfl⟩
  have q2 := hidden (ho2 ▸ or8_dg hd1.out h2)
  have hd2 := hidden q2.out.1
  obtain ⟨o3, ho3⟩ : ∃ o, bits .or .u8 o2 x3 = o := ⟨_, rfl⟩
  have q3 := hidden (ho3 ▸ or8_dg hd2.out h3)
  have hd3 := hidden q3.out.1
  obtain ⟨o4, ho4⟩ : ∃ o, bits .or .u8 o3 x4 = o := ⟨_, rfl⟩
  have q4 := hidden (ho4 ▸ or8_dg hd3.out h4)
  have hd4 := hidden q4.out.1
  have hall : o4 = 255 := by
    have e2 := q2.out.2
    have e3 := q3.out.2
    have e4 := q4.out.2
    have b := B0.out
    simp only [e4, e3, e2]
    omega
  clear h1 h2 h3 h4 q2 hd2 q3 hd3 q4 hd4
  go_enter Tryz.func171, Tryz.ntmps171
  go_wp2
  go_ret2
  exact ⟨rfl, rfl⟩
set_option maxRecDepth 100000 in
set_option maxHeartbeats 1000000 in
theorem assemble32_good (x1 x2 x3 x4 : Nat) (h1 : x1 < 64) (h2 : x2 < 64) (h3 : x3 < 64) (h4 : x4 < 64) (w : World) (V : Nat) (hV : V = x1 * 67108864 + x2 * 1048576 + x3 * 16384 + x4 * 256) :
    Calls Tryz.prog 171 #[.int .u8 x1, .int .u8 x2, .int .u8 x3, .int .u8 x4] w fun e w' => e = .returned (.tuple #[.int .u32 V, .bool true]) ∧ w' = w := by
  have d1 : Dg (x1 : Int) := .inr ⟨by omega, by omega⟩
  have d2 : Dg (x2 : Int) := .inr ⟨by omega, by omega⟩
  have d3 : Dg (x3 : Int) := .inr ⟨by omega, by omega⟩
  have d4 : Dg (x4 : Int) := .inr ⟨by omega, by omega⟩
  have hd1 := hidden d1
  obtain ⟨o2, ho2⟩ : ∃ o, bits .or .u8 (x1 : Int) (x2 : Int) = o := ⟨_, rfl⟩
  have q2 := hidden (ho2 ▸ or8_dg hd1.out d2)
  have hd2 := hidden q2.out.1
  obtain ⟨o3, ho3⟩ : ∃ o, bits .or .u8 o2 (x3 : Int) = o := ⟨_, rfl⟩
  have q3 := hidden (ho3 ▸ or8_dg hd2.out d3)
  have hd3 := hidden q3.out.1
  obtain ⟨o4, ho4⟩ : ∃ o, bits .or .u8 o3 (x4 : Int) = o := ⟨_, rfl⟩
  have q4 := hidden (ho4 ▸ or8_dg hd3.out d4)
  have hd4 := hidden q4.out.1
  have hall : ¬ o4 = 255 := by
    have e2 := q2.out.2
    have e3 := q3.out.2
    have e4 := q4.out.2
    simp only [e4, e3, e2]
    omega
  have hallb : (o4 == 255) = false := beq_eq_false_iff_ne.2 hall
  clear d1 d2 d3 d4 q2 hd2 q3 hd3 q4 hd4
  obtain ⟨U2, hU2⟩ : ∃ U, U = x1 * 67108864 + x2 * 1048576 := ⟨_, rfl⟩
  have v2 : bits .or .u32 ((x1 : Int) * 67108864) ((x2 : Int) * 1048576) = (U2 : Int) := by rw [hU2]; exact or32 (x1 * 67108864) (x2 * 1048576) 26 (by omega) (by omega) (by omega)
  obtain ⟨U3, hU3⟩ : ∃ U, U = U2 + x3 * 16384 := ⟨_, rfl⟩
  have v3 : bits .or .u32 (U2 : Int) ((x3 : Int) * 16384) = (U3 : Int) := by rw [hU3]; exact or32 (U2) (x3 * 16384) 20 (by omega) (by omega) (by omega)
  obtain ⟨U4, hU4⟩ : ∃ U, U = U3 + x4 * 256 := ⟨_, rfl⟩
  have v4 : bits .or .u32 (U3 : Int) ((x4 : Int) * 256) = (U4 : Int) := by rw [hU4]; exact or32 (U3) (x4 * 256) 14 (by omega) (by omega) (by omega)
  obtain rfl : V = U4 := by omega
  clear hV hU2 hU3 hU4
  have w1 : IntKind.u32.wrap ((x1 : Int) * 67108864) = (x1 : Int) * 67108864 := by rw [wrapU32]; omega
  have w2 : IntKind.u32.wrap ((x2 : Int) * 1048576) = (x2 : Int) * 1048576 := by rw [wrapU32]; omega
  have w3 : IntKind.u32.wrap ((x3 : Int) * 16384) = (x3 : Int) * 16384 := by rw [wrapU32]; omega
  have w4 : IntKind.u32.wrap ((x4 : Int) * 256) = (x4 : Int) * 256 := by rw [wrapU32]; omega
  go_enter Tryz.func171, Tryz.ntmps171
  go_wp2
  go_ret2
  exact ⟨rfl, rfl⟩

set_option maxRecDepth 100000 in
set_option maxHeartbeats 1000000 in
theorem BEPutUint64_calls (gd T o m cd V : Nat) (L : List Int) (w : World) (hV : V < 18446744073709551616) (hR : Row w gd T (nums .u8 L)) (hm : 8 ≤ m) (ho : o + m ≤ L.length) :
    Calls Tryz.prog 169 #[.slice (some ⟨gd, o, none⟩) m cd, .int .u64 V] w fun e w' => e = .returned (.tuple #[]) ∧ Row w' gd T (nums .u8 (splice L o [((V / 72057594037927936 % 256 : Nat) : Int), ((V / 281474976710656 % 256 : Nat) : Int), ((V / 1099511627776 % 256 : Nat) : Int), ((V / 4294967296 % 256 : Nat) : Int), ((V / 16777216 % 256 : Nat) : Int), ((V / 65536 % 256 : Nat) : Int), ((V / 256 % 256 : Nat) : Int), ((V % 256 : Nat) : Int)])) ∧ w.grownBy w' (some gd) := by
  obtain ⟨y0, hy0⟩ : ∃ y, y = V / 72057594037927936 % 256 := ⟨_, rfl⟩
  have r0 : (V : Int) / 72057594037927936 % 256 = (y0 : Int) := by omega
  have r0' : (V : Int) / 72057594037927936 = (y0 : Int) := by omega
  obtain ⟨y1, hy1⟩ : ∃ y, y = V / 281474976710656 % 256 := ⟨_, rfl⟩
  have r1 : (V : Int) / 281474976710656 % 256 = (y1 : Int) := by omega
  obtain ⟨y2, hy2⟩ : ∃ y, y = V / 1099511627776 % 256 := ⟨_, rfl⟩
  have r2 : (V : Int) / 1099511627776 % 256 = (y2 : Int) := by omega
  obtain ⟨y3, hy3⟩ : ∃ y, y = V / 4294967296 % 256 := ⟨_, rfl⟩
  have r3 : (V : Int) / 4294967296 % 256 = (y3 : Int) := by omega
  obtain ⟨y4, hy4⟩ : ∃ y, y = V / 16777216 % 256 := ⟨_, rfl⟩
  have r4 : (V : Int) / 16777216 % 256 = (y4 : Int) := by omega
  obtain ⟨y5, hy5⟩ : ∃ y, y = V / 65536 % 256 := ⟨_, rfl⟩
  have r5 : (V : Int) / 65536 % 256 = (y5 : Int) := by omega
  obtain ⟨y6, hy6⟩ : ∃ y, y = V / 256 % 256 := ⟨_, rfl⟩
  have r6 : (V : Int) / 256 % 256 = (y6 : Int) := by omega
  obtain ⟨y7, hy7⟩ : ∃ y, y = V % 256 := ⟨_, rfl⟩
  have r7 : (V : Int) % 256 = (y7 : Int) := by omega
  rw [← hy0, ← hy1, ← hy2, ← hy3, ← hy4, ← hy5, ← hy6, ← hy7]
  have d0 := hR.icell (o) (by omega)
  have f0 := hR.free (o)
  have m0 : (0 : Int) < (m : Int) := by omega
  have d1 := hR.icell (o + 1) (by omega)
  have f1 := hR.free (o + 1)
  have m1 : (1 : Int) < (m : Int) := by omega
  have d2 := hR.icell (o + 2) (by omega)
  have f2 := hR.free (o + 2)
  have m2 : (2 : Int) < (m : Int) := by omega
  have d3 := hR.icell (o + 3) (by omega)
  have f3 := hR.free (o + 3)
  have m3 : (3 : Int) < (m : Int) := by omega
  have d4 := hR.icell (o + 4) (by omega)
  have f4 := hR.free (o + 4)
  have m4 : (4 : Int) < (m : Int) := by omega
  have d5 := hR.icell (o + 5) (by omega)
  have f5 := hR.free (o + 5)
  have m5 : (5 : Int) < (m : Int) := by omega
  have d6 := hR.icell (o + 6) (by omega)
  have f6 := hR.free (o + 6)
  have m6 : (6 : Int) < (m : Int) := by omega
  have d7 := hR.icell (o + 7) (by omega)
  have f7 := hR.free (o + 7)
  have m7 : (7 : Int) < (m : Int) := by omega
  have HR := hidden hR
  clear hR hy0 hy1 hy2 hy3 hy4 hy5 hy6 hy7
  go_enter Tryz.func169, Tryz.ntmps169
  go_wp2
  go_end0
  refine ⟨rfl, ?_, (grown_setD (grown_setD (grown_setD (grown_setD (grown_setD (grown_setD (grown_setD (grown_setD (World.grownBy.refl w (some gd)) o (.int .u8 (y0 : Int))) (o + 1) (.int .u8 (y1 : Int))) (o + 2) (.int .u8 (y2 : Int))) (o + 3) (.int .u8 (y3 : Int))) (o + 4) (.int .u8 (y4 : Int))) (o + 5) (.int .u8 (y5 : Int))) (o + 6) (.int .u8 (y6 : Int))) (o + 7) (.int .u8 (y7 : Int)))⟩
  rw [← splice_set8 L o _ _ _ _ _ _ _ _ (by omega)]
  exact (Row.iset (Row.iset (Row.iset (Row.iset (Row.iset (Row.iset (Row.iset (Row.iset HR.out o (y0 : Int)) (o + 1) (y1 : Int)) (o + 2) (y2 : Int)) (o + 3) (y3 : Int)) (o + 4) (y4 : Int)) (o + 5) (y5 : Int)) (o + 6) (y6 : Int)) (o + 7) (y7 : Int))

set_option maxRecDepth 100000 in
set_option maxHeartbeats 1000000 in
theorem BEPutUint32_calls (gd T o m cd V : Nat) (L : List Int) (w : World) (hV : V < 4294967296) (hR : Row w gd T (nums .u8 L)) (hm : 4 ≤ m) (ho : o + m ≤ L.length) :
    Calls Tryz.prog 172 #[.slice (some ⟨gd, o, none⟩) m cd, .int .u32 V] w fun e w' => e = .returned (.tuple #[]) ∧ Row w' gd T (nums .u8 (splice L o [((V / 16777216 % 256 : Nat) : Int), ((V / 65536 % 256 : Nat) : Int), ((V / 256 % 256 : Nat) : Int), ((V % 256 : Nat) : Int)])) ∧ w.grownBy w' (some gd) := by
  obtain ⟨y0, hy0⟩ : ∃ y, y = V / 16777216 % 256 := ⟨_, rfl⟩
  have r0 : (V : Int) / 16777216 % 256 = (y0 : Int) := by omega
  have r0' : (V : Int) / 16777216 = (y0 : Int) := by omega
  obtain ⟨y1, hy1⟩ : ∃ y, y = V / 65536 % 256 := ⟨_, rfl⟩
  have r1 : (V : Int) / 65536 % 256 = (y1 : Int) := by omega
  obtain ⟨y2, hy2⟩ : ∃ y, y = V / 256 % 256 := ⟨_, rfl⟩
  have r2 : (V : Int) / 256 % 256 = (y2 : Int) := by omega
  obtain ⟨y3, hy3⟩ : ∃ y, y = V % 256 := ⟨_, rfl⟩
  have r3 : (V : Int) % 256 = (y3 : Int) := by omega
  rw [← hy0, ← hy1, ← hy2, ← hy3]
  have d0 := hR.icell (o) (by omega)
  have f0 := hR.free (o)
  have m0 : (0 : Int) < (m : Int) := by omega
  have d1 := hR.icell (o + 1) (by omega)
  have f1 := hR.free (o + 1)
  have m1 : (1 : Int) < (m : Int) := by omega
  have d2 := hR.icell (o + 2) (by omega)
  have f2 := hR.free (o + 2)
  have m2 : (2 : Int) < (m : Int) := by omega
  have d3 := hR.icell (o + 3) (by omega)
  have f3 := hR.free (o + 3)
  have m3 : (3 : Int) < (m : Int) := by omega
  have HR := hidden hR
  clear hR hy0 hy1 hy2 hy3
  go_enter Tryz.func172, Tryz.ntmps172
  go_wp2
  go_end0
  refine ⟨rfl, ?_, (grown_setD (grown_setD (grown_setD (grown_setD (World.grownBy.refl w (some gd)) o (.int .u8 (y0 : Int))) (o + 1) (.int .u8 (y1 : Int))) (o + 2) (.int .u8 (y2 : Int))) (o + 3) (.int .u8 (y3 : Int)))⟩
  rw [← splice_set4 L o _ _ _ _ (by omega)]
  exact (Row.iset (Row.iset (Row.iset (Row.iset HR.out o (y0 : Int)) (o + 1) (y1 : Int)) (o + 2) (y2 : Int)) (o + 3) (y3 : Int))

end Go.Proofs.YtbdmdajbdmdknaaGreatDoor
namespace Go.Proofs.YtbdmdajbdmdknaaGreatDoor
open Go.RowKit
set_option linter.unusedVariables false
set_option linter.unusedSimpArgs false

def roomFor (pad : Int) (N M : Nat) : Prop := (pad = -1 ∧ M = N / 4 * 3 + N % 4 * 6 / 8) ∨ (pad = 61 ∧ M = N / 4 * 3)
structure DSt (w : World) (gd T M N : Nat) (dm : List Int) (pad : Int) (l : List Int) (si : Nat) (out : List Int) (wr : World) : Prop where
  ub : si ≤ N
  eq : decA dm pad l [] = (decA dm pad (l.drop si) []).map (out ++ ·)
  isB : IsB out
  row : ∃ rest, (out ++ rest).length = M ∧ Row wr gd T (nums .u8 (out ++ rest))
  room : si = N ∨ ∃ k, out.length = 3 * k ∧ 4 * k ≤ si
  gr : w.grownBy wr (some gd)
section
variable {w wr w' : World} {gd T M N : Nat} {dm : List Int} {pad : Int} {l : List Int} {si : Nat} {out : List Int}
theorem DSt.start {L : List Int} (hR : Row w gd T (nums .u8 L)) (hL : L.length = M) : DSt w gd T M N dm pad l 0 [] w :=
  ⟨Nat.zero_le _, by rw [List.drop_zero]; cases decA dm pad l [] <;> rfl, (fun x hx => by cases hx), ⟨L, hL, hR⟩, .inr ⟨0, rfl, Nat.le_refl _⟩, World.grownBy.refl w _⟩
theorem DSt.outLe (h : DSt w gd T M N dm pad l si out wr) : out.length ≤ M := by
  obtain ⟨rest, h1, _⟩ := h.row
  rw [List.length_append] at h1; omega
theorem DSt.drewN (h : DSt w gd T M N dm pad l si out wr) (n : Nat) : DSt w gd T M N dm pad l si out (wr.drewN n) := by
  obtain ⟨rest, h1, h2⟩ := h.row
  exact ⟨h.ub, h.eq, h.isB, ⟨rest, h1, h2.drewN n⟩, h.room, grown_drewN h.gr n⟩
theorem DSt.m4 (h : DSt w gd T M N dm pad l si out wr) (hM : roomFor pad N M) (hlt : si < N) (hs : si + 4 ≤ N) : 3 ≤ M - out.length := by
  rcases h.room with h0 | ⟨k, h1, h2⟩
  · omega
  · rcases hM with ⟨_, hM⟩ | ⟨_, hM⟩ <;> omega
theorem DSt.m3 (h : DSt w gd T M N dm pad l si out wr) (hM : roomFor pad N M) (hlt : si < N) (hp : pad = -1) (hs : si + 3 ≤ N) : 2 ≤ M - out.length := by
  rcases h.room with h0 | ⟨k, h1, h2⟩
  · omega
  · rcases hM with ⟨_, hM⟩ | ⟨hq, hM⟩ <;> omega
theorem DSt.m2 (h : DSt w gd T M N dm pad l si out wr) (hM : roomFor pad N M) (hlt : si < N) (hp : pad = -1) (hs : si + 2 ≤ N) : 1 ≤ M - out.length := by
  rcases h.room with h0 | ⟨k, h1, h2⟩
  · omega
  · rcases hM with ⟨_, hM⟩ | ⟨hq, hM⟩ <;> omega
theorem splice_app (a rest x : List Int) (h : x.length ≤ rest.length) : splice (a ++ rest) a.length x = (a ++ x) ++ rest.drop x.length := by
  unfold splice
  rw [List.take_left' rfl, List.drop_append, List.drop_of_length_le (by omega), List.nil_append, Nat.add_sub_cancel_left]
  simp
/-- What one quantum makes of it. -/
theorem DSt.quantum (h : DSt w gd T M N dm pad l si out wr) (hlt : si < N) {rest : List Int} (hr : (out ++ rest).length = M) {o : Nat} (ho : o = if M = out.length then 0 else out.length) {e : Ending}
    (hq : QPost wr gd T o (M - out.length) dm pad l (out ++ rest) si N e w') :
    (∃ (si' : Nat) (x : List Int), e = .returned (.tuple #[.int .i64 si', .int .i64 x.length, .nilIface]) ∧ si < si' ∧ DSt w gd T M N dm pad l si' (out ++ x) w') ∨
    (∃ (a b : Int) (v : Value), e = .returned (.tuple #[.int .i64 a, .int .i64 b, .iface 232 v]) ∧ decA dm pad l [] = none ∧ w.grownBy w' (some gd)) := by
  have hg := h.gr.trans hq.gr
  rcases hq.res with ⟨si', x, rfl, h1, h2, h3, h4, h5, h6, h7⟩ | ⟨a, b, v, L', rfl, h1, h2, h3⟩
  · refine .inl ⟨si', x, rfl, by omega, h1, ?_, ?_, ?_, ?_, hg⟩
    · rw [h.eq, h3]
      cases decA dm pad (l.drop si') [] with
      | none => rfl
      | some z => simp [List.append_assoc]
    · intro y hy
      rcases List.mem_append.1 hy with hy | hy
      · exact h.isB y hy
      · exact h4 y hy
    · have hrl : x.length ≤ rest.length := by rw [List.length_append] at hr; omega
      refine ⟨rest.drop x.length, by simp only [List.length_append, List.length_drop] at *; omega, ?_⟩
      by_cases hx : x = []
      · subst hx
        rw [splice_nil] at h7
        simpa using h7
      · have hx0 : 0 < x.length := by cases x with
          | nil => exact absurd rfl hx
          | cons a b => simp
        rw [ho, if_neg (by omega), splice_app _ _ _ hrl] at h7
        exact h7
    · rcases h2 with h2 | ⟨h2, h8⟩
      · exact .inl h2
      · rcases h.room with h0 | ⟨k, hk1, hk2⟩
        · omega
        · exact .inr ⟨k + 1, by rw [List.length_append]; omega, by omega⟩
  · refine .inr ⟨a, b, v, rfl, ?_, hg⟩
    rw [h.eq, h1]; rfl
theorem decA_four {a1 a2 a3 a4 : Nat} {r : List Int} (h1 : gi dm a1 ≠ 255) (h2 : gi dm a2 ≠ 255) (h3 : gi dm a3 ≠ 255) (h4 : gi dm a4 ≠ 255) :
    decA dm pad ((a1 : Int) :: (a2 : Int) :: (a3 : Int) :: (a4 : Int) :: r) [] = (decA dm pad r []).map (outB [gi dm a1, gi dm a2, gi dm a3, gi dm a4] ++ ·) := by
  rw [decA, Int.toNat_natCast, if_pos h1, if_neg (by simp), decA, Int.toNat_natCast, if_pos h2, if_neg (by simp), decA, Int.toNat_natCast, if_pos h3, if_neg (by simp), decA, Int.toNat_natCast, if_pos h4, if_pos (by simp)]
  rfl
theorem drop_four {a1 a2 a3 a4 : Nat} (hl : l.length = N) (hs : si + 4 ≤ N) (h1 : gi l si = a1) (h2 : gi l (si + 1) = a2) (h3 : gi l (si + 2) = a3) (h4 : gi l (si + 3) = a4) : l.drop si = (a1 : Int) :: (a2 : Int) :: (a3 : Int) :: (a4 : Int) :: l.drop (si + 4) := by
  rw [drop_gi l (by omega), drop_gi l (k := si + 1) (by omega), drop_gi l (k := si + 1 + 1) (by omega), drop_gi l (k := si + 1 + 1 + 1) (by omega), h1, h2, show si + 1 + 1 = si + 2 by omega, h3, show si + 2 + 1 = si + 3 by omega, h4]
/-- Four letters at once: three bytes, and what else is laid behind them. -/
theorem DSt.four (h : DSt w gd T M N dm pad l si out wr) (hl : l.length = N) (hs : si + 4 ≤ N) {a1 a2 a3 a4 x1 x2 x3 x4 V : Nat} (h1 : gi l si = a1) (h2 : gi l (si + 1) = a2) (h3 : gi l (si + 2) = a3) (h4 : gi l (si + 3) = a4)
    (e1 : gi dm a1 = x1) (e2 : gi dm a2 = x2) (e3 : gi dm a3 = x3) (e4 : gi dm a4 = x4) (b1 : x1 < 64) (b2 : x2 < 64) (b3 : x3 < 64) (b4 : x4 < 64) (hV : V = x1 * 67108864 + x2 * 1048576 + x3 * 16384 + x4 * 256)
    {rest : List Int} (hr : (out ++ rest).length = M) (hm : 4 ≤ M - out.length) (hR : Row w' gd T (nums .u8 (splice (out ++ rest) out.length [((V / 16777216 % 256 : Nat) : Int), ((V / 65536 % 256 : Nat) : Int), ((V / 256 % 256 : Nat) : Int), ((V % 256 : Nat) : Int)]))) (hg : wr.grownBy w' (some gd)) :
    ∃ x : List Int, x.length = 3 ∧ DSt w gd T M N dm pad l (si + 4) (out ++ x) w' := by
  have hd := decA_four (dm := dm) (pad := pad) (r := l.drop (si + 4)) (a1 := a1) (a2 := a2) (a3 := a3) (a4 := a4) (by omega) (by omega) (by omega) (by omega)
  rw [← drop_four hl hs h1 h2 h3 h4, e1, e2, e3, e4, outB_4] at hd
  have y0 : ((x1 : Int) * 262144 + x2 * 4096 + x3 * 64 + x4) / 65536 % 256 = ((V / 16777216 % 256 : Nat) : Int) := by omega
  have y1 : ((x1 : Int) * 262144 + x2 * 4096 + x3 * 64 + x4) / 256 % 256 = ((V / 65536 % 256 : Nat) : Int) := by omega
  have y2 : ((x1 : Int) * 262144 + x2 * 4096 + x3 * 64 + x4) % 256 = ((V / 256 % 256 : Nat) : Int) := by omega
  rw [y0, y1, y2] at hd
  have hrl : 4 ≤ rest.length := by rw [List.length_append] at hr; omega
  rw [splice_app _ _ _ (by simpa using hrl)] at hR
  refine ⟨[((V / 16777216 % 256 : Nat) : Int), ((V / 65536 % 256 : Nat) : Int), ((V / 256 % 256 : Nat) : Int)], rfl, hs, ?_, ?_, ⟨((V % 256 : Nat) : Int) :: rest.drop 4, ?_, ?_⟩, ?_, h.gr.trans hg⟩
  · rw [h.eq, hd]
    cases decA dm pad (l.drop (si + 4)) [] with
    | none => rfl
    | some z => simp [List.append_assoc]
  · intro y hy
    rcases List.mem_append.1 hy with hy | hy
    · exact h.isB y hy
    · simp only [List.mem_cons, List.not_mem_nil, or_false] at hy
      rcases hy with rfl | rfl | rfl <;> omega
  · simp only [List.length_append, List.length_cons, List.length_nil, List.length_drop] at *; omega
  · simpa [List.append_assoc] using hR
  · rcases h.room with h0 | ⟨k, hk1, hk2⟩
    · omega
    · exact .inr ⟨k + 1, by rw [List.length_append]; simp only [List.length_cons, List.length_nil]; omega, by omega⟩
theorem glue8 (x1 x2 x3 x4 x5 x6 x7 x8 C D : Nat) : x1 * 262144 * C + x2 * 4096 * C + x3 * 64 * C + x4 * C + x5 * 262144 * D + x6 * 4096 * D + x7 * 64 * D + x8 * D = (x1 * 262144 + x2 * 4096 + x3 * 64 + x4) * C + (x5 * 262144 + x6 * 4096 + x7 * 64 + x8) * D := by
  simp only [Nat.add_mul, Nat.add_assoc]
/-- Eight letters at once. -/
theorem DSt.eight (h : DSt w gd T M N dm pad l si out wr) (hl : l.length = N) (hs : si + 8 ≤ N) {a1 a2 a3 a4 a5 a6 a7 a8 x1 x2 x3 x4 x5 x6 x7 x8 V : Nat} (h1 : gi l si = a1) (h2 : gi l (si + 1) = a2) (h3 : gi l (si + 2) = a3) (h4 : gi l (si + 3) = a4)
    (h5 : gi l (si + 4) = a5) (h6 : gi l (si + 5) = a6) (h7 : gi l (si + 6) = a7) (h8 : gi l (si + 7) = a8)
    (e1 : gi dm a1 = x1) (e2 : gi dm a2 = x2) (e3 : gi dm a3 = x3) (e4 : gi dm a4 = x4) (e5 : gi dm a5 = x5) (e6 : gi dm a6 = x6) (e7 : gi dm a7 = x7) (e8 : gi dm a8 = x8)
    (b1 : x1 < 64) (b2 : x2 < 64) (b3 : x3 < 64) (b4 : x4 < 64) (b5 : x5 < 64) (b6 : x6 < 64) (b7 : x7 < 64) (b8 : x8 < 64)
    (hV : V = x1 * 288230376151711744 + x2 * 4503599627370496 + x3 * 70368744177664 + x4 * 1099511627776 + x5 * 17179869184 + x6 * 268435456 + x7 * 4194304 + x8 * 65536)
    {rest : List Int} (hr : (out ++ rest).length = M) (hm : 8 ≤ M - out.length)
    (hR : Row w' gd T (nums .u8 (splice (out ++ rest) out.length [((V / 72057594037927936 % 256 : Nat) : Int), ((V / 281474976710656 % 256 : Nat) : Int), ((V / 1099511627776 % 256 : Nat) : Int), ((V / 4294967296 % 256 : Nat) : Int), ((V / 16777216 % 256 : Nat) : Int), ((V / 65536 % 256 : Nat) : Int), ((V / 256 % 256 : Nat) : Int), ((V % 256 : Nat) : Int)]))) (hg : wr.grownBy w' (some gd)) :
    ∃ x : List Int, x.length = 6 ∧ DSt w gd T M N dm pad l (si + 8) (out ++ x) w' := by
  have hd := decA_four (dm := dm) (pad := pad) (r := l.drop (si + 4)) (a1 := a1) (a2 := a2) (a3 := a3) (a4 := a4) (by omega) (by omega) (by omega) (by omega)
  have hd2 := decA_four (dm := dm) (pad := pad) (r := l.drop (si + 8)) (a1 := a5) (a2 := a6) (a3 := a7) (a4 := a8) (by omega) (by omega) (by omega) (by omega)
  rw [← drop_four hl (by omega) h1 h2 h3 h4, e1, e2, e3, e4, outB_4] at hd
  rw [show l.drop (si + 8) = l.drop (si + 4 + 4) from rfl, ← drop_four hl (by omega) h5 h6 h7 h8, e5, e6, e7, e8, outB_4] at hd2
  obtain ⟨S1, hS1⟩ : ∃ S, S = x1 * 262144 + x2 * 4096 + x3 * 64 + x4 := ⟨_, rfl⟩
  obtain ⟨S2, hS2⟩ : ∃ S, S = x5 * 262144 + x6 * 4096 + x7 * 64 + x8 := ⟨_, rfl⟩
  rw [show (x1 : Int) * 262144 + x2 * 4096 + x3 * 64 + x4 = (S1 : Int) by omega] at hd
  rw [show (x5 : Int) * 262144 + x6 * 4096 + x7 * 64 + x8 = (S2 : Int) by omega] at hd2
  have hVS : V = S1 * 1099511627776 + S2 * 65536 := by
    rw [hV, hS1, hS2, show x1 * 288230376151711744 = x1 * 262144 * 1099511627776 by rw [Nat.mul_assoc], show x2 * 4503599627370496 = x2 * 4096 * 1099511627776 by rw [Nat.mul_assoc], show x3 * 70368744177664 = x3 * 64 * 1099511627776 by rw [Nat.mul_assoc], show x5 * 17179869184 = x5 * 262144 * 65536 by rw [Nat.mul_assoc], show x6 * 268435456 = x6 * 4096 * 65536 by rw [Nat.mul_assoc], show x7 * 4194304 = x7 * 64 * 65536 by rw [Nat.mul_assoc]]
    exact glue8 _ _ _ _ _ _ _ _ _ _
  have s1 : S1 < 16777216 := by omega
  have s2 : S2 < 16777216 := by omega
  clear hV hS1 hS2 b1 b2 b3 b4 b5 b6 b7 b8
  have y0 : (S1 : Int) / 65536 % 256 = ((V / 72057594037927936 % 256 : Nat) : Int) := by omega
  have y1 : (S1 : Int) / 256 % 256 = ((V / 281474976710656 % 256 : Nat) : Int) := by omega
  have y2 : (S1 : Int) % 256 = ((V / 1099511627776 % 256 : Nat) : Int) := by omega
  have y3 : (S2 : Int) / 65536 % 256 = ((V / 4294967296 % 256 : Nat) : Int) := by omega
  have y4 : (S2 : Int) / 256 % 256 = ((V / 16777216 % 256 : Nat) : Int) := by omega
  have y5 : (S2 : Int) % 256 = ((V / 65536 % 256 : Nat) : Int) := by omega
  rw [y0, y1, y2] at hd
  rw [y3, y4, y5] at hd2
  have hrl : 8 ≤ rest.length := by rw [List.length_append] at hr; omega
  rw [splice_app _ _ _ (by simpa using hrl)] at hR
  obtain ⟨z0, hz0⟩ : ∃ z : Int, z = ((V / 72057594037927936 % 256 : Nat) : Int) := ⟨_, rfl⟩
  have bz0 : 0 ≤ z0 ∧ z0 < 256 := by omega
  obtain ⟨z1, hz1⟩ : ∃ z : Int, z = ((V / 281474976710656 % 256 : Nat) : Int) := ⟨_, rfl⟩
  have bz1 : 0 ≤ z1 ∧ z1 < 256 := by omega
  obtain ⟨z2, hz2⟩ : ∃ z : Int, z = ((V / 1099511627776 % 256 : Nat) : Int) := ⟨_, rfl⟩
  have bz2 : 0 ≤ z2 ∧ z2 < 256 := by omega
  obtain ⟨z3, hz3⟩ : ∃ z : Int, z = ((V / 4294967296 % 256 : Nat) : Int) := ⟨_, rfl⟩
  have bz3 : 0 ≤ z3 ∧ z3 < 256 := by omega
  obtain ⟨z4, hz4⟩ : ∃ z : Int, z = ((V / 16777216 % 256 : Nat) : Int) := ⟨_, rfl⟩
  have bz4 : 0 ≤ z4 ∧ z4 < 256 := by omega
  obtain ⟨z5, hz5⟩ : ∃ z : Int, z = ((V / 65536 % 256 : Nat) : Int) := ⟨_, rfl⟩
  have bz5 : 0 ≤ z5 ∧ z5 < 256 := by omega
  rw [← hz0, ← hz1, ← hz2] at hd
  rw [← hz3, ← hz4, ← hz5] at hd2
  rw [← hz0, ← hz1, ← hz2, ← hz3, ← hz4, ← hz5] at hR
  clear hz0 hz1 hz2 hz3 hz4 hz5 y0 y1 y2 y3 y4 y5
  refine ⟨[z0, z1, z2, z3, z4, z5], rfl, hs, ?_, ?_, ⟨((V / 256 % 256 : Nat) : Int) :: ((V % 256 : Nat) : Int) :: rest.drop 8, ?_, ?_⟩, ?_, h.gr.trans hg⟩
  · rw [h.eq, hd, hd2]
    cases decA dm pad (l.drop (si + 8)) [] with
    | none => rfl
    | some z => simp [List.append_assoc]
  · intro y hy
    rcases List.mem_append.1 hy with hy | hy
    · exact h.isB y hy
    · simp only [List.mem_cons, List.not_mem_nil, or_false] at hy
      rcases hy with rfl | rfl | rfl | rfl | rfl | rfl <;> assumption
  · simp only [List.length_append, List.length_cons, List.length_nil, List.length_drop] at *; omega
  · simpa [List.append_assoc] using hR
  · rcases h.room with h0 | ⟨k, hk1, hk2⟩
    · omega
    · exact .inr ⟨k + 2, by rw [List.length_append]; simp only [List.length_cons, List.length_nil]; omega, by omega⟩
end
/-- What is given in the end. -/
structure DPost (w : World) (gd T M : Nat) (dm : List Int) (pad : Int) (l : List Int) (e : Ending) (w' : World) : Prop where
  gr : w.grownBy w' (some gd)
  res : (∃ out rest : List Int, e = .returned (.tuple #[.int .i64 out.length, .nilIface]) ∧ decA dm pad l [] = some out ∧ IsB out ∧ (out ++ rest).length = M ∧ Row w' gd T (nums .u8 (out ++ rest))) ∨
    (∃ (b : Int) (v : Value), e = .returned (.tuple #[.int .i64 b, .iface 232 v]) ∧ decA dm pad l [] = none)
theorem DSt.done {w wr : World} {gd T M N si : Nat} {dm l out : List Int} {pad : Int} (h : DSt w gd T M N dm pad l si out wr) (hl : l.length = N) (hs : ¬ si < N) (k : Nat) (hk : k = out.length) : DPost w gd T M dm pad l (.returned (.tuple #[.int .i64 k, .nilIface])) wr := by
  obtain ⟨rest, h1, h2⟩ := h.row
  refine ⟨h.gr, .inl ⟨out, rest, by rw [hk], ?_, h.isB, h1, h2⟩⟩
  rw [h.eq, List.drop_of_length_le (by omega)]
  simp [decA, atEnd]
end Go.Proofs.YtbdmdajbdmdknaaGreatDoor
