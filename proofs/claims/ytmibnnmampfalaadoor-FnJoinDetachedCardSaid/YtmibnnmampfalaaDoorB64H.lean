/- Four and eight letters at once, and how a number is laid down. -/
import Derived.Test.YtmibnnmampfalaaDoorB64Q
namespace Go.Proofs.YtmibnnmampfalaaDoor
open Go.RowKit
set_option linter.unusedVariables false
set_option linter.unusedSimpArgs false

def Dg (x : Int) : Prop := x = 255 ∨ (0 ≤ x ∧ x < 64)
set_option maxRecDepth 100000 in
theorem or8_dg {x y : Int} (hx : Dg x) (hy : Dg y) : Dg (bits .or .u8 x y) ∧ (bits .or .u8 x y = 255 ↔ (x = 255 ∨ y = 255)) := by
  have key : ∀ a b : Nat, a < 256 → b < 256 → bits .or .u8 (a : Int) (b : Int) = ((a ||| b : Nat) : Int) := by
    intro a b ha hb
    show IntKind.u8.wrap ((BitVec.ofInt 8 (a : Int) ||| BitVec.ofInt 8 (b : Int)).toNat : Int) = _
    rw [BitVec.toNat_or, BitVec.ofInt_natCast, BitVec.ofInt_natCast, BitVec.toNat_ofNat, BitVec.toNat_ofNat, Nat.mod_eq_of_lt (by omega), Nat.mod_eq_of_lt (by omega)]
    have hlt : a ||| b < 2 ^ 8 := Nat.or_lt_two_pow (by omega) (by omega)
    have : IntKind.u8.wrap ((a ||| b : Nat) : Int) = ((a ||| b : Nat) : Int) % 256 := by simp [IntKind.wrap, IntKind.bits, IntKind.signed]
    rw [this]; omega
  have k1 : ∀ b : Nat, b < 256 → 255 ||| b = 255 := by decide
  have k2 : ∀ b : Nat, b < 256 → b ||| 255 = 255 := by decide
  rcases hx with rfl | ⟨hx0, hx1⟩
  · obtain ⟨b, rfl⟩ : ∃ b : Nat, y = (b : Int) := ⟨y.toNat, by rcases hy with rfl | h <;> omega⟩
    have hb : b < 256 := by rcases hy with h | h <;> omega
    have := key 255 b (by omega) hb
    rw [k1 b hb] at this
    rw [show (255 : Int) = ((255 : Nat) : Int) from rfl, this]
    exact ⟨.inl rfl, by simp⟩
  · obtain ⟨a, rfl⟩ : ∃ b : Nat, x = (b : Int) := ⟨x.toNat, by omega⟩
    rcases hy with rfl | ⟨hy0, hy1⟩
    · have := key a 255 (by omega) (by omega)
      rw [k2 a (by omega)] at this
      rw [show (255 : Int) = ((255 : Nat) : Int) from rfl, this]
      exact ⟨.inl rfl, by simp⟩
    · obtain ⟨b, rfl⟩ : ∃ b : Nat, y = (b : Int) := ⟨y.toNat, by omega⟩
      have hlt : a ||| b < 2 ^ 6 := Nat.or_lt_two_pow (by omega) (by omega)
      rw [key a b (by omega) (by omega)]
      exact ⟨.inr ⟨by omega, by omega⟩, by omega⟩
theorem wrapU32 (n : Int) : IntKind.u32.wrap n = n % 4294967296 := by simp [IntKind.wrap, IntKind.bits, IntKind.signed]
theorem or32 (x y k : Nat) (hx : x % 2 ^ k = 0) (hy : y < 2 ^ k) (h : x + y < 4294967296) : bits .or .u32 (x : Int) (y : Int) = ((x + y : Nat) : Int) := by
  show IntKind.u32.wrap ((BitVec.ofInt 32 (x : Int) ||| BitVec.ofInt 32 (y : Int)).toNat : Int) = _
  rw [BitVec.toNat_or, BitVec.ofInt_natCast, BitVec.ofInt_natCast, BitVec.toNat_ofNat, BitVec.toNat_ofNat, Nat.mod_eq_of_lt (by omega), Nat.mod_eq_of_lt (by omega), nat_or_add x y k hx hy, wrapU32]
  omega
theorem splice_set4 (L : List Int) (o : Nat) (y0 y1 y2 y3 : Int) (h : o + 4 ≤ L.length) : (((L.set o y0).set (o + 1) y1).set (o + 2) y2).set (o + 3) y3 = splice L o [y0, y1, y2, y3] := by
  have := splice_snoc4 L o o [] y0 y1 y2 y3 rfl h
  simpa [splice_nil] using this
theorem splice_set8 (L : List Int) (o : Nat) (y0 y1 y2 y3 y4 y5 y6 y7 : Int) (h : o + 8 ≤ L.length) : (((((((L.set o y0).set (o + 1) y1).set (o + 2) y2).set (o + 3) y3).set (o + 4) y4).set (o + 5) y5).set (o + 6) y6).set (o + 7) y7 = splice L o [y0, y1, y2, y3, y4, y5, y6, y7] := by
  rw [splice_set4 L o y0 y1 y2 y3 (by omega)]
  have := splice_snoc4 L o (o + 4) [y0, y1, y2, y3] y4 y5 y6 y7 rfl (by omega)
  simpa [Nat.add_assoc] using this

set_option maxRecDepth 100000 in
set_option maxHeartbeats 1000000 in
theorem assemble64_bad (x1 x2 x3 x4 x5 x6 x7 x8 : Int) (h1 : Dg x1) (h2 : Dg x2) (h3 : Dg x3) (h4 : Dg x4) (h5 : Dg x5) (h6 : Dg x6) (h7 : Dg x7) (h8 : Dg x8) (hbad : x1 = 255 ∨ x2 = 255 ∨ x3 = 255 ∨ x4 = 255 ∨ x5 = 255 ∨ x6 = 255 ∨ x7 = 255 ∨ x8 = 255) (w : World) :
    Calls Tryd.prog 63 #[.int .u8 x1, .int .u8 x2, .int .u8 x3, .int .u8 x4, .int .u8 x5, .int .u8 x6, .int .u8 x7, .int .u8 x8] w fun e w' => e = .returned (.tuple #[.int .u64 0, .bool false]) ∧ w' = w := by
  have B0 := hidden hbad
  clear hbad
  have hd1 := hidden h1
  obtain ⟨o2, ho2⟩ : ∃ o, bits .or .u8 x1 x2 = o := ⟨_, rfl⟩
  have q2 := hidden (ho2 ▸ or8_dg hd1.out h2)
  have hd2 := hidden q2.out.1
  obtain ⟨o3, ho3⟩ : ∃ o, bits .or .u8 o2 x3 = o := ⟨_, rfl⟩
  have q3 := hidden (ho3 ▸ or8_dg hd2.out h3)
  have hd3 := hidden q3.out.1
  obtain ⟨o4, ho4⟩ : ∃ o, bits .or .u8 o3 x4 = o := ⟨_, rfl⟩
  have q4 := hidden (ho4 ▸ or8_dg hd3.out h4)
  have hd4 := hidden q4.out.1
  obtain ⟨o5, ho5⟩ : ∃ o, bits .or .u8 o4 x5 = o := ⟨_, rfl⟩
  have q5 := hidden (ho5 ▸ or8_dg hd4.out h5)
  have hd5 := hidden q5.out.1
  obtain ⟨o6, ho6⟩ : ∃ o, bits .or .u8 o5 x6 = o := ⟨_, rfl⟩
  have q6 := hidden (ho6 ▸ or8_dg hd5.out h6)
  have hd6 := hidden q6.out.1
  obtain ⟨o7, ho7⟩ : ∃ o, bits .or .u8 o6 x7 = o := ⟨_, rfl⟩
  have q7 := hidden (ho7 ▸ or8_dg hd6.out h7)
  have hd7 := hidden q7.out.1
  obtain ⟨o8, ho8⟩ : ∃ o, bits .or .u8 o7 x8 = o := ⟨_, rfl⟩
  have q8 := hidden (ho8 ▸ or8_dg hd7.out h8)
  have hd8 := hidden q8.out.1
  have hall : o8 = 255 := by
    have e2 := q2.out.2
    have e3 := q3.out.2
    have e4 := q4.out.2
    have e5 := q5.out.2
    have e6 := q6.out.2
    have e7 := q7.out.2
    have e8 := q8.out.2
    have b := B0.out
    simp only [e8, e7, e6, e5, e4, e3, e2]
    omega
  clear h1 h2 h3 h4 h5 h6 h7 h8 q2 hd2 q3 hd3 q4 hd4 q5 hd5 q6 hd6 q7 hd7 q8 hd8
  go_enter Tryd.func63, Tryd.ntmps63
  go_wp2
  go_ret2
  exact ⟨rfl, rfl⟩
set_option maxRecDepth 100000 in
set_option maxHeartbeats 1000000 in
theorem assemble64_good (x1 x2 x3 x4 x5 x6 x7 x8 : Nat) (h1 : x1 < 64) (h2 : x2 < 64) (h3 : x3 < 64) (h4 : x4 < 64) (h5 : x5 < 64) (h6 : x6 < 64) (h7 : x7 < 64) (h8 : x8 < 64) (w : World) (V : Nat) (hV : V = x1 * 288230376151711744 + x2 * 4503599627370496 + x3 * 70368744177664 + x4 * 1099511627776 + x5 * 17179869184 + x6 * 268435456 + x7 * 4194304 + x8 * 65536) :
    Calls Tryd.prog 63 #[.int .u8 x1, .int .u8 x2, .int .u8 x3, .int .u8 x4, .int .u8 x5, .int .u8 x6, .int .u8 x7, .int .u8 x8] w fun e w' => e = .returned (.tuple #[.int .u64 V, .bool true]) ∧ w' = w := by
  have d1 : Dg (x1 : Int) := .inr ⟨by omega, by omega⟩
  have d2 : Dg (x2 : Int) := .inr ⟨by omega, by omega⟩
  have d3 : Dg (x3 : Int) := .inr ⟨by omega, by omega⟩
  have d4 : Dg (x4 : Int) := .inr ⟨by omega, by omega⟩
  have d5 : Dg (x5 : Int) := .inr ⟨by omega, by omega⟩
  have d6 : Dg (x6 : Int) := .inr ⟨by omega, by omega⟩
  have d7 : Dg (x7 : Int) := .inr ⟨by omega, by omega⟩
  have d8 : Dg (x8 : Int) := .inr ⟨by omega, by omega⟩
  have hd1 := hidden d1
  obtain ⟨o2, ho2⟩ : ∃ o, bits .or .u8 (x1 : Int) (x2 : Int) = o := ⟨_, rfl⟩
  have q2 := hidden (ho2 ▸ or8_dg hd1.out d2)
  have hd2 := hidden q2.out.1
  obtain ⟨o3, ho3⟩ : ∃ o, bits .or .u8 o2 (x3 : Int) = o := ⟨_, rfl⟩
  have q3 := hidden (ho3 ▸ or8_dg hd2.out d3)
  have hd3 := hidden q3.out.1
  obtain ⟨o4, ho4⟩ : ∃ o, bits .or .u8 o3 (x4 : Int) = o := ⟨_, rfl⟩
  have q4 := hidden (ho4 ▸ or8_dg hd3.out d4)
  have hd4 := hidden q4.out.1
  obtain ⟨o5, ho5⟩ : ∃ o, bits .or .u8 o4 (x5 : Int) = o := ⟨_, rfl⟩
  have q5 := hidden (ho5 ▸ or8_dg hd4.out d5)
  have hd5 := hidden q5.out.1
  obtain ⟨o6, ho6⟩ : ∃ o, bits .or .u8 o5 (x6 : Int) = o := ⟨_, rfl⟩
  have q6 := hidden (ho6 ▸ or8_dg hd5.out d6)
  have hd6 := hidden q6.out.1
  obtain ⟨o7, ho7⟩ : ∃ o, bits .or .u8 o6 (x7 : Int) = o := ⟨_, rfl⟩
  have q7 := hidden (ho7 ▸ or8_dg hd6.out d7)
  have hd7 := hidden q7.out.1
  obtain ⟨o8, ho8⟩ : ∃ o, bits .or .u8 o7 (x8 : Int) = o := ⟨_, rfl⟩
  have q8 := hidden (ho8 ▸ or8_dg hd7.out d8)
  have hd8 := hidden q8.out.1
  have hall : ¬ o8 = 255 := by
    have e2 := q2.out.2
    have e3 := q3.out.2
    have e4 := q4.out.2
    have e5 := q5.out.2
    have e6 := q6.out.2
    have e7 := q7.out.2
    have e8 := q8.out.2
    simp only [e8, e7, e6, e5, e4, e3, e2]
    omega
  have hallb : (o8 == 255) = false := beq_eq_false_iff_ne.2 hall
  clear d1 d2 d3 d4 d5 d6 d7 d8 q2 hd2 q3 hd3 q4 hd4 q5 hd5 q6 hd6 q7 hd7 q8 hd8
  obtain ⟨U2, hU2⟩ : ∃ U, U = x1 * 288230376151711744 + x2 * 4503599627370496 := ⟨_, rfl⟩
  have v2 : bits .or .u64 ((x1 : Int) * 288230376151711744) ((x2 : Int) * 4503599627370496) = (U2 : Int) := by rw [hU2]; exact or64 (x1 * 288230376151711744) (x2 * 4503599627370496) 58 (by omega) (by omega) (by omega)
  obtain ⟨U3, hU3⟩ : ∃ U, U = U2 + x3 * 70368744177664 := ⟨_, rfl⟩
  have v3 : bits .or .u64 (U2 : Int) ((x3 : Int) * 70368744177664) = (U3 : Int) := by rw [hU3]; exact or64 (U2) (x3 * 70368744177664) 52 (by omega) (by omega) (by omega)
  obtain ⟨U4, hU4⟩ : ∃ U, U = U3 + x4 * 1099511627776 := ⟨_, rfl⟩
  have v4 : bits .or .u64 (U3 : Int) ((x4 : Int) * 1099511627776) = (U4 : Int) := by rw [hU4]; exact or64 (U3) (x4 * 1099511627776) 46 (by omega) (by omega) (by omega)
  obtain ⟨U5, hU5⟩ : ∃ U, U = U4 + x5 * 17179869184 := ⟨_, rfl⟩
  have v5 : bits .or .u64 (U4 : Int) ((x5 : Int) * 17179869184) = (U5 : Int) := by rw [hU5]; exact or64 (U4) (x5 * 17179869184) 40 (by omega) (by omega) (by omega)
  obtain ⟨U6, hU6⟩ : ∃ U, U = U5 + x6 * 268435456 := ⟨_, rfl⟩
  have v6 : bits .or .u64 (U5 : Int) ((x6 : Int) * 268435456) = (U6 : Int) := by rw [hU6]; exact or64 (U5) (x6 * 268435456) 34 (by omega) (by omega) (by omega)
  obtain ⟨U7, hU7⟩ : ∃ U, U = U6 + x7 * 4194304 := ⟨_, rfl⟩
  have v7 : bits .or .u64 (U6 : Int) ((x7 : Int) * 4194304) = (U7 : Int) := by rw [hU7]; exact or64 (U6) (x7 * 4194304) 28 (by omega) (by omega) (by omega)
  obtain ⟨U8, hU8⟩ : ∃ U, U = U7 + x8 * 65536 := ⟨_, rfl⟩
  have v8 : bits .or .u64 (U7 : Int) ((x8 : Int) * 65536) = (U8 : Int) := by rw [hU8]; exact or64 (U7) (x8 * 65536) 22 (by omega) (by omega) (by omega)
  obtain rfl : V = U8 := by omega
  clear hV hU2 hU3 hU4 hU5 hU6 hU7 hU8
  have w1 : IntKind.u64.wrap ((x1 : Int) * 288230376151711744) = (x1 : Int) * 288230376151711744 := by rw [wrapU64]; omega
  have w2 : IntKind.u64.wrap ((x2 : Int) * 4503599627370496) = (x2 : Int) * 4503599627370496 := by rw [wrapU64]; omega
  have w3 : IntKind.u64.wrap ((x3 : Int) * 70368744177664) = (x3 : Int) * 70368744177664 := by rw [wrapU64]; omega
  have w4 : IntKind.u64.wrap ((x4 : Int) * 1099511627776) = (x4 : Int) * 1099511627776 := by rw [wrapU64]; omega
  have w5 : IntKind.u64.wrap ((x5 : Int) * 17179869184) = (x5 : Int) * 17179869184 := by rw [wrapU64]; omega
  have w6 : IntKind.u64.wrap ((x6 : Int) * 268435456) = (x6 : Int) * 268435456 := by rw [wrapU64]; omega
  have w7 : IntKind.u64.wrap ((x7 : Int) * 4194304) = (x7 : Int) * 4194304 := by rw [wrapU64]; omega
  have w8 : IntKind.u64.wrap ((x8 : Int) * 65536) = (x8 : Int) * 65536 := by rw [wrapU64]; omega
  go_enter Tryd.func63, Tryd.ntmps63
  go_wp2
  go_ret2
  exact ⟨rfl, rfl⟩

set_option maxRecDepth 100000 in
set_option maxHeartbeats 1000000 in
theorem assemble32_bad (x1 x2 x3 x4 : Int) (h1 : Dg x1) (h2 : Dg x2) (h3 : Dg x3) (h4 : Dg x4) (hbad : x1 = 255 ∨ x2 = 255 ∨ x3 = 255 ∨ x4 = 255) (w : World) :
    Calls Tryd.prog 66 #[.int .u8 x1, .int .u8 x2, .int .u8 x3, .int .u8 x4] w fun e w' => e = .returned (.tuple #[.int .u32 0, .bool false]) ∧ w' = w := by
  have B0 := hidden hbad
  clear hbad
  have hd1 := hidden h1
  obtain ⟨o2, ho2⟩ : ∃ o, bits .or .u8 x1 x2 = o := ⟨_, rfl⟩
  have q2 := hidden (ho2 ▸ or8_dg hd1.out h2)
  have hd2 := hidden q2.out.1
  obtain ⟨o3, ho3⟩ : ∃ o, bits .or .u8 o2 x3 = o := ⟨_, rfl⟩
  have q3 := hidden (ho3 ▸ or8_dg hd2.out h3)
  have hd3 := hidden q3.out.1
  obtain ⟨o4, ho4⟩ : ∃ o, bits .or .u8 o3 x4 = o := ⟨_, rfl⟩
  have q4 := hidden (ho4 ▸ or8_dg hd3.out h4)
  have hd4 := hidden q4.out.1
  have hall : o4 = 255 := by
    have e2 := q2.out.2
    have e3 := q3.out.2
    have e4 := q4.out.2
    have b := B0.out
    simp only [e4, e3, e2]
    omega
  clear h1 h2 h3 h4 q2 hd2 q3 hd3 q4 hd4
  go_enter Tryd.func66, Tryd.ntmps66
  go_wp2
  go_ret2
  exact ⟨rfl, rfl⟩
set_option maxRecDepth 100000 in
set_option maxHeartbeats 1000000 in
theorem assemble32_good (x1 x2 x3 x4 : Nat) (h1 : x1 < 64) (h2 : x2 < 64) (h3 : x3 < 64) (h4 : x4 < 64) (w : World) (V : Nat) (hV : V = x1 * 67108864 + x2 * 1048576 + x3 * 16384 + x4 * 256) :
    Calls Tryd.prog 66 #[.int .u8 x1, .int .u8 x2, .int .u8 x3, .int .u8 x4] w fun e w' => e = .returned (.tuple #[.int .u32 V, .bool true]) ∧ w' = w := by
  have d1 : Dg (x1 : Int) := .inr ⟨by omega, by omega⟩
  have d2 : Dg (x2 : Int) := .inr ⟨by omega, by omega⟩
  have d3 : Dg (x3 : Int) := .inr ⟨by omega, by omega⟩
  have d4 : Dg (x4 : Int) := .inr ⟨by omega, by omega⟩
  have hd1 := hidden d1
  obtain ⟨o2, ho2⟩ : ∃ o, bits .or .u8 (x1 : Int) (x2 : Int) = o := ⟨_, rfl⟩
  have q2 := hidden (ho2 ▸ or8_dg hd1.out d2)
  have hd2 := hidden q2.out.1
  obtain ⟨o3, ho3⟩ : ∃ o, bits .or .u8 o2 (x3 : Int) = o := ⟨_, rfl⟩
  have q3 := hidden (ho3 ▸ or8_dg hd2.out d3)
  have hd3 := hidden q3.out.1
  obtain ⟨o4, ho4⟩ : ∃ o, bits .or .u8 o3 (x4 : Int) = o := ⟨_, rfl⟩
  have q4 := hidden (ho4 ▸ or8_dg hd3.out d4)
  have hd4 := hidden q4.out.1
  have hall : ¬ o4 = 255 := by
    have e2 := q2.out.2
    have e3 := q3.out.2
    have e4 := q4.out.2
    simp only [e4, e3, e2]
    omega
  have hallb : (o4 == 255) = false := beq_eq_false_iff_ne.2 hall
  clear d1 d2 d3 d4 q2 hd2 q3 hd3 q4 hd4
  obtain ⟨U2, hU2⟩ : ∃ U, U = x1 * 67108864 + x2 * 1048576 := ⟨_, rfl⟩
  have v2 : bits .or .u32 ((x1 : Int) * 67108864) ((x2 : Int) * 1048576) = (U2 : Int) := by rw [hU2]; exact or32 (x1 * 67108864) (x2 * 1048576) 26 (by omega) (by omega) (by omega)
  obtain ⟨U3, hU3⟩ : ∃ U, U = U2 + x3 * 16384 := ⟨_, rfl⟩
  have v3 : bits .or .u32 (U2 : Int) ((x3 : Int) * 16384) = (U3 : Int) := by rw [hU3]; exact or32 (U2) (x3 * 16384) 20 (by omega) (by omega) (by omega)
  obtain ⟨U4, hU4⟩ : ∃ U, U = U3 + x4 * 256 := ⟨_, rfl⟩
  have v4 : bits .or .u32 (U3 : Int) ((x4 : Int) * 256) = (U4 : Int) := by rw [hU4]; exact or32 (U3) (x4 * 256) 14 (by omega) (by omega) (by omega)
  obtain rfl : V = U4 := by omega
  clear hV hU2 hU3 hU4
  have w1 : IntKind.u32.wrap ((x1 : Int) * 67108864) = (x1 : Int) * 67108864 := by rw [wrapU32]; omega
  have w2 : IntKind.u32.wrap ((x2 : Int) * 1048576) = (x2 : Int) * 1048576 := by rw [wrapU32]; omega
  have w3 : IntKind.u32.wrap ((x3 : Int) * 16384) = (x3 : Int) * 16384 := by rw [wrapU32]; omega
  have w4 : IntKind.u32.wrap ((x4 : Int) * 256) = (x4 : Int) * 256 := by rw [wrapU32]; omega
  go_enter Tryd.func66, Tryd.ntmps66
  go_wp2
  go_ret2
  exact ⟨rfl, rfl⟩

set_option maxRecDepth 100000 in
set_option maxHeartbeats 1000000 in
theorem BEPutUint64_calls (gd T o m cd V : Nat) (L : List Int) (w : World) (hV : V < 18446744073709551616) (hR : Row w gd T (nums .u8 L)) (hm : 8 ≤ m) (ho : o + m ≤ L.length) :
    Calls Tryd.prog 64 #[.slice (some ⟨gd, o, none⟩) m cd, .int .u64 V] w fun e w' => e = .returned (.tuple #[]) ∧ Row w' gd T (nums .u8 (splice L o [((V / 72057594037927936 % 256 : Nat) : Int), ((V / 281474976710656 % 256 : Nat) : Int), ((V / 1099511627776 % 256 : Nat) : Int), ((V / 4294967296 % 256 : Nat) : Int), ((V / 16777216 % 256 : Nat) : Int), ((V / 65536 % 256 : Nat) : Int), ((V / 256 % 256 : Nat) : Int), ((V % 256 : Nat) : Int)])) ∧ w.grownBy w' (some gd) := by
  obtain ⟨y0, hy0⟩ : ∃ y, y = V / 72057594037927936 % 256 := ⟨_, rfl⟩
  have r0 : (V : Int) / 72057594037927936 % 256 = (y0 : Int) := by omega
  have r0' : (V : Int) / 72057594037927936 = (y0 : Int) := by omega
  obtain ⟨y1, hy1⟩ : ∃ y, y = V / 281474976710656 % 256 := ⟨_, rfl⟩
  have r1 : (V : Int) / 281474976710656 % 256 = (y1 : Int) := by omega
  obtain ⟨y2, hy2⟩ : ∃ y, y = V / 1099511627776 % 256 := ⟨_, rfl⟩
  have r2 : (V : Int) / 1099511627776 % 256 = (y2 : Int) := by omega
  obtain ⟨y3, hy3⟩ : ∃ y, y = V / 4294967296 % 256 := ⟨_, rfl⟩
  have r3 : (V : Int) / 4294967296 % 256 = (y3 : Int) := by omega
  obtain ⟨y4, hy4⟩ : ∃ y, y = V / 16777216 % 256 := ⟨_, rfl⟩
  have r4 : (V : Int) / 16777216 % 256 = (y4 : Int) := by omega
  obtain ⟨y5, hy5⟩ : ∃ y, y = V / 65536 % 256 := ⟨_, rfl⟩
  have r5 : (V : Int) / 65536 % 256 = (y5 : Int) := by omega
  obtain ⟨y6, hy6⟩ : ∃ y, y = V / 256 % 256 := ⟨_, rfl⟩
  have r6 : (V : Int) / 256 % 256 = (y6 : Int) := by omega
  obtain ⟨y7, hy7⟩ : ∃ y, y = V % 256 := ⟨_, rfl⟩
  have r7 : (V : Int) % 256 = (y7 : Int) := by omega
  rw [← hy0, ← hy1, ← hy2, ← hy3, ← hy4, ← hy5, ← hy6, ← hy7]
  have d0 := hR.icell (o) (by omega)
  have f0 := hR.free (o)
  have m0 : (0 : Int) < (m : Int) := by omega
  have d1 := hR.icell (o + 1) (by omega)
  have f1 := hR.free (o + 1)
  have m1 : (1 : Int) < (m : Int) := by omega
  have d2 := hR.icell (o + 2) (by omega)
  have f2 := hR.free (o + 2)
  have m2 : (2 : Int) < (m : Int) := by omega
  have d3 := hR.icell (o + 3) (by omega)
  have f3 := hR.free (o + 3)
  have m3 : (3 : Int) < (m : Int) := by omega
  have d4 := hR.icell (o + 4) (by omega)
  have f4 := hR.free (o + 4)
  have m4 : (4 : Int) < (m : Int) := by omega
  have d5 := hR.icell (o + 5) (by omega)
  have f5 := hR.free (o + 5)
  have m5 : (5 : Int) < (m : Int) := by omega
  have d6 := hR.icell (o + 6) (by omega)
  have f6 := hR.free (o + 6)
  have m6 : (6 : Int) < (m : Int) := by omega
  have d7 := hR.icell (o + 7) (by omega)
  have f7 := hR.free (o + 7)
  have m7 : (7 : Int) < (m : Int) := by omega
  have HR := hidden hR
  clear hR hy0 hy1 hy2 hy3 hy4 hy5 hy6 hy7
  go_enter Tryd.func64, Tryd.ntmps64
  go_wp2
  go_end0
  refine ⟨rfl, ?_, (grown_setD (grown_setD (grown_setD (grown_setD (grown_setD (grown_setD (grown_setD (grown_setD (World.grownBy.refl w (some gd)) o (.int .u8 (y0 : Int))) (o + 1) (.int .u8 (y1 : Int))) (o + 2) (.int .u8 (y2 : Int))) (o + 3) (.int .u8 (y3 : Int))) (o + 4) (.int .u8 (y4 : Int))) (o + 5) (.int .u8 (y5 : Int))) (o + 6) (.int .u8 (y6 : Int))) (o + 7) (.int .u8 (y7 : Int)))⟩
  rw [← splice_set8 L o _ _ _ _ _ _ _ _ (by omega)]
  exact (Row.iset (Row.iset (Row.iset (Row.iset (Row.iset (Row.iset (Row.iset (Row.iset HR.out o (y0 : Int)) (o + 1) (y1 : Int)) (o + 2) (y2 : Int)) (o + 3) (y3 : Int)) (o + 4) (y4 : Int)) (o + 5) (y5 : Int)) (o + 6) (y6 : Int)) (o + 7) (y7 : Int))

set_option maxRecDepth 100000 in
set_option maxHeartbeats 1000000 in
theorem BEPutUint32_calls (gd T o m cd V : Nat) (L : List Int) (w : World) (hV : V < 4294967296) (hR : Row w gd T (nums .u8 L)) (hm : 4 ≤ m) (ho : o + m ≤ L.length) :
    Calls Tryd.prog 67 #[.slice (some ⟨gd, o, none⟩) m cd, .int .u32 V] w fun e w' => e = .returned (.tuple #[]) ∧ Row w' gd T (nums .u8 (splice L o [((V / 16777216 % 256 : Nat) : Int), ((V / 65536 % 256 : Nat) : Int), ((V / 256 % 256 : Nat) : Int), ((V % 256 : Nat) : Int)])) ∧ w.grownBy w' (some gd) := by
  obtain ⟨y0, hy0⟩ : ∃ y, y = V / 16777216 % 256 := ⟨_, rfl⟩
  have r0 : (V : Int) / 16777216 % 256 = (y0 : Int) := by omega
  have r0' : (V : Int) / 16777216 = (y0 : Int) := by omega
  obtain ⟨y1, hy1⟩ : ∃ y, y = V / 65536 % 256 := ⟨_, rfl⟩
  have r1 : (V : Int) / 65536 % 256 = (y1 : Int) := by omega
  obtain ⟨y2, hy2⟩ : ∃ y, y = V / 256 % 256 := ⟨_, rfl⟩
  have r2 : (V : Int) / 256 % 256 = (y2 : Int) := by omega
  obtain ⟨y3, hy3⟩ : ∃ y, y = V % 256 := ⟨_, rfl⟩
  have r3 : (V : Int) % 256 = (y3 : Int) := by omega
  rw [← hy0, ← hy1, ← hy2, ← hy3]
  have d0 := hR.icell (o) (by omega)
  have f0 := hR.free (o)
  have m0 : (0 : Int) < (m : Int) := by omega
  have d1 := hR.icell (o + 1) (by omega)
  have f1 := hR.free (o + 1)
  have m1 : (1 : Int) < (m : Int) := by omega
  have d2 := hR.icell (o + 2) (by omega)
  have f2 := hR.free (o + 2)
  have m2 : (2 : Int) < (m : Int) := by omega
  have d3 := hR.icell (o + 3) (by omega)
  have f3 := hR.free (o + 3)
  have m3 : (3 : Int) < (m : Int) := by omega
  have HR := hidden hR
  clear hR hy0 hy1 hy2 hy3
  go_enter Tryd.func67, Tryd.ntmps67
  go_wp2
  go_end0
  refine ⟨rfl, ?_, (grown_setD (grown_setD (grown_setD (grown_setD (World.grownBy.refl w (some gd)) o (.int .u8 (y0 : Int))) (o + 1) (.int .u8 (y1 : Int))) (o + 2) (.int .u8 (y2 : Int))) (o + 3) (.int .u8 (y3 : Int)))⟩
  rw [← splice_set4 L o _ _ _ _ (by omega)]
  exact (Row.iset (Row.iset (Row.iset (Row.iset HR.out o (y0 : Int)) (o + 1) (y1 : Int)) (o + 2) (y2 : Int)) (o + 3) (y3 : Int))

end Go.Proofs.YtmibnnmampfalaaDoor
