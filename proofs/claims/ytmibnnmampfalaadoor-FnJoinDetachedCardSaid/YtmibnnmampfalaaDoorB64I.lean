/- What holds between two steps of reading. -/
import Derived.Test.YtmibnnmampfalaaDoorB64H
namespace Go.Proofs.YtmibnnmampfalaaDoor
open Go.RowKit
set_option linter.unusedVariables false
set_option linter.unusedSimpArgs false

def roomFor (pad : Int) (N M : Nat) : Prop := (pad = -1 ∧ M = N / 4 * 3 + N % 4 * 6 / 8) ∨ (pad = 61 ∧ M = N / 4 * 3)
structure DSt (w : World) (gd T M N : Nat) (dm : List Int) (pad : Int) (l : List Int) (si : Nat) (out : List Int) (wr : World) : Prop where
  ub : si ≤ N
  eq : decA dm pad l [] = (decA dm pad (l.drop si) []).map (out ++ ·)
  isB : IsB out
  row : ∃ rest, (out ++ rest).length = M ∧ Row wr gd T (nums .u8 (out ++ rest))
  room : si = N ∨ ∃ k, out.length = 3 * k ∧ 4 * k ≤ si
  gr : w.grownBy wr (some gd)
section
variable {w wr w' : World} {gd T M N : Nat} {dm : List Int} {pad : Int} {l : List Int} {si : Nat} {out : List Int}
theorem DSt.start {L : List Int} (hR : Row w gd T (nums .u8 L)) (hL : L.length = M) : DSt w gd T M N dm pad l 0 [] w :=
  ⟨Nat.zero_le _, by rw [List.drop_zero]; cases decA dm pad l [] <;> rfl, (fun x hx => by cases hx), ⟨L, hL, hR⟩, .inr ⟨0, rfl, Nat.le_refl _⟩, World.grownBy.refl w _⟩
theorem DSt.outLe (h : DSt w gd T M N dm pad l si out wr) : out.length ≤ M := by
  obtain ⟨rest, h1, _⟩ := h.row
  rw [List.length_append] at h1; omega
theorem DSt.drewN (h : DSt w gd T M N dm pad l si out wr) (n : Nat) : DSt w gd T M N dm pad l si out (wr.drewN n) := by
  obtain ⟨rest, h1, h2⟩ := h.row
  exact ⟨h.ub, h.eq, h.isB, ⟨rest, h1, h2.drewN n⟩, h.room, grown_drewN h.gr n⟩
theorem DSt.m4 (h : DSt w gd T M N dm pad l si out wr) (hM : roomFor pad N M) (hlt : si < N) (hs : si + 4 ≤ N) : 3 ≤ M - out.length := by
  rcases h.room with h0 | ⟨k, h1, h2⟩
  · omega
  · rcases hM with ⟨_, hM⟩ | ⟨_, hM⟩ <;> omega
theorem DSt.m3 (h : DSt w gd T M N dm pad l si out wr) (hM : roomFor pad N M) (hlt : si < N) (hp : pad = -1) (hs : si + 3 ≤ N) : 2 ≤ M - out.length := by
  rcases h.room with h0 | ⟨k, h1, h2⟩
  · omega
  · rcases hM with ⟨_, hM⟩ | ⟨hq, hM⟩ <;> omega
theorem DSt.m2 (h : DSt w gd T M N dm pad l si out wr) (hM : roomFor pad N M) (hlt : si < N) (hp : pad = -1) (hs : si + 2 ≤ N) : 1 ≤ M - out.length := by
  rcases h.room with h0 | ⟨k, h1, h2⟩
  · omega
  · rcases hM with ⟨_, hM⟩ | ⟨hq, hM⟩ <;> omega
theorem splice_app (a rest x : List Int) (h : x.length ≤ rest.length) : splice (a ++ rest) a.length x = (a ++ x) ++ rest.drop x.length := by
  unfold splice
  rw [List.take_left' rfl, List.drop_append, List.drop_of_length_le (by omega), List.nil_append, Nat.add_sub_cancel_left]
  simp
/-- What one quantum makes of it. -/
theorem DSt.quantum (h : DSt w gd T M N dm pad l si out wr) (hlt : si < N) {rest : List Int} (hr : (out ++ rest).length = M) {o : Nat} (ho : o = if M = out.length then 0 else out.length) {e : Ending}
    (hq : QPost wr gd T o (M - out.length) dm pad l (out ++ rest) si N e w') :
    (∃ (si' : Nat) (x : List Int), e = .returned (.tuple #[.int .i64 si', .int .i64 x.length, .nilIface]) ∧ si < si' ∧ DSt w gd T M N dm pad l si' (out ++ x) w') ∨
    (∃ (a b : Int) (v : Value), e = .returned (.tuple #[.int .i64 a, .int .i64 b, .iface 114 v]) ∧ decA dm pad l [] = none ∧ w.grownBy w' (some gd)) := by
  have hg := h.gr.trans hq.gr
  rcases hq.res with ⟨si', x, rfl, h1, h2, h3, h4, h5, h6, h7⟩ | ⟨a, b, v, L', rfl, h1, h2, h3⟩
  · refine .inl ⟨si', x, rfl, by omega, h1, ?_, ?_, ?_, ?_, hg⟩
    · rw [h.eq, h3]
      cases decA dm pad (l.drop si') [] with
      | none => rfl
      | some z => simp [List.append_assoc]
    · intro y hy
      rcases List.mem_append.1 hy with hy | hy
      · exact h.isB y hy
      · exact h4 y hy
    · have hrl : x.length ≤ rest.length := by rw [List.length_append] at hr; omega
      refine ⟨rest.drop x.length, by simp only [List.length_append, List.length_drop] at *; omega, ?_⟩
      by_cases hx : x = []
      · subst hx
        rw [splice_nil] at h7
        simpa using h7
      · have hx0 : 0 < x.length := by cases x with
          | nil => exact absurd rfl hx
          | cons a b => simp
        rw [ho, if_neg (by omega), splice_app _ _ _ hrl] at h7
        exact h7
    · rcases h2 with h2 | ⟨h2, h8⟩
      · exact .inl h2
      · rcases h.room with h0 | ⟨k, hk1, hk2⟩
        · omega
        · exact .inr ⟨k + 1, by rw [List.length_append]; omega, by omega⟩
  · refine .inr ⟨a, b, v, rfl, ?_, hg⟩
    rw [h.eq, h1]; rfl
theorem decA_four {a1 a2 a3 a4 : Nat} {r : List Int} (h1 : gi dm a1 ≠ 255) (h2 : gi dm a2 ≠ 255) (h3 : gi dm a3 ≠ 255) (h4 : gi dm a4 ≠ 255) :
    decA dm pad ((a1 : Int) :: (a2 : Int) :: (a3 : Int) :: (a4 : Int) :: r) [] = (decA dm pad r []).map (outB [gi dm a1, gi dm a2, gi dm a3, gi dm a4] ++ ·) := by
  rw [decA, Int.toNat_natCast, if_pos h1, if_neg (by simp), decA, Int.toNat_natCast, if_pos h2, if_neg (by simp), decA, Int.toNat_natCast, if_pos h3, if_neg (by simp), decA, Int.toNat_natCast, if_pos h4, if_pos (by simp)]
  rfl
theorem drop_four {a1 a2 a3 a4 : Nat} (hl : l.length = N) (hs : si + 4 ≤ N) (h1 : gi l si = a1) (h2 : gi l (si + 1) = a2) (h3 : gi l (si + 2) = a3) (h4 : gi l (si + 3) = a4) : l.drop si = (a1 : Int) :: (a2 : Int) :: (a3 : Int) :: (a4 : Int) :: l.drop (si + 4) := by
  rw [drop_gi l (by omega), drop_gi l (k := si + 1) (by omega), drop_gi l (k := si + 1 + 1) (by omega), drop_gi l (k := si + 1 + 1 + 1) (by omega), h1, h2, show si + 1 + 1 = si + 2 by omega, h3, show si + 2 + 1 = si + 3 by omega, h4]
/-- Four letters at once: three bytes, and what else is laid behind them. -/
theorem DSt.four (h : DSt w gd T M N dm pad l si out wr) (hl : l.length = N) (hs : si + 4 ≤ N) {a1 a2 a3 a4 x1 x2 x3 x4 V : Nat} (h1 : gi l si = a1) (h2 : gi l (si + 1) = a2) (h3 : gi l (si + 2) = a3) (h4 : gi l (si + 3) = a4)
    (e1 : gi dm a1 = x1) (e2 : gi dm a2 = x2) (e3 : gi dm a3 = x3) (e4 : gi dm a4 = x4) (b1 : x1 < 64) (b2 : x2 < 64) (b3 : x3 < 64) (b4 : x4 < 64) (hV : V = x1 * 67108864 + x2 * 1048576 + x3 * 16384 + x4 * 256)
    {rest : List Int} (hr : (out ++ rest).length = M) (hm : 4 ≤ M - out.length) (hR : Row w' gd T (nums .u8 (splice (out ++ rest) out.length [((V / 16777216 % 256 : Nat) : Int), ((V / 65536 % 256 : Nat) : Int), ((V / 256 % 256 : Nat) : Int), ((V % 256 : Nat) : Int)]))) (hg : wr.grownBy w' (some gd)) :
    ∃ x : List Int, x.length = 3 ∧ DSt w gd T M N dm pad l (si + 4) (out ++ x) w' := by
  have hd := decA_four (dm := dm) (pad := pad) (r := l.drop (si + 4)) (a1 := a1) (a2 := a2) (a3 := a3) (a4 := a4) (by omega) (by omega) (by omega) (by omega)
  rw [← drop_four hl hs h1 h2 h3 h4, e1, e2, e3, e4, outB_4] at hd
  have y0 : ((x1 : Int) * 262144 + x2 * 4096 + x3 * 64 + x4) / 65536 % 256 = ((V / 16777216 % 256 : Nat) : Int) := by omega
  have y1 : ((x1 : Int) * 262144 + x2 * 4096 + x3 * 64 + x4) / 256 % 256 = ((V / 65536 % 256 : Nat) : Int) := by omega
  have y2 : ((x1 : Int) * 262144 + x2 * 4096 + x3 * 64 + x4) % 256 = ((V / 256 % 256 : Nat) : Int) := by omega
  rw [y0, y1, y2] at hd
  have hrl : 4 ≤ rest.length := by rw [List.length_append] at hr; omega
  rw [splice_app _ _ _ (by simpa using hrl)] at hR
  refine ⟨[((V / 16777216 % 256 : Nat) : Int), ((V / 65536 % 256 : Nat) : Int), ((V / 256 % 256 : Nat) : Int)], rfl, hs, ?_, ?_, ⟨((V % 256 : Nat) : Int) :: rest.drop 4, ?_, ?_⟩, ?_, h.gr.trans hg⟩
  · rw [h.eq, hd]
    cases decA dm pad (l.drop (si + 4)) [] with
    | none => rfl
    | some z => simp [List.append_assoc]
  · intro y hy
    rcases List.mem_append.1 hy with hy | hy
    · exact h.isB y hy
    · simp only [List.mem_cons, List.not_mem_nil, or_false] at hy
      rcases hy with rfl | rfl | rfl <;> omega
  · simp only [List.length_append, List.length_cons, List.length_nil, List.length_drop] at *; omega
  · simpa [List.append_assoc] using hR
  · rcases h.room with h0 | ⟨k, hk1, hk2⟩
    · omega
    · exact .inr ⟨k + 1, by rw [List.length_append]; simp only [List.length_cons, List.length_nil]; omega, by omega⟩
theorem glue8 (x1 x2 x3 x4 x5 x6 x7 x8 C D : Nat) : x1 * 262144 * C + x2 * 4096 * C + x3 * 64 * C + x4 * C + x5 * 262144 * D + x6 * 4096 * D + x7 * 64 * D + x8 * D = (x1 * 262144 + x2 * 4096 + x3 * 64 + x4) * C + (x5 * 262144 + x6 * 4096 + x7 * 64 + x8) * D := by
  simp only [Nat.add_mul, Nat.add_assoc]
/-- Eight letters at once. -/
theorem DSt.eight (h : DSt w gd T M N dm pad l si out wr) (hl : l.length = N) (hs : si + 8 ≤ N) {a1 a2 a3 a4 a5 a6 a7 a8 x1 x2 x3 x4 x5 x6 x7 x8 V : Nat} (h1 : gi l si = a1) (h2 : gi l (si + 1) = a2) (h3 : gi l (si + 2) = a3) (h4 : gi l (si + 3) = a4)
    (h5 : gi l (si + 4) = a5) (h6 : gi l (si + 5) = a6) (h7 : gi l (si + 6) = a7) (h8 : gi l (si + 7) = a8)
    (e1 : gi dm a1 = x1) (e2 : gi dm a2 = x2) (e3 : gi dm a3 = x3) (e4 : gi dm a4 = x4) (e5 : gi dm a5 = x5) (e6 : gi dm a6 = x6) (e7 : gi dm a7 = x7) (e8 : gi dm a8 = x8)
    (b1 : x1 < 64) (b2 : x2 < 64) (b3 : x3 < 64) (b4 : x4 < 64) (b5 : x5 < 64) (b6 : x6 < 64) (b7 : x7 < 64) (b8 : x8 < 64)
    (hV : V = x1 * 288230376151711744 + x2 * 4503599627370496 + x3 * 70368744177664 + x4 * 1099511627776 + x5 * 17179869184 + x6 * 268435456 + x7 * 4194304 + x8 * 65536)
    {rest : List Int} (hr : (out ++ rest).length = M) (hm : 8 ≤ M - out.length)
    (hR : Row w' gd T (nums .u8 (splice (out ++ rest) out.length [((V / 72057594037927936 % 256 : Nat) : Int), ((V / 281474976710656 % 256 : Nat) : Int), ((V / 1099511627776 % 256 : Nat) : Int), ((V / 4294967296 % 256 : Nat) : Int), ((V / 16777216 % 256 : Nat) : Int), ((V / 65536 % 256 : Nat) : Int), ((V / 256 % 256 : Nat) : Int), ((V % 256 : Nat) : Int)]))) (hg : wr.grownBy w' (some gd)) :
    ∃ x : List Int, x.length = 6 ∧ DSt w gd T M N dm pad l (si + 8) (out ++ x) w' := by
  have hd := decA_four (dm := dm) (pad := pad) (r := l.drop (si + 4)) (a1 := a1) (a2 := a2) (a3 := a3) (a4 := a4) (by omega) (by omega) (by omega) (by omega)
  have hd2 := decA_four (dm := dm) (pad := pad) (r := l.drop (si + 8)) (a1 := a5) (a2 := a6) (a3 := a7) (a4 := a8) (by omega) (by omega) (by omega) (by omega)
  rw [← drop_four hl (by omega) h1 h2 h3 h4, e1, e2, e3, e4, outB_4] at hd
  rw [show l.drop (si + 8) = l.drop (si + 4 + 4) from rfl, ← drop_four hl (by omega) h5 h6 h7 h8, e5, e6, e7, e8, outB_4] at hd2
  obtain ⟨S1, hS1⟩ : ∃ S, S = x1 * 262144 + x2 * 4096 + x3 * 64 + x4 := ⟨_, rfl⟩
  obtain ⟨S2, hS2⟩ : ∃ S, S = x5 * 262144 + x6 * 4096 + x7 * 64 + x8 := ⟨_, rfl⟩
  rw [show (x1 : Int) * 262144 + x2 * 4096 + x3 * 64 + x4 = (S1 : Int) by omega] at hd
  rw [show (x5 : Int) * 262144 + x6 * 4096 + x7 * 64 + x8 = (S2 : Int) by omega] at hd2
  have hVS : V = S1 * 1099511627776 + S2 * 65536 := by
    rw [hV, hS1, hS2, show x1 * 288230376151711744 = x1 * 262144 * 1099511627776 by rw [Nat.mul_assoc], show x2 * 4503599627370496 = x2 * 4096 * 1099511627776 by rw [Nat.mul_assoc], show x3 * 70368744177664 = x3 * 64 * 1099511627776 by rw [Nat.mul_assoc], show x5 * 17179869184 = x5 * 262144 * 65536 by rw [Nat.mul_assoc], show x6 * 268435456 = x6 * 4096 * 65536 by rw [Nat.mul_assoc], show x7 * 4194304 = x7 * 64 * 65536 by rw [Nat.mul_assoc]]
    exact glue8 _ _ _ _ _ _ _ _ _ _
  have s1 : S1 < 16777216 := by omega
  have s2 : S2 < 16777216 := by omega
  clear hV hS1 hS2 b1 b2 b3 b4 b5 b6 b7 b8
  have y0 : (S1 : Int) / 65536 % 256 = ((V / 72057594037927936 % 256 : Nat) : Int) := by omega
  have y1 : (S1 : Int) / 256 % 256 = ((V / 281474976710656 % 256 : Nat) : Int) := by omega
  have y2 : (S1 : Int) % 256 = ((V / 1099511627776 % 256 : Nat) : Int) := by omega
  have y3 : (S2 : Int) / 65536 % 256 = ((V / 4294967296 % 256 : Nat) : Int) := by omega
  have y4 : (S2 : Int) / 256 % 256 = ((V / 16777216 % 256 : Nat) : Int) := by omega
  have y5 : (S2 : Int) % 256 = ((V / 65536 % 256 : Nat) : Int) := by omega
  rw [y0, y1, y2] at hd
  rw [y3, y4, y5] at hd2
  have hrl : 8 ≤ rest.length := by rw [List.length_append] at hr; omega
  rw [splice_app _ _ _ (by simpa using hrl)] at hR
  obtain ⟨z0, hz0⟩ : ∃ z : Int, z = ((V / 72057594037927936 % 256 : Nat) : Int) := ⟨_, rfl⟩
  have bz0 : 0 ≤ z0 ∧ z0 < 256 := by omega
  obtain ⟨z1, hz1⟩ : ∃ z : Int, z = ((V / 281474976710656 % 256 : Nat) : Int) := ⟨_, rfl⟩
  have bz1 : 0 ≤ z1 ∧ z1 < 256 := by omega
  obtain ⟨z2, hz2⟩ : ∃ z : Int, z = ((V / 1099511627776 % 256 : Nat) : Int) := ⟨_, rfl⟩
  have bz2 : 0 ≤ z2 ∧ z2 < 256 := by omega
  obtain ⟨z3, hz3⟩ : ∃ z : Int, z = ((V / 4294967296 % 256 : Nat) : Int) := ⟨_, rfl⟩
  have bz3 : 0 ≤ z3 ∧ z3 < 256 := by omega
  obtain ⟨z4, hz4⟩ : ∃ z : Int, z = ((V / 16777216 % 256 : Nat) : Int) := ⟨_, rfl⟩
  have bz4 : 0 ≤ z4 ∧ z4 < 256 := by omega
  obtain ⟨z5, hz5⟩ : ∃ z : Int, z = ((V / 65536 % 256 : Nat) : Int) := ⟨_, rfl⟩
  have bz5 : 0 ≤ z5 ∧ z5 < 256 := by omega
  rw [← hz0, ← hz1, ← hz2] at hd
  rw [← hz3, ← hz4, ← hz5] at hd2
  rw [← hz0, ← hz1, ← hz2, ← hz3, ← hz4, ← hz5] at hR
  clear hz0 hz1 hz2 hz3 hz4 hz5 y0 y1 y2 y3 y4 y5
  refine ⟨[z0, z1, z2, z3, z4, z5], rfl, hs, ?_, ?_, ⟨((V / 256 % 256 : Nat) : Int) :: ((V % 256 : Nat) : Int) :: rest.drop 8, ?_, ?_⟩, ?_, h.gr.trans hg⟩
  · rw [h.eq, hd, hd2]
    cases decA dm pad (l.drop (si + 8)) [] with
    | none => rfl
    | some z => simp [List.append_assoc]
  · intro y hy
    rcases List.mem_append.1 hy with hy | hy
    · exact h.isB y hy
    · simp only [List.mem_cons, List.not_mem_nil, or_false] at hy
      rcases hy with rfl | rfl | rfl | rfl | rfl | rfl <;> assumption
  · simp only [List.length_append, List.length_cons, List.length_nil, List.length_drop] at *; omega
  · simpa [List.append_assoc] using hR
  · rcases h.room with h0 | ⟨k, hk1, hk2⟩
    · omega
    · exact .inr ⟨k + 2, by rw [List.length_append]; simp only [List.length_cons, List.length_nil]; omega, by omega⟩
end
/-- What is given in the end. -/
structure DPost (w : World) (gd T M : Nat) (dm : List Int) (pad : Int) (l : List Int) (e : Ending) (w' : World) : Prop where
  gr : w.grownBy w' (some gd)
  res : (∃ out rest : List Int, e = .returned (.tuple #[.int .i64 out.length, .nilIface]) ∧ decA dm pad l [] = some out ∧ IsB out ∧ (out ++ rest).length = M ∧ Row w' gd T (nums .u8 (out ++ rest))) ∨
    (∃ (b : Int) (v : Value), e = .returned (.tuple #[.int .i64 b, .iface 114 v]) ∧ decA dm pad l [] = none)
theorem DSt.done {w wr : World} {gd T M N si : Nat} {dm l out : List Int} {pad : Int} (h : DSt w gd T M N dm pad l si out wr) (hl : l.length = N) (hs : ¬ si < N) (k : Nat) (hk : k = out.length) : DPost w gd T M dm pad l (.returned (.tuple #[.int .i64 k, .nilIface])) wr := by
  obtain ⟨rest, h1, h2⟩ := h.row
  refine ⟨h.gr, .inl ⟨out, rest, by rw [hk], ?_, h.isB, h1, h2⟩⟩
  rw [h.eq, List.drop_of_length_le (by omega)]
  simp [decA, atEnd]
end Go.Proofs.YtmibnnmampfalaaDoor
