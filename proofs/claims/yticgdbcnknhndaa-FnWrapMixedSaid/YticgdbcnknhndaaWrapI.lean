/- The small functions that the key wrap calls: a number's bytes, the fixed first word, the comparison in constant time. -/
import Derived.Test.YticgdbcnknhndaaWrapH
import Derived.StillTailTactics
import Derived.Laws.StandIn
namespace Go.Proofs.Yticgdbcnknhndaa
open Go.RowKit
open WrapPlain (xr xr8 num8 b8)
set_option linter.unusedVariables false
set_option linter.unusedSimpArgs false

set_option maxRecDepth 10000 in
theorem put64_calls (v : Value) (L : List Int) (hL : L.length = 8) (n : Int) (w : World) (g : Nat) (HR : Row w g 5 (nums .u8 L)) :
    Calls Try.prog 75 #[.agg #[], .slice (some ⟨g, 0, none⟩) 8 8, .int .u64 n] w fun e w' => e = .returned (.tuple #[]) ∧ Row w' g 5 (nums .u8 (b8 n)) ∧ w.grownBy w' (some g) := by
  match L, hL with
  | [a0, a1, a2, a3, a4, a5, a6, a7], _ =>
  have c0 : (w.alloc (.cells #[] 106)).cell? ⟨g, 0, none⟩ = some (.int .u8 a0) := (HR.alloc (.cells #[] 106)).cell 0
  have f0 := (HR.alloc (.cells #[] 106)).free 0
  have c1 : (w.alloc (.cells #[] 106)).cell? ⟨g, 1, none⟩ = some (.int .u8 a1) := (HR.alloc (.cells #[] 106)).cell 1
  have f1 := (HR.alloc (.cells #[] 106)).free 1
  have c2 : (w.alloc (.cells #[] 106)).cell? ⟨g, 2, none⟩ = some (.int .u8 a2) := (HR.alloc (.cells #[] 106)).cell 2
  have f2 := (HR.alloc (.cells #[] 106)).free 2
  have c3 : (w.alloc (.cells #[] 106)).cell? ⟨g, 3, none⟩ = some (.int .u8 a3) := (HR.alloc (.cells #[] 106)).cell 3
  have f3 := (HR.alloc (.cells #[] 106)).free 3
  have c4 : (w.alloc (.cells #[] 106)).cell? ⟨g, 4, none⟩ = some (.int .u8 a4) := (HR.alloc (.cells #[] 106)).cell 4
  have f4 := (HR.alloc (.cells #[] 106)).free 4
  have c5 : (w.alloc (.cells #[] 106)).cell? ⟨g, 5, none⟩ = some (.int .u8 a5) := (HR.alloc (.cells #[] 106)).cell 5
  have f5 := (HR.alloc (.cells #[] 106)).free 5
  have c6 : (w.alloc (.cells #[] 106)).cell? ⟨g, 6, none⟩ = some (.int .u8 a6) := (HR.alloc (.cells #[] 106)).cell 6
  have f6 := (HR.alloc (.cells #[] 106)).free 6
  have c7 : (w.alloc (.cells #[] 106)).cell? ⟨g, 7, none⟩ = some (.int .u8 a7) := (HR.alloc (.cells #[] 106)).cell 7
  have f7 := (HR.alloc (.cells #[] 106)).free 7
  have hg := hidden HR.lt
  have HA := hidden (HR.alloc (.cells #[] 106))
  clear HR
  go_enter Try.func75, Try.ntmps75
  go_wp2
  go_end0
  refine ⟨rfl, ?_, ?_⟩
  · exact (((((((HA.out.iset 0 _).iset 1 _).iset 2 _).iset 3 _).iset 4 _).iset 5 _).iset 6 _).iset 7 _
  · have h0 := grown_below (B := 0) (below_alloc0 w (.cells #[] 106)) (some g)
    exact (((((((h0.trans (grown_set _ g 0 _)).trans (grown_set _ g 1 _)).trans (grown_set _ g 2 _)).trans (grown_set _ g 3 _)).trans (grown_set _ g 4 _)).trans (grown_set _ g 5 _)).trans (grown_set _ g 6 _)).trans (grown_set _ g 7 _)
theorem iv_calls (w : World) :
    Calls Try.prog 77 #[] w fun e w' => e = .returned (.slice (some ⟨w.heap.size, 0, none⟩) 8 8) ∧ Row w' w.heap.size 5 (nums .u8 WrapPlain.iv) ∧ Below w.heap.size w w' := by
  go_enter Try.func77, Try.ntmps77
  go_wp2
  go_ret
  exact ⟨rfl, Row.new w _ (nums .u8 WrapPlain.iv), below_alloc0 _ _⟩
theorem toUint8_run (b : Bool) (w : World) : (callFunc 90 #[.bool b]).run Try.prog w = .ok (.value (.int .u8 (if b then 1 else 0))) w := by
  have hs : (Extern.find Try.f90).isSome = true := by kernel_rfl
  rw [run_callFunc_standIn Try.func90 (by kernel_rfl) (by kernel_rfl) (by kernel_rfl) (Option.some_get hs).symm]
  cases b
  · show _ = _
    kernel_rfl
  · show _ = _
    kernel_rfl
set_option maxRecDepth 10000 in
theorem byteEq_calls (x y r : Int) (hr : (x = y ∧ r = 1) ∨ (x ≠ y ∧ r = 0)) (w : World) :
    Calls Try.prog 89 #[.int .u8 x, .int .u8 y] w fun e w' => e = .returned (.int .i64 r) ∧ w = w' := by
  go_enter Try.func89, Try.ntmps89
  have h1 := fun b => toUint8_run b w
  rcases hr with ⟨rfl, rfl⟩ | ⟨h, rfl⟩
  · go_wp2
    go_ret
    exact ⟨rfl, rfl⟩
  · go_wp2
    go_ret
    exact ⟨rfl, rfl⟩
theorem or8_eq (x y : Int) : bits .or .u8 x y = ((BitVec.ofInt 8 x ||| BitVec.ofInt 8 y).toNat : Int) := by
  have h := (BitVec.ofInt 8 x ||| BitVec.ofInt 8 y).isLt
  show IntKind.u8.wrap ((BitVec.ofInt 8 x ||| BitVec.ofInt 8 y).toNat : Int) = _
  rw [WrapPlain.wrap_u8]; omega
theorem or8_zero (x y : Int) (hx : 0 ≤ x ∧ x < 256) (hy : 0 ≤ y ∧ y < 256) : bits .or .u8 x y = 0 ↔ x = 0 ∧ y = 0 := by
  rw [or8_eq]
  constructor
  · intro h
    have h1 : (BitVec.ofInt 8 x ||| BitVec.ofInt 8 y) = 0#8 := BitVec.eq_of_toNat_eq (by simpa using h)
    obtain ⟨a, b⟩ := BitVec.or_eq_zero_iff.1 h1
    have a' := congrArg BitVec.toNat a
    have b' := congrArg BitVec.toNat b
    rw [BitVec.toNat_ofInt] at a' b'
    simp at a' b'
    omega
  · rintro ⟨rfl, rfl⟩; rfl
theorem or8_is (x y : Int) : 0 ≤ bits .or .u8 x y ∧ bits .or .u8 x y < 256 := by
  have h := (BitVec.ofInt 8 x ||| BitVec.ofInt 8 y).isLt
  rw [or8_eq]; omega
theorem xr8_zero (x y : Int) (hx : 0 ≤ x ∧ x < 256) (hy : 0 ≤ y ∧ y < 256) : xr8 x y = 0 ↔ x = y := by
  rw [WrapPlain.xr8_eq]
  constructor
  · intro h
    have h1 : (BitVec.ofInt 8 x ^^^ BitVec.ofInt 8 y) = 0#8 := BitVec.eq_of_toNat_eq (by simpa using h)
    have h2 := congrArg BitVec.toNat (BitVec.xor_eq_zero_iff.1 h1)
    rw [BitVec.toNat_ofInt, BitVec.toNat_ofInt] at h2
    omega
  · rintro rfl; simp
set_option maxHeartbeats 400000 in
theorem cte_calls (A B : Option Addr) (n c c' : Nat) (l l' : List Int) (w : World) (h : Rd w A (nums .u8 l)) (hn : l.length = n) (h' : Rd w B (nums .u8 l')) (hn' : l'.length = n) (hb : IsB l) (hb' : IsB l') (hm : n ≤ 100000) (r : Int) (hr : (l = l' ∧ r = 1) ∨ (l ≠ l' ∧ r = 0)) :
    Calls Try.prog 85 #[.slice A n c, .slice B n c'] w fun e w' => e = .returned (.int .i64 r) ∧ ∃ m, w' = w.drewN m := by
  go_enter Try.func85, Try.ntmps85
  go_wp2
  go_loopw [5, 6] (fun v i wr => ∃ (k : Nat) (x : Int), k ≤ n ∧ i = .int .i64 k ∧ v = .int .u8 x ∧ (0 ≤ x ∧ x < 256) ∧ (x = 0 ↔ ∀ j, j < k → gi l j = gi l' j) ∧ ∃ m, wr = w.drewN m) (fun _ i _ => n - (intOf i).toNat)
  case atStart => exact ⟨0, 0, by omega, rfl, rfl, by omega, by simp, 0, rfl⟩
  case round =>
    obtain ⟨k, x, hk, rfl, rfl, hx, heq, m, rfl⟩ := hrel
    by_cases hlt : k < n
    · obtain ⟨b0, o0, rfl, _, c0⟩ := h.at k (by omega)
      obtain ⟨b1, o1, rfl, _, c1⟩ := h'.at k (by omega)
      have v0 := gi_byte hb k
      have v1 := gi_byte hb' k
      have Heq := hidden heq
      have Hx := hidden hx
      have V0 := hidden v0
      have V1 := hidden v1
      clear heq h h' hx v0 v1
      go_wp2
      go_quiet (fail)
      go_wp2
      go_roundw
      case rel =>
        refine ⟨k + 1, bits .or .u8 x (xr8 (gi l k) (gi l' k)), by omega, by go_num, rfl, or8_is _ _, ?_, _, rfl⟩
        rw [or8_zero _ _ Hx.out (WrapPlain.xr8_is _ _), xr8_zero _ _ V0.out V1.out, Heq.out]
        constructor
        · rintro ⟨h1, h2⟩ j hj
          rcases Nat.lt_succ_iff_lt_or_eq.1 hj with h | rfl
          · exact h1 j h
          · exact h2
        · exact fun h => ⟨fun j hj => h j (by omega), h k (by omega)⟩
      case measure => simp [intOf]; omega
    · obtain rfl : k = n := by omega
      clear h h'
      have Heq := hidden heq
      clear heq
      have hr0 : (x = 0 ∧ r = 1) ∨ (x ≠ 0 ∧ r = 0) := by
        rcases hr with ⟨h1, h2⟩ | ⟨h1, h2⟩
        · exact .inl ⟨Heq.out.2 fun j _ => by rw [h1], h2⟩
        · exact .inr ⟨fun hx0 => h1 (gi_ext (by omega) fun i hi => Heq.out.1 hx0 i (by omega)), h2⟩
      have Hr0 := hidden hr0
      clear hr0 hr
      go_wp2_with (go_at_call 89; refine (byteEq_calls _ _ r Hr0.out _).mono ?_; rintro e w1 ⟨rfl, rfl⟩)
      go_ret
      exact ⟨rfl, _, rfl⟩
theorem cteq_calls (A B : Option Addr) (n c c' : Nat) (l l' : List Int) (w : World) (h : Rd w A (nums .u8 l)) (hn : l.length = n) (h' : Rd w B (nums .u8 l')) (hn' : l'.length = n) (hb : IsB l) (hb' : IsB l') (hm : n ≤ 100000) (r : Int) (hr : (l = l' ∧ r = 1) ∨ (l ≠ l' ∧ r = 0)) :
    Calls Try.prog 76 #[.slice A n c, .slice B n c'] w fun e w' => e = .returned (.int .i64 r) ∧ ∃ m, w' = w.drewN m := by
  go_enter Try.func76, Try.ntmps76
  have Hr := hidden hr
  clear hr
  go_wp2_with (go_at_call 85; refine (cte_calls A B n c c' l l' _ h hn h' hn' hb hb' hm r Hr.out).mono ?_; rintro e w1 ⟨rfl, m, rfl⟩)
  go_ret
  exact ⟨rfl, m, rfl⟩
end Go.Proofs.Yticgdbcnknhndaa
