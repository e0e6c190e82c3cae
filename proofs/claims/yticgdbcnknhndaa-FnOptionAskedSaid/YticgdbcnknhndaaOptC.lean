/- laws.FnOptionJoined, the plain law and the walk. -/
import Derived.Test.YticgdbcnknhndaaOptB
namespace Go.Proofs.Yticgdbcnknhndaa
open Go.RowKit
set_option linter.unusedVariables false
set_option linter.unusedSimpArgs false

theorem wrapU64 (n : Int) : IntKind.u64.wrap n = n % 18446744073709551616 := by simp [IntKind.wrap, IntKind.bits, IntKind.signed]
theorem bor_eq (x y : Int) : bor x y = ((BitVec.ofInt 64 x ||| BitVec.ofInt 64 y).toNat : Int) := by
  have h := (BitVec.ofInt 64 x ||| BitVec.ofInt 64 y).isLt
  show IntKind.u64.wrap ((BitVec.ofInt 64 x ||| BitVec.ofInt 64 y).toNat : Int) = _
  rw [wrapU64]; omega
theorem band_eq (x y : Int) : band x y = ((BitVec.ofInt 64 x &&& BitVec.ofInt 64 y).toNat : Int) := by
  have h := (BitVec.ofInt 64 x &&& BitVec.ofInt 64 y).isLt
  show IntKind.u64.wrap ((BitVec.ofInt 64 x &&& BitVec.ofInt 64 y).toNat : Int) = _
  rw [wrapU64]; omega
theorem bxor_eq (x y : Int) : bits .xor .u64 x y = ((BitVec.ofInt 64 x ^^^ BitVec.ofInt 64 y).toNat : Int) := by
  have h := (BitVec.ofInt 64 x ^^^ BitVec.ofInt 64 y).isLt
  show IntKind.u64.wrap ((BitVec.ofInt 64 x ^^^ BitVec.ofInt 64 y).toNat : Int) = _
  rw [wrapU64]; omega
theorem ofIntNat (v : BitVec 64) : BitVec.ofInt 64 (v.toNat : Int) = v := by
  rw [BitVec.ofInt_natCast]; simp
theorem bnot_eq (x : Int) : BitVec.ofInt 64 (bnot x) = ~~~ BitVec.ofInt 64 x := by
  unfold bnot
  rw [bxor_eq, ofIntNat]
  have : BitVec.ofInt 64 IntKind.u64.max = BitVec.allOnes 64 := by decide
  rw [this, BitVec.allOnes_xor]
theorem or_sets (s a b : Int) : bor (bor s a) b = bor (bor s b) a ∧ bor (bor s (bor a b)) a = bor (bor s a) b := by
  simp only [bor_eq, ofIntNat]
  constructor
  · congr 2
    rw [BitVec.or_assoc, BitVec.or_comm (BitVec.ofInt 64 a), ← BitVec.or_assoc]
  · congr 2
    generalize BitVec.ofInt 64 s = s; generalize BitVec.ofInt 64 a = a; generalize BitVec.ofInt 64 b = b
    ext i; simp; cases s[i] <;> cases a[i] <;> cases b[i] <;> rfl
theorem and_sets (s a b : Int) : band (band s (bnot a)) (bnot b) = band (band s (bnot b)) (bnot a) ∧ band (band s (bnot (bor a b))) (bnot a) = band (band s (bnot a)) (bnot b) := by
  simp only [band_eq, ofIntNat, bnot_eq, bor_eq]
  generalize BitVec.ofInt 64 s = s; generalize BitVec.ofInt 64 a = a; generalize BitVec.ofInt 64 b = b
  constructor
  · congr 2
    ext i; simp; cases s[i] <;> cases a[i] <;> cases b[i] <;> rfl
  · congr 2
    ext i; simp; cases s[i] <;> cases a[i] <;> cases b[i] <;> rfl
theorem joined_pure (s a b k : Int) (hk : k = 0 ∨ k = 1) :
    curO 0 [(3, s), (k, b), (k, a)] = curO 0 [(3, s), (k, a), (k, b)] ∧ curO 0 [(3, s), (k, bor a b), (k, a)] = curO 0 [(3, s), (k, a), (k, b)] := by
  rcases hk with rfl | rfl
  · simp only [curO, List.foldl_cons, List.foldl_nil, stepO]
    simpa using ⟨(or_sets s a b).1.symm, (or_sets s a b).2⟩
  · simp only [curO, List.foldl_cons, List.foldl_nil, stepO]
    simpa using ⟨(and_sets s a b).1.symm, (and_sets s a b).2⟩
theorem last3 (w : World) (B g : Nat) (s k x k' y z : Int) (HR : Row w B 26 [.int .i64 3, .int .u64 s]) (hg : g = w.heap.size) (hz : curO 0 [(3, s), (k, x), (k', y)] = z) :
    Calls Try.prog 17 #[.slice (some ⟨g, 0, none⟩) 3 3] (w.alloc (.cells #[.int .i64 3, .int .u64 s, .int .i64 k, .int .u64 x, .int .i64 k', .int .u64 y] 26)) fun e w' =>
      e = .returned (.tuple #[.int .u64 z, .bool true]) ∧ Below w.heap.size w w' ∧ Row w' B 26 [.int .i64 3, .int .u64 s] ∧ w'.cell? ⟨B, 0, none⟩ = some (.int .i64 3) ∧ w'.cell? ⟨B, 1, none⟩ = some (.int .u64 s) := by
  subst hz
  refine (optionLast_calls _ 3 3 [(3, s), (k, x), (k', y)] _ (Rd.new w _ (stepVs [(3, s), (k, x), (k', y)]) g hg) rfl (by omega) (by omega)).mono ?_
  rintro e w' ⟨rfl, hB⟩
  have hR := (HR.alloc (.cells #[.int .i64 3, .int .u64 s, .int .i64 k, .int .u64 x, .int .i64 k', .int .u64 y] 26)).below hB (by have := HR.lt; simp; omega)
  exact ⟨rfl, below_next (below_alloc0 w _) hB, hR, hR.cell 0, hR.cell 1⟩
set_option maxRecDepth 10000 in
set_option maxHeartbeats 1000000 in
theorem joined_walk (s a b : Int) (w : World) (ws : (Lit.int .u64 s).wf = true) (wa : (Lit.int .u64 a).wf = true) (wb : (Lit.int .u64 b).wf = true) :
    Calls Try.prog 4 #[.int .u64 s, .int .u64 a, .int .u64 b] w fun e w' => e = .returned (.bool true) ∧ Below w.heap.size w w' := by
  go_enter Try.func4, Try.ntmps4
  go_wp2
  refine wpAbs (fun W => Below w.heap.size w W ∧ Row W w.heap.size 26 [.int .i64 3, .int .u64 s]) ⟨below_alloc0 w _, Row.new w _ _⟩ ?_
  rintro W ⟨hB, hR⟩
  generalize hbb : w.heap.size = B at *
  have hBB := hidden hbb
  clear hbb
  go_loopw [17] (fun i wr => ∃ k : Nat, k ≤ 2 ∧ i = .int .i64 k ∧ Below B w wr ∧ Row wr B 26 [.int .i64 3, .int .u64 s]) (fun i _ => 2 - (intOf i).toNat)
  case atStart => exact ⟨0, by omega, rfl, hB, hR⟩
  case round =>
    obtain ⟨k, hk, rfl, hBr, hRr⟩ := hrel
    clear hB hR W
    by_cases hlt : k < 2
    · have c0 := hRr.cell 0
      have c1 := hRr.cell 1
      simp only [List.getElem?_cons_zero, List.getElem?_cons_succ] at c0 c1
      have hp : curO 0 [(3, s), ((k : Int), b), ((k : Int), a)] = curO 0 [(3, s), ((k : Int), a), ((k : Int), b)] ∧ curO 0 [(3, s), ((k : Int), bits .or .u64 a b), ((k : Int), a)] = curO 0 [(3, s), ((k : Int), a), ((k : Int), b)] := joined_pure s a b k (by omega)
      generalize hx : curO 0 [(3, s), ((k : Int), a), ((k : Int), b)] = x at hp
      have Hx := hidden hx
      have Hp := hidden hp
      clear hx hp
      have hs0 : Hid (B ≤ wr.heap.size) := hidden (Nat.le_of_lt hRr.lt)
      have HR := hidden hRr
      have HB := hidden hBr
      clear hRr hBr
      go_wp2_with (first
        | (go_at_call 17; with_reducible refine (last3 wr B _ s k a k b x HR.out (by simp) Hx.out).mono ?_; rintro e w1 ⟨rfl, hB1, hR1, d0, d1⟩; clear c0 c1)
        | (go_at_call 17; with_reducible refine (last3 w1 B _ s k b k a x hR1 (by simp) Hp.out.1).mono ?_; rintro e w2 ⟨rfl, hB2, hR2, e0, e1⟩; clear d0 d1)
        | (go_at_call 17; with_reducible refine (last3 w2 B _ s k (bits .or .u64 a b) k a x hR2 (by simp) Hp.out.2).mono ?_; rintro e w3 ⟨rfl, hB3, hR3, f0, f1⟩; clear e0 e1))
      go_roundw
      case rel => exact ⟨k + 1, by omega, by go_num, (HB.out.trans (hB1.mono hs0.out)).trans ((hB2.mono (Nat.le_trans hs0.out hB1.size)).trans (hB3.mono (Nat.le_trans hs0.out (Nat.le_trans hB1.size hB2.size)))), hR3⟩
      case measure => simp [intOf]; omega
    · obtain rfl : k = 2 := by omega
      have hs0 : Hid (B ≤ wr.heap.size) := hidden (Nat.le_of_lt hRr.lt)
      clear hRr
      go_wp2_with (go_at_call 15; refine (optionAwake_calls _).mono ?_; rintro e w1 ⟨rfl, hB1⟩)
      go_ret
      exact ⟨rfl, by rw [hBB.out]; exact hBr.trans (hB1.mono hs0.out)⟩
end Go.Proofs.Yticgdbcnknhndaa
