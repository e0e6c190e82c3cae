/- Rows of steps that a call makes for itself: elements of two cells. -/
import Derived.Test.YticgdbcnknhndaaOptC
import Derived.StillTailTactics
namespace Go.Proofs.Yticgdbcnknhndaa
open Go.RowKit
set_option linter.unusedVariables false
set_option linter.unusedSimpArgs false

theorem info_step : (Try.prog.info? 26).map (fun i => (i.zero, i.size, i.bytes)) = some (some (.agg #[.int .i64 0, .int .u64 0]), 2, 16) := by kernel_rfl
theorem size_step : (Try.prog.info? 26).map (·.size) = some 2 := by kernel_rfl
def Own2 (w : World) (base : Nat) (v : Value) (l : List (Int × Int)) : Prop := w.ownsRow base 26 2 v l.length (stepVs l)
section
variable {w w1 : World} {base : Nat} {v : Value} {l : List (Int × Int)}
theorem Own2.nil (w : World) (base : Nat) : Own2 w base (.slice none 0 0) [] := ⟨by simp [stepVs], .inl ⟨rfl, rfl⟩⟩
theorem Own2.read (h : Own2 w base v l) : ∃ A c, v = .slice A l.length c ∧ Rd w A (stepVs l) := by
  rcases h.2 with ⟨rfl, h0⟩ | ⟨g, cap, cur, rfl, hb, hg, hn, hm, hs, ht⟩
  · obtain rfl : l = [] := List.eq_nil_of_length_eq_zero h0
    exact ⟨none, 0, rfl, by simpa [stepVs] using Rd.nil w none⟩
  · refine ⟨_, cap, rfl, ?_⟩
    refine Rd.of_row (t := 26) (L := cur.toList) (by simpa [Row] using hg) 0 0 (fun i hi => ?_)
    rw [stepVs_len] at hi
    rw [Nat.zero_add]; conv => rhs; rw [← ht, List.getElem?_take, if_pos (by omega)]
theorem Own2.kept (h : Own2 w base v l) {r : Option Nat} (hg : w.grownBy w1 r) (hne : v.ownBlock = none ∨ v.ownBlock ≠ r) : Own2 w1 base v l := World.ownsRow.kept h hg hne
theorem Own2.alloc (h : Own2 w base v l) (o : Obj) : Own2 (w.alloc o) base v l := World.ownsRow.alloc h o
theorem Own2.drew (h : Own2 w base v l) : Own2 w.drew base v l := h
theorem Own2.lt (h : Own2 w base v l) : ∀ k, v.ownBlock = some k → base ≤ k ∧ k < w.heap.size := World.ownsRow.lt h
end
theorem stepVs_app (a b : List (Int × Int)) : stepVs (a ++ b) = stepVs a ++ stepVs b := List.flatMap_append ..
theorem stepVs_one (l : List (Int × Int)) : ∀ u ∈ stepVs l, u.oneCell' = true := by
  intro u hu
  obtain ⟨s, _, hs⟩ := List.mem_flatMap.1 hu
  simp at hs
  rcases hs with rfl | rfl <;> rfl
theorem run_app2 {W : World} {base ty : Nat} {v : Value} {l m : List (Int × Int)} {A : Option Addr} {c : Nat} (HO : Own2 W base v l) (HR : Rd W A (stepVs m)) (hm : 0 < m.length) (hbase : base ≤ W.heap.size) (hl : l.length + m.length ≤ 100000) :
    ∃ v1 w1, (Builtin.append_ #[22, 22] ty #[v, .slice A m.length c]).run Try.prog W = .ok v1 w1 ∧ Own2 w1 base v1 (l ++ m) ∧ W.grownBy w1 v.ownBlock ∧ (v1.ownBlock = v.ownBlock ∨ v1.ownBlock = some W.heap.size) := by
  obtain ⟨i0, hi, hzz⟩ := Option.map_eq_some_iff.1 info_step
  simp only [Prod.mk.injEq] at hzz
  obtain ⟨hz0, hz1, hz2⟩ := hzz
  obtain ⟨b, o, rfl, hlt, hc⟩ := HR.pos (by rw [stepVs_len]; omega)
  obtain ⟨v1, w1, hr, h2, h3, _, h5⟩ := run_append_own_at (P := Try.prog) W base 22 ty 26 i0 _ 2 16 Try.underlying22 hi hz0 hz1 hz2 rfl (by omega) v l.length (stepVs l) HO ⟨b, o, none⟩ m.length c (stepVs m) (by rw [stepVs_len]; omega)
    (fun j u hu => by rw [addr_add]; exact hc j u hu) (stepVs_one m) (by simp only [maxLen]; omega) (by omega) hbase
  refine ⟨v1, w1, hr, ?_, h3, h5⟩
  unfold Own2
  rw [List.length_append, stepVs_app]; exact h2
theorem walk_app2 {ops : Array Oper} {rest : List Oper} {o : Oper} {a : Act} {Q : Exit → Act → World → Prop} {W : World} {base : Nat} (hgd : o.guard = none) (s x : Operand)
    (ho : o.op = .call { callee := .builtin .append, args := #[s, x], argTypes := #[22, 22] })
    {v : Value} {l m : List (Int × Int)} {A : Option Addr} {n c : Nat} (hs : a.eval s = v) (hx : a.eval x = .slice A n c) (hn : m.length = n) (HO : Own2 W base v l) (HR : Rd W A (stepVs m)) (hm : 0 < m.length) (hbase : base ≤ W.heap.size) (hl : l.length + m.length ≤ 100000)
    (h : ∀ v1 w1, Own2 w1 base v1 (l ++ m) → W.grownBy w1 v.ownBlock → (v1.ownBlock = v.ownBlock ∨ v1.ownBlock = some W.heap.size) → wpList Try.prog ops Q rest (a.put o.dst v1) w1) :
    wpList Try.prog ops Q (o :: rest) a W := by
  subst hn
  obtain ⟨v1, w1, hrun, h2, h3, h5⟩ := run_app2 (ty := o.type) (c := c) HO HR hm hbase hl
  refine wpList_plain hgd fun K hK => ?_
  unfold Oper.wp execOp
  simp only [ho, resolve, invoke, builtin, Sem.run_bind, Sem.run_pure, Result.andThen_ok, List.map_toArray, List.map_cons, List.map_nil, hs, hx, hrun]
  exact hK _ _ (h v1 w1 h2 h3 h5)

/-! Steps, each one with a question behind it. -/
def asks : List ((Int × Int) × Int) → List (Int × Int)
  | [] => []
  | p :: ps => p.1 :: (4, p.2) :: asks ps
theorem asks_app (a b : List ((Int × Int) × Int)) : asks (a ++ b) = asks a ++ asks b := by
  induction a with
  | nil => rfl
  | cons p a ih => simp [asks, ih]
theorem asks_len (a : List ((Int × Int) × Int)) : (asks a).length = 2 * a.length := by
  induction a with
  | nil => rfl
  | cons p a ih => simp [asks, ih]; omega
theorem stepO_ask (v b : Int) : stepO v (4, b) = v := by simp [stepO]
theorem asks_pure (ps : List ((Int × Int) × Int)) (h4 : ∀ p ∈ ps, p.1.1 ≠ 4) : ∀ (v : Int) (j : Nat) (hj : j < ps.length),
    gi (valsO v (asks ps)) (2 * j) = gi (valsO v (ps.map (·.1))) j ∧ gi (valsO v (asks ps)) (2 * j + 1) = gi (valsO v (ps.map (·.1))) j ∧
    bi (toldO v (asks ps)) (2 * j) = false ∧ bi (toldO v (asks ps)) (2 * j + 1) = decide (band (gi (valsO v (ps.map (·.1))) j) (ps[j]'hj).2 = (ps[j]'hj).2) ∧ (asks ps)[2 * j + 1]? = some (4, (ps[j]'hj).2) := by
  induction ps with
  | nil => intro v j hj; simp at hj
  | cons p ps ih =>
    intro v j hj
    have h1 := h4 p (by simp)
    cases j with
    | zero => simp [asks, valsO, toldO, gi, bi, stepO_ask, askO, h1]
    | succ j =>
      have hj' : j < ps.length := by simpa using hj
      have := ih (fun q hq => h4 q (by simp [hq])) (stepO v p.1) j hj'
      rw [show 2 * (j + 1) = 2 * j + 1 + 1 by omega]
      simpa [asks, valsO, toldO, gi, bi, stepO_ask] using this
theorem bit_asked (v : Int) (e : Nat) (he : e < 64) : decide (band v ((2 : Int) ^ e) = (2 : Int) ^ e) = (band v ((2 : Int) ^ e) != 0) := by
  have hp : BitVec.ofInt 64 ((2 : Int) ^ e) = BitVec.twoPow 64 e := by
    apply BitVec.eq_of_toNat_eq
    rw [show ((2 : Int) ^ e) = ((2 ^ e : Nat) : Int) by simp, BitVec.ofInt_natCast, BitVec.toNat_twoPow, BitVec.toNat_ofNat]
  have hlt : 2 ^ e < 2 ^ 64 := Nat.pow_lt_pow_right (by omega) he
  have hpos : 0 < 2 ^ e := Nat.two_pow_pos e
  have ht : (BitVec.twoPow 64 e).toNat = 2 ^ e := by rw [BitVec.toNat_twoPow, Nat.mod_eq_of_lt hlt]
  rw [band_eq, hp, BitVec.and_twoPow, show ((2 : Int) ^ e) = ((2 ^ e : Nat) : Int) by simp]
  generalize (2 : Nat) ^ e = N at *
  have hn0 : ((N : Nat) : Int) ≠ 0 := by omega
  split
  · rw [ht, decide_eq_true rfl]
    simp
    omega
  · rw [decide_eq_false (fun h => hn0 (by simpa using h.symm))]
    simp
end Go.Proofs.Yticgdbcnknhndaa
