/- Two pairs of slices: what zzFits7 says; signing inputs that are the same have the same parts. -/
import Derived.Test.YtmibnnmampfalaaJoined
import Derived.Test.YtmibnnmampfalaaLetters
import Derived.Test.YtmibnnmampfalaaFlow
namespace Go.Proofs.Ytmibnnmampfalaa
open Go.RowKit
set_option linter.unusedVariables false
set_option linter.unusedSimpArgs false

theorem cut_at {x : Int} : ∀ {p q t s : List Int}, x ∉ p → x ∉ q → p ++ x :: t = q ++ x :: s → p = q ∧ t = s
  | [], [], t, s, _, _, h => by
    simp only [List.nil_append, List.cons.injEq, true_and] at h
    exact ⟨rfl, h⟩
  | [], b :: q, t, s, _, hq, h => by
    simp only [List.nil_append, List.cons_append, List.cons.injEq] at h
    exact absurd (by rw [h.1]; exact List.mem_cons_self) hq
  | a :: p, [], t, s, hp, _, h => by
    simp only [List.nil_append, List.cons_append, List.cons.injEq] at h
    exact absurd (by rw [h.1]; exact List.mem_cons_self) hp
  | a :: p, b :: q, t, s, hp, hq, h => by
    simp only [List.cons_append, List.cons.injEq] at h
    have := cut_at (fun e => hp (List.mem_cons_of_mem _ e)) (fun e => hq (List.mem_cons_of_mem _ e)) h.2
    exact ⟨by rw [h.1, this.1], this.2⟩
theorem encF_no46 {l : List Int} (h : IsB l) : (46 : Int) ∉ encF (alpha true) l := fun hm => by
  have := encF_url h hm
  unfold isUrl at this
  omega
theorem encF_inj {a b : List Int} (ha : IsB a) (hb : IsB b) (h : encF (alpha true) a = encF (alpha true) b) : a = b := by
  have h1 := decA_encF true a ha
  rw [h, decA_encF true b hb] at h1
  exact (Option.some.inj h1).symm
theorem tailF_inj {enc : Bool} {a b : List Int} (ha : IsB a) (hb : IsB b) (h : tailF enc a = tailF enc b) : a = b := by
  cases enc
  · exact h
  · exact encF_inj ha hb h
theorem signF_inj {enc : Bool} {a b c d : List Int} (ha : IsB a) (hb : IsB b) (hc : IsB c) (hd : IsB d) : signF enc a b = signF enc c d ↔ a = c ∧ b = d := by
  constructor
  · intro h
    unfold signF at h
    rw [List.append_assoc, List.append_assoc, List.singleton_append, List.singleton_append] at h
    have := cut_at (encF_no46 ha) (encF_no46 hc) h
    exact ⟨encF_inj ha hc this.1, tailF_inj hb hd this.2⟩
  · rintro ⟨rfl, rfl⟩; rfl

/-- An element of an array of two slices. -/
theorem run_index2 (x y : Value) (hx : x.oneCell' = true) (hy : y.oneCell' = true) (W : World) : (Instr.index 36 (.agg #[x, y]) (.int .i64 0)).run Try.prog W = .ok x W ∧ (Instr.index 36 (.agg #[x, y]) (.int .i64 1)).run Try.prog W = .ok y W := by
  obtain ⟨i0, hi, hs⟩ := Option.map_eq_some_iff.1 (show (Try.prog.info? 22).map (·.size) = some 1 by kernel_rfl)
  constructor
  · simp [Instr.index, run_underlying Try.underlying36, asIntOf, sizeOf, typeInfo, hi, hs, part]
  · simp [Instr.index, run_underlying Try.underlying36, asIntOf, sizeOf, typeInfo, hi, hs, part]
theorem walk_index2 {P : Program} {ops : Array Oper} {rest : List Oper} {o : Oper} {a : Act} {Q : Exit → Act → World → Prop} {w : World} (hgd : o.guard = none) (t : TypeId) (x i : Operand) (ho : o.op = .index t x i) {vx vi v : Value} (hx : a.eval x = vx) (hi : a.eval i = vi) (hr : ∀ W, (Instr.index t vx vi).run P W = .ok v W) (h : wpList P ops Q rest (a.put o.dst v) w) : wpList P ops Q (o :: rest) a w := by
  refine wpList_plain hgd fun K hK => ?_
  unfold Oper.wp execOp
  simp only [ho, hx, hi, hr, Sem.run_bind, Sem.run_pure, Result.andThen_ok]
  exact hK _ _ h
/-- Two slices, as they are handed over. -/
def twoV (A : Option Addr) (n c : Nat) (B : Option Addr) (m d : Nat) : Value := .agg #[.slice A n c, .slice B m d]
set_option maxRecDepth 100000 in
set_option maxHeartbeats 1000000 in
theorem fits7_calls (A : Option Addr) (n c : Nat) (B : Option Addr) (m d : Nat) (r : Bool) (hr : r = true ↔ n ≤ 2147483647 ∧ m ≤ 2147483647) (w : World) :
    Calls Try.prog 23 #[twoV A n c B m d] w fun e w' => e = .returned (.bool r) ∧ Below w.heap.size w w' := by
  unfold twoV
  have Hr := hidden hr
  clear hr
  have HR : Hid (Row (w.alloc (.cells #[.slice A n c, .slice B m d] 36)) w.heap.size 36 [.slice A n c, .slice B m d]) := hidden (Row.new w _ [.slice A n c, .slice B m d])
  have HB : Hid (Below w.heap.size w (w.alloc (.cells #[.slice A n c, .slice B m d] 36))) := hidden (below_alloc0 w _)
  go_enter Try.func23, Try.ntmps23
  go_wp2_with (with_reducible refine at_dst 5 ?_; go_must (refine walk_load_row (vs := [.slice A n c, .slice B m d]) rfl _ _ rfl HR.out rfl Try.underlying36 rfl (by kernel_rfl) ?_))
  go_loop [6] (fun i => ∃ k : Nat, k ≤ 2 ∧ i = .int .i64 k ∧ Hid ((0 < k → n ≤ 2147483647) ∧ (1 < k → m ≤ 2147483647))) (fun i => 2 - (intOf i).toNat)
  case atStart => exact ⟨0, by omega, rfl, hidden ⟨by omega, by omega⟩⟩
  case round =>
    obtain ⟨k, hk, rfl, hle⟩ := hrel
    rcases (show k = 0 ∨ k = 1 ∨ k = 2 by omega) with rfl | rfl | rfl
    · by_cases h2 : n ≤ 2147483647
      · have h2i : ¬ (2147483647 : Int) < (n : Int) := by omega
        have H2 := hidden h2
        clear h2
        go_wp2_with (with_reducible refine at_dst 8 ?_; go_must (refine walk_index2 rfl _ _ _ rfl (vx := .agg #[.slice A n c, .slice B m d]) (vi := .int .i64 0) rfl rfl (fun W => (run_index2 (.slice A n c) (.slice B m d) rfl rfl W).1) ?_))
        go_round
        case rel => exact ⟨1, by omega, by go_num, hidden ⟨fun _ => H2.out, by omega⟩⟩
        case measure => simp [intOf]
      · have h2i : (2147483647 : Int) < (n : Int) := by omega
        obtain rfl : r = false := by
          cases r with
          | false => rfl
          | true => exact absurd (Hr.out.1 rfl).1 h2
        clear h2
        go_wp2_with (with_reducible refine at_dst 8 ?_; go_must (refine walk_index2 rfl _ _ _ rfl (vx := .agg #[.slice A n c, .slice B m d]) (vi := .int .i64 0) rfl rfl (fun W => (run_index2 (.slice A n c) (.slice B m d) rfl rfl W).1) ?_))
        go_ret
        exact ⟨rfl, HB.out⟩
    · by_cases h2 : m ≤ 2147483647
      · have h2i : ¬ (2147483647 : Int) < (m : Int) := by omega
        have H2 := hidden h2
        clear h2
        go_wp2_with (with_reducible refine at_dst 8 ?_; go_must (refine walk_index2 rfl _ _ _ rfl (vx := .agg #[.slice A n c, .slice B m d]) (vi := .int .i64 1) rfl rfl (fun W => (run_index2 (.slice A n c) (.slice B m d) rfl rfl W).2) ?_))
        go_round
        case rel => exact ⟨2, by omega, by go_num, hidden ⟨fun _ => hle.out.1 (by omega), fun _ => H2.out⟩⟩
        case measure => simp [intOf]
      · have h2i : (2147483647 : Int) < (m : Int) := by omega
        obtain rfl : r = false := by
          cases r with
          | false => rfl
          | true => exact absurd (Hr.out.1 rfl).2 h2
        clear h2
        go_wp2_with (with_reducible refine at_dst 8 ?_; go_must (refine walk_index2 rfl _ _ _ rfl (vx := .agg #[.slice A n c, .slice B m d]) (vi := .int .i64 1) rfl rfl (fun W => (run_index2 (.slice A n c) (.slice B m d) rfl rfl W).2) ?_))
        go_ret
        exact ⟨rfl, HB.out⟩
    · obtain rfl : r = true := Hr.out.2 ⟨hle.out.1 (by omega), hle.out.2 (by omega)⟩
      go_wp2
      go_ret
      exact ⟨rfl, HB.out⟩
end Go.Proofs.Ytmibnnmampfalaa
