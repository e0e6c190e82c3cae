/- A sign that is none of base64: the walk of FnPartForeign. -/
import Derived.Test.YtmibnnmampfalaaNum2
import Derived.Test.YtmibnnmampfalaaFlow
import Derived.ArgAppend
namespace Go.Proofs.Ytmibnnmampfalaa
open Go.RowKit
set_option linter.unusedVariables false
set_option linter.unusedSimpArgs false

def letB (a : Nat) : Bool := (decide (65 ≤ a) && decide (a ≤ 90)) || (decide (97 ≤ a) && decide (a ≤ 122)) || (decide (48 ≤ a) && decide (a ≤ 57)) || a == 45 || a == 95 || a == 43 || a == 47
theorem letB_iff (a : Nat) : letB a = true ↔ (65 ≤ a ∧ a ≤ 90) ∨ (97 ≤ a ∧ a ≤ 122) ∨ (48 ≤ a ∧ a ≤ 57) ∨ a = 45 ∨ a = 95 ∨ a = 43 ∨ a = 47 := by
  simp only [letB, Bool.or_eq_true, Bool.and_eq_true, decide_eq_true_iff, beq_iff_eq]
  omega
def okLet (url : Bool) : Bool := (List.range 64).all fun i => letB (gi (alpha url) i).toNat
theorem okLet_true (url : Bool) : okLet url = true := by cases url <;> kernel_rfl
theorem tab_no {a : Nat} (url : Bool) (ha : a < 256) (h : letB a = false) : gi (tab url) a = 255 := by
  rcases tab_cases url ha with h1 | ⟨h1, h2, h3⟩
  · exact h1
  · exfalso
    have := okLet_true url
    simp only [okLet, List.all_eq_true, List.mem_range] at this
    have h4 := this (gi (tab url) a).toNat (by omega)
    rw [h3, Int.toNat_natCast, h] at h4
    cases h4
theorem decOf_foreign {T : List Int} {a : Nat} (ha : a < 256) (h : letB a = false) (h61 : a ≠ 61) (h10 : a ≠ 10) (h13 : a ≠ 13) (hm : (a : Int) ∈ T) : decOf T = none := by
  cases hd : decOf T with
  | none => rfl
  | some out =>
    exfalso
    have h1 := (decA_some _ _ T [] out (by simp) hd).2.2 _ hm
    rw [Int.toNat_natCast, tab_no _ ha h] at h1
    unfold padOf at h1
    split at h1 <;> omega
set_option maxHeartbeats 2000000 in
theorem letterB_calls (a : Nat) (r : Bool) (hr : r = letB a) (w : World) :
    Calls Try.prog 19 #[.int .u8 a] w fun e w' => e = .returned (.bool r) ∧ w = w' := by
  have hri : r = true ↔ (65 ≤ a ∧ a ≤ 90) ∨ (97 ≤ a ∧ a ≤ 122) ∨ (48 ≤ a ∧ a ≤ 57) ∨ a = 45 ∨ a = 95 ∨ a = 43 ∨ a = 47 := by rw [hr]; exact letB_iff a
  have Hri := hidden hri
  clear hr hri
  rcases (show (a < 43) ∨ (a = 43) ∨ (a = 44) ∨ (a = 45) ∨ (a = 46) ∨ (a = 47) ∨ (48 ≤ a ∧ a ≤ 57) ∨ (58 ≤ a ∧ a ≤ 64) ∨ (65 ≤ a ∧ a ≤ 90) ∨ (91 ≤ a ∧ a ≤ 94) ∨ (a = 95) ∨ (a = 96) ∨ (97 ≤ a ∧ a ≤ 122) ∨ (123 ≤ a) by omega) with h | h | h | h | h | h | h | h | h | h | h | h | h | h
  · obtain rfl : r = false := by cases r with
      | false => rfl
      | true => exact absurd (Hri.out.1 rfl) (by omega)
    have e0 : ¬ (65 : Int) ≤ (a : Int) := by omega
    have e1 : (a : Int) ≤ 90 := by omega
    have e2 : ¬ (97 : Int) ≤ (a : Int) := by omega
    have e3 : (a : Int) ≤ 122 := by omega
    have e4 : ¬ (48 : Int) ≤ (a : Int) := by omega
    have e5 : (a : Int) ≤ 57 := by omega
    have g45 : ((a : Int) == 45) = false := beq_eq_false_iff_ne.2 (by omega)
    have g95 : ((a : Int) == 95) = false := beq_eq_false_iff_ne.2 (by omega)
    have g43 : ((a : Int) == 43) = false := beq_eq_false_iff_ne.2 (by omega)
    have g47 : ((a : Int) == 47) = false := beq_eq_false_iff_ne.2 (by omega)
    go_enter Try.func19, Try.ntmps19
    go_wp2
    go_ret
    exact ⟨rfl, rfl⟩
  · subst h
    obtain rfl : r = true := Hri.out.2 (by omega)
    go_enter Try.func19, Try.ntmps19
    go_wp2
    go_ret
    exact ⟨rfl, rfl⟩
  · subst h
    obtain rfl : r = false := by cases r with
      | false => rfl
      | true => exact absurd (Hri.out.1 rfl) (by omega)
    go_enter Try.func19, Try.ntmps19
    go_wp2
    go_ret
    exact ⟨rfl, rfl⟩
  · subst h
    obtain rfl : r = true := Hri.out.2 (by omega)
    go_enter Try.func19, Try.ntmps19
    go_wp2
    go_ret
    exact ⟨rfl, rfl⟩
  · subst h
    obtain rfl : r = false := by cases r with
      | false => rfl
      | true => exact absurd (Hri.out.1 rfl) (by omega)
    go_enter Try.func19, Try.ntmps19
    go_wp2
    go_ret
    exact ⟨rfl, rfl⟩
  · subst h
    obtain rfl : r = true := Hri.out.2 (by omega)
    go_enter Try.func19, Try.ntmps19
    go_wp2
    go_ret
    exact ⟨rfl, rfl⟩
  · obtain rfl : r = true := Hri.out.2 (by omega)
    have e0 : ¬ (65 : Int) ≤ (a : Int) := by omega
    have e1 : (a : Int) ≤ 90 := by omega
    have e2 : ¬ (97 : Int) ≤ (a : Int) := by omega
    have e3 : (a : Int) ≤ 122 := by omega
    have e4 : (48 : Int) ≤ (a : Int) := by omega
    have e5 : (a : Int) ≤ 57 := by omega
    have g45 : ((a : Int) == 45) = false := beq_eq_false_iff_ne.2 (by omega)
    have g95 : ((a : Int) == 95) = false := beq_eq_false_iff_ne.2 (by omega)
    have g43 : ((a : Int) == 43) = false := beq_eq_false_iff_ne.2 (by omega)
    have g47 : ((a : Int) == 47) = false := beq_eq_false_iff_ne.2 (by omega)
    go_enter Try.func19, Try.ntmps19
    go_wp2
    go_ret
    exact ⟨rfl, rfl⟩
  · obtain rfl : r = false := by cases r with
      | false => rfl
      | true => exact absurd (Hri.out.1 rfl) (by omega)
    have e0 : ¬ (65 : Int) ≤ (a : Int) := by omega
    have e1 : (a : Int) ≤ 90 := by omega
    have e2 : ¬ (97 : Int) ≤ (a : Int) := by omega
    have e3 : (a : Int) ≤ 122 := by omega
    have e4 : (48 : Int) ≤ (a : Int) := by omega
    have e5 : ¬ (a : Int) ≤ 57 := by omega
    have g45 : ((a : Int) == 45) = false := beq_eq_false_iff_ne.2 (by omega)
    have g95 : ((a : Int) == 95) = false := beq_eq_false_iff_ne.2 (by omega)
    have g43 : ((a : Int) == 43) = false := beq_eq_false_iff_ne.2 (by omega)
    have g47 : ((a : Int) == 47) = false := beq_eq_false_iff_ne.2 (by omega)
    go_enter Try.func19, Try.ntmps19
    go_wp2
    go_ret
    exact ⟨rfl, rfl⟩
  · obtain rfl : r = true := Hri.out.2 (by omega)
    have e0 : (65 : Int) ≤ (a : Int) := by omega
    have e1 : (a : Int) ≤ 90 := by omega
    have e2 : ¬ (97 : Int) ≤ (a : Int) := by omega
    have e3 : (a : Int) ≤ 122 := by omega
    have e4 : (48 : Int) ≤ (a : Int) := by omega
    have e5 : ¬ (a : Int) ≤ 57 := by omega
    have g45 : ((a : Int) == 45) = false := beq_eq_false_iff_ne.2 (by omega)
    have g95 : ((a : Int) == 95) = false := beq_eq_false_iff_ne.2 (by omega)
    have g43 : ((a : Int) == 43) = false := beq_eq_false_iff_ne.2 (by omega)
    have g47 : ((a : Int) == 47) = false := beq_eq_false_iff_ne.2 (by omega)
    go_enter Try.func19, Try.ntmps19
    go_wp2
    go_ret
    exact ⟨rfl, rfl⟩
  · obtain rfl : r = false := by cases r with
      | false => rfl
      | true => exact absurd (Hri.out.1 rfl) (by omega)
    have e0 : (65 : Int) ≤ (a : Int) := by omega
    have e1 : ¬ (a : Int) ≤ 90 := by omega
    have e2 : ¬ (97 : Int) ≤ (a : Int) := by omega
    have e3 : (a : Int) ≤ 122 := by omega
    have e4 : (48 : Int) ≤ (a : Int) := by omega
    have e5 : ¬ (a : Int) ≤ 57 := by omega
    have g45 : ((a : Int) == 45) = false := beq_eq_false_iff_ne.2 (by omega)
    have g95 : ((a : Int) == 95) = false := beq_eq_false_iff_ne.2 (by omega)
    have g43 : ((a : Int) == 43) = false := beq_eq_false_iff_ne.2 (by omega)
    have g47 : ((a : Int) == 47) = false := beq_eq_false_iff_ne.2 (by omega)
    go_enter Try.func19, Try.ntmps19
    go_wp2
    go_ret
    exact ⟨rfl, rfl⟩
  · subst h
    obtain rfl : r = true := Hri.out.2 (by omega)
    go_enter Try.func19, Try.ntmps19
    go_wp2
    go_ret
    exact ⟨rfl, rfl⟩
  · subst h
    obtain rfl : r = false := by cases r with
      | false => rfl
      | true => exact absurd (Hri.out.1 rfl) (by omega)
    go_enter Try.func19, Try.ntmps19
    go_wp2
    go_ret
    exact ⟨rfl, rfl⟩
  · obtain rfl : r = true := Hri.out.2 (by omega)
    have e0 : (65 : Int) ≤ (a : Int) := by omega
    have e1 : ¬ (a : Int) ≤ 90 := by omega
    have e2 : (97 : Int) ≤ (a : Int) := by omega
    have e3 : (a : Int) ≤ 122 := by omega
    have e4 : (48 : Int) ≤ (a : Int) := by omega
    have e5 : ¬ (a : Int) ≤ 57 := by omega
    have g45 : ((a : Int) == 45) = false := beq_eq_false_iff_ne.2 (by omega)
    have g95 : ((a : Int) == 95) = false := beq_eq_false_iff_ne.2 (by omega)
    have g43 : ((a : Int) == 43) = false := beq_eq_false_iff_ne.2 (by omega)
    have g47 : ((a : Int) == 47) = false := beq_eq_false_iff_ne.2 (by omega)
    go_enter Try.func19, Try.ntmps19
    go_wp2
    go_ret
    exact ⟨rfl, rfl⟩
  · obtain rfl : r = false := by cases r with
      | false => rfl
      | true => exact absurd (Hri.out.1 rfl) (by omega)
    have e0 : (65 : Int) ≤ (a : Int) := by omega
    have e1 : ¬ (a : Int) ≤ 90 := by omega
    have e2 : (97 : Int) ≤ (a : Int) := by omega
    have e3 : ¬ (a : Int) ≤ 122 := by omega
    have e4 : (48 : Int) ≤ (a : Int) := by omega
    have e5 : ¬ (a : Int) ≤ 57 := by omega
    have g45 : ((a : Int) == 45) = false := beq_eq_false_iff_ne.2 (by omega)
    have g95 : ((a : Int) == 95) = false := beq_eq_false_iff_ne.2 (by omega)
    have g43 : ((a : Int) == 43) = false := beq_eq_false_iff_ne.2 (by omega)
    have g47 : ((a : Int) == 47) = false := beq_eq_false_iff_ne.2 (by omega)
    go_enter Try.func19, Try.ntmps19
    go_wp2
    go_ret
    exact ⟨rfl, rfl⟩
/-- append of nothing. -/
theorem run_app_zero {P : Program} {W : World} {t ty e bytes : Nat} {z : Value} (ht : P.underlying t = some (.slice e)) (hinfo : (P.info? e).map (fun i => (i.zero, i.size, i.bytes)) = some (some z, 1, bytes)) (g : Addr) (n cap : Nat) (hn : n ≤ cap) (A : Option Addr) (c : Nat) :
    (Builtin.append_ #[t, t] ty #[.slice (some g) n cap, .slice A 0 c]).run P W = .ok (.slice (some g) n cap) W := by
  obtain ⟨i0, hi, hzz⟩ := Option.map_eq_some_iff.1 hinfo
  cases A <;> simp [Builtin.append_, run_underlying ht, sizeOf, typeInfo, hi, Builtin.lenOf, Builtin.firstCells, hn, storeCells, loadCells, loadCellsFrom]
/-- append where there is no room: a new row. -/
theorem run_app_full {P : Program} {W : World} {t ty e bytes : Nat} {z : Value} (ht : P.underlying t = some (.slice e)) (hinfo : (P.info? e).map (fun i => (i.zero, i.size, i.bytes)) = some (some z, 1, bytes)) (hz : z.cells.size = 1)
    {A B : Option Addr} {n m c : Nat} {olds news : List Value} (HO : Rd W A olds) (hn : olds.length = n) (hA : A = none → n = 0) (HR : Rd W B news) (hm : news.length = m) (h0 : 0 < m) (h1 : ∀ u ∈ news, u.oneCell' = true) (hl : (n + m) * bytes ≤ 140737488355328) (hl2 : n + m ≤ 140737488355328) :
    ∃ v1 w1, (Builtin.append_ #[t, t] ty #[.slice A n n, .slice B m c]).run P W = .ok v1 w1 ∧ Own w1 W.heap.size e v1 (olds ++ news) ∧ W.grownBy w1 none := by
  obtain ⟨i0, hi, hzz⟩ := Option.map_eq_some_iff.1 hinfo
  simp only [Prod.mk.injEq] at hzz
  obtain ⟨hz0, hz1, hz2⟩ := hzz
  obtain ⟨b, o, rfl, hlt, hc⟩ := HR.pos (by omega)
  cases A with
  | none =>
    obtain rfl : n = 0 := hA rfl
    obtain rfl : olds = [] := List.eq_nil_of_length_eq_zero hn
    obtain ⟨v1, w1, hr, h2, h3, _, _⟩ := run_append_own_at (P := P) W W.heap.size t ty e i0 z 1 bytes ht hi hz0 hz1 hz2 hz (by omega) (.slice none 0 0) 0 [] (Own.nil W _ e) ⟨b, o, none⟩ m c news (by omega)
      (fun j u hu => by rw [addr_add]; exact hc j u hu) h1 (by simp only [maxLen]; omega) hl (Nat.le_refl _)
    refine ⟨v1, w1, hr, ?_, h3⟩
    unfold Own
    rw [List.length_append, hm]; exact h2
  | some ad =>
    have hold : ∀ j u, olds[j]? = some u → W.cell? (ad.add j) = some u := fun j u hu => by
      obtain ⟨b', o', e', _, hc'⟩ := HO j u hu
      cases e'
      rw [addr_add]; exact hc'
    obtain ⟨v1, w1, hr, h2, h3⟩ := run_append_arg_grows (P := P) W t ty e i0 z 1 bytes ht hi hz0 hz1 hz2 hz (by omega) ad n n olds (by omega) hold ⟨b, o, none⟩ m c news (by omega)
      (fun j u hu => by rw [addr_add]; exact hc j u hu) (by omega) (by simp only [maxLen]; omega) hl
    refine ⟨v1, w1, hr, ?_, h3⟩
    unfold Own
    rw [List.length_append, hn, hm]; exact h2
theorem grown_none {W w1 : World} (h : W.grownBy w1 none) : Below W.heap.size W w1 := ⟨h.os, h.tape, h.output, h.size, fun k hk => h.block k hk (by simp)⟩
end Go.Proofs.Ytmibnnmampfalaa
