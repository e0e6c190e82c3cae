/- Accepted: a list of texts. -/
import Derived.Test.YtmibnnmampfalaaClaimC
namespace Go.Proofs.Ytmibnnmampfalaa
open Go.RowKit
set_option linter.unusedVariables false
set_option linter.unusedSimpArgs false

theorem rd_kept3 {w1 w2 : World} {g base e : Nat} {v : Value} {vs : List Value} {A : Option Addr} {n c : Nat} (hO : Own w1 base e v vs) (hg : w1.grownBy w2 (some g)) (hq : v = .slice A n c) (hlt : g < base) : Rd w2 A vs := by
  have hO2 : Own w2 base e v vs := hO.kept hg (by
    cases hb : v.ownBlock with
    | none => exact .inl rfl
    | some k => right; intro hk; have h1 := (hO.lt k hb).1; have h2 : k = g := Option.some.inj hk; omega)
  obtain ⟨A', c', hq', _, hr, _⟩ := hO2.read
  rw [hq] at hq'
  cases hq'
  exact hr
set_option maxRecDepth 10000 in
set_option maxHeartbeats 1000000 in
theorem accepted3_calls (t : ByteArray) (b : Bool) (m : Int) (A : Option Addr) (n c : Nat) (l : List ByteArray) (w : World) (h : Rd w A (strs l)) (hn : l.length = n) (hb : n ≤ 100000) :
    Calls Try.prog 33 #[plainV 3 t b m A n c] w fun e w' => ∃ v, e = .returned (.tuple #[v, .bool true]) ∧ Own w' w.heap.size 9 v (strs l) ∧ Below w.heap.size w w' := by
  obtain ⟨hB0, hR0⟩ := accepted_start w [.int .i64 3, .string t, .bool b, .int .i32 m, .slice A n c] 50 78
  have h0 : Rd ((w.alloc (.cells [.int .i64 3, .string t, .bool b, .int .i32 m, .slice A n c].toArray 50)).alloc (.cells #[.slice none 0 0] 78)) A (strs l) := (h.alloc _).alloc _
  have HB0 := hidden hB0
  have HR0 := hidden hR0
  have H0 := hidden h0
  clear hB0 hR0 h0 h
  unfold plainV
  go_enter Try.func33, Try.ntmps33
  go_wp2_with (first
    | (go_at_call 59; go_must (refine (value3_calls t b m A n c l _ H0.out hn hb).mono ?_; rintro e w1 ⟨v1, rfl, hO1, hB1⟩; have hR1 := HR0.out.below hB1 HR0.out.lt; obtain ⟨A1, c1, qv, hc1, hr1, hA1⟩ := hO1.read; rw [strs_len, hn] at qv hc1; subst qv; have HO1 := hidden hO1; clear hO1))
    | (go_at_call 58; go_must (refine (accept3_calls _ _ _ _ hR1 ⟨_, _, _, rfl⟩).mono ?_; rintro e w2 ⟨rfl, hR2, hg2⟩; have hr2 := rd_kept3 HO1.out hg2 rfl (by simp); have hcc := hR2.cell 0; simp only [List.getElem?_cons_zero] at hcc))
    | (go_at_call 60; go_must (refine (get_calls A1 n c1 _).mono ?_; rintro e w3 ⟨rfl, rfl⟩))
    | (go_at_call 40; go_must (refine (cloneS_calls A1 n c1 l _ hr2 hn hc1 hA1 hb).mono ?_; rintro e w4 ⟨v4, rfl, hO4, hB4⟩)))
  go_ret2
  have hB1' := below_next HB0.out hB1
  have hB2' : Below w.heap.size w w2 := hB1'.grown hg2 hB1'.size (by rintro q hq; cases hq; omega)
  exact ⟨v4, rfl, hO4.lower hB2'.size, below_next hB2' hB4⟩
end Go.Proofs.Ytmibnnmampfalaa
