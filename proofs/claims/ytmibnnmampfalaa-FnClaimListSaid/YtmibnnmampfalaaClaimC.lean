/- Accepted: a value, given to an empty list. -/
import Derived.Test.YtmibnnmampfalaaClaimB
namespace Go.Proofs.Ytmibnnmampfalaa
open Go.RowKit
set_option linter.unusedVariables false
set_option linter.unusedSimpArgs false

theorem get_calls (A : Option Addr) (n c : Nat) (w : World) :
    Calls Try.prog 60 #[.slice A n c] w fun e w' => e = .returned (.slice A n c) ∧ w = w' := by
  go_enter Try.func60, Try.ntmps60
  go_wp2
  go_ret
  exact ⟨rfl, rfl⟩
/-- The two variables of the call. -/
theorem accepted_start (w : World) (p : List Value) (e1 e2 : Nat) : Below w.heap.size w ((w.alloc (.cells p.toArray e1)).alloc (.cells #[.slice none 0 0] e2)) ∧ Row ((w.alloc (.cells p.toArray e1)).alloc (.cells #[.slice none 0 0] e2)) (w.heap.size + 1) e2 [.slice none 0 0] :=
  ⟨(below_alloc0 w _).alloc (by simp) _, by have := Row.new (w.alloc (.cells p.toArray e1)) e2 [.slice none 0 0]; rwa [World.size_alloc] at this⟩
set_option maxRecDepth 10000 in
set_option maxHeartbeats 1000000 in
theorem accepted1_calls (t : ByteArray) (b : Bool) (m : Int) (A : Option Addr) (n c : Nat) (w : World) :
    Calls Try.prog 33 #[plainV 1 t b m A n c] w fun e w' => e = .returned (.tuple #[.slice none 0 0, .bool false]) ∧ Below w.heap.size w w' := by
  obtain ⟨hB0, hR0⟩ := accepted_start w [.int .i64 1, .string t, .bool b, .int .i32 m, .slice A n c] 50 78
  have HB0 := hidden hB0
  have HR0 := hidden hR0
  clear hB0 hR0
  unfold plainV
  go_enter Try.func33, Try.ntmps33
  go_wp2_with (first
    | (go_at_call 59; go_must (refine (value1_calls t b m A n c _).mono ?_; rintro e w1 ⟨rfl, hB1⟩))
    | (go_at_call 58; go_must (refine (accept1_calls _ b _).mono ?_; rintro e w2 ⟨⟨a, rfl⟩, hB2⟩)))
  go_ret2
  exact ⟨rfl, below_next (below_next HB0.out hB1) hB2⟩
set_option maxRecDepth 10000 in
set_option maxHeartbeats 1000000 in
theorem accepted2_calls (t : ByteArray) (b : Bool) (m : Int) (A : Option Addr) (n c : Nat) (w : World) :
    Calls Try.prog 33 #[plainV 2 t b m A n c] w fun e w' => e = .returned (.tuple #[.slice none 0 0, .bool false]) ∧ Below w.heap.size w w' := by
  obtain ⟨hB0, hR0⟩ := accepted_start w [.int .i64 2, .string t, .bool b, .int .i32 m, .slice A n c] 50 78
  have HB0 := hidden hB0
  have HR0 := hidden hR0
  clear hB0 hR0
  unfold plainV
  go_enter Try.func33, Try.ntmps33
  go_wp2_with (first
    | (go_at_call 59; go_must (refine (value2_calls t b m A n c _).mono ?_; rintro e w1 ⟨⟨f, rfl⟩, hB1⟩))
    | (go_at_call 58; go_must (refine (accept2_calls _ f _).mono ?_; rintro e w2 ⟨⟨a, rfl⟩, hB2⟩)))
  go_ret2
  exact ⟨rfl, below_next (below_next HB0.out hB1) hB2⟩
set_option maxRecDepth 10000 in
set_option maxHeartbeats 1000000 in
theorem accepted0_calls (t : ByteArray) (b : Bool) (m : Int) (A : Option Addr) (n c : Nat) (w : World) :
    Calls Try.prog 33 #[plainV 0 t b m A n c] w fun e w' => ∃ v, e = .returned (.tuple #[v, .bool true]) ∧ Own w' w.heap.size 9 v (strs [t]) ∧ Below w.heap.size w w' := by
  obtain ⟨hB0, hR0⟩ := accepted_start w [.int .i64 0, .string t, .bool b, .int .i32 m, .slice A n c] 50 78
  have HB0 := hidden hB0
  have HR0 := hidden hR0
  clear hB0 hR0
  unfold plainV
  go_enter Try.func33, Try.ntmps33
  go_wp2_with (first
    | (go_at_call 59; go_must (refine (value0_calls t b m A n c _).mono ?_; rintro e w1 ⟨rfl, hB1⟩; have hR1 := HR0.out.below hB1 HR0.out.lt))
    | (go_at_call 58; go_must (refine (accept0_calls _ _ t _ hR1).mono ?_; rintro e w2 ⟨v2, rfl, hR2, hO2, hg2⟩; obtain ⟨A2, c2, qv, hc2, hr2, hA2⟩ := hO2.read; rw [show (strs [t]).length = 1 from rfl] at qv hc2; subst qv; have hcc := hR2.cell 0; simp only [List.getElem?_cons_zero] at hcc))
    | (go_at_call 60; go_must (refine (get_calls A2 1 c2 _).mono ?_; rintro e w3 ⟨rfl, rfl⟩))
    | (go_at_call 40; go_must (refine (cloneS_calls A2 1 c2 [t] _ hr2 rfl hc2 hA2 (by omega)).mono ?_; rintro e w4 ⟨v4, rfl, hO4, hB4⟩)))
  go_ret2
  have hB1' := below_next HB0.out hB1
  have hB2' : Below w.heap.size w w2 := hB1'.grown hg2 hB1'.size (by rintro q hq; cases hq; omega)
  exact ⟨v4, rfl, hO4.lower hB2'.size, below_next hB2' hB4⟩
end Go.Proofs.Ytmibnnmampfalaa
