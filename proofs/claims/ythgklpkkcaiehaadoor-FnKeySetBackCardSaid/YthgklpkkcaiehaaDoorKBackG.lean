/- Four rows that are laid and filled in any order. -/
import Derived.Test.YthgklpkkcaiehaaDoorKStep
import Derived.Test.YthgklpkkcaiehaaDoorFlow
namespace Go.Proofs.YthgklpkkcaiehaaDoor
open Go.RowKit
set_option linter.unusedVariables false
set_option linter.unusedSimpArgs false

section
variable {P : Program}
theorem run_loadVar_at (w : World) (g o : Nat) (ty : TypeId) (cs : List Value) (d : TypeDesc) (hc : ∀ j v, cs[j]? = some v → w.cell? ⟨g, o + j, none⟩ = some v)
    (hu : P.underlying ty = some d) (hd : (match d with | .struct _ | .array _ _ => true | _ => false) = true) (hi : (P.info? ty).map (·.size) = some cs.length) :
    (loadVar ty ⟨g, o, none⟩).run P w = .ok (.agg cs.toArray) w := by
  have hl : (loadCells ⟨g, o, none⟩ cs.length).run P w = .ok cs.toArray w :=
    run_loadCells_list (P := P) w ⟨g, o, none⟩ cs (fun j v hv => by rw [addr_add]; exact hc j v hv)
  cases hq : P.info? ty with
  | none => simp [hq] at hi
  | some i =>
    have hs : i.size = cs.length := by simpa [hq] using hi
    cases d <;> simp at hd <;> simp [loadVar, isAgg, run_underlying hu, sizeOf, typeInfo, hq, hs, hl]
theorem opRun_load_at {ρ : Operand → Value} {x : Operand} {ty ty' : TypeId} {w : World} {g o : Nat} {cs : List Value} (hc : ∀ j v, cs[j]? = some v → w.cell? ⟨g, o + j, none⟩ = some v) (hx : ρ x = .pointer (some ⟨g, o, none⟩)) {d : TypeDesc} (hu : P.underlying ty = some d)
    (hd : (match d with | .struct _ | .array _ _ => true | _ => false) = true) (hi : (P.info? ty).map (·.size) = some cs.length) : opRun P ρ (.load ty x) ty' w = .ok (.value (.agg cs.toArray)) w := by
  unfold opRun execOp
  simp only [hx, Instr.loadAt, Instr.sureAddr, Sem.run_bind, Sem.run_pure, Result.andThen_ok, run_loadVar_at w g o ty cs d hc hu hd hi]
end
theorem SeenRow.cells {w : World} {base b o : Nat} {r : Seen} {va : Value} (h : SeenRow w base b o r va) : ∀ j v, (seenC (r, va))[j]? = some v → w.cell? ⟨b, o + j, none⟩ = some v := by
  intro j v hj
  match j, hj with
  | 0, hj => cases hj; exact h.c0
  | 1, hj => cases hj; exact h.c1
  | 2, hj => cases hj; exact h.c2
  | 3, hj => cases hj; exact h.c3
  | 4, hj => cases hj; exact h.c4
  | 5, hj => cases hj; exact h.c5
  | j + 6, hj => cases hj
def zeroC : List Value := [.bool false, .int .i64 0, .int .i64 0, .int .i64 0, .slice none 0 0, .slice none 0 0]
/-- The rows at 30 .. 33, filled by 34 .. 37. -/
structure GA (w0 : World) (f : Nat → List Value) (b : Nat → Bool) (v : Nat → Value) (W : World) : Prop where
  below : Below w0.heap.size w0 W
  rows : ∀ k, k < 4 → b (30 + k) = true → ∃ g, v (30 + k) = .pointer (some ⟨g, 0, none⟩) ∧ w0.heap.size ≤ g ∧ Row W g 49 (if b (34 + k) = true then f k else zeroC) ∧ ∀ m, m < 4 → m ≠ k → b (30 + m) = true → v (30 + m) ≠ v (30 + k)
theorem GA.start (w0 : World) (f : Nat → List Value) (v : Nat → Value) : GA w0 f (fun _ => false) v w0.drew := ⟨below_drewN0 (Below.refl _ _) 1, fun k _ h => by cases h⟩
theorem GA.pure {w0 W : World} {f : Nat → List Value} {b : Nat → Bool} {v : Nat → Value} (h : GA w0 f b v W) (i : Nat) (x : Value) (hi : i < 30) : GA w0 f (up b i) (upv v i x) W :=
  ⟨h.below, fun k hk hb => by
    rw [up_ne (by omega)] at hb
    obtain ⟨g, h1, h2, h3, h4⟩ := h.rows k hk hb
    refine ⟨g, by rw [upv_ne (by omega)]; exact h1, h2, by rw [up_ne (by omega)]; exact h3, fun m hm hmk hbm => ?_⟩
    rw [up_ne (by omega)] at hbm
    rw [upv_ne (by omega), upv_ne (by omega)]
    exact h4 m hm hmk hbm⟩
theorem GA.alloc {w0 W : World} {f : Nat → List Value} {b : Nat → Bool} {v : Nat → Value} (h : GA w0 f b v W) (k : Nat) (hk : k < 4) (hb30 : b (30 + k) = false) (hb34 : b (34 + k) = false) :
    GA w0 f (up b (30 + k)) (upv v (30 + k) (.pointer (some ⟨W.heap.size, 0, none⟩))) (W.alloc (.cells zeroC.toArray 49)) := by
  have hB := below_alloc0 W (.cells zeroC.toArray 49)
  refine ⟨below_next h.below hB, fun m hm hb => ?_⟩
  by_cases hmk : m = k
  · subst hmk
    refine ⟨W.heap.size, upv_self _ _ _, h.below.size, ?_, fun q hq hqk hbq => ?_⟩
    · rw [up_ne (by omega), hb34]; exact Row.new W _ _
    · rw [up_ne (by omega)] at hbq
      rw [upv_self, upv_ne (by omega)]
      obtain ⟨g, h1, _, h3, _⟩ := h.rows q hq hbq
      rw [h1]
      intro e
      have := h3.lt
      cases e
      omega
  · rw [up_ne (by omega)] at hb
    obtain ⟨g, h1, h2, h3, h4⟩ := h.rows m hm hb
    refine ⟨g, by rw [upv_ne (by omega)]; exact h1, h2, by rw [up_ne (by omega)]; exact h3.alloc _, fun q hq hqm hbq => ?_⟩
    by_cases hqk : q = k
    · subst hqk
      rw [upv_self, upv_ne (by omega), h1]
      intro e
      have := h3.lt
      cases e
      omega
    · rw [up_ne (by omega)] at hbq
      rw [upv_ne (by omega), upv_ne (by omega)]
      exact h4 q hq hqm hbq
theorem GA.store {w0 W W1 : World} {f : Nat → List Value} {b : Nat → Bool} {v : Nat → Value} (h : GA w0 f b v W) (k : Nat) (hk : k < 4) (hb30 : b (30 + k) = true) {g : Nat} (hv : v (30 + k) = .pointer (some ⟨g, 0, none⟩)) (hR : Row W1 g 49 (f k)) (hg : W.grownBy W1 (some g)) (x : Value) :
    GA w0 f (up b (34 + k)) (upv v (34 + k) x) W1 := by
  obtain ⟨g', h1, h2, h3, h4⟩ := h.rows k hk hb30
  rw [hv] at h1; cases h1
  have hA := Alt.of_grown hg
  refine ⟨h.below.trans (hA.below h.below.size (fun i hi e => by cases e; omega)), fun m hm hb => ?_⟩
  rw [up_ne (by omega)] at hb
  by_cases hmk : m = k
  · subst hmk
    refine ⟨g, by rw [upv_ne (by omega)]; exact hv, h2, by rw [up_self, if_pos rfl]; exact hR, fun q hq hqk hbq => ?_⟩
    rw [up_ne (by omega)] at hbq
    rw [upv_ne (by omega), upv_ne (by omega)]
    exact h4 q hq hqk hbq
  · obtain ⟨g2, k1, k2, k3, k4⟩ := h.rows m hm hb
    refine ⟨g2, by rw [upv_ne (by omega)]; exact k1, k2, ?_, fun q hq hqm hbq => ?_⟩
    · rw [up_ne (by omega)]
      refine hA.row k3 (fun e => ?_)
      cases e
      exact h4 m hm hmk hb (by rw [k1, hv])
    · rw [up_ne (by omega)] at hbq
      rw [upv_ne (by omega), upv_ne (by omega)]
      exact k4 q hq hqm hbq
end Go.Proofs.YthgklpkkcaiehaaDoor
