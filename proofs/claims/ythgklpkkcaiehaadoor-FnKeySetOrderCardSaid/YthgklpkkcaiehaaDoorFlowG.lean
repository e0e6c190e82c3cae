/- Open-order regions: operations under a guard that is known to hold. -/
import Derived.Test.YthgklpkkcaiehaaDoorFlow
namespace Go.Proofs.YthgklpkkcaiehaaDoor
open Go.RowKit
set_option linter.unusedVariables false
set_option linter.unusedSimpArgs false
section
variable {P : Program} {ops : Array Oper} {Q : Exit → Act → World → Prop}
variable {a0 : Act} {D : List (Nat × Nat)} {F : Nat → Value → World → Prop} {G : (Nat → Bool) → (Nat → Value) → World → Prop} {R : World → World → Prop} {i : Nat}
theorem wanted_of (hD : dOk D a0.tmps.size = true) {oi : Oper} {g t : Nat} {bb : Bool} {b : Nat → Bool} {v : Nat → Value} {w : World} (h : Here ops a0 D F G i b v w) (hgd : oi.guard = some (g, bb)) (hm : D.contains (g, t) = true) (hdst : (ops[g]?).bind (·.dst) = some t)
    (hdep : depOn ops i g = true) (hF : ∀ x w, F g x w → x = .bool bb) : Region.wanted oi (yielded ops (fr a0 b v D).tmps) = true := by
  have hm' : (g, t) ∈ D := List.contains_iff_mem.1 hm
  have e := fr_on (a0 := a0) (b := b) (v := v) hm' (fun p hp e => by rw [dOk_1 hD p hp _ hm' e]) (h.dep g hdep) (dOk_3 hD _ hm')
  rw [hF _ _ (h.fact g (h.dep g hdep))] at e
  simp [Region.wanted, hgd, yielded, hdst, e]
/-- The same under a guard that is known to hold. -/
theorem flow_pure_g (hD : dOk D a0.tmps.size = true) (hR : ∀ w, R w w) (op : Op) (ty : TypeId) (g t : Nat) (bb : Bool) (hop : opAt ops i = some (op, ty, some (g, bb))) (hm : D.contains (g, t) = true) (hdst : (ops[g]?).bind (·.dst) = some t)
    (hdep : depOn ops i g = true) (hF : ∀ x w, F g x w → x = .bool bb)
    (h : ∀ b v w ρ, At ops a0 D F G i b v w ρ → ∃ x, opRun P ρ op ty w = .ok (.value x) w ∧ F i x w ∧ G (up b i) (upv v i x) w) : StepF P ops Q a0 D F G R i := by
  obtain ⟨oi, hoi, rfl, rfl, hg⟩ := opAt_some hop
  refine ⟨oi, hoi, fun b v w hh K hK => ?_⟩
  obtain ⟨x, hrun, h1, h3⟩ := h b v w _ (at_of hD hh)
  rw [if_pos (wanted_of hD hh hg hm hdst hdep hF)]
  unfold Oper.wp
  rw [opRun_eq, hrun]
  exact hK x w h1 (hR w) h3
theorem flow_call_g (hD : dOk D a0.tmps.size = true) (op : Op) (ty : TypeId) (g t : Nat) (bb : Bool) (hop : opAt ops i = some (op, ty, some (g, bb))) (hm : D.contains (g, t) = true) (hdst : (ops[g]?).bind (·.dst) = some t)
    (hdep : depOn ops i g = true) (hF : ∀ x w, F g x w → x = .bool bb) (f : FuncId)
    (h : ∀ b v w ρ, At ops a0 D F G i b v w ρ → ∃ args, opRun P ρ op ty w = .ok (.enter f args) w ∧ Calls P f args w fun e w' => ∃ x, e = .returned x ∧ F i x w' ∧ R w w' ∧ G (up b i) (upv v i x) w') : StepF P ops Q a0 D F G R i := by
  obtain ⟨oi, hoi, rfl, rfl, hg⟩ := opAt_some hop
  refine ⟨oi, hoi, fun b v w hh K hK => ?_⟩
  obtain ⟨args, hrun, hc⟩ := h b v w _ (at_of hD hh)
  rw [if_pos (wanted_of hD hh hg hm hdst hdep hF)]
  unfold Oper.wp
  rw [opRun_eq, hrun]
  refine hc.mono ?_
  rintro e w' ⟨x, rfl, h1, h2, h3⟩
  exact hK x w' h1 h2 h3
end
end Go.Proofs.YthgklpkkcaiehaaDoor
