/- Two pairs of slices: what zzFits7 says; signing inputs that are the same have the same parts. -/
import Derived.Test.YtmibnnmampfalaaDoorJoined
import Derived.Test.YtmibnnmampfalaaDoorLetters
import Derived.Test.YtmibnnmampfalaaDoorFlow
namespace Go.Proofs.YtmibnnmampfalaaDoor
open Go.RowKit
set_option linter.unusedVariables false
set_option linter.unusedSimpArgs false

theorem cut_at {x : Int} : ∀ {p q t s : List Int}, x ∉ p → x ∉ q → p ++ x :: t = q ++ x :: s → p = q ∧ t = s
  | [], [], t, s, _, _, h => by
    simp only [List.nil_append, List.cons.injEq, true_and] at h
    exact ⟨rfl, h⟩
  | [], b :: q, t, s, _, hq, h => by
    simp only [List.nil_append, List.cons_append, List.cons.injEq] at h
    exact absurd (by rw [h.1]; exact List.mem_cons_self) hq
  | a :: p, [], t, s, hp, _, h => by
    simp only [List.nil_append, List.cons_append, List.cons.injEq] at h
    exact absurd (by rw [h.1]; exact List.mem_cons_self) hp
  | a :: p, b :: q, t, s, hp, hq, h => by
    simp only [List.cons_append, List.cons.injEq] at h
    have := cut_at (fun e => hp (List.mem_cons_of_mem _ e)) (fun e => hq (List.mem_cons_of_mem _ e)) h.2
    exact ⟨by rw [h.1, this.1], this.2⟩
theorem encF_no46 {l : List Int} (h : IsB l) : (46 : Int) ∉ encF (alpha true) l := fun hm => by
  have := encF_url h hm
  unfold isUrl at this
  omega
theorem encF_inj {a b : List Int} (ha : IsB a) (hb : IsB b) (h : encF (alpha true) a = encF (alpha true) b) : a = b := by
  have h1 := decA_encF true a ha
  rw [h, decA_encF true b hb] at h1
  exact (Option.some.inj h1).symm
theorem tailF_inj {enc : Bool} {a b : List Int} (ha : IsB a) (hb : IsB b) (h : tailF enc a = tailF enc b) : a = b := by
  cases enc
  · exact h
  · exact encF_inj ha hb h
theorem signF_inj {enc : Bool} {a b c d : List Int} (ha : IsB a) (hb : IsB b) (hc : IsB c) (hd : IsB d) : signF enc a b = signF enc c d ↔ a = c ∧ b = d := by
  constructor
  · intro h
    unfold signF at h
    rw [List.append_assoc, List.append_assoc, List.singleton_append, List.singleton_append] at h
    have := cut_at (encF_no46 ha) (encF_no46 hc) h
    exact ⟨encF_inj ha hc this.1, tailF_inj hb hd this.2⟩
  · rintro ⟨rfl, rfl⟩; rfl

theorem walk_index2 {P : Program} {ops : Array Oper} {rest : List Oper} {o : Oper} {a : Act} {Q : Exit → Act → World → Prop} {w : World} (hgd : o.guard = none) (t : TypeId) (x i : Operand) (ho : o.op = .index t x i) {vx vi v : Value} (hx : a.eval x = vx) (hi : a.eval i = vi) (hr : ∀ W, (Instr.index t vx vi).run P W = .ok v W) (h : wpList P ops Q rest (a.put o.dst v) w) : wpList P ops Q (o :: rest) a w := by
  refine wpList_plain hgd fun K hK => ?_
  unfold Oper.wp execOp
  simp only [ho, hx, hi, hr, Sem.run_bind, Sem.run_pure, Result.andThen_ok]
  exact hK _ _ h
/-- Two slices, as they are handed over. -/
def twoV (A : Option Addr) (n c : Nat) (B : Option Addr) (m d : Nat) : Value := .agg #[.slice A n c, .slice B m d]
end Go.Proofs.YtmibnnmampfalaaDoor
