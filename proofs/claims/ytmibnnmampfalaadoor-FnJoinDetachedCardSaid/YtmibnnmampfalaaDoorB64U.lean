/- Steps by which a compact form is written. -/
import Derived.Test.YtmibnnmampfalaaDoorB64T
namespace Go.Proofs.YtmibnnmampfalaaDoor
open Go.RowKit
set_option linter.unusedVariables false
set_option linter.unusedSimpArgs false

section
variable {P : Program}
/-- make([]T, k, n): a new block of n zeros. -/
theorem walk_make2 {ops : Array Oper} {rest : List Oper} {o : Oper} {a : Act} {Q : Exit → Act → World → Prop} {w : World} (hg : o.guard = none) (l c : Operand) {t e bytes : Nat} {z : Value} (hop : o.op = Op.makeSlice t l c)
    (ht : P.underlying t = some (.slice e)) (hinfo : (P.info? e).map (fun i => (i.zero, i.size, i.bytes)) = some (some z, 1, bytes)) (hz : z.cells = #[z]) {L C : Int} {k n : Nat} (hl : a.eval l = .int .i64 L) (hc : a.eval c = .int .i64 C) (hL : L = (k : Int)) (hC : C = (n : Int))
    (hkn : k ≤ n) (hb : bytes * n ≤ 281474976710656) (hn : n ≤ 281474976710656) (h : wpList P ops Q rest (a.put o.dst (.slice (some ⟨w.heap.size, 0, none⟩) k n)) (w.alloc (.cells (List.replicate n z).toArray e))) : wpList P ops Q (o :: rest) a w := by
  refine wpList_plain hg fun K hK => ?_
  obtain ⟨i0, hi, hzz⟩ := Option.map_eq_some_iff.1 hinfo
  simp only [Prod.mk.injEq] at hzz
  obtain ⟨hz0, hz1, hz2⟩ := hzz
  have hb' : (i0.bytes : Int) * (n : Int) ≤ 281474976710656 := by
    have h : ((i0.bytes * n : Nat) : Int) ≤ 281474976710656 := by rw [hz2]; omega
    rwa [Int.natCast_mul] at h
  have hr := run_make (P := P) w t e i0 z ht hi hz0 .i64 .i64 k n (by omega) (by omega) hb' (by omega)
  rw [hz1, hz] at hr
  simp only [Int.toNat_natCast, Nat.mul_one] at hr
  rw [show madeCells #[z] n = (List.replicate n z).toArray from by rw [← toList_madeCells_one]] at hr
  subst hL hC
  unfold Oper.wp execOp
  simp only [hop, hl, hc, hr, Sem.run_bind, Sem.run_pure, Result.andThen_ok]
  exact hK _ _ h
end

theorem own_cut {w : World} {base e : Nat} {A : Option Addr} {k c : Nat} {vs : List Value} (h : Own w base e (.slice A k c) vs) : Own w base e (.slice A 0 c) [] := by
  rcases h.block with ⟨hv, rfl⟩ | ⟨g, rest, hv, hb, hR, hm⟩
  · cases hv; exact Own.nil _ _ _
  · cases hv
    exact Own.of_row (rest := vs ++ rest) hR hb (by rw [List.length_append]; simp) hm
theorem appP_cut {w : World} {base : Nat} {A : Option Addr} {k c : Nat} {vs : List Value} (h : Own w base 5 (.slice A k c) vs) : AppP w base (.slice A k c) [] (.slice A 0 c) w :=
  ⟨own_cut h, World.grownBy.refl _ _, .inl (by cases A <;> rfl)⟩
theorem appP_refl {w : World} {base : Nat} {v : Value} {l : List Int} (h : Own w base 5 v (nums .u8 l)) : AppP w base v l v w := ⟨h, World.grownBy.refl _ _, .inl rfl⟩
theorem appP_made {w : World} {base C : Nat} {v : Value} (hb : base ≤ w.heap.size) (hC : C ≤ 10000000) : AppP w base v [] (.slice (some ⟨w.heap.size, 0, none⟩) 0 C) (w.alloc (.cells (List.replicate C (Value.int .u8 0)).toArray 5)) := by
  refine ⟨?_, World.grownBy_alloc _ _ _, .inr ⟨w.heap.size, rfl, Nat.le_refl _⟩⟩
  exact Own.of_row (vs := []) (rest := List.replicate C (Value.int .u8 0)) (Row.new w _ _) hb (by rw [List.length_replicate]; simp) (by unfold maxLen; omega)
/-- make of a new buffer. -/
theorem walk_makeP {ops : Array Oper} {rest : List Oper} {o : Oper} {a : Act} {Q : Exit → Act → World → Prop} {w : World} {base n : Nat} (v : Value) (hg : o.guard = none) (l c : Operand) (hop : o.op = Op.makeSlice 22 l c) {C : Int} (hl : a.eval l = .int .i64 0) (hc : a.eval c = .int .i64 C) (hC : C = (n : Int)) (hb : base ≤ w.heap.size) (hn : n ≤ 10000000)
    (h : ∀ W, AppP w base v [] (.slice (some ⟨w.heap.size, 0, none⟩) 0 n) W → wpList Tryd.prog ops Q rest (a.put o.dst (.slice (some ⟨w.heap.size, 0, none⟩) 0 n)) W) : wpList Tryd.prog ops Q (o :: rest) a w :=
  walk_make2 (k := 0) hg l c hop Tryd.underlying22 info_u8 rfl hl hc rfl hC (Nat.zero_le _) (by omega) (by omega) (h _ (appP_made hb hn))
theorem grown_none {w w1 : World} (h : w.grownBy w1 none) (r : Option Nat) : w.grownBy w1 r := ⟨h.os, h.tape, h.output, h.size, fun k hk _ => h.block k hk (by simp)⟩
/-- append behind what was written. -/
theorem AppP.put {w w1 wm w2 : World} {base : Nat} {v v1 v2 : Value} {l ys : List Int} (a : AppP w base v l v1 w1) (hm : w1.grownBy wm none) (hO : Own w2 base 5 v2 (nums .u8 l ++ nums .u8 ys)) (hg : wm.grownBy w2 v1.ownBlock) (hb : v2.ownBlock = v1.ownBlock ∨ v2.ownBlock = some wm.heap.size) : AppP w base v (l ++ ys) v2 w2 := by
  refine a.next ⟨by rw [nums_app]; exact hO, grown_trans (grown_none hm _) hg, ?_⟩
  rcases hb with hb | hb
  · exact .inl hb
  · exact .inr ⟨_, hb, hm.size⟩
/-- The encoder is in a block of its own. -/
structure EncOff (w : World) (v : Value) (g : Nat) : Prop where
  enc : EncAt w g (alpha true) (tab true) (-1)
  off : v.ownBlock ≠ some g
theorem EncOff.next {w w1 : World} {base g : Nat} {v v1 : Value} {l : List Int} (h : EncOff w v g) (a : AppP w base v l v1 w1) : EncOff w1 v1 g :=
  ⟨h.enc.grown a.grown (fun e => h.off e.symm), offEnc h.off h.enc.lt a⟩
structure RdOff (w : World) (v : Value) (A : Option Addr) (n c : Nat) (l : List Int) : Prop where
  rd : Rd w A (nums .u8 l)
  off : Off w v A
  len : l.length = n
  cap : n ≤ c
  isB : IsB l
theorem RdOff.next {w w1 : World} {base n c : Nat} {v v1 : Value} {A : Option Addr} {l l1 : List Int} (h : RdOff w v A n c l) (a : AppP w base v l1 v1 w1) : RdOff w1 v1 A n c l :=
  ⟨grownR h.rd a.grown h.off.off, h.off.next a, h.len, h.cap, h.isB⟩
/-- AppendEncode, behind what was written. -/
theorem appStep (g base : Nat) (v v1 : Value) (l0 l : List Int) (A : Option Addr) (n c : Nat) (w w1 : World) (a : AppP w base v l0 v1 w1) (hE : EncOff w v g) (h : RdOff w v A n c l) (hN : n ≤ 100000) (hbase : base ≤ w.heap.size) (hl0 : l0.length ≤ 1000000) :
    Calls Tryd.prog 56 #[.pointer (some ⟨g, 0, none⟩), v1, .slice A n c] w1 fun e w' => ∃ v', e = .returned v' ∧ AppP w base v (l0 ++ encF (alpha true) l) v' w' := by
  have h1 := h.next a
  have e1 := hE.next a
  refine (appendEnc_calls g base _ _ v1 l0 A n c l w1 e1.enc a.own h1.rd h1.len h1.isB h1.cap hN (Nat.le_trans hbase a.grown.size) hl0 e1.off h1.off).mono ?_
  rintro e w' ⟨v', rfl, b⟩
  exact ⟨v', rfl, a.next b⟩
def tailF (enc : Bool) (l : List Int) : List Int := if enc then encF (alpha true) l else l
end Go.Proofs.YtmibnnmampfalaaDoor
