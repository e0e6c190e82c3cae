/- A region whose order is open: operations that read, and calls that leave a world of a class, ahead of a tail that waits for all of them. -/
import Derived.Test.YtmibnnmampfalaaDoorFlow
import Derived.StillTail
import Derived.Deep.Quiet
namespace Go.Proofs.YtmibnnmampfalaaDoor
open Go.RowKit
set_option linter.unusedVariables false
set_option linter.unusedSimpArgs false

/-- A guard for an arm of the walk: the next operation stores at what slot 't' points to. -/
theorem at_store (t : Nat) {P : Program} {ops : Array Oper} {rest : List Oper} {Q : Exit → Act → World → Prop} {a : Act} {w : World} {st : TypeId} {y : Operand} {ty pos after g} (h : wpList P ops Q (⟨none, .store st (.tmp t) y, ty, pos, after, g⟩ :: rest) a w) : wpList P ops Q (⟨none, .store st (.tmp t) y, ty, pos, after, g⟩ :: rest) a w := h
theorem count_up {b : Nat → Bool} {i : Nat} (hb : b i = false) : ∀ (l : List Nat), l.Nodup → i ∈ l → (l.filter fun j => !up b i j).length + 1 = (l.filter fun j => !b j).length := by
  intro l
  induction l with
  | nil => intro _ h; cases h
  | cons x r ihr =>
    intro hn hmem
    rw [List.nodup_cons] at hn
    rcases List.mem_cons.1 hmem with rfl | hmem
    · have hr : (r.filter fun j => !up b i j) = r.filter fun j => !b j := List.filter_congr (fun j hj => by rw [up_ne (fun e => hn.1 (by rw [← e]; exact hj))])
      simp [List.filter_cons, up_self, hb, hr]
    · have hxi : x ≠ i := fun e => hn.1 (e ▸ hmem)
      have := ihr hn.2 hmem
      rw [List.filter_cons, List.filter_cons, up_ne hxi]
      cases b x
      · simp only [Bool.not_false, if_true, List.length_cons]; omega
      · simpa using this
theorem least_no {b : Nat → Bool} {n : Nat} : ∀ k, (∃ i, i ≤ k ∧ i < n ∧ b i = false) → ∃ i, i < n ∧ b i = false ∧ ∀ j, j < i → b j = true := by
  intro k
  induction k with
  | zero =>
    rintro ⟨i, hi, h1, h2⟩
    exact ⟨i, h1, h2, fun j hj => by omega⟩
  | succ k ihk =>
    rintro ⟨i, hi, h1, h2⟩
    by_cases hlow : ∃ j, j ≤ k ∧ j < n ∧ b j = false
    · exact ihk hlow
    · refine ⟨i, h1, h2, fun j hj => ?_⟩
      cases hb : b j with
      | true => rfl
      | false => exact absurd ⟨j, by omega, by omega, hb⟩ hlow
theorem wp_region_quiet_tail {P : Program} {id : Nat} {Q : Exit → Act → World → Prop} {a : Act} {w : World} {l : List Oper} {C : World → Prop} (n : Nat) (hm : P.follows .mixedOrders = true) (hT : Region.lexB .any (l.take n).toArray = true) (hg : ((l.take n).all fun o => o.guard.isNone) = true) (hac : acyc l.toArray = true) (hn : decide (n < l.length) = true)
    (hs : Region.sinkB .any l.toArray n = true) (hc : Region.chainB .any l.toArray n = true) (hseq : Region.seqB .any l.toArray (l.length - n) n (List.replicate n true ++ List.replicate (l.length - n) false).toArray = true) (hC : C { w with drawn := w.drawn + 1 })
    (h : wpQuiet P (l.take n).toArray C (fun a' => ∀ w', C w' → wpList P l.toArray Q (l.drop n) a' w') (l.take n) a) : (Code.region id l.toArray true).wp P Q a w := by
  have hn' : n < l.length := by simpa using hn
  refine wp_region_any hm ?_
  simp only [Region.lexB, Bool.and_eq_true] at hT
  have Hq := wpAnyQ_lex (P := P) (ops := (l.take n).toArray) (C := C) (md := .any) hT.1 (l.take n) 0 (Array.replicate (l.take n).toArray.size false) a (by simp) (by simpa using hT.2) h
  have hlen : (l.take n).length = n := by rw [List.length_take]; omega
  rw [hlen] at Hq
  have hdep : ∀ {i j : Nat}, depOn l.toArray i j = true → j < i := by
    intro i j h
    obtain ⟨o, ho, e, he, h1, rfl⟩ := depOn_iff.1 h
    unfold acyc at hac
    have h2 := List.all_eq_true.1 hac i (List.mem_range.2 (Array.getElem?_eq_some_iff.1 ho).1)
    rw [ho] at h2
    have h3 := (Array.all_eq_true_iff_forall_mem.1 h2) e (by simpa using he)
    rw [h1] at h3
    simpa using h3
  have hat : ∀ i, i < n → (l.take n).toArray[i]? = l.toArray[i]? := fun i hi => by simp [hi]
  have main : ∀ (m : Nat) (listed LT : Array Bool) (b : Nat → Bool) (a : Act) (w : World), listed.size = l.length → (∀ j, j < l.length → listed[j]? = some (b j)) → (∀ j, n ≤ j → b j = false) → LT.size = n → (∀ j, j < n → LT[j]? = some (b j)) →
      (∀ d j, b d = true → depOn l.toArray d j = true → b j = true) → ((List.range n).filter fun j => !b j).length = m → C w → wpAnyQ P .any (l.take n).toArray C (fun a' => ∀ w', C w' → wpList P l.toArray Q (l.drop n) a' w') m LT a →
      wpAny P .any l.toArray Q (m + (l.length - n)) listed a w := by
    intro m
    induction m with
    | zero =>
      intro listed LT b a w hsz hl hout hTs hTl hsh hm0 hCw H
      have hall : ∀ j, j < n → b j = true := by
        intro j hj
        cases hb : b j with
        | true => rfl
        | false =>
          have : j ∈ (List.range n).filter fun j => !b j := List.mem_filter.2 ⟨List.mem_range.2 hj, by simp [hb]⟩
          rw [List.eq_nil_of_length_eq_zero hm0] at this
          cases this
      have hlist : listed = (List.replicate n true ++ List.replicate (l.length - n) false).toArray := by
        apply Array.ext_getElem?
        intro j
        by_cases hj : j < l.length
        · rw [hl j hj]
          by_cases hjn : j < n
          · rw [hall j hjn, List.getElem?_toArray, List.getElem?_append_left (by simpa using hjn), List.getElem?_replicate, if_pos hjn]
          · rw [hout j (by omega), List.getElem?_toArray, List.getElem?_append_right (by simp; omega), List.getElem?_replicate, if_pos (by simp; omega)]
        · rw [Array.getElem?_eq_none (by omega), Array.getElem?_eq_none (by simp; omega)]
      rw [Nat.zero_add, hlist]
      have := wpAny_of_seq (P := P) (ops := l.toArray) (md := .any) (Q' := Q) (l.drop n) n (List.replicate n true ++ List.replicate (l.length - n) false).toArray a w (fun j => by simp) (by rw [List.length_drop]; exact hseq) (H.2 w hCw)
      rwa [List.length_drop] at this
    | succ m ih =>
      intro listed LT b a w hsz hl hout hTs hTl hsh hm0 hCw H
      have inv : HeadInv .any l.toArray n listed := by
        refine ⟨by simpa using hsz, fun j oj hj hlj e he hb => ?_, fun t ht htl => ?_⟩
        · have hjl : j < l.length := by have := (Array.getElem?_eq_some_iff.1 hj).1; simpa using this
          have hbj : b j = true := by rw [Array.getD_eq_getD_getElem?, hl j hjl] at hlj; simpa using hlj
          have hd : depOn l.toArray j e.on = true := depOn_iff.2 ⟨oj, hj, e, by simpa using he, hb, rfl⟩
          have := hdep hd
          rw [Array.getD_eq_getD_getElem?, hl e.on (by omega), hsh j _ hbj hd]; rfl
        · have htl' : t < l.length := by simpa using htl
          rw [Array.getD_eq_getD_getElem?, hl t htl', hout t ht]; rfl
      have hex : ∃ i, i < n ∧ b i = false := by
        cases hf : (List.range n).filter (fun j => !b j) with
        | nil => rw [hf] at hm0; simp at hm0
        | cons x r =>
          have hx : x ∈ (List.range n).filter (fun j => !b j) := by rw [hf]; exact List.mem_cons_self
          rw [List.mem_filter, List.mem_range] at hx
          exact ⟨x, hx.1, by simpa using hx.2⟩
      obtain ⟨i0, hi0, hb0⟩ := hex
      obtain ⟨i1, hi1, hb1, hlow⟩ := least_no i0 ⟨i0, Nat.le_refl _, hi0, hb0⟩
      have hi1l : i1 < l.toArray.size := by simp; omega
      have hr1 : i1 ∈ Region.ready .any l.toArray listed := by
        refine ready_iff.2 ⟨hi1l, by rw [Array.getD_eq_getD_getElem?, hl i1 (by omega), hb1]; rfl, l.toArray[i1], Array.getElem?_eq_getElem hi1l, fun e he hbd => ?_⟩
        have hd2 : depOn l.toArray i1 e.on = true := depOn_iff.2 ⟨l.toArray[i1], Array.getElem?_eq_getElem hi1l, e, he, hbd, rfl⟩
        have hlt := hdep hd2
        rw [Array.getD_eq_getD_getElem?, hl e.on (by omega), hlow _ hlt]; rfl
      rw [show m + 1 + (l.length - n) = (m + (l.length - n)) + 1 by omega]
      refine ⟨fun hr => (by rw [hr] at hr1; cases hr1), fun i hi => ?_⟩
      have hin : i < n := by
        rcases Nat.lt_or_ge i n with h | h
        · exact h
        · exact absurd hi (tail_waits hs hc (by simpa using hn') inv _ i1 rfl hi1 (by rw [Array.getD_eq_getD_getElem?, hl i1 (by omega), hb1]; rfl) i h)
      obtain ⟨_, hi2, o, ho, hi3⟩ := ready_iff.1 hi
      have hbi : b i = false := by rw [Array.getD_eq_getD_getElem?, hl i (by omega)] at hi2; simpa using hi2
      have hdn : ∀ e ∈ o.after.toList, Region.binds .any e = true → e.on < n ∧ b e.on = true := fun e he hb => by
        have hd2 : depOn l.toArray i e.on = true := depOn_iff.2 ⟨o, ho, e, he, hb, rfl⟩
        have hlt := hdep hd2
        have h4 := hi3 e he hb
        rw [Array.getD_eq_getD_getElem?, hl e.on (by omega)] at h4
        exact ⟨by omega, by simpa using h4⟩
      have hiT : i ∈ Region.ready .any (l.take n).toArray LT := by
        refine ready_iff.2 ⟨by simp; omega, by rw [Array.getD_eq_getD_getElem?, hTl i hin, hbi]; rfl, o, by rw [hat i hin]; exact ho, fun e he hb => ?_⟩
        obtain ⟨h5, h6⟩ := hdn e he hb
        rw [Array.getD_eq_getD_getElem?, hTl _ h5, h6]; rfl
      have hgo : o.guard = none := by
        have h7 : o ∈ l.take n := by
          have : (l.take n)[i]? = some o := by have := hat i hin; rw [ho] at this; simpa using this
          exact List.mem_of_getElem? this
        have := List.all_eq_true.1 hg o h7
        simpa using this
      have h2 : wpOp P (l.take n).toArray Q i (wpAny P .any l.toArray Q (m + (l.length - n)) (listed.setIfInBounds i true)) a w := by
        refine wpOp_of_qOp hCw (fun a' w' hw' hq => ?_) (H.2 i hiT)
        refine ih _ (LT.setIfInBounds i true) (up b i) a' w' (by simpa using hsz) (fun j hj => ?_) (fun j hj => by rw [up_ne (by omega)]; exact hout j hj) (by simpa using hTs) (fun j hj => ?_) (fun d j hbd hdj => ?_) ?_ hw' hq
        · by_cases hji : j = i
          · subst hji; rw [up_self, Array.getElem?_setIfInBounds_self_of_lt (by omega)]
          · rw [up_ne hji, Array.getElem?_setIfInBounds_ne (fun e => hji e.symm)]; exact hl j hj
        · by_cases hji : j = i
          · subst hji; rw [up_self, Array.getElem?_setIfInBounds_self_of_lt (by omega)]
          · rw [up_ne hji, Array.getElem?_setIfInBounds_ne (fun e => hji e.symm)]; exact hTl j hj
        · by_cases hji : j = i
          · subst hji; exact up_self b j
          · rw [up_ne hji]
            by_cases hdi : d = i
            · subst hdi
              obtain ⟨o2, ho2, e, he, hb2, rfl⟩ := depOn_iff.1 hdj
              rw [ho] at ho2; cases ho2
              exact (hdn e he hb2).2
            · exact hsh d j (by rwa [up_ne hdi] at hbd) hdj
        · have := count_up hbi (List.range n) List.nodup_range (List.mem_range.2 hin)
          omega
      unfold wpOp at h2 ⊢
      rw [hat i hin, ho] at h2
      rw [ho]
      simp only [Region.wanted, hgo, if_true] at h2 ⊢
      exact h2
  have hTz : (l.take n).toArray.size = n := by simp; omega
  rw [hTz] at Hq
  have hall0 : ((List.range n).filter fun j => !(fun _ : Nat => false) j).length = n := by
    have e : ((List.range n).filter fun j => !(fun _ : Nat => false) j) = List.range n := List.filter_eq_self.2 (fun _ _ => rfl)
    rw [e, List.length_range]
  have := main n (Array.replicate l.toArray.size false) (Array.replicate n false) (fun _ => false) a { w with drawn := w.drawn + 1 } (by simp) (fun j hj => by simp [hj]) (fun _ _ => rfl) (by simp) (fun j hj => by simp [hj]) (fun d j h => by cases h) hall0 hC Hq
  rw [show n + (l.length - n) = l.length by omega] at this
  simpa using this
section
variable {P : Program} {ops : Array Oper} {C : World → Prop} {Q : Act → Prop} {a : Act} {o : Oper} {rest : List Oper} {v : Value}
theorem wpQuiet_val (hg : o.guard = none) (h : ∀ w, C w → opRun P a.eval o.op o.type w = .ok (.value v) w) (hk : wpQuiet P ops C Q rest (a.put o.dst v)) : wpQuiet P ops C Q (o :: rest) a := by
  refine wpQuiet_step (fun K hK => ?_)
  rw [if_pos (by simp [Region.wanted, hg])]
  exact ⟨v, fun w hw => (by unfold Oper.quietAt; rw [opRun_eq, h w hw]; exact ⟨rfl, rfl⟩), hK _ hk⟩
theorem wpQuiet_call (hg : o.guard = none) (f : FuncId) (args : Array Value) (h : ∀ w, C w → opRun P a.eval o.op o.type w = .ok (.enter f args) w) (hc : ∀ w, C w → Calls P f args w fun e w'' => e = .returned v ∧ C w'') (hk : wpQuiet P ops C Q rest (a.put o.dst v)) : wpQuiet P ops C Q (o :: rest) a := by
  refine wpQuiet_step (fun K hK => ?_)
  rw [if_pos (by simp [Region.wanted, hg])]
  exact ⟨v, fun w hw => (by unfold Oper.quietAt; rw [opRun_eq, h w hw]; exact ⟨rfl, hc w hw⟩), hK _ hk⟩
end
end Go.Proofs.YtmibnnmampfalaaDoor
