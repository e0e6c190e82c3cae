/- parseValue, at every text: by the texts' length. A region whose order is open, by what each operation yields: each operation is shown once, whatever came up before it. A region whose order is open: operations that read, and calls that leave a world of a class, ahead of a tail that waits for all of them. A whole text is parsed: Parser.Parse, ParseBytes. -/
import Derived.Test.YtbdmdajbdmdknaaDoorM6
import Derived.Test.YtbdmdajbdmdknaaDoorJsonX
import Derived.Test.YtbdmdajbdmdknaaDoorM1
import Derived.Orders
import Derived.StillTail
import Derived.Deep.Quiet
namespace Go.Proofs.YtbdmdajbdmdknaaDoor
open Go.RowKit
set_option linter.unusedVariables false
set_option linter.unusedSimpArgs false

theorem callsV (f : Nat) : CallsV f := by
  induction f using Nat.strongRecOn with
  | ind f ih =>
    intro w C co VB n cap s d hC hf hN hd
    obtain ⟨g, rfl⟩ : ∃ g, f = g + 1 := ⟨f - 1, by omega⟩
    cases hs : s.data.toList with
    | nil =>
      rw [show pVal (g + 1) d ([] : Bs) = none from by rw [pVal]]
      exact val_empty w C co VB n d s (emp_of hs)
    | cons c r =>
      have hsz := (cons_of hs).1
      by_cases h300 : d = 300
      · rw [pVal_deep (by omega)]
        exact val_deep w C co VB n d s (by omega) h300
      · have hd2 : d < 300 := by omega
        have hV : ∀ q, q < g → CallsV q := fun q hq => ih q (by omega)
        by_cases h1 : c = 123
        · subst h1
          rw [pVal_obj hd2]
          exact val_obj g d hV w C co VB n cap s hC hf hN hd2 r hs
        by_cases h2 : c = 91
        · subst h2
          rw [pVal_arr hd2]
          exact val_arr g d hV w C co VB n cap s hC hf hN hd2 r hs
        by_cases h3 : c = 34
        · subst h3
          rw [pVal_str hd2]
          exact val_str d w C co VB n cap s hC hN hd2 r hs
        by_cases h4 : c = 116
        · subst h4
          rw [pVal_t hd2]
          exact val_t d w C co VB n cap s hC hN hd2 r hs
        by_cases h5 : c = 102
        · subst h5
          rw [pVal_f hd2]
          exact val_f d w C co VB n cap s hC hN hd2 r hs
        by_cases h6 : c = 110
        · subst h6
          rw [pVal_n hd2]
          exact val_n d w C co VB n cap s hC hN hd2 r hs
        · rw [pVal_num hd2 h1 h2 h3 h4 h5 h6]
          exact val_num d w C co VB n cap s hC hN hd2 c r hs h1 h2 h3 h4 h5 h6
end Go.Proofs.YtbdmdajbdmdknaaDoor
namespace Go.Proofs.YtbdmdajbdmdknaaDoor
open Go.RowKit
set_option linter.unusedVariables false
set_option linter.unusedSimpArgs false

def up (b : Nat → Bool) (i : Nat) : Nat → Bool := fun j => if j = i then true else b j
def upv (v : Nat → Value) (i : Nat) (x : Value) : Nat → Value := fun j => if j = i then x else v j
theorem up_self (b : Nat → Bool) (i : Nat) : up b i i = true := by simp [up]
theorem up_ne {b : Nat → Bool} {i j : Nat} (h : j ≠ i) : up b i j = b j := by simp [up, h]
theorem upv_self (v : Nat → Value) (i : Nat) (x : Value) : upv v i x i = x := by simp [upv]
theorem upv_ne {v : Nat → Value} {i j : Nat} {x : Value} (h : j ≠ i) : upv v i x j = v j := by simp [upv, h]
/-- The frame: what is listed has its slot filled. D: the numbers of the operations that yield something, and their slots. -/
def fr (a0 : Act) (b : Nat → Bool) (v : Nat → Value) : List (Nat × Nat) → Act
  | [] => a0
  | p :: D => if b p.1 = true then (fr a0 b v D).put (some p.2) (v p.1) else fr a0 b v D
theorem act_ext {a c : Act} (h : ∀ t : Nat, a.tmps[t]? = c.tmps[t]?) (hd : a.defers = c.defers) : a = c := by
  cases a; cases c
  simp only [Act.mk.injEq]
  exact ⟨Array.ext_getElem? h, hd⟩
theorem fr_size (a0 : Act) (b : Nat → Bool) (v : Nat → Value) : ∀ D, (fr a0 b v D).tmps.size = a0.tmps.size ∧ (fr a0 b v D).defers = a0.defers
  | [] => ⟨rfl, rfl⟩
  | p :: D => by
    have h := fr_size a0 b v D
    unfold fr
    split
    · exact ⟨by simp [Act.put, h.1], h.2⟩
    · exact h
theorem fr_off {a0 : Act} {b : Nat → Bool} {v : Nat → Value} {t : Nat} : ∀ {D : List (Nat × Nat)}, (∀ p ∈ D, p.2 = t → b p.1 = false) → (fr a0 b v D).tmps[t]? = a0.tmps[t]?
  | [], _ => rfl
  | p :: D, h => by
    have ih := fr_off (a0 := a0) (b := b) (v := v) (t := t) (D := D) (fun q hq => h q (List.mem_cons_of_mem _ hq))
    unfold fr
    split
    · rename_i hb
      have hne : p.2 ≠ t := fun e => by rw [h p List.mem_cons_self e] at hb; cases hb
      simp only [Act.put]
      rw [Array.getElem?_setIfInBounds_ne hne]; exact ih
    · exact ih
theorem fr_on {a0 : Act} {b : Nat → Bool} {v : Nat → Value} {i t : Nat} : ∀ {D : List (Nat × Nat)}, (i, t) ∈ D → (∀ p ∈ D, p.2 = t → p.1 = i) → b i = true → t < a0.tmps.size → (fr a0 b v D).tmps[t]? = some (v i)
  | [], h, _, _, _ => by cases h
  | p :: D, h, hu, hb, ht => by
    unfold fr
    by_cases hp : p.2 = t
    · have hi := hu p List.mem_cons_self hp
      rw [if_pos (by rw [hi]; exact hb)]
      simp only [Act.put, hp, hi]
      have := (fr_size a0 b v D).1
      rw [Array.getElem?_setIfInBounds_self_of_lt (by omega)]
    · have hm : (i, t) ∈ D := by
        rcases List.mem_cons.1 h with h | h
        · exact absurd (by rw [← h]) hp
        · exact h
      have ih := fr_on (a0 := a0) (b := b) (v := v) hm (fun q hq => hu q (List.mem_cons_of_mem _ hq)) hb ht
      split
      · simp only [Act.put]
        rw [Array.getElem?_setIfInBounds_ne hp]; exact ih
      · exact ih
/-- Each operation once, each slot once. -/
def dOk (D : List (Nat × Nat)) (n : Nat) : Bool := decide ((D.map (·.1)).Nodup) && decide ((D.map (·.2)).Nodup) && D.all (fun p => decide (p.2 < n))
theorem dOk_1 {D : List (Nat × Nat)} {n : Nat} (h : dOk D n = true) : ∀ p ∈ D, ∀ q ∈ D, p.2 = q.2 → p = q := by
  simp only [dOk, Bool.and_eq_true, decide_eq_true_eq] at h
  have hn := h.1.2
  clear h
  induction D with
  | nil => intro p hp; cases hp
  | cons x D ih =>
    rw [List.map_cons, List.nodup_cons] at hn
    intro p hp q hq e
    rcases List.mem_cons.1 hp with rfl | hp' <;> rcases List.mem_cons.1 hq with rfl | hq'
    · rfl
    · exact (hn.1 (List.mem_map.2 ⟨q, hq', e.symm⟩)).elim
    · exact (hn.1 (List.mem_map.2 ⟨p, hp', e⟩)).elim
    · exact ih hn.2 p hp' q hq' e
theorem dOk_2 {D : List (Nat × Nat)} {n : Nat} (h : dOk D n = true) : ∀ p ∈ D, ∀ q ∈ D, p.1 = q.1 → p = q := by
  simp only [dOk, Bool.and_eq_true, decide_eq_true_eq] at h
  have hn := h.1.1
  clear h
  induction D with
  | nil => intro p hp; cases hp
  | cons x D ih =>
    rw [List.map_cons, List.nodup_cons] at hn
    intro p hp q hq e
    rcases List.mem_cons.1 hp with rfl | hp' <;> rcases List.mem_cons.1 hq with rfl | hq'
    · rfl
    · exact (hn.1 (List.mem_map.2 ⟨q, hq', e.symm⟩)).elim
    · exact (hn.1 (List.mem_map.2 ⟨p, hp', e⟩)).elim
    · exact ih hn.2 p hp' q hq' e
theorem dOk_3 {D : List (Nat × Nat)} {n : Nat} (h : dOk D n = true) : ∀ p ∈ D, p.2 < n := by
  simp only [dOk, Bool.and_eq_true, List.all_eq_true, decide_eq_true_eq] at h
  exact h.2
theorem fr_put {a0 : Act} {b : Nat → Bool} {v : Nat → Value} {D : List (Nat × Nat)} (hD : dOk D a0.tmps.size = true) {i t : Nat} (hm : (i, t) ∈ D) (hb : b i = false) (x : Value) :
    (fr a0 b v D).put (some t) x = fr a0 (up b i) (upv v i x) D := by
  refine act_ext (fun s => ?_) ((fr_size a0 b v D).2.trans (fr_size a0 (up b i) (upv v i x) D).2.symm)
  have h1 := dOk_1 hD
  have h2 := dOk_2 hD
  have h3 := dOk_3 hD _ hm
  simp only [Act.put]
  by_cases hs : t = s
  · subst hs
    have := (fr_size a0 b v D).1
    rw [Array.getElem?_setIfInBounds_self_of_lt (by omega), fr_on hm (fun p hp e => by rw [h1 p hp _ hm e]) (up_self b i) h3, upv_self]
  · rw [Array.getElem?_setIfInBounds_ne hs]
    by_cases hex : ∃ p ∈ D, p.2 = s ∧ b p.1 = true
    · obtain ⟨⟨j, s'⟩, hp, rfl, hbj⟩ := hex
      have hji : j ≠ i := fun e => by simp only at hbj; rw [e, hb] at hbj; cases hbj
      rw [fr_on hp (fun q hq e => by rw [h1 q hq _ hp e]) hbj (dOk_3 hD _ hp), fr_on hp (fun q hq e => by rw [h1 q hq _ hp e]) (by rw [up_ne hji]; exact hbj) (dOk_3 hD _ hp), upv_ne hji]
    · have hno : ∀ p ∈ D, p.2 = s → b p.1 = false := fun p hp e => by
        cases h : b p.1 with
        | false => rfl
        | true => exact absurd ⟨p, hp, e, h⟩ hex
      rw [fr_off hno, fr_off (fun p hp e => by
        have hpi : p.1 ≠ i := fun e2 => hs (by have := h2 p hp _ hm e2; rw [this] at e; exact e)
        rw [up_ne hpi]; exact hno p hp e)]
theorem fr_none {a0 : Act} {b : Nat → Bool} {v : Nat → Value} {D : List (Nat × Nat)} {i : Nat} (hi : ∀ p ∈ D, p.1 ≠ i) (x : Value) : (fr a0 b v D).put none x = fr a0 (up b i) (upv v i x) D := by
  show fr a0 b v D = _
  induction D with
  | nil => rfl
  | cons p D ih =>
    have hp := hi p List.mem_cons_self
    unfold fr
    rw [up_ne hp, upv_ne hp, ih (fun q hq => hi q (List.mem_cons_of_mem _ hq))]
theorem fr_full {a0 : Act} {b : Nat → Bool} {v : Nat → Value} {D : List (Nat × Nat)} (h : ∀ p ∈ D, b p.1 = true) : fr a0 b v D = fr a0 (fun _ => true) v D := by
  induction D with
  | nil => rfl
  | cons p D ih =>
    unfold fr
    rw [if_pos (h p List.mem_cons_self), if_pos rfl, ih (fun q hq => h q (List.mem_cons_of_mem _ hq))]
/-- What operation i waits for. -/
def depOn (ops : Array Oper) (i j : Nat) : Bool := match ops[i]? with
  | some o => o.after.any fun e => Region.binds .any e && e.on == j
  | none => false
def acyc (ops : Array Oper) : Bool := (List.range ops.size).all fun i => match ops[i]? with
  | some o => o.after.all fun e => !Region.binds .any e || decide (e.on < i)
  | none => true
/-- The slots that the operations fill. -/
def dstOk (ops : Array Oper) (D : List (Nat × Nat)) : Bool := (List.range ops.size).all fun i => match ops[i]? with
  | some o => match o.dst with
    | some t => D.contains (i, t)
    | none => D.all fun p => !(p.1 == i)
  | none => true
def dLt (ops : Array Oper) (D : List (Nat × Nat)) : Bool := D.all fun p => decide (p.1 < ops.size)
section
variable {P : Program} {ops : Array Oper} {Q : Exit → Act → World → Prop}
/-- What is known where operation i comes up. -/
structure Here (ops : Array Oper) (a0 : Act) (D : List (Nat × Nat)) (F : Nat → Value → World → Prop) (G : (Nat → Bool) → (Nat → Value) → World → Prop) (i : Nat) (b : Nat → Bool) (v : Nat → Value) (w : World) : Prop where
  fact : ∀ j, b j = true → F j (v j) w
  glob : G b v w
  self : b i = false
  dep : ∀ j, depOn ops i j = true → b j = true
  shut : ∀ d j, b d = true → depOn ops d j = true → b j = true
theorem Here.later {ops : Array Oper} {a0 : Act} {D : List (Nat × Nat)} {F : Nat → Value → World → Prop} {G : (Nat → Bool) → (Nat → Value) → World → Prop} {i : Nat} {b : Nat → Bool} {v : Nat → Value} {w : World} (h : Here ops a0 D F G i b v w) (d : Nat) (hd : depOn ops d i = true) : b d = false := by
  cases hb : b d with
  | false => rfl
  | true => have := h.shut d i hb hd; rw [h.self] at this; cases this
def StepF (P : Program) (ops : Array Oper) (Q : Exit → Act → World → Prop) (a0 : Act) (D : List (Nat × Nat)) (F : Nat → Value → World → Prop) (G : (Nat → Bool) → (Nat → Value) → World → Prop) (R : World → World → Prop) (i : Nat) : Prop :=
  ∃ oi, ops[i]? = some oi ∧ ∀ b v w, Here ops a0 D F G i b v w → ∀ K : Act → World → Prop,
    (∀ x w', F i x w' → R w w' → G (up b i) (upv v i x) w' → K ((fr a0 b v D).put oi.dst x) w') →
    if Region.wanted oi (yielded ops (fr a0 b v D).tmps) = true then Oper.wp P oi (fr a0 b v D) w K Q else K ((fr a0 b v D).put oi.dst undef) w

theorem ready_iff {md : Region.Mode} {listed : Array Bool} {i : Nat} : i ∈ Region.ready md ops listed ↔ i < ops.size ∧ listed.getD i true = false ∧ ∃ o, ops[i]? = some o ∧ ∀ e ∈ o.after.toList, Region.binds md e = true → listed.getD e.on false = true := by
  unfold Region.ready
  rw [List.mem_filter, List.mem_range]
  constructor
  · rintro ⟨h1, h2⟩
    rw [Bool.and_eq_true] at h2
    refine ⟨h1, by simpa using h2.1, ops[i], Array.getElem?_eq_getElem h1, fun e he hb => ?_⟩
    have h3 := h2.2
    rw [Array.getElem?_eq_getElem h1] at h3
    simp only [Option.map_some, Option.getD_some, Array.all_eq_true_iff_forall_mem] at h3
    have := h3 e (by simpa using he)
    rw [hb] at this
    simpa using this
  · rintro ⟨h1, h2, o, ho, h3⟩
    refine ⟨h1, ?_⟩
    rw [Bool.and_eq_true]
    refine ⟨by rw [h2]; rfl, ?_⟩
    rw [ho]
    simp only [Option.map_some, Option.getD_some, Array.all_eq_true_iff_forall_mem]
    intro e he
    cases hb : Region.binds md e with
    | false => rfl
    | true => simpa using h3 e (by simpa using he) hb

theorem dOk_mem {D : List (Nat × Nat)} (hd : dstOk ops D = true) {i : Nat} {o : Oper} (ho : ops[i]? = some o) : (∀ t, o.dst = some t → (i, t) ∈ D) ∧ (o.dst = none → ∀ p ∈ D, p.1 ≠ i) := by
  unfold dstOk at hd
  have h := List.all_eq_true.1 hd i (List.mem_range.2 (Array.getElem?_eq_some_iff.1 ho).1)
  rw [ho] at h
  simp only at h
  constructor
  · intro t ht
    rw [ht] at h
    exact List.contains_iff_mem.1 h
  · intro hn p hp e
    rw [hn] at h
    have := List.all_eq_true.1 h p hp
    simp [e] at this
theorem flow_put {a0 : Act} {D : List (Nat × Nat)} (hD : dOk D a0.tmps.size = true) (hd : dstOk ops D = true) {i : Nat} {o : Oper} (ho : ops[i]? = some o) {b : Nat → Bool} (hb : b i = false) (v : Nat → Value) (x : Value) :
    (fr a0 b v D).put o.dst x = fr a0 (up b i) (upv v i x) D := by
  have h := dOk_mem hd ho
  cases ht : o.dst with
  | some t => exact fr_put hD (h.1 t ht) hb x
  | none => exact fr_none (h.2 ht) x
theorem depOn_iff {i j : Nat} : depOn ops i j = true ↔ ∃ o, ops[i]? = some o ∧ ∃ e ∈ o.after.toList, Region.binds .any e = true ∧ e.on = j := by
  unfold depOn
  constructor
  · intro h
    split at h
    · rename_i o ho
      obtain ⟨e, he, hb⟩ := Array.any_eq_true'.1 h
      simp only [Bool.and_eq_true, beq_iff_eq] at hb
      exact ⟨o, ho, e, by simpa using he, hb.1, hb.2⟩
    · cases h
  · rintro ⟨o, ho, e, he, h1, h2⟩
    rw [ho]
    exact Array.any_eq_true'.2 ⟨e, by simpa using he, by simp [h1, h2]⟩
theorem reg_flow {id : Nat} {a0 : Act} {w0 : World} (D : List (Nat × Nat)) (hm : P.follows .mixedOrders = true) (hac : acyc ops = true) (hD : dOk D a0.tmps.size = true) (hd : dstOk ops D = true) (hdl : dLt ops D = true)
    (F : Nat → Value → World → Prop) (G : (Nat → Bool) → (Nat → Value) → World → Prop) (R : World → World → Prop) (hst : ∀ j x w w', R w w' → F j x w → F j x w')
    (h0 : ∀ v, G (fun _ => false) v w0.drew) (hs : ∀ i, i < ops.size → StepF P ops Q a0 D F G R i)
    (hend : ∀ b v w, (∀ j, j < ops.size → b j = true) → (∀ j, j < ops.size → F j (v j) w) → G b v w → Q .normal (fr a0 (fun _ => true) v D) w) :
    (Code.region id ops true).wp P Q a0 w0 := by
  refine wp_region_any hm ?_
  have hdep : ∀ {i j : Nat}, depOn ops i j = true → j < i := by
    intro i j h
    obtain ⟨o, ho, e, he, h1, rfl⟩ := depOn_iff.1 h
    unfold acyc at hac
    have h2 := List.all_eq_true.1 hac i (List.mem_range.2 (Array.getElem?_eq_some_iff.1 ho).1)
    rw [ho] at h2
    have h3 := (Array.all_eq_true_iff_forall_mem.1 h2) e (by simpa using he)
    rw [h1] at h3
    simpa using h3
  have main : ∀ (m : Nat) (listed : Array Bool) (b : Nat → Bool) (v : Nat → Value) (w : World), listed.size = ops.size → (∀ j, j < ops.size → listed[j]? = some (b j)) → (∀ j, ops.size ≤ j → b j = false) →
      ((List.range ops.size).filter fun j => !b j).length = m → (∀ j, b j = true → F j (v j) w) → G b v w → (∀ d j, b d = true → depOn ops d j = true → b j = true) → wpAny P .any ops Q m listed (fr a0 b v D) w := by
    intro m
    induction m with
    | zero =>
      intro listed b v w hsz hl hout hm0 hF hG hsh
      have hall : ∀ j, j < ops.size → b j = true := by
        intro j hj
        cases hb : b j with
        | true => rfl
        | false =>
          have : j ∈ (List.range ops.size).filter fun j => !b j := List.mem_filter.2 ⟨List.mem_range.2 hj, by simp [hb]⟩
          rw [List.eq_nil_of_length_eq_zero hm0] at this
          cases this
      have hfull : fr a0 b v D = fr a0 (fun _ => true) v D := by
        refine fr_full (fun p hp => ?_)
        exact hall _ (by simpa using List.all_eq_true.1 hdl p hp)
      refine ⟨?_, by rw [hfull]; exact hend b v w hall (fun j hj => hF j (hall j hj)) hG⟩
      refine List.eq_nil_iff_forall_not_mem.2 (fun i hi => ?_)
      obtain ⟨h1, h2, _⟩ := ready_iff.1 hi
      rw [Array.getD_eq_getD_getElem?, hl i h1, hall i h1] at h2
      cases h2
    | succ m ih =>
      intro listed b v w hsz hl hout hm0 hF hG hsh
      refine ⟨fun hr => ?_, fun i hi => ?_⟩
      · exfalso
        have hmin : ∀ k, (∃ i, i ≤ k ∧ i < ops.size ∧ b i = false) → ∃ i, i < ops.size ∧ b i = false ∧ ∀ j, j < i → b j = true := by
          intro k
          induction k with
          | zero =>
            rintro ⟨i, hi, h1, h2⟩
            exact ⟨i, h1, h2, fun j hj => by omega⟩
          | succ k ihk =>
            rintro ⟨i, hi, h1, h2⟩
            by_cases hlow : ∃ j, j ≤ k ∧ j < ops.size ∧ b j = false
            · exact ihk hlow
            · refine ⟨i, h1, h2, fun j hj => ?_⟩
              cases hb : b j with
              | true => rfl
              | false => exact absurd ⟨j, by omega, by omega, hb⟩ hlow
        have hex : ∃ i, i < ops.size ∧ b i = false := by
          cases hf : (List.range ops.size).filter (fun j => !b j) with
          | nil => rw [hf] at hm0; simp at hm0
          | cons x r =>
            have hx : x ∈ (List.range ops.size).filter (fun j => !b j) := by rw [hf]; exact List.mem_cons_self
            rw [List.mem_filter, List.mem_range] at hx
            exact ⟨x, hx.1, by simpa using hx.2⟩
        obtain ⟨i0, h1, h2⟩ := hex
        obtain ⟨i, hi, hb, hlow⟩ := hmin i0 ⟨i0, Nat.le_refl _, h1, h2⟩
        have hin : i ∈ Region.ready .any ops listed := by
          refine ready_iff.2 ⟨hi, by rw [Array.getD_eq_getD_getElem?, hl i hi, hb]; rfl, ops[i], Array.getElem?_eq_getElem hi, fun e he hbd => ?_⟩
          have hd2 : depOn ops i e.on = true := depOn_iff.2 ⟨ops[i], Array.getElem?_eq_getElem hi, e, he, hbd, rfl⟩
          have hlt := hdep hd2
          rw [Array.getD_eq_getD_getElem?, hl e.on (by omega), hlow _ hlt]; rfl
        rw [hr] at hin
        cases hin
      · obtain ⟨hi1, hi2, o, ho, hi3⟩ := ready_iff.1 hi
        have hbi : b i = false := by rw [Array.getD_eq_getD_getElem?, hl i hi1] at hi2; simpa using hi2
        have hdp : ∀ j, depOn ops i j = true → b j = true := by
          intro j hj
          obtain ⟨o2, ho2, e, he, hb2, rfl⟩ := depOn_iff.1 hj
          rw [ho] at ho2; cases ho2
          have h4 := hi3 e he hb2
          have hlt := hdep hj
          rw [Array.getD_eq_getD_getElem?, hl e.on (by omega)] at h4
          simpa using h4
        obtain ⟨oi, hoi, hK⟩ := hs i hi1
        rw [ho] at hoi; cases hoi
        have hstep := hK b v w ⟨hF, hG, hbi, hdp, hsh⟩ (wpAny P .any ops Q m (listed.setIfInBounds i true)) (fun x w' hFx hR hG' => by
          rw [flow_put hD hd ho hbi v x]
          refine ih _ (up b i) (upv v i x) w' (by simpa using hsz) (fun j hj => ?_) (fun j hj => by rw [up_ne (by omega)]; exact hout j hj) ?_ (fun j hj => ?_) hG' (fun d j hbd hdj => ?_)
          · by_cases hji : j = i
            · subst hji; rw [up_self, Array.getElem?_setIfInBounds_self_of_lt (by omega)]
            · rw [up_ne hji, Array.getElem?_setIfInBounds_ne (fun e => hji e.symm)]; exact hl j hj
          · have hcount : ∀ (l : List Nat), l.Nodup → i ∈ l → (l.filter fun j => !up b i j).length + 1 = (l.filter fun j => !b j).length := by
              intro l
              induction l with
              | nil => intro _ h; cases h
              | cons x r ihr =>
                intro hn hmem
                rw [List.nodup_cons] at hn
                rcases List.mem_cons.1 hmem with rfl | hmem
                · have hr : (r.filter fun j => !up b i j) = r.filter fun j => !b j := List.filter_congr (fun j hj => by rw [up_ne (fun e => hn.1 (by rw [← e]; exact hj))])
                  simp [List.filter_cons, up_self, hbi, hr]
                · have hxi : x ≠ i := fun e => hn.1 (e ▸ hmem)
                  have := ihr hn.2 hmem
                  rw [List.filter_cons, List.filter_cons, up_ne hxi]
                  cases b x
                  · simp only [Bool.not_false, if_true, List.length_cons]; omega
                  · simpa using this
            have := hcount (List.range ops.size) List.nodup_range (List.mem_range.2 hi1)
            omega
          · by_cases hji : j = i
            · subst hji; rw [upv_self]; exact hFx
            · rw [upv_ne hji]
              exact hst j _ w w' hR (hF j (by rwa [up_ne hji] at hj))
          · by_cases hdi : d = i
            · subst hdi
              have := hdp j hdj
              have hji : j ≠ d := fun e => by rw [e, hbi] at this; cases this
              rw [up_ne hji]; exact this
            · rw [up_ne hdi] at hbd
              have := hsh d j hbd hdj
              have hji : j ≠ i := fun e => by rw [e, hbi] at this; cases this
              rw [up_ne hji]; exact this)
        unfold wpOp
        simp only [ho]
        split
        · rename_i hw; rw [if_pos hw] at hstep; exact .inl hstep
        · rename_i hw; rw [if_neg hw] at hstep; exact hstep
  have hfr0 : ∀ D : List (Nat × Nat), fr a0 (fun _ => false) (fun _ => undef) D = a0 := by
    intro D
    induction D with
    | nil => rfl
    | cons p D ih => unfold fr; simpa using ih
  have := main ops.size (Array.replicate ops.size false) (fun _ => false) (fun _ => undef) w0.drew (by simp) (fun j hj => by simp [hj]) (fun _ _ => rfl) (by rw [List.filter_eq_self.2 (by simp)]; simp) (fun j hj => by cases hj) (h0 _) (fun d j hb => by cases hb)
  rw [hfr0] at this
  exact this

/-! One operation. -/
section
variable {a0 : Act} {D : List (Nat × Nat)} {F : Nat → Value → World → Prop} {G : (Nat → Bool) → (Nat → Value) → World → Prop} {R : World → World → Prop} {i : Nat}
theorem ev_on {b : Nat → Bool} {v : Nat → Value} (hD : dOk D a0.tmps.size = true) (j t : Nat) (hm : D.contains (j, t) = true) (hb : b j = true) : (fr a0 b v D).eval (.tmp t) = v j := by
  have hm' : (j, t) ∈ D := List.contains_iff_mem.1 hm
  simp [Act.eval, fr_on hm' (fun p hp e => by rw [dOk_1 hD p hp _ hm' e]) hb (dOk_3 hD _ hm')]
theorem ev_off {b : Nat → Bool} {v : Nat → Value} (t : Nat) (hm : (D.all fun p => !(p.2 == t)) = true) : (fr a0 b v D).eval (.tmp t) = a0.eval (.tmp t) := by
  simp only [Act.eval]
  rw [Array.getD_eq_getD_getElem?, Array.getD_eq_getD_getElem?, fr_off (fun p hp e => by have := List.all_eq_true.1 hm p hp; simp [e] at this)]
theorem ev_not {b : Nat → Bool} {v : Nat → Value} (hD : dOk D a0.tmps.size = true) (j t : Nat) (hm : D.contains (j, t) = true) (hb : b j = false) : (fr a0 b v D).eval (.tmp t) = a0.eval (.tmp t) := by
  have hm' : (j, t) ∈ D := List.contains_iff_mem.1 hm
  simp only [Act.eval]
  rw [Array.getD_eq_getD_getElem?, Array.getD_eq_getD_getElem?, fr_off (fun p hp e => by rw [dOk_1 hD p hp _ hm' e]; exact hb)]
/-- What operation i is handed. -/
structure At (ops : Array Oper) (a0 : Act) (D : List (Nat × Nat)) (F : Nat → Value → World → Prop) (G : (Nat → Bool) → (Nat → Value) → World → Prop) (i : Nat) (b : Nat → Bool) (v : Nat → Value) (w : World) (ρ : Operand → Value) : Prop extends Here ops a0 D F G i b v w where
  on : ∀ j t, D.contains (j, t) = true → b j = true → ρ (.tmp t) = v j
  off : ∀ t, (D.all fun p => !(p.2 == t)) = true → ρ (.tmp t) = a0.eval (.tmp t)
  before : ∀ j t, D.contains (j, t) = true → b j = false → ρ (.tmp t) = a0.eval (.tmp t)
  cst : ∀ c, ρ (.const c) = c
  glo : ∀ g, ρ (.global g) = a0.eval (.global g)
  fn : ∀ f, ρ (.func f) = a0.eval (.func f)
theorem at_of (hD : dOk D a0.tmps.size = true) {b : Nat → Bool} {v : Nat → Value} {w : World} (h : Here ops a0 D F G i b v w) : At ops a0 D F G i b v w (fr a0 b v D).eval :=
  { h with on := fun j t hm hb => ev_on hD j t hm hb, off := fun t hm => ev_off t hm, before := fun j t hm hb => ev_not hD j t hm hb, cst := fun _ => rfl, glo := fun _ => rfl, fn := fun _ => rfl }
theorem At.have_ {b : Nat → Bool} {v : Nat → Value} {w : World} {ρ : Operand → Value} (h : At ops a0 D F G i b v w ρ) (j : Nat) (hj : depOn ops i j = true) : F j (v j) w := h.fact j (h.dep j hj)
/-- What an operation comes to. -/
def opRun (P : Program) (ρ : Operand → Value) (op : Op) (ty : TypeId) (w : World) : Result Next := (execOp ρ { dst := none, op := op, type := ty, pos := "", after := #[], guard := none }).run P w
def opAt (ops : Array Oper) (i : Nat) : Option (Op × TypeId × Option (Nat × Bool)) := (ops[i]?).map fun o => (o.op, o.type, o.guard)
theorem opAt_some {op : Op} {ty : TypeId} {gd : Option (Nat × Bool)} (h : opAt ops i = some (op, ty, gd)) : ∃ oi, ops[i]? = some oi ∧ oi.op = op ∧ oi.type = ty ∧ oi.guard = gd := by
  obtain ⟨oi, h1, h2⟩ := Option.map_eq_some_iff.1 h
  simp only [Prod.mk.injEq] at h2
  exact ⟨oi, h1, h2.1, h2.2.1, h2.2.2⟩
theorem opRun_eq (ρ : Operand → Value) (oi : Oper) (w : World) : (execOp ρ oi).run P w = opRun P ρ oi.op oi.type w := rfl
theorem flow_val (hD : dOk D a0.tmps.size = true) (op : Op) (ty : TypeId) (hop : opAt ops i = some (op, ty, none))
    (h : ∀ b v w ρ, At ops a0 D F G i b v w ρ → ∃ x w', opRun P ρ op ty w = .ok (.value x) w' ∧ F i x w' ∧ R w w' ∧ G (up b i) (upv v i x) w') : StepF P ops Q a0 D F G R i := by
  obtain ⟨oi, hoi, rfl, rfl, hg⟩ := opAt_some hop
  refine ⟨oi, hoi, fun b v w hh K hK => ?_⟩
  obtain ⟨x, w', hrun, h1, h2, h3⟩ := h b v w _ (at_of hD hh)
  rw [if_pos (by simp [Region.wanted, hg])]
  unfold Oper.wp
  rw [opRun_eq, hrun]
  exact hK x w' h1 h2 h3
/-- The same where nothing turns in the world. -/
theorem flow_pure (hD : dOk D a0.tmps.size = true) (hR : ∀ w, R w w) (op : Op) (ty : TypeId) (hop : opAt ops i = some (op, ty, none))
    (h : ∀ b v w ρ, At ops a0 D F G i b v w ρ → ∃ x, opRun P ρ op ty w = .ok (.value x) w ∧ F i x w ∧ G (up b i) (upv v i x) w) : StepF P ops Q a0 D F G R i :=
  flow_val hD op ty hop fun b v w ρ hh => by
    obtain ⟨x, h1, h2, h3⟩ := h b v w ρ hh
    exact ⟨x, w, h1, h2, hR w, h3⟩
theorem flow_skip (hD : dOk D a0.tmps.size = true) (op : Op) (ty : TypeId) (hop : opAt ops i = some (op, ty, none))
    (h : ∀ b v w ρ, At ops a0 D F G i b v w ρ → ∃ w', opRun P ρ op ty w = .ok .skip w' ∧ F i undef w' ∧ R w w' ∧ G (up b i) (upv v i undef) w') : StepF P ops Q a0 D F G R i := by
  obtain ⟨oi, hoi, rfl, rfl, hg⟩ := opAt_some hop
  refine ⟨oi, hoi, fun b v w hh K hK => ?_⟩
  obtain ⟨w', hrun, h1, h2, h3⟩ := h b v w _ (at_of hD hh)
  rw [if_pos (by simp [Region.wanted, hg])]
  unfold Oper.wp
  rw [opRun_eq, hrun]
  exact hK undef w' h1 h2 h3
theorem flow_call (hD : dOk D a0.tmps.size = true) (op : Op) (ty : TypeId) (hop : opAt ops i = some (op, ty, none)) (f : FuncId)
    (h : ∀ b v w ρ, At ops a0 D F G i b v w ρ → ∃ args, opRun P ρ op ty w = .ok (.enter f args) w ∧ Calls P f args w fun e w' => ∃ x, e = .returned x ∧ F i x w' ∧ R w w' ∧ G (up b i) (upv v i x) w') : StepF P ops Q a0 D F G R i := by
  obtain ⟨oi, hoi, rfl, rfl, hg⟩ := opAt_some hop
  refine ⟨oi, hoi, fun b v w hh K hK => ?_⟩
  obtain ⟨args, hrun, hc⟩ := h b v w _ (at_of hD hh)
  rw [if_pos (by simp [Region.wanted, hg])]
  unfold Oper.wp
  rw [opRun_eq, hrun]
  refine hc.mono ?_
  rintro e w' ⟨x, rfl, h1, h2, h3⟩
  exact hK x w' h1 h2 h3
theorem opRun_call {ρ : Operand → Value} {f : FuncId} {xs : Array Operand} {ats : Array TypeId} {ty : TypeId} {w : World} (hf : ρ (.func f) = .func (.func f) #[] #[]) (hc : (callFunc f (xs.map ρ)).run P w = .ok (.enter f (xs.map ρ)) w) :
    opRun P ρ (.call { callee := .value (.func f), args := xs, argTypes := ats }) ty w = .ok (.enter f (xs.map ρ)) w := by
  unfold opRun execOp resolve
  simp only [hf, Deferred.ofValue, invoke, Sem.run_bind, Sem.run_pure, Result.andThen_ok, Array.append_empty, Array.empty_append]
  exact hc
theorem opRun_load_row {ρ : Operand → Value} {x : Operand} {ty ty' : TypeId} {w : World} {g t : Nat} {vs : List Value} (HR : Row w g t vs) (hx : ρ x = .pointer (some ⟨g, 0, none⟩)) {d : TypeDesc} (hu : P.underlying ty = some d)
    (hd : (match d with | .struct _ | .array _ _ => true | _ => false) = true) (hi : (P.info? ty).map (·.size) = some vs.length) : opRun P ρ (.load ty x) ty' w = .ok (.value (.agg vs.toArray)) w := by
  unfold opRun execOp
  simp only [hx, Instr.loadAt, Instr.sureAddr, Sem.run_bind, Sem.run_pure, Result.andThen_ok, run_loadVar_row w g t ty vs.toArray (0, 0) d HR hu hd (by simpa using hi)]
theorem opRun_store_row {ρ : Operand → Value} {x y : Operand} {ty ty' : TypeId} {w : World} {g t : Nat} {old vs : List Value} (HR : Row w g t old) (hx : ρ x = .pointer (some ⟨g, 0, none⟩)) (hy : ρ y = .agg vs.toArray)
    (hi : (P.info? ty).map (·.size) = some vs.length) (hl : old.length = vs.length) (h1 : ∀ v ∈ vs, v.oneCell' = true) : ∃ w1, opRun P ρ (.store ty x y) ty' w = .ok .skip w1 ∧ Row w1 g t vs ∧ w.grownBy w1 (some g) := by
  refine ⟨w.setRow g vs.toArray, ?_, setRow_heap w g _ _ t _ HR, ⟨rfl, rfl, rfl, by simp, fun k hk hne => setRow_other w g k _ (fun e => hne (by rw [e]))⟩⟩
  unfold opRun execOp
  simp only [hx, hy, Instr.storeAt, Instr.sureAddr, Sem.run_bind, Sem.run_pure, Result.andThen_ok, run_storeVar_row w g t ty old.toArray vs.toArray HR (by simpa using hi) (by simpa using hl) (by simpa using h1)]
end
end
end Go.Proofs.YtbdmdajbdmdknaaDoor
namespace Go.Proofs.YtbdmdajbdmdknaaDoor
open Go.RowKit
set_option linter.unusedVariables false
set_option linter.unusedSimpArgs false

/-- A guard for an arm of the walk: the next operation stores at what slot 't' points to. -/
theorem at_store (t : Nat) {P : Program} {ops : Array Oper} {rest : List Oper} {Q : Exit → Act → World → Prop} {a : Act} {w : World} {st : TypeId} {y : Operand} {ty pos after g} (h : wpList P ops Q (⟨none, .store st (.tmp t) y, ty, pos, after, g⟩ :: rest) a w) : wpList P ops Q (⟨none, .store st (.tmp t) y, ty, pos, after, g⟩ :: rest) a w := h
theorem count_up {b : Nat → Bool} {i : Nat} (hb : b i = false) : ∀ (l : List Nat), l.Nodup → i ∈ l → (l.filter fun j => !up b i j).length + 1 = (l.filter fun j => !b j).length := by
  intro l
  induction l with
  | nil => intro _ h; cases h
  | cons x r ihr =>
    intro hn hmem
    rw [List.nodup_cons] at hn
    rcases List.mem_cons.1 hmem with rfl | hmem
    · have hr : (r.filter fun j => !up b i j) = r.filter fun j => !b j := List.filter_congr (fun j hj => by rw [up_ne (fun e => hn.1 (by rw [← e]; exact hj))])
      simp [List.filter_cons, up_self, hb, hr]
    · have hxi : x ≠ i := fun e => hn.1 (e ▸ hmem)
      have := ihr hn.2 hmem
      rw [List.filter_cons, List.filter_cons, up_ne hxi]
      cases b x
      · simp only [Bool.not_false, if_true, List.length_cons]; omega
      · simpa using this
theorem least_no {b : Nat → Bool} {n : Nat} : ∀ k, (∃ i, i ≤ k ∧ i < n ∧ b i = false) → ∃ i, i < n ∧ b i = false ∧ ∀ j, j < i → b j = true := by
  intro k
  induction k with
  | zero =>
    rintro ⟨i, hi, h1, h2⟩
    exact ⟨i, h1, h2, fun j hj => by omega⟩
  | succ k ihk =>
    rintro ⟨i, hi, h1, h2⟩
    by_cases hlow : ∃ j, j ≤ k ∧ j < n ∧ b j = false
    · exact ihk hlow
    · refine ⟨i, h1, h2, fun j hj => ?_⟩
      cases hb : b j with
      | true => rfl
      | false => exact absurd ⟨j, by omega, by omega, hb⟩ hlow
theorem wp_region_quiet_tail {P : Program} {id : Nat} {Q : Exit → Act → World → Prop} {a : Act} {w : World} {l : List Oper} {C : World → Prop} (n : Nat) (hm : P.follows .mixedOrders = true) (hT : Region.lexB .any (l.take n).toArray = true) (hg : ((l.take n).all fun o => o.guard.isNone) = true) (hac : acyc l.toArray = true) (hn : decide (n < l.length) = true)
    (hs : Region.sinkB .any l.toArray n = true) (hc : Region.chainB .any l.toArray n = true) (hseq : Region.seqB .any l.toArray (l.length - n) n (List.replicate n true ++ List.replicate (l.length - n) false).toArray = true) (hC : C { w with drawn := w.drawn + 1 })
    (h : wpQuiet P (l.take n).toArray C (fun a' => ∀ w', C w' → wpList P l.toArray Q (l.drop n) a' w') (l.take n) a) : (Code.region id l.toArray true).wp P Q a w := by
  have hn' : n < l.length := by simpa using hn
  refine wp_region_any hm ?_
  simp only [Region.lexB, Bool.and_eq_true] at hT
  have Hq := wpAnyQ_lex (P := P) (ops := (l.take n).toArray) (C := C) (md := .any) hT.1 (l.take n) 0 (Array.replicate (l.take n).toArray.size false) a (by simp) (by simpa using hT.2) h
  have hlen : (l.take n).length = n := by rw [List.length_take]; omega
  rw [hlen] at Hq
  have hdep : ∀ {i j : Nat}, depOn l.toArray i j = true → j < i := by
    intro i j h
    obtain ⟨o, ho, e, he, h1, rfl⟩ := depOn_iff.1 h
    unfold acyc at hac
    have h2 := List.all_eq_true.1 hac i (List.mem_range.2 (Array.getElem?_eq_some_iff.1 ho).1)
    rw [ho] at h2
    have h3 := (Array.all_eq_true_iff_forall_mem.1 h2) e (by simpa using he)
    rw [h1] at h3
    simpa using h3
  have hat : ∀ i, i < n → (l.take n).toArray[i]? = l.toArray[i]? := fun i hi => by simp [hi]
  have main : ∀ (m : Nat) (listed LT : Array Bool) (b : Nat → Bool) (a : Act) (w : World), listed.size = l.length → (∀ j, j < l.length → listed[j]? = some (b j)) → (∀ j, n ≤ j → b j = false) → LT.size = n → (∀ j, j < n → LT[j]? = some (b j)) →
      (∀ d j, b d = true → depOn l.toArray d j = true → b j = true) → ((List.range n).filter fun j => !b j).length = m → C w → wpAnyQ P .any (l.take n).toArray C (fun a' => ∀ w', C w' → wpList P l.toArray Q (l.drop n) a' w') m LT a →
      wpAny P .any l.toArray Q (m + (l.length - n)) listed a w := by
    intro m
    induction m with
    | zero =>
      intro listed LT b a w hsz hl hout hTs hTl hsh hm0 hCw H
      have hall : ∀ j, j < n → b j = true := by
        intro j hj
        cases hb : b j with
        | true => rfl
        | false =>
          have : j ∈ (List.range n).filter fun j => !b j := List.mem_filter.2 ⟨List.mem_range.2 hj, by simp [hb]⟩
          rw [List.eq_nil_of_length_eq_zero hm0] at this
          cases this
      have hlist : listed = (List.replicate n true ++ List.replicate (l.length - n) false).toArray := by
        apply Array.ext_getElem?
        intro j
        by_cases hj : j < l.length
        · rw [hl j hj]
          by_cases hjn : j < n
          · rw [hall j hjn, List.getElem?_toArray, List.getElem?_append_left (by simpa using hjn), List.getElem?_replicate, if_pos hjn]
          · rw [hout j (by omega), List.getElem?_toArray, List.getElem?_append_right (by simp; omega), List.getElem?_replicate, if_pos (by simp; omega)]
        · rw [Array.getElem?_eq_none (by omega), Array.getElem?_eq_none (by simp; omega)]
      rw [Nat.zero_add, hlist]
      have := wpAny_of_seq (P := P) (ops := l.toArray) (md := .any) (Q' := Q) (l.drop n) n (List.replicate n true ++ List.replicate (l.length - n) false).toArray a w (fun j => by simp) (by rw [List.length_drop]; exact hseq) (H.2 w hCw)
      rwa [List.length_drop] at this
    | succ m ih =>
      intro listed LT b a w hsz hl hout hTs hTl hsh hm0 hCw H
      have inv : HeadInv .any l.toArray n listed := by
        refine ⟨by simpa using hsz, fun j oj hj hlj e he hb => ?_, fun t ht htl => ?_⟩
        · have hjl : j < l.length := by have := (Array.getElem?_eq_some_iff.1 hj).1; simpa using this
          have hbj : b j = true := by rw [Array.getD_eq_getD_getElem?, hl j hjl] at hlj; simpa using hlj
          have hd : depOn l.toArray j e.on = true := depOn_iff.2 ⟨oj, hj, e, by simpa using he, hb, rfl⟩
          have := hdep hd
          rw [Array.getD_eq_getD_getElem?, hl e.on (by omega), hsh j _ hbj hd]; rfl
        · have htl' : t < l.length := by simpa using htl
          rw [Array.getD_eq_getD_getElem?, hl t htl', hout t ht]; rfl
      have hex : ∃ i, i < n ∧ b i = false := by
        cases hf : (List.range n).filter (fun j => !b j) with
        | nil => rw [hf] at hm0; simp at hm0
        | cons x r =>
          have hx : x ∈ (List.range n).filter (fun j => !b j) := by rw [hf]; exact List.mem_cons_self
          rw [List.mem_filter, List.mem_range] at hx
          exact ⟨x, hx.1, by simpa using hx.2⟩
      obtain ⟨i0, hi0, hb0⟩ := hex
      obtain ⟨i1, hi1, hb1, hlow⟩ := least_no i0 ⟨i0, Nat.le_refl _, hi0, hb0⟩
      have hi1l : i1 < l.toArray.size := by simp; omega
      have hr1 : i1 ∈ Region.ready .any l.toArray listed := by
        refine ready_iff.2 ⟨hi1l, by rw [Array.getD_eq_getD_getElem?, hl i1 (by omega), hb1]; rfl, l.toArray[i1], Array.getElem?_eq_getElem hi1l, fun e he hbd => ?_⟩
        have hd2 : depOn l.toArray i1 e.on = true := depOn_iff.2 ⟨l.toArray[i1], Array.getElem?_eq_getElem hi1l, e, he, hbd, rfl⟩
        have hlt := hdep hd2
        rw [Array.getD_eq_getD_getElem?, hl e.on (by omega), hlow _ hlt]; rfl
      rw [show m + 1 + (l.length - n) = (m + (l.length - n)) + 1 by omega]
      refine ⟨fun hr => (by rw [hr] at hr1; cases hr1), fun i hi => ?_⟩
      have hin : i < n := by
        rcases Nat.lt_or_ge i n with h | h
        · exact h
        · exact absurd hi (tail_waits hs hc (by simpa using hn') inv _ i1 rfl hi1 (by rw [Array.getD_eq_getD_getElem?, hl i1 (by omega), hb1]; rfl) i h)
      obtain ⟨_, hi2, o, ho, hi3⟩ := ready_iff.1 hi
      have hbi : b i = false := by rw [Array.getD_eq_getD_getElem?, hl i (by omega)] at hi2; simpa using hi2
      have hdn : ∀ e ∈ o.after.toList, Region.binds .any e = true → e.on < n ∧ b e.on = true := fun e he hb => by
        have hd2 : depOn l.toArray i e.on = true := depOn_iff.2 ⟨o, ho, e, he, hb, rfl⟩
        have hlt := hdep hd2
        have h4 := hi3 e he hb
        rw [Array.getD_eq_getD_getElem?, hl e.on (by omega)] at h4
        exact ⟨by omega, by simpa using h4⟩
      have hiT : i ∈ Region.ready .any (l.take n).toArray LT := by
        refine ready_iff.2 ⟨by simp; omega, by rw [Array.getD_eq_getD_getElem?, hTl i hin, hbi]; rfl, o, by rw [hat i hin]; exact ho, fun e he hb => ?_⟩
        obtain ⟨h5, h6⟩ := hdn e he hb
        rw [Array.getD_eq_getD_getElem?, hTl _ h5, h6]; rfl
      have hgo : o.guard = none := by
        have h7 : o ∈ l.take n := by
          have : (l.take n)[i]? = some o := by have := hat i hin; rw [ho] at this; simpa using this
          exact List.mem_of_getElem? this
        have := List.all_eq_true.1 hg o h7
        simpa using this
      have h2 : wpOp P (l.take n).toArray Q i (wpAny P .any l.toArray Q (m + (l.length - n)) (listed.setIfInBounds i true)) a w := by
        refine wpOp_of_qOp hCw (fun a' w' hw' hq => ?_) (H.2 i hiT)
        refine ih _ (LT.setIfInBounds i true) (up b i) a' w' (by simpa using hsz) (fun j hj => ?_) (fun j hj => by rw [up_ne (by omega)]; exact hout j hj) (by simpa using hTs) (fun j hj => ?_) (fun d j hbd hdj => ?_) ?_ hw' hq
        · by_cases hji : j = i
          · subst hji; rw [up_self, Array.getElem?_setIfInBounds_self_of_lt (by omega)]
          · rw [up_ne hji, Array.getElem?_setIfInBounds_ne (fun e => hji e.symm)]; exact hl j hj
        · by_cases hji : j = i
          · subst hji; rw [up_self, Array.getElem?_setIfInBounds_self_of_lt (by omega)]
          · rw [up_ne hji, Array.getElem?_setIfInBounds_ne (fun e => hji e.symm)]; exact hTl j hj
        · by_cases hji : j = i
          · subst hji; exact up_self b j
          · rw [up_ne hji]
            by_cases hdi : d = i
            · subst hdi
              obtain ⟨o2, ho2, e, he, hb2, rfl⟩ := depOn_iff.1 hdj
              rw [ho] at ho2; cases ho2
              exact (hdn e he hb2).2
            · exact hsh d j (by rwa [up_ne hdi] at hbd) hdj
        · have := count_up hbi (List.range n) List.nodup_range (List.mem_range.2 hin)
          omega
      unfold wpOp at h2 ⊢
      rw [hat i hin, ho] at h2
      rw [ho]
      simp only [Region.wanted, hgo, if_true] at h2 ⊢
      exact h2
  have hTz : (l.take n).toArray.size = n := by simp; omega
  rw [hTz] at Hq
  have hall0 : ((List.range n).filter fun j => !(fun _ : Nat => false) j).length = n := by
    have e : ((List.range n).filter fun j => !(fun _ : Nat => false) j) = List.range n := List.filter_eq_self.2 (fun _ _ => rfl)
    rw [e, List.length_range]
  have := main n (Array.replicate l.toArray.size false) (Array.replicate n false) (fun _ => false) a { w with drawn := w.drawn + 1 } (by simp) (fun j hj => by simp [hj]) (fun _ _ => rfl) (by simp) (fun j hj => by simp [hj]) (fun d j h => by cases h) hall0 hC Hq
  rw [show n + (l.length - n) = l.length by omega] at this
  simpa using this
section
variable {P : Program} {ops : Array Oper} {C : World → Prop} {Q : Act → Prop} {a : Act} {o : Oper} {rest : List Oper} {v : Value}
theorem wpQuiet_val (hg : o.guard = none) (h : ∀ w, C w → opRun P a.eval o.op o.type w = .ok (.value v) w) (hk : wpQuiet P ops C Q rest (a.put o.dst v)) : wpQuiet P ops C Q (o :: rest) a := by
  refine wpQuiet_step (fun K hK => ?_)
  rw [if_pos (by simp [Region.wanted, hg])]
  exact ⟨v, fun w hw => (by unfold Oper.quietAt; rw [opRun_eq, h w hw]; exact ⟨rfl, rfl⟩), hK _ hk⟩
theorem wpQuiet_call (hg : o.guard = none) (f : FuncId) (args : Array Value) (h : ∀ w, C w → opRun P a.eval o.op o.type w = .ok (.enter f args) w) (hc : ∀ w, C w → Calls P f args w fun e w'' => e = .returned v ∧ C w'') (hk : wpQuiet P ops C Q rest (a.put o.dst v)) : wpQuiet P ops C Q (o :: rest) a := by
  refine wpQuiet_step (fun K hK => ?_)
  rw [if_pos (by simp [Region.wanted, hg])]
  exact ⟨v, fun w hw => (by unfold Oper.quietAt; rw [opRun_eq, h w hw]; exact ⟨rfl, hc w hw⟩), hK _ hk⟩
end
end Go.Proofs.YtbdmdajbdmdknaaDoor
namespace Go.Proofs.YtbdmdajbdmdknaaDoor
open Go.RowKit
set_option linter.unusedVariables false
set_option linter.unusedSimpArgs false

/-- The bytes of a text, as numbers. -/
def bI (s : ByteArray) : List Int := s.data.toList.map fun b => (b.toNat : Int)
theorem bI_len (s : ByteArray) : (bI s).length = s.size := by unfold bI; rw [List.length_map]; rfl
theorem bI_isB (s : ByteArray) : IsB (bI s) := by
  intro x hx
  obtain ⟨b, _, rfl⟩ := List.mem_map.1 hx
  have := b.toNat_lt
  omega
theorem bI_cells (s : ByteArray) : byteCells s = nums .u8 (bI s) := by unfold byteCells nums bI; rw [List.map_map]; rfl
theorem str_bI (s : ByteArray) : strOfNums (bI s) = s := by
  rw [← bs_self (strOfNums (bI s)), strOfNums_data]
  unfold bI
  rw [List.map_map]
  have : s.data.toList.map ((fun z => UInt8.ofNat z.toNat) ∘ fun b => (b.toNat : Int)) = s.data.toList := by
    conv => rhs; rw [← List.map_id s.data.toList]
    apply List.map_congr_left
    intro b _
    simp
  first | (rw [this]; exact bs_self s) | skip
section
variable {P : Program}
theorem run_appStr {W : World} {t ts ty e : TypeId} {z : Value} (ht : P.underlying t = some (.slice e)) (hts : P.underlying ts = some .string) (hinfo : (P.info? e).map (fun i => (i.zero, i.size, i.bytes)) = some (some z, 1, 1)) (s : ByteArray) (hl : s.size ≤ 1000000000) :
    ∃ A c w1, (Builtin.append_ #[t, ts] ty #[.slice none 0 0, .string s]).run P W = .ok (.slice A s.size c) w1 ∧ Below W.heap.size W w1 ∧ Rd w1 A (nums .u8 (bI s)) ∧ ∀ ad, A = some ad → W.heap.size ≤ ad.block := by
  obtain ⟨i0, hi, hzz⟩ := Option.map_eq_some_iff.1 hinfo
  simp only [Prod.mk.injEq] at hzz
  obtain ⟨hz0, hz1, hz2⟩ := hzz
  rcases Nat.eq_zero_or_pos s.size with h0 | h0
  · refine ⟨none, 0, W, ?_, Below.refl _ _, ?_⟩
    · rw [h0]
      have hl2 : (Builtin.lenOf (.string s)).run P W = .ok 0 W := by simp [Builtin.lenOf, h0]
      have hf : (Builtin.firstCells 1 0 (.string s)).run P W = .ok #[] W := by
        have := firstCells_string (P := P) s W
        rw [h0] at this
        rw [this]
        have : byteCells s = [] := List.eq_nil_of_length_eq_zero (by rw [byteCells_length, h0])
        rw [this]
      simp [Builtin.append_, run_underlying ht, run_underlying hts, sizeOf, typeInfo, hi, hz1, hl2, h0, Builtin.lenOf, Builtin.firstCells]
    · have : bI s = [] := List.eq_nil_of_length_eq_zero (by rw [bI_len, h0])
      rw [this]
      exact ⟨Rd.nil _ _, fun ad h => by cases h⟩
  · have hs := Src.ofString (P := P) W hts s
    rw [← hz1] at hs
    have hr := run_append_grow_src (P := P) W t ts ty e i0 z ht hi hz0 none 0 0 [] (run_firstCells_none W.drew i0.size 0 0 0) (.string s) s.size (byteCells s) hs (by omega) (by omega) (growslice_fits (by omega) (by rw [hz2]; omega))
    rw [Nat.zero_add] at hr
    refine ⟨_, _, _, hr, (below_drewN0 (Below.refl _ _) 1).trans (below_alloc0 W.drew _), ?_⟩
    have e2 : (([] ++ byteCells s).toArray ++ Builtin.zeroCells z.cells (grownCap W s.size 0 e - s.size)) = (nums .u8 (bI s) ++ (Builtin.zeroCells z.cells (grownCap W s.size 0 e - s.size)).toList).toArray := by
      rw [← bI_cells]; apply Array.ext'; simp
    rw [e2]
    exact ⟨Rd.left (Rd.new W.drew e _ _ rfl), fun ad h => by cases h; exact Nat.le_refl _⟩
end
theorem Rd.altC {w w1 : World} {A : Option Addr} {vs : List Value} {S : Nat → Nat → Prop} (h : Rd w A vs) (k : AltC w w1 S) (hn : ∀ ad, A = some ad → ∀ y, ¬ S ad.block y) : Rd w1 A vs := by
  intro i v hv
  obtain ⟨b, o, e, hlt, hc⟩ := h i v hv
  have := (k.cell b (o + i) hlt (hn _ e _)).1
  exact ⟨b, o, e, Nat.lt_of_lt_of_le hlt k.size, this.trans hc⟩
set_option maxRecDepth 100000 in
set_option maxHeartbeats 1000000 in
theorem b2s_calls (A : Option Addr) (n c : Nat) (s : ByteArray) (w : World) (h : Rd w A (nums .u8 (bI s))) (hn : s.size = n) :
    Calls Tryd.prog 54 #[.slice A n c] w fun e w' => e = .returned (.string s) ∧ w = w' := by
  have hr : (convert 32 9 (.slice A n c)).run Tryd.prog w = .ok (.string s) w := by
    have := run_string (P := Tryd.prog) (W := w) (c := c) Tryd.underlying32 Tryd.underlying5 Tryd.underlying9 h (by rw [bI_len, hn])
    rwa [str_bI] at this
  clear h
  go_enter Tryd.func54, Tryd.ntmps54
  go_wp2
  go_ret
  exact ⟨rfl, rfl⟩
end Go.Proofs.YtbdmdajbdmdknaaDoor
