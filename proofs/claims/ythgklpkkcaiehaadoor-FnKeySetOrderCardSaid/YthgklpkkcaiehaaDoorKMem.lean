/- Slices of one's own that may begin within their block: append of one, a cut at either end, and one that is taken out of the middle. Nothing here speaks of the program. -/
import Derived.Test.YthgklpkkcaiehaaDoorBase
import Derived.Deep.AppendSrc
import Derived.Deep.Upon
namespace Go.Proofs.YthgklpkkcaiehaaDoor
open Go.RowKit
set_option linter.unusedVariables false
set_option linter.unusedSimpArgs false

theorem Row.setCells {g t : Nat} : ∀ (vs : List Value) (L : List Value) (o : Nat) (w : World), Row w g t L → o + vs.length ≤ L.length → Row (w.setCells g o vs) g t (splice L o vs)
  | [], L, o, w, h, _ => by simpa [splice, World.setCells] using h
  | v :: vs, L, o, w, h, hl => by
    simp only [List.length_cons] at hl
    have := Row.setCells vs (L.set o v) (o + 1) _ (h.set o v) (by simp; omega)
    have e : splice (L.set o v) (o + 1) vs = splice L o (v :: vs) := by
      have ho : o < L.length := by omega
      unfold splice
      have e1 : (L.set o v).take (o + 1) = L.take o ++ [v] := by
        rw [List.take_succ_eq_append_getElem (by simpa using ho), List.getElem_set_self, List.take_set_of_le (by omega)]
      rw [e1, List.drop_set_of_lt (by omega)]
      simp [Nat.add_assoc, Nat.add_comm 1]
    rw [e] at this
    exact this
/-- A slice of one's own that may begin within its block. -/
def KL (w : World) (base e : Nat) (v : Value) (vs : List Value) : Prop :=
  (v = .slice none 0 0 ∧ vs = []) ∨ ∃ g pre rest junk, v = .slice (some ⟨g, pre.length, none⟩) vs.length (vs.length + rest.length) ∧ base ≤ g ∧ Row w g e (pre ++ (vs ++ (rest ++ junk))) ∧ vs.length + rest.length ≤ maxLen
section
variable {w w1 : World} {base e : Nat} {v : Value} {vs : List Value}
theorem KL.nil (w : World) (base e : Nat) : KL w base e (.slice none 0 0) [] := .inl ⟨rfl, rfl⟩
theorem KL.kept (h : KL w base e v vs) {r : Option Nat} (hg : w.grownBy w1 r) (hne : v.ownBlock = none ∨ v.ownBlock ≠ r) : KL w1 base e v vs := by
  rcases h with h | ⟨g, pre, rest, junk, rfl, hb, hR, hm⟩
  · exact .inl h
  · refine .inr ⟨g, pre, rest, junk, rfl, hb, hR.grown hg ?_, hm⟩
    rcases hne with h | h
    · cases h
    · exact h
theorem KL.below (h : KL w base e v vs) (hb : Below w.heap.size w w1) : KL w1 base e v vs := h.kept (grown_below (B := 0) hb none) (by cases v.ownBlock <;> simp)
theorem KL.alloc (h : KL w base e v vs) (o : Obj) : KL (w.alloc o) base e v vs := h.below (below_alloc0 w o)
theorem KL.lt (h : KL w base e v vs) : ∀ k, v.ownBlock = some k → base ≤ k ∧ k < w.heap.size := by
  rcases h with ⟨rfl, _⟩ | ⟨g, pre, rest, junk, rfl, hb, hR, hm⟩
  · intro k hk; cases hk
  · intro k hk; cases hk; exact ⟨hb, hR.lt⟩
theorem KL.read (h : KL w base e v vs) : ∃ A c, v = .slice A vs.length c ∧ vs.length ≤ c ∧ Rd w A vs ∧ (A = none → c = 0) := by
  rcases h with ⟨rfl, rfl⟩ | ⟨g, pre, rest, junk, rfl, hb, hR, hm⟩
  · exact ⟨none, 0, rfl, Nat.le_refl _, Rd.nil _ _, fun _ => rfl⟩
  · refine ⟨_, _, rfl, by omega, Rd.of_row hR pre.length 0 (fun i hi => ?_), fun h => by cases h⟩
    rw [List.getElem?_append_right (by omega), Nat.add_sub_cancel_left, List.getElem?_append_left hi]
theorem KL.of_own (h : Own w base e v vs) : KL w base e v vs := by
  rcases h.block with ⟨rfl, rfl⟩ | ⟨g, rest, rfl, hb, hR, hm⟩
  · exact .inl ⟨rfl, rfl⟩
  · exact .inr ⟨g, [], rest, [], rfl, hb, by simpa using hR, hm⟩
end
theorem splice_mid {α : Type} (a b r : List α) (y x : α) : splice (a ++ (b ++ (y :: r))) (a.length + b.length) [x] = a ++ (b ++ (x :: r)) := by
  rw [← List.append_assoc, ← List.length_append, ← List.append_assoc]
  unfold splice
  rw [List.take_left]
  congr 1
  have h1 : (a ++ b).length + 1 - (a ++ b).length = 1 := by omega
  rw [List.length_cons, List.length_nil, Nat.zero_add, List.drop_append, List.drop_eq_nil_of_le (by omega), h1]
  simp
section
variable {P : Program}
theorem zeroCells_len (z : Value) (hz : z.cells.size = 1) (n : Nat) : (Builtin.zeroCells z.cells n).toList.length = n := by
  rw [Array.length_toList, size_zeroCells, hz, Nat.mul_one]
theorem run_kapp {W : World} {base t ty e bytes : Nat} {z : Value} (ht : P.underlying t = some (.slice e)) (hinfo : (P.info? e).map (fun i => (i.zero, i.size, i.bytes)) = some (some z, 1, bytes)) (hz : z.cells.size = 1) (hb0 : 0 < bytes)
    {v x : Value} {vs : List Value} {a : Addr} {c : Nat} (HO : KL W base e v vs) (HR : W.cell? a = some x) (h1 : x.oneCell' = true) (hbase : base ≤ W.heap.size) (hl : (vs.length + 1) * bytes ≤ 140737488355328) :
    ∃ v1 w1, (Builtin.append_ #[t, t] ty #[v, .slice (some a) 1 c]).run P W = .ok v1 w1 ∧ KL w1 base e v1 (vs ++ [x]) ∧ W.grownBy w1 v.ownBlock ∧ (v1.ownBlock = v.ownBlock ∨ v1.ownBlock = some W.heap.size) := by
  obtain ⟨i, hi, hzz⟩ := Option.map_eq_some_iff.1 hinfo
  simp only [Prod.mk.injEq] at hzz
  obtain ⟨hz0, hz1, hz2⟩ := hzz
  have hlen : vs.length + 1 ≤ 140737488355328 := Nat.le_trans (Nat.le_mul_of_pos_right _ hb0) hl
  have hS : ∀ W' : World, W'.cell? a = some x → W'.drew.cell? a = some x → Src P i.size t (.slice (some a) 1 c) 1 [x] W' := fun W' h _ => Src.ofSlice W' ht a 1 c [x] (by simp [hz1]) (fun j u hj => by
    cases j with
    | zero => simp at hj; subst hj; obtain ⟨b, o, sp⟩ := a; cases sp <;> simpa [Addr.add] using h
    | succ j => simp at hj) (by simpa using h1)
  have hs := hS W HR HR
  have grown : ∀ (A : Option Addr) (cap : Nat), cap < vs.length + 1 → (∀ j u, vs[j]? = some u → ∃ ad, A = some ad ∧ W.cell? (ad.add j) = some u) → (vs.length = 0 → True) →
      ∃ v1 w1, (Builtin.append_ #[t, t] ty #[.slice A vs.length cap, .slice (some a) 1 c]).run P W = .ok v1 w1 ∧ KL w1 base e v1 (vs ++ [x]) ∧ (∀ r, W.grownBy w1 r) ∧ v1.ownBlock = some W.heap.size := by
    intro A cap hc hrd _
    have hold : (Builtin.firstCells i.size vs.length (.slice A vs.length cap)).run P W.drew = .ok vs.toArray W.drew := by
      cases A with
      | none =>
        have : vs = [] := by
          cases vs with
          | nil => rfl
          | cons y l => obtain ⟨ad, h, _⟩ := hrd 0 y (by simp); cases h
        subst this
        exact run_firstCells_none W.drew i.size 0 0 cap
      | some ad => exact run_firstCells_some W.drew i.size vs.length ad vs.length cap vs (by simp [hz1]) (fun j u hj => by obtain ⟨ad', h, hcell⟩ := hrd j u hj; cases h; exact hcell)
    have hr := run_append_grow_src (P := P) W t t ty e i z ht hi hz0 A vs.length cap vs hold (.slice (some a) 1 c) 1 [x] hs hc (by omega) (by rw [hz2]; exact growslice_fits (by omega) hl)
    have hge := grownCap_ge W (vs.length + 1) cap e
    have hcm : grownCap W (vs.length + 1) cap e ≤ maxLen := grownCap_le_maxLen W (vs.length + 1) cap e (by unfold maxLen; omega)
    refine ⟨_, _, hr, .inr ⟨W.heap.size, [], (Builtin.zeroCells z.cells (grownCap W (vs.length + 1) cap e - (vs.length + 1))).toList, [], ?_, hbase, ?_, ?_⟩, fun r => ⟨rfl, rfl, rfl, by simp, fun k hk _ => Below.heap_alloc W.drew _ k hk⟩, rfl⟩
    · simp only [zeroCells_len z hz, List.length_append, List.length_cons, List.length_nil, Nat.zero_add, Nat.add_sub_cancel' hge]
    · have := Row.new W.drew e (vs ++ [x] ++ (Builtin.zeroCells z.cells (grownCap W (vs.length + 1) cap e - (vs.length + 1))).toList)
      simp only [List.nil_append, List.append_nil, ← List.append_assoc]
      have e2 : ((vs ++ [x]).toArray ++ Builtin.zeroCells z.cells (grownCap W (vs.length + 1) cap e - (vs.length + 1))) = (vs ++ [x] ++ (Builtin.zeroCells z.cells (grownCap W (vs.length + 1) cap e - (vs.length + 1))).toList).toArray := by
        apply Array.ext'; simp
      rw [e2]; exact this
    · simp only [zeroCells_len z hz, List.length_append, List.length_cons, List.length_nil, Nat.zero_add, Nat.add_sub_cancel' hge]; exact hcm
  rcases HO with ⟨rfl, rfl⟩ | ⟨g, pre, rest, junk, rfl, hb, hR, hm⟩
  · obtain ⟨v1, w1, h1, h2, h3, h4⟩ := grown none 0 (by simp) (fun j u hj => by simp at hj) (fun _ => trivial)
    exact ⟨v1, w1, h1, h2, h3 _, .inr h4⟩
  · cases rest with
    | nil =>
      obtain ⟨v1, w1, h1, h2, h3, h4⟩ := grown (some ⟨g, pre.length, none⟩) (vs.length + 0) (by omega) (fun j u hj => ⟨_, rfl, by
        rw [addr_add, hR.cell, List.getElem?_append_right (by omega), Nat.add_sub_cancel_left, List.getElem?_append_left (List.getElem?_eq_some_iff.1 hj).1]; exact hj⟩) (fun _ => trivial)
      exact ⟨v1, w1, h1, h2, h3 _, .inr h4⟩
    | cons y rest =>
      have hr := run_append_room_src (P := P) W t t ty e i ht hi g pre.length vs.length (vs.length + (y :: rest).length) (.slice (some a) 1 c) 1 [x] hs (by simp)
        (by intro j hj; simp at hj; subst hj; rw [hz1, hR.cell]; simp)
        (by intro j hj; exact hR.free _)
      rw [hz1, Nat.mul_one] at hr
      have hR2 := Row.setCells [x] _ (pre.length + vs.length) W hR (by simp; omega)
      have es : splice (pre ++ (vs ++ (y :: rest ++ junk))) (pre.length + vs.length) [x] = pre ++ ((vs ++ [x]) ++ (rest ++ junk)) := by
        have := splice_mid pre vs (rest ++ junk) y x
        simpa using this
      rw [es] at hR2
      refine ⟨_, _, hr, .inr ⟨g, pre, rest, junk, ?_, hb, hR2, ?_⟩, ?_, .inl rfl⟩
      · simp; omega
      · simp at hm ⊢; omega
      · exact ⟨rfl, rfl, rfl, by simp [World.setCells], fun k hk hne => World.heap_setCells_other W g _ [x] hk (fun e => hne (by rw [e]; rfl))⟩
theorem tape_setCells (g : Nat) : ∀ (vs : List Value) (o : Nat) (w : World), (w.setCells g o vs).tape = w.tape
  | [], _, _ => rfl
  | v :: vs, o, w => tape_setCells g vs (o + 1) (w.setCell ⟨g, o, none⟩ v)
theorem size_setCells (g : Nat) : ∀ (vs : List Value) (o : Nat) (w : World), (w.setCells g o vs).heap.size = w.heap.size
  | [], _, _ => rfl
  | v :: vs, o, w => by
    have := size_setCells g vs (o + 1) (w.setCell ⟨g, o, none⟩ v)
    rw [World.setCells, this]; simp
theorem splice_at {α : Type} (a b m : List α) : splice (a ++ b) a.length m = a ++ (m ++ b.drop m.length) := by
  unfold splice
  rw [List.take_left, List.drop_append, List.drop_eq_nil_of_le (by omega), Nat.add_sub_cancel_left]
  simp
/-- s[1:]. -/
theorem KL.cut1 {W : World} {base e : Nat} {A : Option Addr} {n c : Nat} {x : Value} {vs : List Value} (h : KL W base e (.slice A n c) (x :: vs)) : KL W base e (.slice (if c = 1 then A else A.map (·.add 1)) (n - 1) (c - 1)) vs := by
  rcases h with ⟨h, h2⟩ | ⟨g, pre, rest, junk, hv, hb, hR, hm⟩
  · cases h2
  · cases hv
    simp only [List.length_cons] at hm ⊢
    by_cases hc : vs.length + 1 + rest.length = 1
    · have h1 : vs = [] := List.eq_nil_of_length_eq_zero (by omega)
      have h2 : rest = [] := List.eq_nil_of_length_eq_zero (by omega)
      subst h1 h2
      refine .inr ⟨g, pre, [], x :: junk, ?_, hb, by simpa using hR, by simp [maxLen]⟩
      simp
    · rw [if_neg hc]
      refine .inr ⟨g, pre ++ [x], rest, junk, ?_, hb, by simpa using hR, by omega⟩
      simp [addr_add]
      try omega
/-- s[:i]. -/
theorem KL.upto {W : World} {base e : Nat} {A : Option Addr} {n c : Nat} {vs : List Value} (h : KL W base e (.slice A n c) vs) (i : Nat) (hi : i ≤ vs.length) : KL W base e (.slice A i c) (vs.take i) := by
  rcases h with ⟨h, h2⟩ | ⟨g, pre, rest, junk, hv, hb, hR, hm⟩
  · cases h; subst h2
    simp at hi; subst hi
    exact .inl ⟨rfl, by simp⟩
  · cases hv
    refine .inr ⟨g, pre, vs.drop i ++ rest, junk, ?_, hb, ?_, ?_⟩
    · simp; omega
    · have : vs.take i ++ (vs.drop i ++ rest ++ junk) = vs ++ (rest ++ junk) := by
        rw [List.append_assoc, ← List.append_assoc, List.take_append_drop]
      rw [this]; exact hR
    · simp; omega
/-- append(s[:i], s[i+1:]...). -/
theorem run_kdel {W : World} {base t ty e : Nat} (ht : P.underlying t = some (.slice e)) (hinfo : (P.info? e).map (·.size) = some 1)
    {A : Option Addr} {n c i : Nat} {vs : List Value} (h : KL W base e (.slice A n c) vs) (h1 : ∀ u ∈ vs, u.oneCell' = true) (hi : i + 1 < n) :
    ∃ w1, (Builtin.append_ #[t, t] ty #[.slice A i c, .slice (if c = i + 1 then A else A.map (·.add (i + 1))) (n - (i + 1)) (c - (i + 1))]).run P W = .ok (.slice A (n - 1) c) w1 ∧ KL w1 base e (.slice A (n - 1) c) (vs.take i ++ vs.drop (i + 1)) ∧ W.grownBy w1 (Value.ownBlock (.slice A n c)) := by
  obtain ⟨i0, hi0, hz1⟩ := Option.map_eq_some_iff.1 hinfo
  rcases h with ⟨h, h2⟩ | ⟨g, pre, rest, junk, hv, hb, hR, hm⟩
  · cases h; omega
  · cases hv
    rw [if_neg (by omega)]
    have hcell : ∀ j u, (vs.drop (i + 1))[j]? = some u → W.cell? ((⟨g, pre.length + (i + 1), none⟩ : Addr).add j) = some u := by
      intro j u hj
      rw [List.getElem?_drop] at hj
      have hlt := (List.getElem?_eq_some_iff.1 hj).1
      rw [addr_add, hR.cell, Nat.add_assoc, List.getElem?_append_right (by omega), Nat.add_sub_cancel_left, List.getElem?_append_left hlt]
      exact hj
    have hs : Src P i0.size t (.slice (some ⟨g, pre.length + (i + 1), none⟩) (vs.length - (i + 1)) (vs.length + rest.length - (i + 1))) (vs.length - (i + 1)) (vs.drop (i + 1)) W :=
      Src.ofSlice W ht _ _ _ _ (by simp [hz1]) hcell (fun u hu => h1 u (List.mem_of_mem_drop hu))
    have hr := run_append_room_src (P := P) W t t ty e i0 ht hi0 g pre.length i (vs.length + rest.length) _ _ _ hs (by omega)
      (by intro j hj; rw [List.length_drop] at hj; rw [hz1, hR.cell, List.getElem?_eq_getElem (by simp; omega)]; rfl)
      (by intro j hj; exact hR.free _)
    rw [hz1, Nat.mul_one] at hr
    have hR2 := Row.setCells (vs.drop (i + 1)) _ (pre.length + i) W hR (by simp; omega)
    have es : splice (pre ++ (vs ++ (rest ++ junk))) (pre.length + i) (vs.drop (i + 1)) = pre ++ ((vs.take i ++ vs.drop (i + 1)) ++ ((vs.drop i).drop (vs.length - (i + 1)) ++ rest ++ junk)) := by
      have e1 : pre ++ (vs ++ (rest ++ junk)) = (pre ++ vs.take i) ++ (vs.drop i ++ (rest ++ junk)) := by
        conv => lhs; rw [← List.take_append_drop i vs]
        simp only [List.append_assoc]
      have e2 : (pre ++ vs.take i).length = pre.length + i := by simp; omega
      rw [e1, ← e2, splice_at]
      simp only [List.append_assoc, List.length_drop]
      congr 3
      rw [List.drop_append, List.length_drop]
      have e3 : vs.length - (i + 1) - (vs.length - i) = 0 := by omega
      rw [e3]
      simp
    rw [es] at hR2
    refine ⟨_, ?_, .inr ⟨g, pre, (vs.drop i).drop (vs.length - (i + 1)) ++ rest, junk, ?_, hb, hR2, ?_⟩, ?_⟩
    · rw [show vs.length - 1 = i + (vs.length - (i + 1)) by omega]
      rw [Option.map_some, addr_add]
      exact hr
    · simp; omega
    · simp; omega
    · refine ⟨World.os_setCells _ _ _ _, ?_, World.output_setCells _ _ _ _, ?_, fun k hk hne => World.heap_setCells_other W g _ _ hk (fun e => hne (by rw [e]; rfl))⟩
      · exact tape_setCells _ _ _ _
      · exact Nat.le_of_eq (size_setCells _ _ _ _).symm
theorem walk_kapp {ops : Array Oper} {rest : List Oper} {o : Oper} {a : Act} {Q : Exit → Act → World → Prop} {W : World} {base t e bytes : Nat} {z : Value} (hgd : o.guard = none) (s x : Operand)
    (ho : o.op = .call { callee := .builtin .append, args := #[s, x], argTypes := #[t, t] })
    (ht : P.underlying t = some (.slice e)) (hinfo : (P.info? e).map (fun i => (i.zero, i.size, i.bytes)) = some (some z, 1, bytes)) (hz : z.cells.size = 1) (hb0 : 0 < bytes)
    {v y : Value} {vs : List Value} {ad : Addr} {c : Nat} (hs : a.eval s = v) (hx : a.eval x = .slice (some ad) 1 c) (HO : KL W base e v vs) (HR : W.cell? ad = some y) (h1 : y.oneCell' = true) (hbase : base ≤ W.heap.size) (hl : (vs.length + 1) * bytes ≤ 140737488355328)
    (h : ∀ v1 w1, KL w1 base e v1 (vs ++ [y]) → W.grownBy w1 v.ownBlock → (v1.ownBlock = v.ownBlock ∨ v1.ownBlock = some W.heap.size) → wpList P ops Q rest (a.put o.dst v1) w1) :
    wpList P ops Q (o :: rest) a W := by
  obtain ⟨v1, w1, hrun, h2, h3, h5⟩ := run_kapp (P := P) (ty := o.type) (c := c) ht hinfo hz hb0 HO HR h1 hbase hl
  refine wpList_plain hgd fun K hK => ?_
  unfold Oper.wp execOp
  simp only [ho, resolve, invoke, builtin, Sem.run_bind, Sem.run_pure, Result.andThen_ok, List.map_toArray, List.map_cons, List.map_nil, hs, hx, hrun]
  exact hK _ _ (h v1 w1 h2 h3 h5)
theorem walk_kdel {ops : Array Oper} {rest : List Oper} {o : Oper} {a : Act} {Q : Exit → Act → World → Prop} {W : World} {base t e : Nat} (hgd : o.guard = none) (s x : Operand)
    (ho : o.op = .call { callee := .builtin .append, args := #[s, x], argTypes := #[t, t] }) (ht : P.underlying t = some (.slice e)) (hinfo : (P.info? e).map (·.size) = some 1)
    {A : Option Addr} {n c i : Nat} {vs : List Value} (hs : a.eval s = .slice A i c) (hx : a.eval x = .slice (if c = i + 1 then A else A.map (·.add (i + 1))) (n - (i + 1)) (c - (i + 1))) (h : KL W base e (.slice A n c) vs) (h1 : ∀ u ∈ vs, u.oneCell' = true) (hi : i + 1 < n)
    (hK : ∀ w1, KL w1 base e (.slice A (n - 1) c) (vs.take i ++ vs.drop (i + 1)) → W.grownBy w1 (Value.ownBlock (.slice A n c)) → wpList P ops Q rest (a.put o.dst (.slice A (n - 1) c)) w1) :
    wpList P ops Q (o :: rest) a W := by
  obtain ⟨w1, hrun, h2, h3⟩ := run_kdel (P := P) (ty := o.type) ht hinfo h h1 hi
  refine wpList_plain hgd fun K hK' => ?_
  unfold Oper.wp execOp
  simp only [ho, resolve, invoke, builtin, Sem.run_bind, Sem.run_pure, Result.andThen_ok, List.map_toArray, List.map_cons, List.map_nil, hs, hx, hrun]
  exact hK' _ _ (hK w1 h2 h3)
theorem KL.ne_row {w : World} {base e g t : Nat} {v : Value} {vs us : List Value} (h : KL w base e v vs) (hR : Row w g t us) (ht : e ≠ t) : v.ownBlock ≠ some g := by
  rcases h with ⟨rfl, _⟩ | ⟨g', pre, rest, junk, rfl, hb, hR', hm⟩
  · intro h; cases h
  · intro h
    simp only [Value.ownBlock, Option.some.injEq] at h
    subst h
    have := hR.symm.trans hR'
    simp at this
    exact ht this.2.symm
theorem KL.ne_obj {w : World} {base e g : Nat} {v : Value} {vs : List Value} {o : Obj} (h : KL w base e v vs) (hR : w.heap[g]? = some o) (ho : ∀ cs t fr, o ≠ .cells cs t fr) : v.ownBlock ≠ some g := by
  rcases h with ⟨rfl, _⟩ | ⟨g', pre, rest, junk, rfl, hb, hR', hm⟩
  · intro h; cases h
  · intro h
    simp only [Value.ownBlock, Option.some.injEq] at h
    subst h
    have := hR.symm.trans hR'
    simp at this
    exact ho _ _ _ this
end
end Go.Proofs.YthgklpkkcaiehaaDoor
