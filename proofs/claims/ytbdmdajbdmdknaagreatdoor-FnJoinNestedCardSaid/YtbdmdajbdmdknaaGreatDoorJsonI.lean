/- An array is parsed, if its values are. -/
import Derived.Test.YtbdmdajbdmdknaaGreatDoorM14
namespace Go.Proofs.YtbdmdajbdmdknaaGreatDoor
open Go.RowKit
set_option linter.unusedVariables false
set_option linter.unusedSimpArgs false

def ptrs (ad : Nat → Nat × Nat) (m : Nat) : List Value := (List.range m).map fun i => ptr (ad i)
theorem ptrs_len (ad : Nat → Nat × Nat) (m : Nat) : (ptrs ad m).length = m := by simp [ptrs]
theorem ptrs_one (ad : Nat → Nat × Nat) (m : Nat) : ∀ u ∈ ptrs ad m, u.oneCell' = true := by
  intro u hu
  obtain ⟨i, _, rfl⟩ := List.mem_map.1 hu
  rfl
theorem AltC.own {w w1 : World} {S : Nat → Nat → Prop} {base e : Nat} {v : Value} {vs : List Value} (h : AltC w w1 S) (hk : Own w base e v vs) (hg : ∀ i, v.ownBlock = some i → ∀ o, ¬ S i o) : Own w1 base e v vs := by
  rcases hk.block with ⟨rfl, rfl⟩ | ⟨g, rest, rfl, hb, hR, hm⟩
  · exact Own.nil _ _ _
  · exact Own.of_row ((h.block g hR.lt (hg g rfl)).trans hR) hb rfl hm
/-- What holds ahead of each element. -/
structure AL (w : World) (C co : Nat) (VB : Option Nat) (n : Nat) (wr : World) (VBr : Option Nat) (nr : Nat) (bo oo : Nat) (va : Value) (L : List JV) (ad : Nat → Nat × Nat) (G : Nat → Nat → Nat → Prop) : Prop where
  grew : Grew w VB n VBr nr
  alt : AltC w wr (SC C co VB n)
  fld : Slot wr bo (oo + 2) va
  own : Own wr w.heap.size 95 va (ptrs ad L.length)
  typ : Slot wr bo (oo + 4) (.int .i64 2)
  obj : ∀ y, oo ≤ y → y < oo + 5 → RegN w wr C co VB n VBr nr bo y
  blk : ∀ k, va.ownBlock = some k → k ≠ C ∧ VBr ≠ some k ∧ k ≠ bo
  reg : ∀ i x y, i < L.length → G i x y → RegN w wr C co VB n VBr nr x y ∧ va.ownBlock ≠ some x ∧ ¬ (x = bo ∧ oo ≤ y ∧ y < oo + 5)
  rep : ∀ i (h : i < L.length), Rep wr (G i) L[i] (ad i).1 (ad i).2
section
variable {w wr w4 : World} {C co n nr n2 cap2 bo oo : Nat} {VB VBr VB2 : Option Nat} {va : Value} {L : List JV} {ad : Nat → Nat × Nat} {G : Nat → Nat → Nat → Prop}
/-- Behind the parse of a further value. -/
theorem AL.parsed (h : AL w C co VB n wr VBr nr bo oo va L ad G) (hA : AltC wr w4 (SC C co VBr nr)) (hG : Grew wr VBr nr VB2 n2) : AL w C co VB n w4 VB2 n2 bo oo va L ad G := by
  have hobj : ∀ y, oo ≤ y → y < oo + 5 → ¬ SC C co VBr nr bo y := fun y h1 h2 => (h.obj y h1 h2).2.1
  have later : ∀ {x y : Nat}, RegN w wr C co VB n VBr nr x y → RegN w w4 C co VB n VB2 n2 x y := fun r => RegN.later hG hA.size r
  refine ⟨h.grew.trans hG h.alt.size, h.alt.trans hA (fun x y hx e => h.grew.sc hx e), h.fld.alt hA (hobj _ (by omega) (by omega)), hA.own h.own (fun k hk o e => ?_), h.typ.alt hA (hobj _ (by omega) (by omega)), fun y h1 h2 => later (h.obj y h1 h2), fun k hk => ?_, fun i x y hi hg => ?_, fun i hi => (h.rep i hi).alt hA (fun x y hg => ((h.reg i x y hi hg).1).2.1)⟩
  · rcases e with ⟨e, _⟩ | ⟨e, _⟩
    · exact (h.blk k hk).1 e
    · exact (h.blk k hk).2.1 e
  · refine ⟨(h.blk k hk).1, fun e => ?_, (h.blk k hk).2.2⟩
    rcases hG.same with e2 | ⟨b, e2, hb⟩
    · exact (h.blk k hk).2.1 (e2 ▸ e)
    · rw [e2] at e; cases e
      have := (h.own.lt k hk).2; omega
  · obtain ⟨r1, r2, r3⟩ := h.reg i x y hi hg
    exact ⟨later r1, r2, r3⟩
theorem ptrs_snoc (ad : Nat → Nat × Nat) (m : Nat) (p : Nat × Nat) : ptrs (fun i => if i = m then p else ad i) (m + 1) = ptrs ad m ++ [ptr p] := by
  unfold ptrs
  rw [List.range_succ, List.map_append]
  congr 1
  · apply List.map_congr_left
    intro i hi
    show ptr (if i = m then p else ad i) = _
    rw [if_neg (by have := List.mem_range.1 hi; omega)]
  · simp
/-- The value is put behind the others. -/
theorem AL.app {w6 : World} {v : JV} {b2 o2 : Nat} {v1 : Value} {x : Obj} (h5 : AL w C co VB n wr VBr nr bo oo va L ad G) (hA : AltC wr w4 (SC C co VBr nr)) (hG : Grew wr VBr nr VB2 n2) (hR : Rep w4 (RegN wr w4 C co VBr nr VB2 n2) v b2 o2) (hC : Cache w4 C co VB2 n2 cap2)
    (hO : Own w6 w.heap.size 95 v1 (ptrs ad L.length ++ [ptr (b2, o2)])) (hg : (w4.alloc x).grownBy w6 va.ownBlock) (hv : v1.ownBlock = va.ownBlock ∨ v1.ownBlock = some (w4.alloc x).heap.size) :
    AL w C co VB n (w6.setCell ⟨bo, oo + 2, none⟩ v1) VB2 n2 bo oo v1 (L ++ [v]) (fun i => if i = L.length then (b2, o2) else ad i) (fun i => if i = L.length then RegN wr w4 C co VBr nr VB2 n2 else G i) ∧ Cache (w6.setCell ⟨bo, oo + 2, none⟩ v1) C co VB2 n2 cap2 ∧ Slot w6 bo (oo + 2) va := by
  have h := h5.parsed hA hG
  have hB4 := below_alloc0 w4 x
  have hsz5 : (w4.alloc x).heap.size = w4.heap.size + 1 := by simp
  have a46 : AltC w4 w6 (fun p _ => some p = va.ownBlock) := (AltC.of_below hB4 (fun _ _ => False)).mono (fun _ _ _ e => e.elim) |>.trans (AltC.of_grown hg) (fun _ _ _ e => e)
  have hbo := (h.obj oo (Nat.le_refl _) (by omega)).1
  have s6 : Slot w6 bo (oo + 2) va := h.fld.alt a46 (fun e => (h.blk bo e.symm).2.2 rfl)
  have a67 := AltC.set w6 bo (oo + 2) v1
  have a47 : AltC w4 (w6.setCell ⟨bo, oo + 2, none⟩ v1) (fun p q => some p = va.ownBlock ∨ (p = bo ∧ q = oo + 2)) := (a46.mono (fun _ _ _ e => .inl e)).trans a67 (fun _ _ _ e => .inr e)
  have hnb : ∀ k, v1.ownBlock = some k → k ≠ C ∧ VB2 ≠ some k ∧ k ≠ bo := fun k hk => by
    rcases hv with e | e
    · exact h.blk k (e ▸ hk)
    · rw [e] at hk
      cases hk
      rw [hsz5]
      exact ⟨by have := hC.fld.lt; omega, fun e2 => by have := hC.lt _ e2; omega, by omega⟩
  have later : ∀ {p q : Nat}, RegN w w4 C co VB n VB2 n2 p q → RegN w (w6.setCell ⟨bo, oo + 2, none⟩ v1) C co VB n VB2 n2 p q := fun r => RegN.later (Grew.refl w4 VB2 n2) a47.size r
  have hnov : ∀ p, p < w4.heap.size → va.ownBlock ≠ some p → v1.ownBlock ≠ some p := fun p hp hne e => by
    rcases hv with e2 | e2
    · exact hne (e2 ▸ e)
    · rw [e2] at e; cases e; rw [hsz5] at hp; omega
  have hnew : ∀ p q, RegN wr w4 C co VBr nr VB2 n2 p q → RegN w w4 C co VB n VB2 n2 p q ∧ va.ownBlock ≠ some p ∧ ¬ (p = bo ∧ oo ≤ q ∧ q < oo + 5) := fun p q r => by
    refine ⟨RegN.earlier h5.grew h5.alt.size r, fun e => ?_, fun e => ?_⟩
    · rcases r.2.2 with e2 | (⟨e2, _⟩ | ⟨e2, _⟩)
      · have := (h5.own.lt p e).2; omega
      · exact (h5.blk p e).1 e2
      · exact (h5.blk p e).2.1 e2
    · obtain ⟨rfl, h1, h2⟩ := e
      have ho := h5.obj q h1 h2
      rcases r.2.2 with e2 | e2
      · have := ho.1; omega
      · exact ho.2.1 e2
  have hCn : ∀ p, va.ownBlock = some p → p ≠ C ∧ VB2 ≠ some p := fun p hp => ⟨(h.blk p hp).1, (h.blk p hp).2.1⟩
  have hll : (L ++ [v]).length = L.length + 1 := by simp
  refine ⟨⟨h.grew, (h.alt.trans a47 (fun p q hp e => ?_)), s6.set v1, ?_, h.typ.alt a47 (fun e => ?_), fun y h1 h2 => later (h.obj y h1 h2), hnb, fun i p q hi hgg => ?_, fun i hi => ?_⟩, ?_, s6⟩
  · rcases e with e | ⟨rfl, rfl⟩
    · have := (h.own.lt p e.symm).1; omega
    · rcases (h.obj (oo + 2) (by omega) (by omega)).2.2 with e2 | e2
      · omega
      · exact e2
  · rw [hll, ptrs_snoc]
    exact a67.own hO (fun k hk o e => (hnb k hk).2.2 e.1)
  · rcases e with e | ⟨_, e⟩
    · exact (h.blk bo e.symm).2.2 rfl
    · omega
  · rw [hll] at hi
    by_cases e : i = L.length
    · rw [if_pos e] at hgg
      obtain ⟨a1, a2, a3⟩ := hnew p q hgg
      exact ⟨later a1, hnov p a1.1 a2, a3⟩
    · rw [if_neg e] at hgg
      obtain ⟨a1, a2, a3⟩ := h.reg i p q (by omega) hgg
      exact ⟨later a1, hnov p a1.1 a2, a3⟩
  · rw [hll] at hi
    by_cases e : i = L.length
    · subst e
      simp only [if_true]
      rw [List.getElem_append_right (by omega)]
      simp only [Nat.sub_self, List.getElem_cons_zero]
      refine hR.alt a47 (fun p q r e => ?_)
      obtain ⟨_, a2, a3⟩ := hnew p q r
      rcases e with e | ⟨e1, e2⟩
      · exact a2 e.symm
      · exact a3 ⟨e1, by omega, by omega⟩
    · simp only [if_neg e]
      rw [List.getElem_append_left (by omega)]
      refine (h.rep i (by omega)).alt a47 (fun p q hgg e2 => ?_)
      obtain ⟨_, a2, a3⟩ := h.reg i p q (by omega) hgg
      rcases e2 with e2 | ⟨e3, e4⟩
      · exact a2 e2.symm
      · exact a3 ⟨e3, by omega, by omega⟩
  · have c6 : Cache w6 C co VB2 n2 cap2 := hC.alt a46 (fun e => (hCn C e.symm).1 rfl) (fun b y hb e => (hCn b e.symm).2 hb)
    refine ⟨c6.fld.alt a67 (fun e => ?_), c6.le, c6.nil, c6.ne, fun b hb => Nat.lt_of_lt_of_le (c6.lt b hb) a67.size, fun b hb j hj => ?_, fun b hb i hi hic => (c6.spare b hb i hi hic).alt a67 (fun y hy1 hy2 e => ?_)⟩
    · exact (h.obj (oo + 2) (by omega) (by omega)).2.1 (.inl ⟨e.1.symm, e.2.symm⟩)
    · by_cases e : b = bo ∧ j = oo + 2
      · obtain ⟨rfl, rfl⟩ := e; exact ⟨_, s6.set v1⟩
      · obtain ⟨u, hu⟩ := c6.old b hb j hj
        exact ⟨u, hu.alt a67 e⟩
    · exact (h.obj (oo + 2) (by omega) (by omega)).2.1 (.inr ⟨by rw [hb, e.1], by omega⟩)
theorem AL.start {w3 : World} {vb cap : Nat} (h : GotS w C co VB n w3 vb cap) (s2 : Slot w3 vb (5 * n + 2) (.slice none 0 0)) (s4 : Slot w3 vb (5 * n + 4) (.int .i64 2)) (ad : Nat → Nat × Nat) (G : Nat → Nat → Nat → Prop) :
    AL w C co VB n w3 (some vb) (n + 1) vb (5 * n) (.slice none 0 0) [] ad G :=
  ⟨h.grew, h.alt, s2, Own.nil _ _ _, s4, fun y h1 h2 => by
    have := h.reg (y - 5 * n) (by omega)
    rwa [show 5 * n + (y - 5 * n) = y by omega] at this, fun k e => (by cases e), fun i x y hi => (by simp at hi), fun i hi => (by simp at hi)⟩
theorem AL.whole (h : AL w C co VB n wr VBr nr bo oo va L ad G) : Rep wr (RegN w wr C co VB n VBr nr) (.arr L) bo oo := by
  have key : ∃ A c, va = .slice A L.length c ∧ L.length ≤ c ∧ RdF wr (RegN w wr C co VB n VBr nr) A (ptrs ad L.length) := by
    rcases h.own.block with ⟨rfl, h0⟩ | ⟨g, rest, hv, hb, hR, hm⟩
    · have hl : L.length = 0 := by have := congrArg List.length h0; rwa [ptrs_len] at this
      rw [hl]
      exact ⟨none, 0, rfl, Nat.le_refl _, fun i v hv => by simp [ptrs] at hv⟩
    · rw [ptrs_len] at hv
      obtain ⟨a1, a2, a3⟩ := h.blk g (by rw [hv]; rfl)
      refine ⟨_, _, hv, by omega, fun i v hi => ⟨g, 0, rfl, ⟨hR.lt, fun e => ?_, .inl hb⟩, Slot.of_row hR _ ?_⟩⟩
      · rcases e with ⟨e, _⟩ | ⟨e, _⟩
        · exact a1 e
        · exact a2 e
      · have hlt := (List.getElem?_eq_some_iff.1 hi).1
        rw [Nat.zero_add, List.getElem?_append_left hlt, hi]
  obtain ⟨A, c, hv, hc, hrd⟩ := key
  exact .arr A c ad ⟨h.obj _ (by omega) (by omega), hv ▸ h.fld⟩ hc ⟨h.obj _ (by omega) (by omega), h.typ⟩ hrd (fun i hi => (h.rep i hi).mono (fun x y hg => (h.reg i x y hi hg).1))
end
end Go.Proofs.YtbdmdajbdmdknaaGreatDoor
