/- What holds between the parts of an object that is parsed. Nothing here speaks of the program's text. Plain laws of the closing quotation mark. Nothing here speaks of the program. -/
import Derived.Test.YtbdmdajbdmdknaaDoorM3
import Derived.Test.YtbdmdajbdmdknaaDoorM1
import Derived.Lib.Bytealg
namespace Go.Proofs.YtbdmdajbdmdknaaDoor
open Go.RowKit
set_option linter.unusedVariables false
set_option linter.unusedSimpArgs false

/-- A value of one's own that was given out, and written to. -/
structure GotS (w : World) (C co : Nat) (VB : Option Nat) (n : Nat) (w3 : World) (vb cap : Nat) : Prop where
  cache : Cache w3 C co (some vb) (n + 1) cap
  alt : AltC w w3 (SC C co VB n)
  grew : Grew w VB n (some vb) (n + 1)
theorem Grew.below {w w1 : World} {VB VB' : Option Nat} {n n' : Nat} (h : Grew w1 VB n VB' n') (hs : w.heap.size ≤ w1.heap.size) : Grew w VB n VB' n' :=
  ⟨h.le, h.same.imp (fun e => e) (fun ⟨b, e, hb⟩ => ⟨b, e, Nat.le_trans hs hb⟩)⟩
theorem GotV.got {w w1 w2 : World} {C co n vb cap : Nat} {VB : Option Nat} (h : GotV w1 C co VB n w2 vb cap) (hB : Below w.heap.size w w1) : GotS w C co VB n w2 vb cap :=
  ⟨h.cache, (AltC.of_below hB _).trans h.alt (fun x y _ e => .inl e), h.grew.below hB.size⟩
theorem GotS.sets {w w2 w3 : World} {C co n vb cap : Nat} {VB : Option Nat} (h : GotS w C co VB n w2 vb cap) (hA : AltC w2 w3 (fun x y => x = vb ∧ 5 * n ≤ y ∧ y < 5 * n + 5)) (hs : ∀ k, k < 5 → ∃ v, Slot w3 vb (5 * n + k) v) : GotS w C co VB n w3 vb cap := by
  have hne : vb ≠ C := fun e => h.cache.ne (by rw [e])
  refine ⟨⟨h.cache.fld.alt hA (fun e => hne e.1.symm), h.cache.le, h.cache.nil, h.cache.ne, fun b hb => Nat.lt_of_lt_of_le (h.cache.lt b hb) hA.size, fun b hb j hj => ?_, fun b hb i hi hc => ?_⟩, h.alt.trans hA (fun x y hx e => ?_), h.grew⟩
  · cases hb
    by_cases hj2 : 5 * n ≤ j
    · obtain ⟨v, hv⟩ := hs (j - 5 * n) (by omega)
      rw [show 5 * n + (j - 5 * n) = j by omega] at hv
      exact ⟨v, hv⟩
    · obtain ⟨v, hv⟩ := h.cache.old vb rfl j hj
      exact ⟨v, hv.alt hA (fun e => by omega)⟩
  · cases hb
    exact (h.cache.spare vb rfl i hi hc).alt hA (fun y h1 h2 e => by omega)
  · obtain ⟨rfl, h1, h2⟩ := e
    rcases h.grew.same with e2 | ⟨b, e2, hb⟩
    · exact .inr ⟨e2.symm, h1⟩
    · cases e2; omega
theorem GotS.reg {w w3 : World} {C co n vb cap : Nat} {VB : Option Nat} (h : GotS w C co VB n w3 vb cap) (k : Nat) (hk : k < 5) : RegN w w3 C co VB n (some vb) (n + 1) vb (5 * n + k) := by
  refine ⟨h.cache.lt vb rfl, fun e => ?_, ?_⟩
  · rcases e with ⟨e, _⟩ | ⟨_, e⟩
    · exact h.cache.ne (by rw [e])
    · omega
  · rcases h.grew.same with e2 | ⟨b, e2, hb⟩
    · exact .inr (.inr ⟨e2.symm, by omega⟩)
    · cases e2; exact .inl hb
theorem GotS.below {w w3 w4 : World} {C co n vb cap : Nat} {VB : Option Nat} (h : GotS w C co VB n w3 vb cap) (hB : Below w3.heap.size w3 w4) : GotS w C co VB n w4 vb cap :=
  ⟨h.cache.alt (AltC.of_below hB (fun _ _ => False)) (fun e => e) (fun _ _ _ e => e), h.alt.trans (AltC.of_below hB (fun _ _ => False)) (fun _ _ _ e => e.elim), h.grew⟩

/-- What holds once the place of a further name is given out: k is the block of the names, m of them are whole. -/
structure OM (w : World) (C co : Nat) (VB : Option Nat) (n : Nat) (wr : World) (VBr : Option Nat) (nr : Nat) (bo oo k m kcap : Nat) (L : List (Bs × JV)) (ad : Nat → Nat × Nat) (G : Nat → Nat → Nat → Prop) : Prop where
  len : L.length = m
  grew : Grew w VB n VBr nr
  alt : AltC w wr (SC C co VB n)
  row : KRow wr bo oo (some k) (m + 1) kcap
  flag : Slot wr bo (oo + 1) (.bool false)
  typ : Slot wr bo (oo + 4) (.int .i64 1)
  obj : ∀ y, oo ≤ y → y < oo + 5 → RegN w wr C co VB n VBr nr bo y
  kge : w.heap.size ≤ k
  kC : k ≠ C
  kV : VBr ≠ some k
  kvs : ∀ i (h : i < L.length), Slot wr k (2 * i) (.string (bs L[i].1)) ∧ Slot wr k (2 * i + 1) (ptr (ad i))
  reg : ∀ i x y, i < L.length → G i x y → RegN w wr C co VB n VBr nr x y ∧ k ≠ x ∧ ¬ (x = bo ∧ oo ≤ y ∧ y < oo + 5)
  dis : ∀ i j x y, i < L.length → j < L.length → G i x y → G j x y → i = j
  rep : ∀ i (h : i < L.length), Rep wr (G i) L[i].2 (ad i).1 (ad i).2
structure OL (w : World) (C co : Nat) (VB : Option Nat) (n : Nat) (wr : World) (VBr : Option Nat) (nr : Nat) (bo oo : Nat) (K : Option Nat) (kcap : Nat) (L : List (Bs × JV)) (ad : Nat → Nat × Nat) (G : Nat → Nat → Nat → Prop) : Prop where
  grew : Grew w VB n VBr nr
  alt : AltC w wr (SC C co VB n)
  row : KRow wr bo oo K L.length kcap
  flag : Slot wr bo (oo + 1) (.bool false)
  typ : Slot wr bo (oo + 4) (.int .i64 1)
  obj : ∀ y, oo ≤ y → y < oo + 5 → RegN w wr C co VB n VBr nr bo y
  kge : ∀ k, K = some k → w.heap.size ≤ k ∧ k ≠ C ∧ VBr ≠ some k
  kvs : ∀ i (h : i < L.length), ∃ k, K = some k ∧ Slot wr k (2 * i) (.string (bs L[i].1)) ∧ Slot wr k (2 * i + 1) (ptr (ad i))
  reg : ∀ i x y, i < L.length → G i x y → RegN w wr C co VB n VBr nr x y ∧ K ≠ some x ∧ ¬ (x = bo ∧ oo ≤ y ∧ y < oo + 5)
  dis : ∀ i j x y, i < L.length → j < L.length → G i x y → G j x y → i = j
  rep : ∀ i (h : i < L.length), Rep wr (G i) L[i].2 (ad i).1 (ad i).2
section
variable {w wr w1 w2 : World} {C co n nr n2 capr bo oo k m kcap cap' : Nat} {VB VBr VB2 K : Option Nat} {L : List (Bs × JV)} {ad : Nat → Nat × Nat} {G : Nat → Nat → Nat → Prop}
/-- The cell that tells the slice of names is the object's own. -/
theorem OL.alt1 (h : OL w C co VB n wr VBr nr bo oo K kcap L ad G) {y : Nat} (hy : oo ≤ y ∧ y < oo + 5) (hb : bo < w.heap.size) : SC C co VB n bo y := by
  have := (h.obj y hy.1 hy.2).2.2
  rcases this with e | e
  · omega
  · exact e
theorem OL.mid (h : OL w C co VB n wr VBr nr bo oo K kcap L ad G) (hc : Cache wr C co VBr nr capr) (g : GotK wr bo oo K L.length w1 k cap') : OM w C co VB n w1 VBr nr bo oo k L.length cap' L ad G := by
  have hbo := h.row.fld.lt
  have hsz := g.alt.size
  have hk : w.heap.size ≤ k ∧ k ≠ C ∧ VBr ≠ some k := by
    rcases g.same with e | e
    · exact h.kge k e
    · have h1 := hc.fld.lt
      have h2 := h.alt.size
      exact ⟨by omega, by omega, fun e2 => by have := hc.lt k e2; omega⟩
  have later : ∀ {x y : Nat}, RegN w wr C co VB n VBr nr x y → RegN w w1 C co VB n VBr nr x y := fun r => RegN.later (Grew.refl wr VBr nr) hsz r
  refine ⟨rfl, h.grew, h.alt.trans g.alt (fun x y hx e => ?_), g.row, h.flag.alt g.alt (fun e => by omega), h.typ.alt g.alt (fun e => by omega), fun y h1 h2 => later (h.obj y h1 h2), hk.1, hk.2.1, hk.2.2, fun i hi => ?_, fun i x y hi hg => ?_, h.dis, fun i hi => ?_⟩
  · obtain ⟨rfl, rfl⟩ := e
    exact h.alt1 ⟨Nat.le_refl _, by omega⟩ hx
  · obtain ⟨q, hq, s1, s2⟩ := h.kvs i hi
    exact ⟨g.keep q hq _ _ (by omega) s1, g.keep q hq _ _ (by omega) s2⟩
  · obtain ⟨r1, r2, r3⟩ := h.reg i x y hi hg
    refine ⟨later r1, fun e => ?_, r3⟩
    rcases g.same with e2 | e2
    · exact r2 (by rw [e2, e])
    · have := r1.1; omega
  · refine (h.rep i hi).alt g.alt (fun x y hg e => ?_)
    obtain ⟨r1, r2, r3⟩ := h.reg i x y hi hg
    exact r3 ⟨e.1, by omega, by omega⟩
theorem OM.next (h : OM w C co VB n w1 VBr nr bo oo k m kcap L ad G) (hA : AltC w1 w2 (fun x y => SC C co VBr nr x y ∨ (x = k ∧ 2 * m ≤ y))) (hrow : ∀ j, j < 2 * kcap → ∃ v, Slot w2 k j v) (hG : Grew w1 VBr nr VB2 n2) : OM w C co VB n w2 VB2 n2 bo oo k m kcap L ad G := by
  have hbk : bo ≠ k := fun e => h.row.ne (by rw [e])
  have hobj : ∀ y, oo ≤ y → y < oo + 5 → ¬ (SC C co VBr nr bo y ∨ (bo = k ∧ 2 * m ≤ y)) := fun y h1 h2 e => by
    rcases e with e | e
    · exact (h.obj y h1 h2).2.1 e
    · exact hbk e.1
  have later : ∀ {x y : Nat}, RegN w w1 C co VB n VBr nr x y → RegN w w2 C co VB n VB2 n2 x y := fun r => RegN.later hG hA.size r
  have hk1 := h.row.lt k rfl
  refine ⟨h.len, h.grew.trans hG (h.alt.size), h.alt.trans hA (fun x y hx e => ?_), ⟨h.row.fld.alt hA (hobj oo (Nat.le_refl _) (by omega)), h.row.le, h.row.nil, h.row.ne, fun q hq => by cases hq; exact Nat.lt_of_lt_of_le hk1 hA.size, fun q hq j hj => by cases hq; exact hrow j hj⟩,
    h.flag.alt hA (hobj _ (by omega) (by omega)), h.typ.alt hA (hobj _ (by omega) (by omega)), fun y h1 h2 => later (h.obj y h1 h2), h.kge, h.kC, fun e => ?_, fun i hi => ?_, fun i x y hi hg => ?_, h.dis, fun i hi => ?_⟩
  · rcases e with e | e
    · exact h.grew.sc hx e
    · have := h.kge; omega
  · rcases hG.same with e2 | ⟨b, e2, hb⟩
    · exact h.kV (e2 ▸ e)
    · rw [e2] at e; cases e; omega
  · have hno : ∀ y, y < 2 * m → ¬ (SC C co VBr nr k y ∨ (k = k ∧ 2 * m ≤ y)) := fun y hy e => by
      rcases e with (⟨e, _⟩ | ⟨e, _⟩) | ⟨_, e⟩
      · exact h.kC e
      · exact h.kV e
      · omega
    have hl := h.len
    obtain ⟨s1, s2⟩ := h.kvs i hi
    exact ⟨s1.alt hA (hno _ (by omega)), s2.alt hA (hno _ (by omega))⟩
  · obtain ⟨r1, r2, r3⟩ := h.reg i x y hi hg
    exact ⟨later r1, r2, r3⟩
  · refine (h.rep i hi).alt hA (fun x y hg e => ?_)
    obtain ⟨r1, r2, r3⟩ := h.reg i x y hi hg
    rcases e with e | e
    · exact r1.2.1 e
    · exact r2 e.1.symm
/-- The new name and its value are laid. -/
theorem OM.done {w3 w4 : World} (h : OM w C co VB n w2 VB2 n2 bo oo k m kcap L ad G) (h3 : OM w C co VB n w3 VBr nr bo oo k m kcap L ad G) {x : Bs} {v : JV} {b o : Nat} (hx : Slot w2 k (2 * m) (.string (bs x))) (hv : Slot w2 k (2 * m + 1) (ptr (b, o)))
    (hG : Grew w3 VBr nr VB2 n2) (hs : w3.heap.size ≤ w4.heap.size) (hs2 : w4.heap.size ≤ w2.heap.size) (hR : Rep w2 (RegN w3 w4 C co VBr nr VB2 n2) v b o) :
    OL w C co VB n w2 VB2 n2 bo oo (some k) kcap (L ++ [(x, v)]) (fun i => if i = m then (b, o) else ad i) (fun i => if i = m then RegN w3 w4 C co VBr nr VB2 n2 else G i) := by
  have hl := h.len
  have hll : (L ++ [(x, v)]).length = m + 1 := by simp [hl]
  have hnew : ∀ p q, RegN w3 w4 C co VBr nr VB2 n2 p q → RegN w w2 C co VB n VB2 n2 p q ∧ k ≠ p ∧ ¬ (p = bo ∧ oo ≤ q ∧ q < oo + 5) := fun p q r => by
    refine ⟨RegN.later (Grew.refl w4 VB2 n2) hs2 (RegN.earlier h3.grew h3.alt.size r), fun e => ?_, fun e => ?_⟩
    · subst e
      rcases r.2.2 with e2 | (⟨e2, _⟩ | ⟨e2, _⟩)
      · have := h3.row.lt k rfl; omega
      · exact h3.kC e2
      · exact h3.kV e2
    · obtain ⟨rfl, h1, h2⟩ := e
      have ho := h3.obj q h1 h2
      rcases r.2.2 with e2 | e2
      · have := ho.1; omega
      · exact ho.2.1 e2
  have hold : ∀ i, i < L.length → ∀ p q, G i p q → ¬ RegN w3 w4 C co VBr nr VB2 n2 p q := fun i hi p q hg r => by
    have r1 := (h3.reg i p q hi hg).1
    rcases r.2.2 with e2 | e2
    · have := r1.1; omega
    · exact r1.2.1 e2
  refine ⟨h.grew, h.alt, by rw [hll]; exact h.row, h.flag, h.typ, h.obj, fun q hq => by cases hq; exact ⟨h.kge, h.kC, h.kV⟩, fun i hi => ?_, fun i p q hi hg => ?_, fun i j p q hi hj h1 h2 => ?_, fun i hi => ?_⟩
  · rw [hll] at hi
    refine ⟨k, rfl, ?_⟩
    by_cases e : i = m
    · subst e
      rw [List.getElem_append_right (by omega), if_pos rfl]
      simp only [hl, Nat.sub_self, List.getElem_cons_zero]
      exact ⟨hx, hv⟩
    · rw [List.getElem_append_left (by omega), if_neg e]
      exact h.kvs i (by omega)
  · rw [hll] at hi
    by_cases e : i = m
    · rw [if_pos e] at hg
      obtain ⟨a1, a2, a3⟩ := hnew p q hg
      exact ⟨a1, fun e2 => a2 (by cases e2; rfl), a3⟩
    · rw [if_neg e] at hg
      obtain ⟨a1, a2, a3⟩ := h.reg i p q (by omega) hg
      exact ⟨a1, fun e2 => a2 (by cases e2; rfl), a3⟩
  · rw [hll] at hi hj
    by_cases e : i = m <;> by_cases e2 : j = m
    · omega
    · rw [if_pos e] at h1; rw [if_neg e2] at h2
      exact (hold j (by omega) p q h2 h1).elim
    · rw [if_neg e] at h1; rw [if_pos e2] at h2
      exact (hold i (by omega) p q h1 h2).elim
    · rw [if_neg e] at h1; rw [if_neg e2] at h2
      exact h.dis i j p q (by omega) (by omega) h1 h2
  · rw [hll] at hi
    by_cases e : i = m
    · subst e
      simp only [if_true]
      rw [List.getElem_append_right (by omega)]
      simp only [hl, Nat.sub_self, List.getElem_cons_zero]
      exact hR
    · simp only [if_neg e]
      rw [List.getElem_append_left (by omega)]
      exact h.rep i (by omega)
/-- The object is whole. -/
theorem OL.whole (h : OL w C co VB n wr VBr nr bo oo K kcap L ad G) : Rep wr (RegN w wr C co VB n VBr nr) (.obj L) bo oo := by
  refine .obj K kcap ad G ⟨h.obj oo (Nat.le_refl _) (by omega), h.row.fld⟩ h.row.le ⟨h.obj _ (by omega) (by omega), h.flag⟩ ⟨h.obj _ (by omega) (by omega), h.typ⟩ (fun k hk e => h.row.ne (by rw [hk, e])) (fun i hi => ?_) (fun i x y hi hg => h.reg i x y hi hg) h.dis h.rep
  obtain ⟨k, hk, s1, s2⟩ := h.kvs i hi
  obtain ⟨a1, a2, a3⟩ := h.kge k hk
  have hreg : ∀ y, RegN w wr C co VB n VBr nr k y := fun y => ⟨h.row.lt k hk, fun e => by
    rcases e with ⟨e, _⟩ | ⟨e, _⟩
    · exact a2 e
    · exact a3 e, .inl a1⟩
  exact ⟨k, hk, ⟨hreg _, s1⟩, ⟨hreg _, s2⟩⟩
end
end Go.Proofs.YtbdmdajbdmdknaaDoor
namespace Go.Proofs.YtbdmdajbdmdknaaDoor
set_option linter.unusedVariables false
set_option linter.unusedSimpArgs false

theorem idx_cases : ∀ (l : Bs), (Go.Lib.indexByte l 34 = -1 ∧ (34 : UInt8) ∉ l) ∨ ∃ x y : Bs, l = x ++ 34 :: y ∧ (34 : UInt8) ∉ x ∧ Go.Lib.indexByte l 34 = (x.length : Int)
  | [] => .inl ⟨rfl, by simp⟩
  | c :: l => by
    unfold Go.Lib.indexByte
    by_cases hc : c = 34
    · subst hc
      exact .inr ⟨[], l, rfl, by simp, by simp⟩
    · have hb : (c == 34) = false := beq_eq_false_iff_ne.2 hc
      rw [hb]
      rcases idx_cases l with ⟨h1, h2⟩ | ⟨x, y, rfl, h2, h3⟩
      · exact .inl ⟨by rw [h1]; rfl, by simp [h2]; exact fun e => hc e.symm⟩
      · refine .inr ⟨c :: x, y, rfl, by simp [h2]; exact fun e => hc e.symm, ?_⟩
        rw [h3]
        have hn : ((x.length : Int) == -1) = false := beq_eq_false_iff_ne.2 (by omega)
        rw [hn]
        simp
/-- Whether the next byte is escaped, behind bytes without a quotation mark. -/
def stS : Bool → Bs → Bool
  | e, [] => e
  | true, _ :: x => stS false x
  | false, c :: x => stS (c == 92) x
theorem rawS_t (c : UInt8) (l : Bs) : rawS true (c :: l) = (rawS false l).map fun p => (c :: p.1, p.2) := rfl
theorem rawS_f (c : UInt8) (l : Bs) : rawS false (c :: l) = if c = 34 then some ([], l) else (rawS (c == 92) l).map fun p => (c :: p.1, p.2) := rfl
theorem stS_t (c : UInt8) (l : Bs) : stS true (c :: l) = stS false l := rfl
theorem stS_f (c : UInt8) (l : Bs) : stS false (c :: l) = stS (c == 92) l := rfl
theorem rawS_pass : ∀ (e : Bool) (x r : Bs), (34 : UInt8) ∉ x → rawS e (x ++ r) = (rawS (stS e x) r).map fun p => (x ++ p.1, p.2)
  | e, [], r, _ => by cases e <;> (unfold stS; rw [List.nil_append]; cases rawS _ r <;> rfl)
  | true, c :: x, r, h => by
    have h2 : (34 : UInt8) ∉ x := fun hm => h (List.mem_cons_of_mem _ hm)
    rw [List.cons_append, rawS_t, stS_t, rawS_pass false x r h2]
    cases rawS (stS false x) r <;> rfl
  | false, c :: x, r, h => by
    have h2 : (34 : UInt8) ∉ x := fun hm => h (List.mem_cons_of_mem _ hm)
    have hc : c ≠ 34 := fun e => h (by rw [e]; exact List.mem_cons_self)
    rw [List.cons_append, rawS_f, stS_f, if_neg hc, rawS_pass (c == 92) x r h2]
    cases rawS (stS (c == 92) x) r <;> rfl
theorem stS_app : ∀ (x y : Bs) (e : Bool), stS e (x ++ y) = stS (stS e x) y
  | [], y, e => by cases e <;> rfl
  | c :: x, y, true => by rw [List.cons_append, stS_t, stS_t]; exact stS_app x y false
  | c :: x, y, false => by rw [List.cons_append, stS_f, stS_f]; exact stS_app x y (c == 92)
theorem stS_rep : ∀ (n : Nat), stS false (List.replicate n 92) = decide (n % 2 = 1)
  | 0 => rfl
  | 1 => rfl
  | n + 2 => by
    rw [List.replicate_succ, List.replicate_succ]
    show stS true (92 :: List.replicate n 92) = _
    show stS false (List.replicate n 92) = _
    rw [stS_rep n]
    congr 1
    rw [Nat.add_mod_right]
theorem stS_last {x : Bs} {c : UInt8} (hc : c ≠ 92) : stS false (x ++ [c]) = false := by
  rw [stS_app]
  cases stS false x
  · show (c == 92) = false
    exact beq_eq_false_iff_ne.2 hc
  · rfl
/-- The bytes from place i on are backslashes, the one ahead of them is none. -/
structure TailS (x : Bs) (i : Nat) : Prop where
  le : i ≤ x.length
  all : ∀ j (h : j < x.length), i ≤ j → x[j] = 92
  no : ∀ (h : i - 1 < x.length), 0 < i → x[i - 1] ≠ 92
theorem TailS.st {x : Bs} {i : Nat} (h : TailS x i) : stS false x = decide ((x.length - i) % 2 = 1) := by
  have e : x = x.take i ++ List.replicate (x.length - i) 92 := by
    conv => lhs; rw [← List.take_append_drop i x]
    congr 1
    refine List.eq_replicate_of_mem (fun b hb => ?_) |>.trans (by rw [List.length_drop])
    obtain ⟨j, hj, rfl⟩ := List.mem_iff_getElem.1 hb
    rw [List.getElem_drop]
    rw [List.length_drop] at hj
    exact h.all _ (by omega) (by omega)
  have h0 : stS false (x.take i) = false := by
    rcases Nat.eq_zero_or_pos i with hi | hi
    · subst hi; rfl
    · have hle := h.le
      have hl : i - 1 < x.length := by omega
      have e2 : x.take i = x.take (i - 1) ++ [x[i - 1]] := by
        conv => lhs; rw [show i = i - 1 + 1 by omega]
        rw [List.take_succ_eq_append_getElem hl]
      rw [e2]
      exact stS_last (h.no hl hi)
  conv => lhs; rw [e]
  rw [stS_app, h0, stS_rep]
theorem rawS_even {x y : Bs} {i : Nat} (h : TailS x i) (hx : (34 : UInt8) ∉ x) (he : (x.length - i) % 2 = 0) : rawS false (x ++ 34 :: y) = some (x, y) := by
  rw [rawS_pass _ _ _ hx, h.st, decide_eq_false (by omega)]
  simp [rawS]
theorem rawS_odd {x y : Bs} {i : Nat} (h : TailS x i) (hx : (34 : UInt8) ∉ x) (he : (x.length - i) % 2 = 1) : rawS false (x ++ 34 :: y) = (rawS false y).map fun p => (x ++ 34 :: p.1, p.2) := by
  rw [rawS_pass _ _ _ hx, h.st, decide_eq_true he]
  rw [rawS_t]
  cases rawS false y <;> rfl
theorem rawS_none : ∀ (e : Bool) (l : Bs), (34 : UInt8) ∉ l → rawS e l = none := by
  intro e l h
  have := rawS_pass e l [] h
  rw [List.append_nil] at this
  rw [this]
  cases stS e l <;> rfl
end Go.Proofs.YtbdmdajbdmdknaaDoor
