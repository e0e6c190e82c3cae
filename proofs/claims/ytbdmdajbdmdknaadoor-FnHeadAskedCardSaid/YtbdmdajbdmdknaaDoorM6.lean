/- An array is parsed, if its values are. parseArray, if parseValue is as it should be. parseValue, at every text. parseValue, at every text. -/
import Derived.Test.YtbdmdajbdmdknaaDoorM5
import Derived.Test.YtbdmdajbdmdknaaDoorJsonH
namespace Go.Proofs.YtbdmdajbdmdknaaDoor
open Go.RowKit
set_option linter.unusedVariables false
set_option linter.unusedSimpArgs false

def ptrs (ad : Nat → Nat × Nat) (m : Nat) : List Value := (List.range m).map fun i => ptr (ad i)
theorem ptrs_len (ad : Nat → Nat × Nat) (m : Nat) : (ptrs ad m).length = m := by simp [ptrs]
theorem ptrs_one (ad : Nat → Nat × Nat) (m : Nat) : ∀ u ∈ ptrs ad m, u.oneCell' = true := by
  intro u hu
  obtain ⟨i, _, rfl⟩ := List.mem_map.1 hu
  rfl
theorem AltC.own {w w1 : World} {S : Nat → Nat → Prop} {base e : Nat} {v : Value} {vs : List Value} (h : AltC w w1 S) (hk : Own w base e v vs) (hg : ∀ i, v.ownBlock = some i → ∀ o, ¬ S i o) : Own w1 base e v vs := by
  rcases hk.block with ⟨rfl, rfl⟩ | ⟨g, rest, rfl, hb, hR, hm⟩
  · exact Own.nil _ _ _
  · exact Own.of_row ((h.block g hR.lt (hg g rfl)).trans hR) hb rfl hm
/-- What holds ahead of each element. -/
structure AL (w : World) (C co : Nat) (VB : Option Nat) (n : Nat) (wr : World) (VBr : Option Nat) (nr : Nat) (bo oo : Nat) (va : Value) (L : List JV) (ad : Nat → Nat × Nat) (G : Nat → Nat → Nat → Prop) : Prop where
  grew : Grew w VB n VBr nr
  alt : AltC w wr (SC C co VB n)
  fld : Slot wr bo (oo + 2) va
  own : Own wr w.heap.size 89 va (ptrs ad L.length)
  typ : Slot wr bo (oo + 4) (.int .i64 2)
  obj : ∀ y, oo ≤ y → y < oo + 5 → RegN w wr C co VB n VBr nr bo y
  blk : ∀ k, va.ownBlock = some k → k ≠ C ∧ VBr ≠ some k ∧ k ≠ bo
  reg : ∀ i x y, i < L.length → G i x y → RegN w wr C co VB n VBr nr x y ∧ va.ownBlock ≠ some x ∧ ¬ (x = bo ∧ oo ≤ y ∧ y < oo + 5)
  rep : ∀ i (h : i < L.length), Rep wr (G i) L[i] (ad i).1 (ad i).2
section
variable {w wr w4 : World} {C co n nr n2 cap2 bo oo : Nat} {VB VBr VB2 : Option Nat} {va : Value} {L : List JV} {ad : Nat → Nat × Nat} {G : Nat → Nat → Nat → Prop}
/-- Behind the parse of a further value. -/
theorem AL.parsed (h : AL w C co VB n wr VBr nr bo oo va L ad G) (hA : AltC wr w4 (SC C co VBr nr)) (hG : Grew wr VBr nr VB2 n2) : AL w C co VB n w4 VB2 n2 bo oo va L ad G := by
  have hobj : ∀ y, oo ≤ y → y < oo + 5 → ¬ SC C co VBr nr bo y := fun y h1 h2 => (h.obj y h1 h2).2.1
  have later : ∀ {x y : Nat}, RegN w wr C co VB n VBr nr x y → RegN w w4 C co VB n VB2 n2 x y := fun r => RegN.later hG hA.size r
  refine ⟨h.grew.trans hG h.alt.size, h.alt.trans hA (fun x y hx e => h.grew.sc hx e), h.fld.alt hA (hobj _ (by omega) (by omega)), hA.own h.own (fun k hk o e => ?_), h.typ.alt hA (hobj _ (by omega) (by omega)), fun y h1 h2 => later (h.obj y h1 h2), fun k hk => ?_, fun i x y hi hg => ?_, fun i hi => (h.rep i hi).alt hA (fun x y hg => ((h.reg i x y hi hg).1).2.1)⟩
  · rcases e with ⟨e, _⟩ | ⟨e, _⟩
    · exact (h.blk k hk).1 e
    · exact (h.blk k hk).2.1 e
  · refine ⟨(h.blk k hk).1, fun e => ?_, (h.blk k hk).2.2⟩
    rcases hG.same with e2 | ⟨b, e2, hb⟩
    · exact (h.blk k hk).2.1 (e2 ▸ e)
    · rw [e2] at e; cases e
      have := (h.own.lt k hk).2; omega
  · obtain ⟨r1, r2, r3⟩ := h.reg i x y hi hg
    exact ⟨later r1, r2, r3⟩
theorem ptrs_snoc (ad : Nat → Nat × Nat) (m : Nat) (p : Nat × Nat) : ptrs (fun i => if i = m then p else ad i) (m + 1) = ptrs ad m ++ [ptr p] := by
  unfold ptrs
  rw [List.range_succ, List.map_append]
  congr 1
  · apply List.map_congr_left
    intro i hi
    show ptr (if i = m then p else ad i) = _
    rw [if_neg (by have := List.mem_range.1 hi; omega)]
  · simp
/-- The value is put behind the others. -/
theorem AL.app {w6 : World} {v : JV} {b2 o2 : Nat} {v1 : Value} {x : Obj} (h5 : AL w C co VB n wr VBr nr bo oo va L ad G) (hA : AltC wr w4 (SC C co VBr nr)) (hG : Grew wr VBr nr VB2 n2) (hR : Rep w4 (RegN wr w4 C co VBr nr VB2 n2) v b2 o2) (hC : Cache w4 C co VB2 n2 cap2)
    (hO : Own w6 w.heap.size 89 v1 (ptrs ad L.length ++ [ptr (b2, o2)])) (hg : (w4.alloc x).grownBy w6 va.ownBlock) (hv : v1.ownBlock = va.ownBlock ∨ v1.ownBlock = some (w4.alloc x).heap.size) :
    AL w C co VB n (w6.setCell ⟨bo, oo + 2, none⟩ v1) VB2 n2 bo oo v1 (L ++ [v]) (fun i => if i = L.length then (b2, o2) else ad i) (fun i => if i = L.length then RegN wr w4 C co VBr nr VB2 n2 else G i) ∧ Cache (w6.setCell ⟨bo, oo + 2, none⟩ v1) C co VB2 n2 cap2 ∧ Slot w6 bo (oo + 2) va := by
  have h := h5.parsed hA hG
  have hB4 := below_alloc0 w4 x
  have hsz5 : (w4.alloc x).heap.size = w4.heap.size + 1 := by simp
  have a46 : AltC w4 w6 (fun p _ => some p = va.ownBlock) := (AltC.of_below hB4 (fun _ _ => False)).mono (fun _ _ _ e => e.elim) |>.trans (AltC.of_grown hg) (fun _ _ _ e => e)
  have hbo := (h.obj oo (Nat.le_refl _) (by omega)).1
  have s6 : Slot w6 bo (oo + 2) va := h.fld.alt a46 (fun e => (h.blk bo e.symm).2.2 rfl)
  have a67 := AltC.set w6 bo (oo + 2) v1
  have a47 : AltC w4 (w6.setCell ⟨bo, oo + 2, none⟩ v1) (fun p q => some p = va.ownBlock ∨ (p = bo ∧ q = oo + 2)) := (a46.mono (fun _ _ _ e => .inl e)).trans a67 (fun _ _ _ e => .inr e)
  have hnb : ∀ k, v1.ownBlock = some k → k ≠ C ∧ VB2 ≠ some k ∧ k ≠ bo := fun k hk => by
    rcases hv with e | e
    · exact h.blk k (e ▸ hk)
    · rw [e] at hk
      cases hk
      rw [hsz5]
      exact ⟨by have := hC.fld.lt; omega, fun e2 => by have := hC.lt _ e2; omega, by omega⟩
  have later : ∀ {p q : Nat}, RegN w w4 C co VB n VB2 n2 p q → RegN w (w6.setCell ⟨bo, oo + 2, none⟩ v1) C co VB n VB2 n2 p q := fun r => RegN.later (Grew.refl w4 VB2 n2) a47.size r
  have hnov : ∀ p, p < w4.heap.size → va.ownBlock ≠ some p → v1.ownBlock ≠ some p := fun p hp hne e => by
    rcases hv with e2 | e2
    · exact hne (e2 ▸ e)
    · rw [e2] at e; cases e; rw [hsz5] at hp; omega
  have hnew : ∀ p q, RegN wr w4 C co VBr nr VB2 n2 p q → RegN w w4 C co VB n VB2 n2 p q ∧ va.ownBlock ≠ some p ∧ ¬ (p = bo ∧ oo ≤ q ∧ q < oo + 5) := fun p q r => by
    refine ⟨RegN.earlier h5.grew h5.alt.size r, fun e => ?_, fun e => ?_⟩
    · rcases r.2.2 with e2 | (⟨e2, _⟩ | ⟨e2, _⟩)
      · have := (h5.own.lt p e).2; omega
      · exact (h5.blk p e).1 e2
      · exact (h5.blk p e).2.1 e2
    · obtain ⟨rfl, h1, h2⟩ := e
      have ho := h5.obj q h1 h2
      rcases r.2.2 with e2 | e2
      · have := ho.1; omega
      · exact ho.2.1 e2
  have hCn : ∀ p, va.ownBlock = some p → p ≠ C ∧ VB2 ≠ some p := fun p hp => ⟨(h.blk p hp).1, (h.blk p hp).2.1⟩
  have hll : (L ++ [v]).length = L.length + 1 := by simp
  refine ⟨⟨h.grew, (h.alt.trans a47 (fun p q hp e => ?_)), s6.set v1, ?_, h.typ.alt a47 (fun e => ?_), fun y h1 h2 => later (h.obj y h1 h2), hnb, fun i p q hi hgg => ?_, fun i hi => ?_⟩, ?_, s6⟩
  · rcases e with e | ⟨rfl, rfl⟩
    · have := (h.own.lt p e.symm).1; omega
    · rcases (h.obj (oo + 2) (by omega) (by omega)).2.2 with e2 | e2
      · omega
      · exact e2
  · rw [hll, ptrs_snoc]
    exact a67.own hO (fun k hk o e => (hnb k hk).2.2 e.1)
  · rcases e with e | ⟨_, e⟩
    · exact (h.blk bo e.symm).2.2 rfl
    · omega
  · rw [hll] at hi
    by_cases e : i = L.length
    · rw [if_pos e] at hgg
      obtain ⟨a1, a2, a3⟩ := hnew p q hgg
      exact ⟨later a1, hnov p a1.1 a2, a3⟩
    · rw [if_neg e] at hgg
      obtain ⟨a1, a2, a3⟩ := h.reg i p q (by omega) hgg
      exact ⟨later a1, hnov p a1.1 a2, a3⟩
  · rw [hll] at hi
    by_cases e : i = L.length
    · subst e
      simp only [if_true]
      rw [List.getElem_append_right (by omega)]
      simp only [Nat.sub_self, List.getElem_cons_zero]
      refine hR.alt a47 (fun p q r e => ?_)
      obtain ⟨_, a2, a3⟩ := hnew p q r
      rcases e with e | ⟨e1, e2⟩
      · exact a2 e.symm
      · exact a3 ⟨e1, by omega, by omega⟩
    · simp only [if_neg e]
      rw [List.getElem_append_left (by omega)]
      refine (h.rep i (by omega)).alt a47 (fun p q hgg e2 => ?_)
      obtain ⟨_, a2, a3⟩ := h.reg i p q (by omega) hgg
      rcases e2 with e2 | ⟨e3, e4⟩
      · exact a2 e2.symm
      · exact a3 ⟨e3, by omega, by omega⟩
  · have c6 : Cache w6 C co VB2 n2 cap2 := hC.alt a46 (fun e => (hCn C e.symm).1 rfl) (fun b y hb e => (hCn b e.symm).2 hb)
    refine ⟨c6.fld.alt a67 (fun e => ?_), c6.le, c6.nil, c6.ne, fun b hb => Nat.lt_of_lt_of_le (c6.lt b hb) a67.size, fun b hb j hj => ?_, fun b hb i hi hic => (c6.spare b hb i hi hic).alt a67 (fun y hy1 hy2 e => ?_)⟩
    · exact (h.obj (oo + 2) (by omega) (by omega)).2.1 (.inl ⟨e.1.symm, e.2.symm⟩)
    · by_cases e : b = bo ∧ j = oo + 2
      · obtain ⟨rfl, rfl⟩ := e; exact ⟨_, s6.set v1⟩
      · obtain ⟨u, hu⟩ := c6.old b hb j hj
        exact ⟨u, hu.alt a67 e⟩
    · exact (h.obj (oo + 2) (by omega) (by omega)).2.1 (.inr ⟨by rw [hb, e.1], by omega⟩)
theorem AL.start {w3 : World} {vb cap : Nat} (h : GotS w C co VB n w3 vb cap) (s2 : Slot w3 vb (5 * n + 2) (.slice none 0 0)) (s4 : Slot w3 vb (5 * n + 4) (.int .i64 2)) (ad : Nat → Nat × Nat) (G : Nat → Nat → Nat → Prop) :
    AL w C co VB n w3 (some vb) (n + 1) vb (5 * n) (.slice none 0 0) [] ad G :=
  ⟨h.grew, h.alt, s2, Own.nil _ _ _, s4, fun y h1 h2 => by
    have := h.reg (y - 5 * n) (by omega)
    rwa [show 5 * n + (y - 5 * n) = y by omega] at this, fun k e => (by cases e), fun i x y hi => (by simp at hi), fun i hi => (by simp at hi)⟩
theorem AL.whole (h : AL w C co VB n wr VBr nr bo oo va L ad G) : Rep wr (RegN w wr C co VB n VBr nr) (.arr L) bo oo := by
  have key : ∃ A c, va = .slice A L.length c ∧ L.length ≤ c ∧ RdF wr (RegN w wr C co VB n VBr nr) A (ptrs ad L.length) := by
    rcases h.own.block with ⟨rfl, h0⟩ | ⟨g, rest, hv, hb, hR, hm⟩
    · have hl : L.length = 0 := by have := congrArg List.length h0; rwa [ptrs_len] at this
      rw [hl]
      exact ⟨none, 0, rfl, Nat.le_refl _, fun i v hv => by simp [ptrs] at hv⟩
    · rw [ptrs_len] at hv
      obtain ⟨a1, a2, a3⟩ := h.blk g (by rw [hv]; rfl)
      refine ⟨_, _, hv, by omega, fun i v hi => ⟨g, 0, rfl, ⟨hR.lt, fun e => ?_, .inl hb⟩, Slot.of_row hR _ ?_⟩⟩
      · rcases e with ⟨e, _⟩ | ⟨e, _⟩
        · exact a1 e
        · exact a2 e
      · have hlt := (List.getElem?_eq_some_iff.1 hi).1
        rw [Nat.zero_add, List.getElem?_append_left hlt, hi]
  obtain ⟨A, c, hv, hc, hrd⟩ := key
  exact .arr A c ad ⟨h.obj _ (by omega) (by omega), hv ▸ h.fld⟩ hc ⟨h.obj _ (by omega) (by omega), h.typ⟩ hrd (fun i hi => (h.rep i hi).mono (fun x y hg => (h.reg i x y hi hg).1))
end
end Go.Proofs.YtbdmdajbdmdknaaDoor
namespace Go.Proofs.YtbdmdajbdmdknaaDoor
open Go.RowKit
set_option linter.unusedVariables false
set_option linter.unusedSimpArgs false

theorem u8_ne' {c : UInt8} {k : Nat} (hk : k < 256) (h : c ≠ UInt8.ofNat k) : (((c.toNat : Nat) : Int) == (k : Int)) = false ∧ (((c.toNat : Nat) : Int) != (k : Int)) = true :=
  ne_both (fun e => h ((u8_eq rfl hk).2 (by omega)))
theorem info_vptr : (Tryd.prog.info? 89).map (fun i => (i.zero, i.size, i.bytes)) = some (some (.pointer none), 1, 8) := by kernel_rfl
theorem run_sl0 (W : World) : (Instr.slice 113 (.slice none 0 0) none (some (.int .i64 0)) none).run Tryd.prog W = .ok (.slice none 0 0) W := run_upto_k (sz := 1) Tryd.underlying113 (by kernel_rfl) none 0 0 0 0 rfl (Nat.le_refl _)
theorem GotV.arrStart {w w1 : World} {C co n vb cap : Nat} {VB : Option Nat} (g : GotV w C co VB n w1 vb cap) :
    GotS w C co VB n ((w1.setCell ⟨vb, 5 * n + 4, none⟩ (.int .i64 2)).setCell ⟨vb, 5 * n + 2, none⟩ (.slice none 0 0)) vb cap ∧ Slot ((w1.setCell ⟨vb, 5 * n + 4, none⟩ (.int .i64 2)).setCell ⟨vb, 5 * n + 2, none⟩ (.slice none 0 0)) vb (5 * n + 2) (.slice none 0 0) ∧ Slot ((w1.setCell ⟨vb, 5 * n + 4, none⟩ (.int .i64 2)).setCell ⟨vb, 5 * n + 2, none⟩ (.slice none 0 0)) vb (5 * n + 4) (.int .i64 2) := by
  obtain ⟨z0, z1, z2, z3, z4⟩ := g.zero
  have a1 := AltC.set w1 vb (5 * n + 4) (.int .i64 2)
  have a2 := AltC.set (w1.setCell ⟨vb, 5 * n + 4, none⟩ (.int .i64 2)) vb (5 * n + 2) (.slice none 0 0)
  have t0 := (z0.alt a1 (fun e => by omega)).alt a2 (fun e => by omega)
  have t1 := (z1.alt a1 (fun e => by omega)).alt a2 (fun e => by omega)
  have t2 := (z2.alt a1 (fun e => by omega)).set (.slice none 0 0)
  have t3 := (z3.alt a1 (fun e => by omega)).alt a2 (fun e => by omega)
  have t4 := (z4.set (.int .i64 2)).alt a2 (fun e => by omega)
  refine ⟨(g.got (Below.refl _ _)).sets ((a1.mono (fun x y _ e => ⟨e.1, by omega, by omega⟩)).trans a2 (fun x y _ e => ⟨e.1, by omega, by omega⟩)) (fun k hk => ?_), t2, t4⟩
  match k, hk with
  | 0, _ => exact ⟨_, t0⟩
  | 1, _ => exact ⟨_, t1⟩
  | 2, _ => exact ⟨_, t2⟩
  | 3, _ => exact ⟨_, t3⟩
  | 4, _ => exact ⟨_, t4⟩
set_option maxRecDepth 100000 in
set_option maxHeartbeats 4000000 in
theorem arr_none (f d : Nat) (w : World) (C co : Nat) (VB : Option Nat) (n cap : Nat) (s : ByteArray) (hC : Cache w C co VB n cap) (hN : n + s.size ≤ 1000000000) (h : skipW s.data.toList = []) :
    Calls Tryd.prog 76 #[.pointer (some ⟨C, co, none⟩), .string s, .int .i64 d] w (PNo w C co VB n) := by
  have K1 := hidden (skip_bs s _ rfl w (by omega) ⟨#[]⟩ (by rw [h]))
  clear h hC
  go_enter Tryd.func76, Tryd.ntmps76
  go_wp2_with (first
    | (go_at_call 61; go_must (refine K1.out.mono ?_; rintro e w1 ⟨rfl, rfl⟩))
    | (go_at_call 48; go_must (refine (newErr_calls _ _).mono ?_; rintro e w1 ⟨T, a, rfl, hB⟩; have HB := hidden hB; clear hB)))
  go_ret3
  exact PNo.of (AltC.of_below HB.out _)
set_option maxRecDepth 100000 in
set_option maxHeartbeats 4000000 in
theorem arr_empty (f d : Nat) (w : World) (C co : Nat) (VB : Option Nat) (n cap : Nat) (s : ByteArray) (hC : Cache w C co VB n cap) (hN : n + s.size ≤ 1000000000) (r2 : Bs) (h : skipW s.data.toList = 93 :: r2) :
    Calls Tryd.prog 76 #[.pointer (some ⟨C, co, none⟩), .string s, .int .i64 d] w (POk w C co VB n (n + s.size) (.arr []) r2) := by
  obtain ⟨s1, hs1⟩ : ∃ s1 : ByteArray, s1.data.toList = skipW s.data.toList := ⟨bs _, rfl⟩
  have K1 := hidden (skip_bs s _ rfl w (by omega) s1 hs1)
  rw [h] at hs1
  obtain ⟨z1, z2, z3⟩ := cons_of hs1
  have hle := skipW_len s.data.toList
  rw [h, len_toL] at hle
  simp only [List.length_cons] at hle
  have hp1 : 0 < s1.size := by omega
  have hp1' : 1 ≤ s1.size := by omega
  have hne : ((s1.size : Int) == 0) = false := beq_eq_false_iff_ne.2 (by omega)
  have hg0 := z2 hp1
  have HZ3 := hidden z3
  have HLE := hidden hle
  have HC := hidden hC
  have hsl0 := run_sl0
  clear h hC hs1 z1 z2 z3 hle
  go_enter Tryd.func76, Tryd.ntmps76
  go_upto_region 5 with (go_at_call 61; go_must (refine K1.out.mono ?_; rintro e w1 ⟨rfl, rfl⟩))
  have HGV := hidden (getValue_calls w C co n cap VB HC.out (by omega))
  go_upto_region 6 with (go_at_call 78; go_must (refine HGV.out.mono ?_; rintro e w1 ⟨vb, cap1, rfl, hG⟩; have HG := hidden hG; clear hG))
  have z4 := HG.out.zero.2.2.2.2
  have c4 := z4.1
  have f4 := z4.2
  have z2 := (HG.out.zero.2.2.1).alt (AltC.set w1 vb (5 * n + 4) (.int .i64 2)) (fun e => by omega)
  have c2 := z2.1
  have f2 := z2.2
  have hst := HG.out.arrStart
  have HS := hidden hst
  have HAL := hidden (AL.start HS.out.1 HS.out.2.1 HS.out.2.2 (fun _ => (0, 0)) (fun _ _ _ => True))
  clear z4 z2 HGV hst
  go_wp2
  clear c4 f4 c2 f2
  refine wpAbs (fun W => Hid (GotS w C co VB n W vb cap1) ∧ Hid (AL w C co VB n W (some vb) (n + 1) vb (5 * n) (.slice none 0 0) [] (fun _ => (0, 0)) (fun _ _ _ => True))) ⟨hidden HS.out.1, HAL⟩ ?_
  rintro W2 ⟨HS2, HAL2⟩
  go_quiet (fail)
  go_wp2
  go_ret3
  exact ⟨some vb, n + 1, cap1, vb, 5 * n, ret_p (p := (vb, 5 * n)) (q := (vb, 5 * n)) rfl HZ3.out, HS2.out.cache.drewN _, HAL2.out.grew, by have := HLE.out; omega, HAL2.out.alt.more (below_drewN0 (Below.refl _ _) _), (HAL2.out.whole.alt (AltC.drewN _ _ (fun _ _ => False)) (fun _ _ _ e => e)).mono (fun x y r => RegN.later (Grew.refl _ _ _) (Nat.le_refl _) r)⟩
/-- What holds ahead of each element. -/
structure LoopA (w : World) (C co : Nat) (VB : Option Nat) (n N : Nat) (R : Option (List JV × Bs)) (f d bo oo : Nat) (wr : World) (sk : ByteArray) : Prop where
  ex : ∃ fk VBr nr capr va L ad G, 2 * sk.size + 2 ≤ fk ∧ fk ≤ f ∧ Cache wr C co VBr nr capr ∧ AL w C co VB n wr VBr nr bo oo va L ad G ∧ nr + sk.size ≤ N ∧ L.length + sk.size ≤ N ∧ R = (pArr fk d sk.data.toList).map (fun p => (L ++ p.1, p.2))
set_option maxRecDepth 100000 in
set_option maxHeartbeats 8000000 in
theorem arr_full (f d : Nat) (hV : ∀ g, g < f → CallsV g) (w : World) (C co : Nat) (VB : Option Nat) (n cap : Nat) (s : ByteArray) (hC : Cache w C co VB n cap) (hN : n + s.size + 1 ≤ 1000000000) (hf : 2 * s.size + 2 ≤ f) (hd : d ≤ 300) (c2 : UInt8) (r2 : Bs) (h : skipW s.data.toList = c2 :: r2) (h93 : c2 ≠ 93) (r : Option (JV × Bs)) (hr : r = (pArr f d (c2 :: r2)).map fun p => (.arr p.1, p.2)) :
    Calls Tryd.prog 76 #[.pointer (some ⟨C, co, none⟩), .string s, .int .i64 d] w (PRes w C co VB n (n + s.size + 1) r) := by
  obtain ⟨s1, hs1⟩ : ∃ s1 : ByteArray, s1.data.toList = skipW s.data.toList := ⟨bs _, rfl⟩
  have K1 := hidden (skip_bs s _ rfl w (by omega) s1 hs1)
  rw [h] at hs1
  obtain ⟨z1, z2, z3⟩ := cons_of hs1
  have hle := skipW_len s.data.toList
  rw [h, len_toL] at hle
  simp only [List.length_cons] at hle
  have hp1 : 0 < s1.size := by omega
  have hp1' : 1 ≤ s1.size := by omega
  have hne : ((s1.size : Int) == 0) = false := beq_eq_false_iff_ne.2 (by omega)
  have hg0 := z2 hp1
  obtain ⟨a, ha⟩ : ∃ a : Nat, c2.toNat = a := ⟨_, rfl⟩
  have hb := u8_ne' (k := 93) (by omega) h93
  rw [ha] at hb
  obtain ⟨e1, f1⟩ := hb
  have HLE := hidden (show s1.size ≤ s.size by omega)
  have HS1 := hidden hs1
  have HC := hidden hC
  have Hr := hidden hr
  have HV := hidden hV
  have HFF := hidden hf
  obtain ⟨N, hNd⟩ : ∃ N, n + s.size + 1 = N := ⟨_, rfl⟩
  have HND := hidden hNd
  have hnN : n ≤ N := by omega
  rw [hNd] at hN ⊢
  have hsl0 := run_sl0
  clear h hC hs1 z1 z2 z3 hle h93 hr hV hNd hf
  go_enter Tryd.func76, Tryd.ntmps76
  go_upto_region 9 with (go_at_call 61; go_must (refine K1.out.mono ?_; rintro e w1 ⟨rfl, rfl⟩))
  have HGV := hidden (getValue_calls w C co n cap VB HC.out (by omega))
  go_upto_region 10 with (go_at_call 78; go_must (refine HGV.out.mono ?_; rintro e w1 ⟨vb, cap1, rfl, hG⟩; have HG := hidden hG; clear hG))
  have z4 := HG.out.zero.2.2.2.2
  have c4 := z4.1
  have f4 := z4.2
  have z2 := (HG.out.zero.2.2.1).alt (AltC.set w1 vb (5 * n + 4) (.int .i64 2)) (fun e => by omega)
  have c2' := z2.1
  have f2 := z2.2
  have hst := HG.out.arrStart
  have HS := hidden hst
  have HAL := hidden (AL.start HS.out.1 HS.out.2.1 HS.out.2.2 (fun _ => (0, 0)) (fun _ _ _ => True))
  clear z4 z2 HGV hst
  go_upto_block 0 with (fail)
  clear c4 f4 c2' f2
  refine wpAbs (fun W => Hid (GotS w C co VB n W vb cap1) ∧ Hid (AL w C co VB n W (some vb) (n + 1) vb (5 * n) (.slice none 0 0) [] (fun _ => (0, 0)) (fun _ _ _ => True))) ⟨hidden HS.out.1, HAL⟩ ?_
  rintro W2 ⟨HS2, HAL2⟩
  have HLP : Hid (LoopA w C co VB n N (pArr f d (c2 :: r2)) f d vb (5 * n) W2 s1) := hidden ⟨f, some vb, n + 1, cap1, _, [], _, _, by have := HLE.out; have := HFF.out; omega, Nat.le_refl _, HS2.out.cache, HAL2.out, by have := HLE.out; have := HND.out; omega, by have := HLE.out; have := HND.out; simp; omega, by rw [HS1.out]; cases pArr f d (c2 :: r2) <;> simp⟩
  clear HG HS HAL HS2 HAL2 HLE HS1 hg0 e1 f1 ha hp1 hp1' hne K1 HND
  obtain ⟨R, hRd⟩ : ∃ R, pArr f d (c2 :: r2) = R := ⟨_, rfl⟩
  rw [hRd] at HLP Hr
  obtain ⟨oo, hoo⟩ : ∃ oo, 5 * n = oo := ⟨_, rfl⟩
  rw [hoo] at HLP ⊢
  clear hRd hoo hsl0
  go_wp2
  go_loopw [1] (fun u wr => ∃ sk : ByteArray, u = .string sk ∧ sk.size ≤ N ∧ Hid (LoopA w C co VB n N R f d vb oo wr sk)) (fun u _ => match u with | .string sk => sk.size | _ => 0)
  case atStart => exact ⟨s1, rfl, by obtain ⟨_, _, _, _, _, _, _, _, _, _, _, _, h, _⟩ := HLP.out.ex; omega, HLP⟩
  case round =>
    obtain ⟨sk, rfl, hskN, HL⟩ := hrel
    obtain ⟨fk, VBr, nr, capr, va, L, ad, G, hfk, hfkf, hCr, hAL, hn1, hn2, hR⟩ := HL.out.ex
    obtain ⟨g, rfl⟩ : ∃ g, fk = g + 1 := ⟨fk - 1, by omega⟩
    have HCr := hidden hCr
    have HALr := hidden hAL
    have HR := hidden hR
    have hVg := HV.out g (by omega)
    have HVG := hidden hVg
    clear hCr hAL hR HL HLP hVg
    obtain ⟨sa, hsa⟩ : ∃ t : ByteArray, t.data.toList = skipW sk.data.toList := ⟨bs _, rfl⟩
    have Ksa := hidden (skip_bs sk _ rfl wr (by omega) sa hsa)
    have hlesa : sa.size ≤ sk.size := by rw [size_toL sa, hsa, size_toL sk, show sk.data.toList = sk.data.toList from rfl]; exact skipW_len _
    go_upto_region 15 with (go_at_call 61; go_must (refine Ksa.out.mono ?_; rintro e wq ⟨rfl, rfl⟩))
    have HPV := hidden (HVG.out wr C co VBr nr capr sa d HCr.out (by omega) (by omega) hd)
    rw [hsa] at HPV
    clear hsa
    cases hv : pVal g d (skipW sk.data.toList) with
    | none =>
      have hrn : r = none := by rw [Hr.out, HR.out, pArr_val0 hv]; rfl
      subst hrn
      rw [hv] at HPV
      clear hv
      go_upto_region 16 with (go_at_call 63; go_must (refine HPV.out.mono ?_; rintro e w6 ⟨t1, T1, a1, rfl, hA⟩; dsimp only; have HAL6 := hidden (HALr.out.parsed hA (Grew.refl _ _ _)); clear hA))
      go_wp2_with (go_at_call 48; go_must (refine (newErr_calls _ _).mono ?_; rintro e w9 ⟨T, a9, rfl, hB⟩; have HB9 := hidden hB; clear hB))
      go_ret3
      exact PNo.of (HAL6.out.alt.more HB9.out)
    | some vz =>
      obtain ⟨v, z⟩ := vz
      rw [hv] at HPV
      have HVV := hidden hv
      obtain ⟨sz, hsz⟩ : ∃ t : ByteArray, t.data.toList = z := ⟨bs z, rfl⟩
      have hbsz : bs z = sz := by rw [← hsz, bs_self]
      have hzl : z.length = sz.size := by rw [size_toL, hsz]
      clear hv
      go_upto_region 18 with (go_at_call 63; go_must (refine HPV.out.mono ?_; rintro e w4 ⟨VB2, n2, cap2, b2, o2, rfl, hC6, hG6, hL6, hA6, hR6⟩; dsimp only at hL6 ⊢; rw [hbsz]; unfold ptr; have HC6 := hidden hC6; have HG6 := hidden hG6; have HA6 := hidden hA6; have HR6 := hidden hR6; have hle6 := hG6.le; have hL6' : n2 + sz.size ≤ nr + sa.size := (by rw [← hzl]; exact hL6); clear hA6 hC6 hG6 hR6 hL6))
      have hAL4 := HALr.out.parsed HA6.out HG6.out
      obtain ⟨vn, w6, hrun, hO6, hg6, hv1⟩ := run_app (P := Tryd.prog) (W := w4.alloc (.cells #[ptr (b2, o2)] 89)) (t := 113) (ty := 113) Tryd.underlying113 info_vptr rfl (by decide) (hAL4.own.alloc _) (A := some ⟨w4.heap.size, 0, none⟩) (m := 1) (c := 1) (ys := [ptr (b2, o2)]) (Rd.new w4 _ _ _ rfl) rfl (by intro u hu; simp only [List.mem_singleton] at hu; subst hu; rfl) (by have := hAL4.alt.size; simp; omega) (by rw [ptrs_len]; simp; omega)
      obtain ⟨An, kn, hvn, _, _, _⟩ := hO6.read
      rw [List.length_append, ptrs_len, List.length_singleton] at hvn
      subst hvn
      have hst := HALr.out.app HA6.out HG6.out HR6.out HC6.out hO6 hg6 hv1
      have HST := hidden hst
      have c2'' := hAL4.fld.1
      have s6 := hst.2.2
      have c6 := s6.1
      have f6 := s6.2
      unfold ptr at hrun
      have HRUN := hidden hrun
      clear hst s6 hrun hO6 hg6 hv1 hAL4 HPV hbsz hzl
      go_upto_region 19 with ((with_reducible refine at_dst 73 ?_); go_must (refine walk_runapp rfl (.tmp 70) (.tmp 72) rfl rfl rfl HRUN.out ?_))
      clear c2'' c6 f6
      refine wpAbs (fun W => Hid (AL w C co VB n W VB2 n2 vb oo (.slice An (L.length + 1) kn) (L ++ [v]) (fun i => if i = L.length then (b2, o2) else ad i) (fun i => if i = L.length then RegN wr w4 C co VBr nr VB2 n2 else G i)) ∧ Hid (Cache W C co VB2 n2 cap2)) ⟨hidden HST.out.1, hidden HST.out.2.1⟩ ?_
      rintro W7 ⟨HO7, HC7⟩
      clear HST HRUN HA6 HR6 HG6 HC6
      obtain ⟨sg, hsg⟩ : ∃ t : ByteArray, t.data.toList = skipW z := ⟨bs _, rfl⟩
      have Ksg := hidden (skip_bs sz _ hsz W7 (by omega) sg hsg)
      have hlesg : sg.size ≤ sz.size := by rw [size_toL sg, hsg, size_toL sz, show sz.data.toList = z from hsz]; exact skipW_len _
      go_upto_region 20 with (go_at_call 61; go_must (refine Ksg.out.mono ?_; rintro e wq ⟨rfl, rfl⟩))
      clear hsz
      cases hqsg : skipW z with
      | nil =>
        have hrn : r = none := by rw [Hr.out, HR.out, pArr_end0 HVV.out hqsg]; rfl
        subst hrn
        rw [hqsg] at hsg
        have hzsg := emp_of hsg
        clear hsg hlesg hqsg
        go_wp2_with (go_at_call 48; go_must (refine (newErr_calls _ _).mono ?_; rintro e w9 ⟨T, a9, rfl, hB⟩; have HB9 := hidden hB; clear hB))
        go_ret3
        exact PNo.of (HO7.out.alt.more HB9.out)
      | cons c5 r5 =>
        rw [hqsg] at hsg
        obtain ⟨sg1, sg2, sg3⟩ := cons_of hsg
        have hpsg : 0 < sg.size := by omega
        have hpsg' : 1 ≤ sg.size := by omega
        have hrsg : r5.length + 1 ≤ sg.size := by omega
        have hnsg : ((sg.size : Int) == 0) = false := beq_eq_false_iff_ne.2 (by omega)
        have hgsg := sg2 hpsg
        clear sg1 sg2 hsg
        obtain ⟨sn, hsn⟩ : ∃ t : ByteArray, t.data.toList = r5 := ⟨bs r5, rfl⟩
        have hzn : sn.size + 1 ≤ sg.size := by (have : sn.size = r5.length := by rw [size_toL, hsn]); omega
        rw [← hsn, bs_self] at sg3
        by_cases hc5 : c5 = 44
        · subst hc5
          have HRN : Hid (R = (pArr g d sn.data.toList).map (fun p => ((L ++ [v]) ++ p.1, p.2))) := hidden (by rw [HR.out, pArr_comma HVV.out hqsg, hsn]; cases pArr g d r5 <;> simp)
          have HLN : Hid ((L ++ [v]).length + sn.size ≤ N) := hidden (by rw [List.length_append]; simp; have := hlesa; omega)
          clear hqsg hsn
          go_wp2_with (fail)
          go_roundw
          case rel => exact ⟨sn, rfl, by omega, hidden ⟨g, VB2, n2, cap2, _, _, _, _, by omega, by omega, HC7.out, HO7.out, by omega, HLN.out, HRN.out⟩⟩
          case measure => simp; omega
        · obtain ⟨a5, ha5⟩ : ∃ a : Nat, c5.toNat = a := ⟨_, rfl⟩
          have hb44 := u8_ne' (k := 44) (by omega) hc5
          rw [ha5] at hb44
          obtain ⟨e44, f44⟩ := hb44
          by_cases hc6 : c5 = 93
          · subst hc6
            have hrn : r = some (.arr (L ++ [v]), r5) := by rw [Hr.out, HR.out, pArr_close HVV.out hqsg]; rfl
            subst hrn
            have HSN := hidden hsn
            have hr5 : n2 + r5.length ≤ N := by (have : sn.size = r5.length := by rw [size_toL, hsn]); omega
            clear hqsg hsn hc5 ha5 e44 f44
            go_wp2_with (fail)
            go_ret3
            exact ⟨VB2, n2, cap2, vb, oo, ret_p (p := (vb, oo)) (q := (vb, oo)) rfl (by rw [← HSN.out, bs_self]), HC7.out, HO7.out.grew, hr5, HO7.out.alt, HO7.out.whole⟩
          · have hb93 := u8_ne' (k := 93) (by omega) hc6
            rw [ha5] at hb93
            obtain ⟨e93, f93⟩ := hb93
            have hrn : r = none := by rw [Hr.out, HR.out, pArr_bad HVV.out hqsg hc5 hc6]; rfl
            subst hrn
            clear hqsg hsn hc5 hc6
            go_wp2_with (go_at_call 48; go_must (refine (newErr_calls _ _).mono ?_; rintro e w9 ⟨T, a9, rfl, hB⟩; have HB9 := hidden hB; clear hB))
            go_ret3
            exact PNo.of (HO7.out.alt.more HB9.out)
end Go.Proofs.YtbdmdajbdmdknaaDoor
namespace Go.Proofs.YtbdmdajbdmdknaaDoor
open Go.RowKit
set_option linter.unusedVariables false
set_option linter.unusedSimpArgs false

section
variable {g d : Nat} {r : Bs}
theorem pVal_deep {f : Nat} {s : Bs} (h : 300 ≤ d) : pVal f d s = none := by
  cases f with
  | zero => rw [pVal]
  | succ f =>
    cases s with
    | nil => rw [pVal]
    | cons c r => rw [pVal, if_pos h]
theorem pVal_obj (h : d < 300) : pVal (g + 1) d (123 :: r) = oRest g (d + 1) r := by rw [pVal, if_neg (by omega), if_pos rfl]; rfl
theorem pVal_arr (h : d < 300) : pVal (g + 1) d (91 :: r) = aRest g (d + 1) r := by rw [pVal, if_neg (by omega), if_neg (by decide), if_pos rfl]; rfl
theorem pVal_str (h : d < 300) : pVal (g + 1) d (34 :: r) = (rawS false r).map fun p => (.str p.1, p.2) := by rw [pVal, if_neg (by omega), if_neg (by decide), if_neg (by decide), if_pos rfl]
theorem pVal_t (h : d < 300) : pVal (g + 1) d (116 :: r) = if (116 :: r).take 4 = trueB then some (.lit 5, (116 :: r).drop 4) else none := by rw [pVal, if_neg (by omega), if_neg (by decide), if_neg (by decide), if_neg (by decide), if_pos rfl]
theorem pVal_f (h : d < 300) : pVal (g + 1) d (102 :: r) = if (102 :: r).take 5 = falseB then some (.lit 6, (102 :: r).drop 5) else none := by rw [pVal, if_neg (by omega), if_neg (by decide), if_neg (by decide), if_neg (by decide), if_neg (by decide), if_pos rfl]
theorem pVal_n (h : d < 300) : pVal (g + 1) d (110 :: r) = if (110 :: r).take 4 = nullB then some (.lit 0, (110 :: r).drop 4) else if foldIs ((110 :: r).take 3) nanB then some (.num ((110 :: r).take 3), (110 :: r).drop 3) else none := by
  rw [pVal, if_neg (by omega), if_neg (by decide), if_neg (by decide), if_neg (by decide), if_neg (by decide), if_neg (by decide), if_pos rfl]
theorem pVal_num {c : UInt8} (h : d < 300) (h1 : c ≠ 123) (h2 : c ≠ 91) (h3 : c ≠ 34) (h4 : c ≠ 116) (h5 : c ≠ 102) (h6 : c ≠ 110) : pVal (g + 1) d (c :: r) = (rawN (c :: r)).map fun p => (.num p.1, p.2) := by
  rw [pVal, if_neg (by omega), if_neg h1, if_neg h2, if_neg h3, if_neg h4, if_neg h5, if_neg h6]
end
theorem rawN_len {c : UInt8} {l x y : Bs} (h : rawN (c :: l) = some (x, y)) : y.length < l.length + 1 := by
  unfold rawN at h
  simp only [] at h
  split at h
  · cases h; simp
  · split at h
    · split at h
      · cases h; rw [List.length_drop]; simp; omega
      · cases h
    · rename_i h1 h2
      cases h
      rw [List.length_drop]
      simp only [List.length_cons]
      omega
theorem POk.mono {w : World} {C co n L L2 : Nat} {VB : Option Nat} {v : JV} {r : Bs} {e : Ending} {w' : World} (h : POk w C co VB n L v r e w') (hl : L ≤ L2) : POk w C co VB n L2 v r e w' := by
  obtain ⟨a, b, c, p, o, h1, h2, h3, h4, h5⟩ := h
  exact ⟨a, b, c, p, o, h1, h2, h3, by omega, h5⟩
theorem obj_calls (f d : Nat) (hV : ∀ g, g < f → CallsV g) (w : World) (C co : Nat) (VB : Option Nat) (n cap : Nat) (s : ByteArray) (hC : Cache w C co VB n cap) (hN : n + s.size + 1 ≤ 1000000000) (hf : 2 * s.size < f) (hd : d ≤ 300) :
    Calls Tryd.prog 75 #[.pointer (some ⟨C, co, none⟩), .string s, .int .i64 d] w (PRes w C co VB n (n + s.size + 1) (oRest f d s.data.toList)) := by
  cases h : skipW s.data.toList with
  | nil =>
    have e : oRest f d s.data.toList = none := by unfold oRest; rw [h]
    rw [e]
    exact obj_none f d w C co VB n cap s hC (by omega) h
  | cons c2 r2 =>
    by_cases h125 : c2 = 125
    · subst h125
      have e : oRest f d s.data.toList = some (.obj [], r2) := by unfold oRest; rw [h]; simp
      rw [e]
      exact (obj_empty f d w C co VB n cap s hC (by omega) r2 h).mono fun e w' k => k.mono (by omega)
    · have e : oRest f d s.data.toList = (pObj f d (c2 :: r2)).map fun p => (.obj p.1, p.2) := by unfold oRest; rw [h]; simp only []; rw [if_neg h125]
      rw [e]
      exact obj_full f d hV w C co VB n cap s hC hN hf hd c2 r2 h h125 _ rfl
theorem arr_calls (f d : Nat) (hV : ∀ g, g < f → CallsV g) (w : World) (C co : Nat) (VB : Option Nat) (n cap : Nat) (s : ByteArray) (hC : Cache w C co VB n cap) (hN : n + s.size + 1 ≤ 1000000000) (hf : 2 * s.size + 2 ≤ f) (hd : d ≤ 300) :
    Calls Tryd.prog 76 #[.pointer (some ⟨C, co, none⟩), .string s, .int .i64 d] w (PRes w C co VB n (n + s.size + 1) (aRest f d s.data.toList)) := by
  cases h : skipW s.data.toList with
  | nil =>
    have e : aRest f d s.data.toList = none := by unfold aRest; rw [h]
    rw [e]
    exact arr_none f d w C co VB n cap s hC (by omega) h
  | cons c2 r2 =>
    by_cases h93 : c2 = 93
    · subst h93
      have e : aRest f d s.data.toList = some (.arr [], r2) := by unfold aRest; rw [h]; simp
      rw [e]
      exact (arr_empty f d w C co VB n cap s hC (by omega) r2 h).mono fun e w' k => k.mono (by omega)
    · have e : aRest f d s.data.toList = (pArr f d (c2 :: r2)).map fun p => (.arr p.1, p.2) := by unfold aRest; rw [h]; simp only []; rw [if_neg h93]
      rw [e]
      exact arr_full f d hV w C co VB n cap s hC hN hf hd c2 r2 h h93 _ rfl
theorem GotV.leaf {w w1 w2 : World} {C co n vb cap : Nat} {VB : Option Nat} (g : GotV w1 C co VB n w2 vb cap) (hB : Below w.heap.size w w1) (t : Int) (x : ByteArray) :
    GotS w C co VB n ((w2.setCell ⟨vb, 5 * n + 4, none⟩ (.int .i64 t)).setCell ⟨vb, 5 * n + 3, none⟩ (.string x)) vb cap ∧ Slot ((w2.setCell ⟨vb, 5 * n + 4, none⟩ (.int .i64 t)).setCell ⟨vb, 5 * n + 3, none⟩ (.string x)) vb (5 * n + 3) (.string x) ∧ Slot ((w2.setCell ⟨vb, 5 * n + 4, none⟩ (.int .i64 t)).setCell ⟨vb, 5 * n + 3, none⟩ (.string x)) vb (5 * n + 4) (.int .i64 t) := by
  obtain ⟨z0, z1, z2, z3, z4⟩ := g.zero
  have a1 := AltC.set w2 vb (5 * n + 4) (.int .i64 t)
  have a2 := AltC.set (w2.setCell ⟨vb, 5 * n + 4, none⟩ (.int .i64 t)) vb (5 * n + 3) (.string x)
  have t0 := (z0.alt a1 (fun e => by omega)).alt a2 (fun e => by omega)
  have t1 := (z1.alt a1 (fun e => by omega)).alt a2 (fun e => by omega)
  have t2 := (z2.alt a1 (fun e => by omega)).alt a2 (fun e => by omega)
  have t3 := (z3.alt a1 (fun e => by omega)).set (.string x)
  have t4 := (z4.set (.int .i64 t)).alt a2 (fun e => by omega)
  refine ⟨(g.got hB).sets ((a1.mono (fun x y _ e => ⟨e.1, by omega, by omega⟩)).trans a2 (fun x y _ e => ⟨e.1, by omega, by omega⟩)) (fun k hk => ?_), t3, t4⟩
  match k, hk with
  | 0, _ => exact ⟨_, t0⟩
  | 1, _ => exact ⟨_, t1⟩
  | 2, _ => exact ⟨_, t2⟩
  | 3, _ => exact ⟨_, t3⟩
  | 4, _ => exact ⟨_, t4⟩
/-- What a leaf that is a text or a number comes to. -/
theorem leaf_ok {w w3 : World} {C co n vb cap L : Nat} {VB : Option Nat} {x r : Bs} {u : ByteArray} (h : GotS w C co VB n w3 vb cap) (s3 : Slot w3 vb (5 * n + 3) (.string (bs x))) {t : Int} (s4 : Slot w3 vb (5 * n + 4) (.int .i64 t)) (hu : u = bs r) (hl : n + 1 + r.length ≤ L) (v : JV) (hv : (t = 7 ∧ v = .str x) ∨ (t = 4 ∧ v = .num x)) (m : Nat) :
    POk w C co VB n L v r (.returned (.tuple #[.pointer (some ⟨vb, 5 * n, none⟩), .string u, .nilIface])) (w3.drewN m) := by
  refine ⟨some vb, n + 1, cap, vb, 5 * n, ret_p (p := (vb, 5 * n)) (q := (vb, 5 * n)) rfl hu, h.cache.drewN m, h.grew, hl, h.alt.more (below_drewN0 (Below.refl _ _) m), ?_⟩
  have e3 : Cel (w3.drewN m) (RegN w (w3.drewN m) C co VB n (some vb) (n + 1)) vb (5 * n + 3) (.string (bs x)) := ⟨h.reg 3 (by omega), s3⟩
  have e4 : Cel (w3.drewN m) (RegN w (w3.drewN m) C co VB n (some vb) (n + 1)) vb (5 * n + 4) (.int .i64 t) := ⟨h.reg 4 (by omega), s4⟩
  rcases hv with ⟨rfl, rfl⟩ | ⟨rfl, rfl⟩
  · exact .str e3 e4
  · exact .num e3 e4
end Go.Proofs.YtbdmdajbdmdknaaDoor
namespace Go.Proofs.YtbdmdajbdmdknaaDoor
open Go.RowKit
set_option linter.unusedVariables false
set_option linter.unusedSimpArgs false

set_option maxRecDepth 100000 in
set_option maxHeartbeats 4000000 in
theorem val_empty (w : World) (C co : Nat) (VB : Option Nat) (n d : Nat) (s : ByteArray) (h : s.size = 0) :
    Calls Tryd.prog 63 #[.pointer (some ⟨C, co, none⟩), .string s, .int .i64 d] w (PNo w C co VB n) := by
  go_enter Tryd.func63, Tryd.ntmps63
  go_wp2_with (go_at_call 48; go_must (refine (newErr_calls _ _).mono ?_; rintro e w1 ⟨T, a, rfl, hB⟩; have HB := hidden hB; clear hB))
  go_ret3
  exact PNo.of (AltC.of_below HB.out _)
set_option maxRecDepth 100000 in
set_option maxHeartbeats 4000000 in
theorem val_deep (w : World) (C co : Nat) (VB : Option Nat) (n d : Nat) (s : ByteArray) (h : 0 < s.size) (hd : d = 300) :
    Calls Tryd.prog 63 #[.pointer (some ⟨C, co, none⟩), .string s, .int .i64 d] w (PNo w C co VB n) := by
  have hne : ((s.size : Int) == 0) = false := beq_eq_false_iff_ne.2 (by omega)
  subst hd
  go_enter Tryd.func63, Tryd.ntmps63
  go_wp2_with (go_at_call 48; go_must (refine (newErr_calls _ _).mono ?_; rintro e w1 ⟨T, a, rfl, hB⟩; have HB := hidden hB; clear hB))
  go_ret3
  exact PNo.of (AltC.of_below HB.out _)
set_option maxRecDepth 100000 in
set_option maxHeartbeats 4000000 in
theorem val_obj (g d : Nat) (hV : ∀ q, q < g → CallsV q) (w : World) (C co : Nat) (VB : Option Nat) (n cap : Nat) (s : ByteArray) (hC : Cache w C co VB n cap) (hf : 2 * s.size < g + 1) (hN : n + s.size ≤ 1000000000) (hd : d < 300) (r : Bs) (hs : s.data.toList = 123 :: r) :
    Calls Tryd.prog 63 #[.pointer (some ⟨C, co, none⟩), .string s, .int .i64 d] w (PRes w C co VB n (n + s.size) (oRest g (d + 1) r)) := by
  obtain ⟨z1, z2, z3⟩ := cons_of hs
  have hp : 0 < s.size := by omega
  have hp' : 1 ≤ s.size := by omega
  have hne : ((s.size : Int) == 0) = false := beq_eq_false_iff_ne.2 (by omega)
  have hg := z2 hp
  have hdi : ¬ (300 : Int) < (d : Int) + 1 := by omega
  obtain ⟨s2, hs2⟩ : ∃ t : ByteArray, t.data.toList = r := ⟨bs r, rfl⟩
  have hz2 : s.size = s2.size + 1 := by (have : s2.size = r.length := by rw [size_toL, hs2]); omega
  rw [← hs2, bs_self] at z3
  have hcall := obj_calls g (d + 1) hV w C co VB n cap s2 hC (by omega) (by omega) (by omega)
  rw [hs2, show ((d + 1 : Nat) : Int) = (d : Int) + 1 by omega, show n + s2.size + 1 = n + s.size by omega] at hcall
  have HCALL := hidden hcall
  clear hs hC hV hs2 hz2 hcall z1 z2 hf
  cases hr : oRest g (d + 1) r with
  | none =>
    rw [hr] at HCALL
    clear hr
    go_enter Tryd.func63, Tryd.ntmps63
    go_wp2_with (first
      | (go_at_call 75; go_must (refine HCALL.out.mono ?_; rintro e w1 ⟨t, T, a, rfl, hA⟩; have HA := hidden hA; clear hA))
      | (go_at_call 48; go_must (refine (newErr_calls _ _).mono ?_; rintro e w2 ⟨T2, a2, rfl, hB⟩; have HB := hidden hB; clear hB)))
    go_ret3
    exact PNo.of (HA.out.more HB.out)
  | some vz =>
    obtain ⟨v, z⟩ := vz
    rw [hr] at HCALL
    clear hr
    go_enter Tryd.func63, Tryd.ntmps63
    go_wp2_with (go_at_call 75; go_must (refine HCALL.out.mono ?_; rintro e w1 ⟨VB2, n2, cap2, b2, o2, rfl, hC2, hG2, hL2, hA2, hR2⟩; dsimp only at hL2 ⊢; unfold ptr; have HR := hidden (show POk w C co VB n (n + s.size) v z (.returned (.tuple #[.pointer (some ⟨b2, o2, none⟩), .string (bs z), .nilIface])) w1 from ⟨VB2, n2, cap2, b2, o2, rfl, hC2, hG2, hL2, hA2, hR2⟩); clear hC2 hG2 hL2 hA2 hR2))
    go_ret3
    exact HR.out
set_option maxRecDepth 100000 in
set_option maxHeartbeats 4000000 in
theorem val_arr (g d : Nat) (hV : ∀ q, q < g → CallsV q) (w : World) (C co : Nat) (VB : Option Nat) (n cap : Nat) (s : ByteArray) (hC : Cache w C co VB n cap) (hf : 2 * s.size < g + 1) (hN : n + s.size ≤ 1000000000) (hd : d < 300) (r : Bs) (hs : s.data.toList = 91 :: r) :
    Calls Tryd.prog 63 #[.pointer (some ⟨C, co, none⟩), .string s, .int .i64 d] w (PRes w C co VB n (n + s.size) (aRest g (d + 1) r)) := by
  obtain ⟨z1, z2, z3⟩ := cons_of hs
  have hp : 0 < s.size := by omega
  have hp' : 1 ≤ s.size := by omega
  have hne : ((s.size : Int) == 0) = false := beq_eq_false_iff_ne.2 (by omega)
  have hg := z2 hp
  have hdi : ¬ (300 : Int) < (d : Int) + 1 := by omega
  obtain ⟨s2, hs2⟩ : ∃ t : ByteArray, t.data.toList = r := ⟨bs r, rfl⟩
  have hz2 : s.size = s2.size + 1 := by (have : s2.size = r.length := by rw [size_toL, hs2]); omega
  rw [← hs2, bs_self] at z3
  have hcall := arr_calls g (d + 1) hV w C co VB n cap s2 hC (by omega) (by omega) (by omega)
  rw [hs2, show ((d + 1 : Nat) : Int) = (d : Int) + 1 by omega, show n + s2.size + 1 = n + s.size by omega] at hcall
  have HCALL := hidden hcall
  clear hs hC hV hs2 hz2 hcall z1 z2 hf
  cases hr : aRest g (d + 1) r with
  | none =>
    rw [hr] at HCALL
    clear hr
    go_enter Tryd.func63, Tryd.ntmps63
    go_wp2_with (first
      | (go_at_call 76; go_must (refine HCALL.out.mono ?_; rintro e w1 ⟨t, T, a, rfl, hA⟩; have HA := hidden hA; clear hA))
      | (go_at_call 48; go_must (refine (newErr_calls _ _).mono ?_; rintro e w2 ⟨T2, a2, rfl, hB⟩; have HB := hidden hB; clear hB)))
    go_ret3
    exact PNo.of (HA.out.more HB.out)
  | some vz =>
    obtain ⟨v, z⟩ := vz
    rw [hr] at HCALL
    clear hr
    go_enter Tryd.func63, Tryd.ntmps63
    go_wp2_with (go_at_call 76; go_must (refine HCALL.out.mono ?_; rintro e w1 ⟨VB2, n2, cap2, b2, o2, rfl, hC2, hG2, hL2, hA2, hR2⟩; dsimp only at hL2 ⊢; unfold ptr; have HR := hidden (show POk w C co VB n (n + s.size) v z (.returned (.tuple #[.pointer (some ⟨b2, o2, none⟩), .string (bs z), .nilIface])) w1 from ⟨VB2, n2, cap2, b2, o2, rfl, hC2, hG2, hL2, hA2, hR2⟩); clear hC2 hG2 hL2 hA2 hR2))
    go_ret3
    exact HR.out
set_option maxRecDepth 100000 in
set_option maxHeartbeats 4000000 in
theorem val_str (d : Nat) (w : World) (C co : Nat) (VB : Option Nat) (n cap : Nat) (s : ByteArray) (hC : Cache w C co VB n cap) (hN : n + s.size ≤ 1000000000) (hd : d < 300) (r : Bs) (hs : s.data.toList = 34 :: r) :
    Calls Tryd.prog 63 #[.pointer (some ⟨C, co, none⟩), .string s, .int .i64 d] w (PRes w C co VB n (n + s.size) ((rawS false r).map fun p => (.str p.1, p.2))) := by
  obtain ⟨z1, z2, z3⟩ := cons_of hs
  have hp : 0 < s.size := by omega
  have hp' : 1 ≤ s.size := by omega
  have hne : ((s.size : Int) == 0) = false := beq_eq_false_iff_ne.2 (by omega)
  have hg := z2 hp
  have hdi : ¬ (300 : Int) < (d : Int) + 1 := by omega
  obtain ⟨s2, hs2⟩ : ∃ t : ByteArray, t.data.toList = r := ⟨bs r, rfl⟩
  have hz2 : s.size = s2.size + 1 := by (have : s2.size = r.length := by rw [size_toL, hs2]); omega
  rw [← hs2, bs_self] at z3
  have hcall := fun (x : Option (Bs × Bs)) (hx : x = rawS false r) => rawStr_calls s2 w (by omega) x (by rw [hx, hs2])
  have HCALL := hidden hcall
  have HC := hidden hC
  have HZ := hidden hz2
  have HS2 := hidden hs2
  clear hs hC hs2 hz2 hcall z1 z2
  cases hr : rawS false r with
  | none =>
    have HK := hidden (HCALL.out none hr.symm)
    clear hr
    go_enter Tryd.func63, Tryd.ntmps63
    go_wp2_with (first
      | (go_at_call 77; go_must (refine HK.out.mono ?_; rintro e w1 ⟨t, u, T, a, rfl, hA⟩; have HA := hidden hA; clear hA))
      | (go_at_call 48; go_must (refine (newErr_calls _ _).mono ?_; rintro e w2 ⟨T2, a2, rfl, hB⟩; have HB := hidden hB; clear hB)))
    go_ret3
    exact PNo.of ((AltC.of_below HA.out _).more HB.out)
  | some vz =>
    obtain ⟨x, y⟩ := vz
    have HK := hidden (HCALL.out (some (x, y)) hr.symm)
    have hlen := rawS_len _ _ _ _ hr
    have HLEN := hidden hlen
    clear hr hlen
    go_enter Tryd.func63, Tryd.ntmps63
    go_upto_region 21 with (first
      | (go_at_call 77; go_must (refine HK.out.mono ?_; rintro e w1 ⟨rfl, hA⟩; have HA := hidden hA; clear hA; dsimp only))
      | (go_at_call 78; go_must (refine (getValue_calls _ C co n cap VB (HC.out.alt (AltC.of_below HA.out (fun _ _ => False)) (fun e => e) (fun _ _ _ e => e)) (by omega)).mono ?_; rintro e w2 ⟨vb, cap1, rfl, hG⟩; have HG := hidden hG; clear hG)))
    have z4 := HG.out.zero.2.2.2.2
    have c4 := z4.1
    have f4 := z4.2
    have z3' := (HG.out.zero.2.2.2.1).alt (AltC.set w2 vb (5 * n + 4) (.int .i64 7)) (fun e => by omega)
    have c3 := z3'.1
    have f3 := z3'.2
    have hlf := HG.out.leaf HA.out 7 (bs x)
    have HLF := hidden hlf
    clear z4 z3' hlf
    go_wp2
    go_ret3
    exact leaf_ok (m := 0) HLF.out.1 HLF.out.2.1 HLF.out.2.2 rfl (by have h1 := HLEN.out; have h2 := HZ.out; (have h3 : s2.size = r.length := by rw [size_toL, HS2.out]); omega) _ (.inl ⟨rfl, rfl⟩)
set_option maxRecDepth 100000 in
set_option maxHeartbeats 4000000 in
theorem val_num (d : Nat) (w : World) (C co : Nat) (VB : Option Nat) (n cap : Nat) (s : ByteArray) (hC : Cache w C co VB n cap) (hN : n + s.size ≤ 1000000000) (hd : d < 300) (c : UInt8) (r : Bs) (hs : s.data.toList = c :: r) (h1 : c ≠ 123) (h2 : c ≠ 91) (h3 : c ≠ 34) (h4 : c ≠ 116) (h5 : c ≠ 102) (h6 : c ≠ 110) :
    Calls Tryd.prog 63 #[.pointer (some ⟨C, co, none⟩), .string s, .int .i64 d] w (PRes w C co VB n (n + s.size) ((rawN (c :: r)).map fun p => (.num p.1, p.2))) := by
  obtain ⟨z1, z2, z3⟩ := cons_of hs
  have hp : 0 < s.size := by omega
  have hp' : 1 ≤ s.size := by omega
  have hne : ((s.size : Int) == 0) = false := beq_eq_false_iff_ne.2 (by omega)
  have hg := z2 hp
  have hdi : ¬ (300 : Int) < (d : Int) + 1 := by omega
  obtain ⟨a, ha⟩ : ∃ a : Nat, c.toNat = a := ⟨_, rfl⟩
  have b1 := u8_ne (k := 123) (by omega) h1
  have b2 := u8_ne (k := 91) (by omega) h2
  have b3 := u8_ne (k := 34) (by omega) h3
  have b4 := u8_ne (k := 116) (by omega) h4
  have b5 := u8_ne (k := 102) (by omega) h5
  have b6 := u8_ne (k := 110) (by omega) h6
  rw [ha] at b1 b2 b3 b4 b5 b6
  obtain ⟨e1, f1⟩ := b1
  obtain ⟨e2, f2⟩ := b2
  obtain ⟨e3, f3⟩ := b3
  obtain ⟨e4, f4⟩ := b4
  obtain ⟨e5, f5⟩ := b5
  obtain ⟨e6, f6⟩ := b6
  have hcall := fun (x : Option (Bs × Bs)) (hx : x = rawN (c :: r)) => rawNum_calls s w (by omega) x (by rw [hx, hs])
  have HCALL := hidden hcall
  have HC := hidden hC
  have HS := hidden hs
  clear hs hC hcall z1 z2 z3 h1 h2 h3 h4 h5 h6
  cases hr : rawN (c :: r) with
  | none =>
    have HK := hidden (HCALL.out none hr.symm)
    clear hr
    go_enter Tryd.func63, Tryd.ntmps63
    go_wp2_with (first
      | (go_at_call 83; go_must (refine HK.out.mono ?_; rintro e w1 ⟨t, u, T, a, rfl, hA⟩; have HA := hidden hA; clear hA))
      | (go_at_call 48; go_must (refine (newErr_calls _ _).mono ?_; rintro e w2 ⟨T2, a2, rfl, hB⟩; have HB := hidden hB; clear hB)))
    go_ret3
    exact PNo.of ((AltC.of_below HA.out _).more HB.out)
  | some vz =>
    obtain ⟨x, y⟩ := vz
    have HK := hidden (HCALL.out (some (x, y)) hr.symm)
    have hlen := rawN_len hr
    have HLEN := hidden hlen
    clear hr hlen
    go_enter Tryd.func63, Tryd.ntmps63
    go_upto_region 45 with (first
      | (go_at_call 83; go_must (refine HK.out.mono ?_; rintro e w1 ⟨rfl, hA⟩; have HA := hidden hA; clear hA; dsimp only))
      | (go_at_call 78; go_must (refine (getValue_calls _ C co n cap VB (HC.out.alt (AltC.of_below HA.out (fun _ _ => False)) (fun e => e) (fun _ _ _ e => e)) (by omega)).mono ?_; rintro e w2 ⟨vb, cap1, rfl, hG⟩; have HG := hidden hG; clear hG)))
    have z4 := HG.out.zero.2.2.2.2
    have c4 := z4.1
    have f4 := z4.2
    have z3' := (HG.out.zero.2.2.2.1).alt (AltC.set w2 vb (5 * n + 4) (.int .i64 4)) (fun e => by omega)
    have c3 := z3'.1
    have f3 := z3'.2
    have hlf := HG.out.leaf HA.out 4 (bs x)
    have HLF := hidden hlf
    clear z4 z3' hlf
    go_wp2
    go_ret3
    exact leaf_ok (m := 0) HLF.out.1 HLF.out.2.1 HLF.out.2.2 rfl (by have h1 := HLEN.out; (have h3 : s.size = r.length + 1 := by rw [size_toL, HS.out]; rfl); omega) _ (.inr ⟨rfl, rfl⟩)
end Go.Proofs.YtbdmdajbdmdknaaDoor
