/- The parser's store of values: getValue. -/
import Derived.Test.YtbdmdajbdmdknaaGreatDoorJsonA
import Derived.StillTailTactics
import Derived.Deep.DeepCutAuto
namespace Go.Proofs.YtbdmdajbdmdknaaGreatDoor
open Go.RowKit
set_option linter.unusedVariables false
set_option linter.unusedSimpArgs false

theorem walk_runapp {P : Program} {ops : Array Oper} {rest : List Oper} {o : Oper} {a : Act} {Q : Exit → Act → World → Prop} {W w1 : World} {t : Nat} (hgd : o.guard = none) (s x : Operand)
    (ho : o.op = .call { callee := .builtin .append, args := #[s, x], argTypes := #[t, t] }) {v y r : Value} (hs : a.eval s = v) (hx : a.eval x = y) (hrun : (Builtin.append_ #[t, t] o.type #[v, y]).run P W = .ok r w1)
    (h : wpList P ops Q rest (a.put o.dst r) w1) : wpList P ops Q (o :: rest) a W := by
  refine wpList_plain hgd fun K hK => ?_
  unfold Oper.wp execOp
  simp only [ho, resolve, invoke, builtin, Sem.run_bind, Sem.run_pure, Result.andThen_ok, List.map_toArray, List.map_cons, List.map_nil, hs, hx, hrun]
  exact hK _ _ h
theorem run_upto_k {P : Program} {W : World} {t e : TypeId} (ht : P.underlying t = some (.slice e)) {sz : Nat} (hsz : (P.info? e).map (·.size) = some sz) (A : Option Addr) (len cap : Nat) (l : Int) (j : Nat) (hl : l = (j : Int)) (hc : j ≤ cap) :
    (Instr.slice t (.slice A len cap) none (some (.int .i64 l)) none).run P W = .ok (.slice A j cap) W := by
  subst hl
  obtain ⟨i0, hi, hs⟩ := Option.map_eq_some_iff.1 hsz
  cases A <;> simp [Instr.slice, run_underlying ht, Instr.sliceBounds, run_sliceBound, sizeOf, typeInfo, hi, hs, hc, Addr.add]
/-- A new value is given out. -/
structure GotV (w : World) (C co : Nat) (VB : Option Nat) (n : Nat) (w' : World) (vb cap : Nat) : Prop where
  cache : Cache w' C co (some vb) (n + 1) cap
  zero : Zero5 w' vb (5 * n)
  alt : AltC w w' (fun x y => x = C ∧ y = co)
  grew : Grew w VB n (some vb) (n + 1)
theorem Cache.drewN {w : World} {C co n cap : Nat} {VB : Option Nat} (h : Cache w C co VB n cap) (m : Nat) : Cache (w.drewN m) C co VB n cap := ⟨h.fld, h.le, h.nil, h.ne, h.lt, h.old, h.spare⟩
theorem GotV.drewN {w w' : World} {C co n vb cap : Nat} {VB : Option Nat} (h : GotV w C co VB n w' vb cap) (m : Nat) : GotV w C co VB n (w'.drewN m) vb cap :=
  ⟨h.cache.drewN m, h.zero, h.alt.trans (AltC.drewN w' m (fun _ _ => False)) (fun _ _ _ h => h.elim), h.grew⟩
theorem GotV.room {w : World} {C co vb n cap m : Nat} (h : Cache w C co (some vb) n cap) (hc : n < cap) : GotV w C co (some vb) n ((w.drewN m).setCell ⟨C, co, none⟩ (.slice (some ⟨vb, 0, none⟩) (n + 1) cap)) vb cap := by
  have hA : AltC w ((w.drewN m).setCell ⟨C, co, none⟩ (.slice (some ⟨vb, 0, none⟩) (n + 1) cap)) (fun x y => x = C ∧ y = co) := (AltC.drewN w m _).trans (AltC.set _ _ _ _) (fun _ _ _ e => e)
  have hne : vb ≠ C := fun e => h.ne (by rw [e])
  have hz := h.spare vb rfl n (Nat.le_refl _) hc
  have hz' := hz.alt hA (fun y _ _ e => hne e.1)
  have hf : Slot (w.drewN m) C co (.slice (some ⟨vb, 0, none⟩) n cap) := h.fld
  refine ⟨⟨hf.set _, hc, (fun e => by cases e), h.ne, fun b hb => by simpa using h.lt b hb, ?_, ?_⟩, hz', hA, ⟨by omega, .inl rfl⟩⟩
  · intro b hb j hj
    cases hb
    rcases Nat.lt_or_ge j (5 * n) with hj2 | hj2
    · obtain ⟨v, hv⟩ := h.old vb rfl j hj2
      exact ⟨v, hv.alt hA (fun e => hne e.1)⟩
    · obtain ⟨k, rfl⟩ : ∃ k, j = 5 * n + k := ⟨j - 5 * n, by omega⟩
      have hk : k < 5 := by omega
      match k, hk with
      | 0, _ => exact ⟨_, hz'.1⟩
      | 1, _ => exact ⟨_, hz'.2.1⟩
      | 2, _ => exact ⟨_, hz'.2.2.1⟩
      | 3, _ => exact ⟨_, hz'.2.2.2.1⟩
      | 4, _ => exact ⟨_, hz'.2.2.2.2⟩
  · intro b hb i hi hic
    cases hb
    exact (h.spare vb rfl i (by omega) hic).alt hA (fun y _ _ e => hne e.1)
def zero5 : List Value := [.slice none 0 0, .bool false, .slice none 0 0, .string ⟨#[]⟩, .int .i64 0]
theorem zero_at {w : World} {g t : Nat} {vs zs : List Value} {m i : Nat} (h : Row w g t (vs ++ zs)) (hz : ∀ i k v, i < m → zero5[k]? = some v → zs[5 * i + k]? = some v) {o : Nat} (ho : o = vs.length + 5 * i) (hi : i < m) : Zero5 w g o := by
  subst ho
  have key : ∀ k v, zero5[k]? = some v → Slot w g (vs.length + 5 * i + k) v := fun k v hv => Slot.of_row h _ (by
    rw [Nat.add_assoc, List.getElem?_append_right (by omega), Nat.add_sub_cancel_left]
    exact hz i k v hi hv)
  exact ⟨key 0 _ rfl, key 1 _ rfl, key 2 _ rfl, key 3 _ rfl, key 4 _ rfl⟩
theorem info_val : (Tryz.prog.info? 130).map (fun i => (i.zero, i.size, i.bytes)) = some (some (.agg zero5.toArray), 5, 80) := by kernel_rfl
/-- The values that were given out, as cells. -/
theorem cache_olds {w : World} {C co n cap : Nat} {VB : Option Nat} (h : Cache w C co VB n cap) : ∃ olds : List Value, olds.length = n * 5 ∧ (∀ j v, olds[j]? = some v → ∃ b, VB = some b ∧ Slot w b j v) := by
  cases VB with
  | none =>
    have hn : n = 0 := by have := h.nil rfl; have := h.le; omega
    subst hn
    exact ⟨[], rfl, fun j v e => by simp at e⟩
  | some b =>
    refine ⟨(List.range (n * 5)).map (fun j => (w.cell? ⟨b, j, none⟩).getD undef), by simp, fun j v e => ⟨b, rfl, ?_⟩⟩
    have hj : j < n * 5 := by have := (List.getElem?_eq_some_iff.1 e).1; simpa using this
    obtain ⟨u, hu⟩ := h.old b rfl j (by omega)
    simp [hj, hu.1] at e
    subst e
    exact hu
theorem GotV.full {w w1 : World} {C co n cap g : Nat} {VB : Option Nat} {olds : List Value} (h : Cache w C co VB n n) (hol : olds.length = n * 5) (hg : w.heap.size ≤ g) (hcap : n + 1 ≤ cap)
    (hR : Row w1 g 130 (olds ++ zero5 ++ (Builtin.zeroCells zero5.toArray (cap - (n + 1))).toList)) (hB : Below w.heap.size w w1) :
    GotV w C co VB n (w1.setCell ⟨C, co, none⟩ (.slice (some ⟨g, 0, none⟩) (n + 1) cap)) g cap := by
  have hC : C < w.heap.size := h.fld.lt
  have hA : AltC w (w1.setCell ⟨C, co, none⟩ (.slice (some ⟨g, 0, none⟩) (n + 1) cap)) (fun x y => x = C ∧ y = co) := (AltC.of_below hB _).trans (AltC.set _ _ _ _) (fun _ _ _ e => e)
  have hne : g ≠ C := by omega
  have hR2 : Row (w1.setCell ⟨C, co, none⟩ (.slice (some ⟨g, 0, none⟩) (n + 1) cap)) g 130 (olds ++ zero5 ++ (Builtin.zeroCells zero5.toArray (cap - (n + 1))).toList) := hR.far (fun e => hne e.symm) _
  have hz5 : ∀ (m i k : Nat) (v : Value), i < m → zero5[k]? = some v → (Builtin.zeroCells zero5.toArray m).toList[5 * i + k]? = some v := fun m i k v hi hv => by
    have hk : k < zero5.toArray.size := (List.getElem?_eq_some_iff.1 hv).1
    have := zero_get zero5.toArray m i k hk hi
    rw [show zero5.toArray.size = 5 from rfl] at this
    rw [this]
    rw [← hv]
    simp [show k < zero5.length from hk]
  refine ⟨⟨(h.fld.below hB).set _, by omega, (fun e => by cases e), by simpa using hne, fun b hb => by cases hb; exact hR2.lt, ?_, ?_⟩, ?_, hA, ⟨by omega, .inr ⟨g, rfl, hg⟩⟩⟩
  · intro b hb j hj
    cases hb
    have hjl : j < (olds ++ zero5 ++ (Builtin.zeroCells zero5.toArray (cap - (n + 1))).toList).length := by simp [hol, zero5]; omega
    exact ⟨_, Slot.of_row hR2 j (List.getElem?_eq_getElem hjl)⟩
  · intro b hb i hi hic
    cases hb
    exact zero_at (m := cap - (n + 1)) (i := i - (n + 1)) hR2 (hz5 _) (by simp [hol, zero5]; omega) (by omega)
  · rw [List.append_assoc] at hR2
    refine zero_at (vs := olds) (m := 1) (i := 0) hR2 (fun i k v hi hv => ?_) (by rw [hol]; omega) (by omega)
    obtain rfl : i = 0 := by omega
    have hk := (List.getElem?_eq_some_iff.1 hv).1
    rw [Nat.mul_zero, Nat.zero_add, List.getElem?_append_left hk, hv]
theorem ret_ptr {b o o' : Nat} (h : o = o') : Ending.returned (.pointer (some ⟨b, o, none⟩)) = .returned (.pointer (some ⟨b, o', none⟩)) := by rw [h]
set_option maxRecDepth 100000 in
set_option maxHeartbeats 1000000 in
theorem getValue_room (w : World) (C co vb n cap : Nat) (h : Cache w C co (some vb) n cap) (hc : n < cap) (hN : n ≤ 1000000000) :
    Calls Tryz.prog 111 #[.pointer (some ⟨C, co, none⟩)] w fun e w' => e = .returned (.pointer (some ⟨vb, 5 * n, none⟩)) ∧ GotV w C co (some vb) n w' vb cap := by
  have HC := hidden h
  have c0 := h.fld.1
  have f0 := h.fld.2
  simp only [Option.map_some] at c0
  have hci : (n : Int) < (cap : Int) := by omega
  have hw : IntKind.i64.wrap ((n : Int) + 1) = (n : Int) + 1 := by rw [IntKind.wrap_i64]; omega
  have hsl : ∀ W : World, (Instr.slice 134 (.slice (some ⟨vb, 0, none⟩) n cap) none (some (.int .i64 ((n : Int) + 1))) none).run Tryz.prog W = .ok (.slice (some ⟨vb, 0, none⟩) (n + 1) cap) W := fun W =>
    run_upto_k (sz := 5) Tryz.underlying134 (by kernel_rfl) _ n cap _ (n + 1) (by omega) hc
  clear h
  go_enter Tryz.func111, Tryz.ntmps111
  go_wp2
  go_quiet (fail)
  go_wp2
  obtain ⟨W1, hW1⟩ : ∃ W1, w.drewN nq = W1 := ⟨_, rfl⟩
  rw [hW1]
  have c1 : W1.cell? ⟨C, co, none⟩ = some (.slice (some ⟨vb, 0, none⟩) n cap) := by rw [← hW1]; exact c0
  have f1 : W1.frozen? ⟨C, co, none⟩ = false := by rw [← hW1]; exact f0
  have HW := hidden hW1
  clear hW1 c0 f0
  go_still_tail 14, (by kernel_rfl)
  change wpList _ _ _ _ _ W1.drew
  go_wp2
  refine wpAbs (fun W => Hid (GotV w C co (some vb) n W vb cap)) (hidden (by have := GotV.room (m := nq + 1) HC.out hc; rw [← HW.out]; exact this)) ?_
  rintro W2 HG
  have c2 := HG.out.cache.fld.1
  simp only [Option.map_some] at c2
  have hw3 : IntKind.i64.wrap ((n : Int) + 1 - 1) = (n : Int) := by rw [IntKind.wrap_i64]; omega
  have hw4 : IntKind.i64.wrap (((n + 1 : Nat) : Int) - 1) = (n : Int) := by rw [IntKind.wrap_i64]; omega
  have hnn : n < n + 1 := by omega
  clear c1 f1 hsl
  go_quiet (fail)
  go_wp2
  go_ret
  exact ⟨ret_ptr (by omega), HG.out.drewN _⟩
set_option maxRecDepth 100000 in
set_option maxHeartbeats 1000000 in
theorem getValue_full (w : World) (C co n : Nat) (VB : Option Nat) (h : Cache w C co VB n n) (hN : n ≤ 1000000000) :
    Calls Tryz.prog 111 #[.pointer (some ⟨C, co, none⟩)] w fun e w' => ∃ vb cap, e = .returned (.pointer (some ⟨vb, 5 * n, none⟩)) ∧ GotV w C co VB n w' vb cap := by
  have HC := hidden h
  have c0 := h.fld.1
  have f0 := h.fld.2
  have hlt := h.fld.lt
  obtain ⟨A, hA⟩ : ∃ A : Option Addr, VB.map (fun b => (⟨b, 0, none⟩ : Addr)) = A := ⟨_, rfl⟩
  rw [hA] at c0
  obtain ⟨i0, hi0, hzz⟩ := Option.map_eq_some_iff.1 info_val
  simp only [Prod.mk.injEq] at hzz
  obtain ⟨hz0, hz1, hz2⟩ := hzz
  obtain ⟨olds, hol, hrd⟩ := cache_olds h
  have hgrow : ∀ W : World, Below w.heap.size w W → ∃ cap w1, n + 1 ≤ cap ∧ (Builtin.append_ #[134, 134] 134 #[.slice A n n, .slice (some ⟨W.heap.size, 0, none⟩) 1 1]).run Tryz.prog (W.alloc (.cells zero5.toArray 130)) = .ok (.slice (some ⟨(W.alloc (.cells zero5.toArray 130)).heap.size, 0, none⟩) (n + 1) cap) w1 ∧ Row w1 (W.alloc (.cells zero5.toArray 130)).heap.size 130 (olds ++ zero5 ++ (Builtin.zeroCells zero5.toArray (cap - (n + 1))).toList) ∧ Below w.heap.size w w1 := fun W hB => by
    obtain ⟨cap, w1, h1, h2, h3, h4, _⟩ := run_grow_k (P := Tryz.prog) (W := W.alloc (.cells zero5.toArray 130)) (ty := 134) Tryz.underlying134 hi0 hz0 A n olds (by rw [hz1]; exact hol)
      (fun j v hv => by
        obtain ⟨b, hb, hs⟩ := hrd j v hv
        subst hb
        exact ⟨b, hA.symm, cell_next (below_alloc0 W _) (cell_next hB hs.1)⟩)
      (fun e => by
        cases VB with
        | none => have := h.nil rfl; omega
        | some b => rw [← hA] at e; cases e) W.heap.size 1 zero5 (by rw [hz1]; rfl) (Row.new W _ _) (by intro u hu; simp only [zero5, List.mem_cons, List.not_mem_nil, or_false] at hu; rcases hu with rfl | rfl | rfl | rfl | rfl <;> rfl) (by rw [hz2]; omega) (by omega)
    exact ⟨cap, w1, h1, h2, h3, below_next (below_next hB (below_alloc0 W _)) h4⟩
  have HG := hidden hgrow
  have HOL := hidden hol
  clear h hrd hz0 hz1 hz2 hi0 hgrow hol hA
  go_enter Tryz.func111, Tryz.ntmps111
  go_wp2
  go_quiet (fail)
  obtain ⟨W1, hW1⟩ : ∃ W1, w.drewN nq = W1 := ⟨_, rfl⟩
  rw [hW1]
  have c1 : W1.cell? ⟨C, co, none⟩ = some (.slice A n n) := by rw [← hW1]; exact c0
  have f1 : W1.frozen? ⟨C, co, none⟩ = false := by rw [← hW1]; exact f0
  have HB1 : Hid (Below w.heap.size w W1) := hidden (by rw [← hW1]; exact below_drewN0 (Below.refl _ _) _)
  clear hW1 c0 f0
  obtain ⟨cap, w2, hcap, hrun, hR, hB2⟩ := HG.out W1 HB1.out
  have hsz1 : (W1.alloc (.cells zero5.toArray 130)).heap.size = W1.heap.size + 1 := by simp
  rw [hsz1] at hrun hR
  have HRUN := hidden hrun
  have HR := hidden hR
  have HB2 := hidden hB2
  have c2 := cell_next hB2 HC.out.fld.1
  have f2 := (hB2.frozen (p := ⟨C, co, none⟩) hlt).trans HC.out.fld.2
  have HCAP := hidden hcap
  clear hrun hR hB2 hcap HG hsz1
  go_wp2_with ((with_reducible refine at_dst 35 ?_); go_must (refine walk_runapp rfl (.tmp 32) (.tmp 34) rfl rfl rfl HRUN.out ?_))
  obtain ⟨vb, hvb⟩ : ∃ vb, W1.heap.size + 1 = vb := ⟨_, rfl⟩
  rw [hvb] at HR ⊢
  have HVB : Hid (w.heap.size ≤ vb) := hidden (by rw [← hvb]; have := HB1.out.size; omega)
  clear hvb HRUN c1 f1 c2 f2
  refine wpAbs (fun W => Hid (GotV w C co VB n W vb cap)) (hidden (GotV.full HC.out HOL.out HVB.out HCAP.out HR.out HB2.out)) ?_
  rintro W2 HG
  have c2 := HG.out.cache.fld.1
  simp only [Option.map_some] at c2
  have hw3 : IntKind.i64.wrap ((n : Int) + 1 - 1) = (n : Int) := by rw [IntKind.wrap_i64]; omega
  have hw4 : IntKind.i64.wrap (((n + 1 : Nat) : Int) - 1) = (n : Int) := by rw [IntKind.wrap_i64]; omega
  have hnn : n < n + 1 := by omega
  go_quiet (fail)
  go_wp2
  go_ret
  exact ⟨vb, cap, ret_ptr (by omega), HG.out.drewN _⟩
theorem getValue_calls (w : World) (C co n cap : Nat) (VB : Option Nat) (h : Cache w C co VB n cap) (hN : n ≤ 1000000000) :
    Calls Tryz.prog 111 #[.pointer (some ⟨C, co, none⟩)] w fun e w' => ∃ vb cap, e = .returned (.pointer (some ⟨vb, 5 * n, none⟩)) ∧ GotV w C co VB n w' vb cap := by
  rcases Nat.lt_or_ge n cap with hc | hc
  · cases VB with
    | none => have := h.nil rfl; omega
    | some vb => exact (getValue_room w C co vb n cap h hc hN).mono fun e w' k => ⟨vb, cap, k⟩
  · have := h.le
    obtain rfl : cap = n := by omega
    exact getValue_full w C co cap VB h hN
end Go.Proofs.YtbdmdajbdmdknaaGreatDoor
