/- The parser's store of values: getValue. The names of an object: getKV; the resets. What holds between the parts of an object that is parsed. Nothing here speaks of the program's text. Plain laws of the closing quotation mark. Nothing here speaks of the program. -/
import Derived.Test.YtbdmdajbdmdknaaGreatDoorJsonA
import Derived.StillTailTactics
import Derived.Deep.DeepCutAuto
import Derived.Test.YtbdmdajbdmdknaaGreatDoorM1
import Derived.Lib.Bytealg
namespace Go.Proofs.YtbdmdajbdmdknaaGreatDoor
open Go.RowKit
set_option linter.unusedVariables false
set_option linter.unusedSimpArgs false

theorem walk_runapp {P : Program} {ops : Array Oper} {rest : List Oper} {o : Oper} {a : Act} {Q : Exit → Act → World → Prop} {W w1 : World} {t : Nat} (hgd : o.guard = none) (s x : Operand)
    (ho : o.op = .call { callee := .builtin .append, args := #[s, x], argTypes := #[t, t] }) {v y r : Value} (hs : a.eval s = v) (hx : a.eval x = y) (hrun : (Builtin.append_ #[t, t] o.type #[v, y]).run P W = .ok r w1)
    (h : wpList P ops Q rest (a.put o.dst r) w1) : wpList P ops Q (o :: rest) a W := by
  refine wpList_plain hgd fun K hK => ?_
  unfold Oper.wp execOp
  simp only [ho, resolve, invoke, builtin, Sem.run_bind, Sem.run_pure, Result.andThen_ok, List.map_toArray, List.map_cons, List.map_nil, hs, hx, hrun]
  exact hK _ _ h
theorem run_upto_k {P : Program} {W : World} {t e : TypeId} (ht : P.underlying t = some (.slice e)) {sz : Nat} (hsz : (P.info? e).map (·.size) = some sz) (A : Option Addr) (len cap : Nat) (l : Int) (j : Nat) (hl : l = (j : Int)) (hc : j ≤ cap) :
    (Instr.slice t (.slice A len cap) none (some (.int .i64 l)) none).run P W = .ok (.slice A j cap) W := by
  subst hl
  obtain ⟨i0, hi, hs⟩ := Option.map_eq_some_iff.1 hsz
  cases A <;> simp [Instr.slice, run_underlying ht, Instr.sliceBounds, run_sliceBound, sizeOf, typeInfo, hi, hs, hc, Addr.add]
/-- A new value is given out. -/
structure GotV (w : World) (C co : Nat) (VB : Option Nat) (n : Nat) (w' : World) (vb cap : Nat) : Prop where
  cache : Cache w' C co (some vb) (n + 1) cap
  zero : Zero5 w' vb (5 * n)
  alt : AltC w w' (fun x y => x = C ∧ y = co)
  grew : Grew w VB n (some vb) (n + 1)
theorem Cache.drewN {w : World} {C co n cap : Nat} {VB : Option Nat} (h : Cache w C co VB n cap) (m : Nat) : Cache (w.drewN m) C co VB n cap := ⟨h.fld, h.le, h.nil, h.ne, h.lt, h.old, h.spare⟩
theorem GotV.drewN {w w' : World} {C co n vb cap : Nat} {VB : Option Nat} (h : GotV w C co VB n w' vb cap) (m : Nat) : GotV w C co VB n (w'.drewN m) vb cap :=
  ⟨h.cache.drewN m, h.zero, h.alt.trans (AltC.drewN w' m (fun _ _ => False)) (fun _ _ _ h => h.elim), h.grew⟩
theorem GotV.room {w : World} {C co vb n cap m : Nat} (h : Cache w C co (some vb) n cap) (hc : n < cap) : GotV w C co (some vb) n ((w.drewN m).setCell ⟨C, co, none⟩ (.slice (some ⟨vb, 0, none⟩) (n + 1) cap)) vb cap := by
  have hA : AltC w ((w.drewN m).setCell ⟨C, co, none⟩ (.slice (some ⟨vb, 0, none⟩) (n + 1) cap)) (fun x y => x = C ∧ y = co) := (AltC.drewN w m _).trans (AltC.set _ _ _ _) (fun _ _ _ e => e)
  have hne : vb ≠ C := fun e => h.ne (by rw [e])
  have hz := h.spare vb rfl n (Nat.le_refl _) hc
  have hz' := hz.alt hA (fun y _ _ e => hne e.1)
  have hf : Slot (w.drewN m) C co (.slice (some ⟨vb, 0, none⟩) n cap) := h.fld
  refine ⟨⟨hf.set _, hc, (fun e => by cases e), h.ne, fun b hb => by simpa using h.lt b hb, ?_, ?_⟩, hz', hA, ⟨by omega, .inl rfl⟩⟩
  · intro b hb j hj
    cases hb
    rcases Nat.lt_or_ge j (5 * n) with hj2 | hj2
    · obtain ⟨v, hv⟩ := h.old vb rfl j hj2
      exact ⟨v, hv.alt hA (fun e => hne e.1)⟩
    · obtain ⟨k, rfl⟩ : ∃ k, j = 5 * n + k := ⟨j - 5 * n, by omega⟩
      have hk : k < 5 := by omega
      match k, hk with
      | 0, _ => exact ⟨_, hz'.1⟩
      | 1, _ => exact ⟨_, hz'.2.1⟩
      | 2, _ => exact ⟨_, hz'.2.2.1⟩
      | 3, _ => exact ⟨_, hz'.2.2.2.1⟩
      | 4, _ => exact ⟨_, hz'.2.2.2.2⟩
  · intro b hb i hi hic
    cases hb
    exact (h.spare vb rfl i (by omega) hic).alt hA (fun y _ _ e => hne e.1)
def zero5 : List Value := [.slice none 0 0, .bool false, .slice none 0 0, .string ⟨#[]⟩, .int .i64 0]
theorem zero_at {w : World} {g t : Nat} {vs zs : List Value} {m i : Nat} (h : Row w g t (vs ++ zs)) (hz : ∀ i k v, i < m → zero5[k]? = some v → zs[5 * i + k]? = some v) {o : Nat} (ho : o = vs.length + 5 * i) (hi : i < m) : Zero5 w g o := by
  subst ho
  have key : ∀ k v, zero5[k]? = some v → Slot w g (vs.length + 5 * i + k) v := fun k v hv => Slot.of_row h _ (by
    rw [Nat.add_assoc, List.getElem?_append_right (by omega), Nat.add_sub_cancel_left]
    exact hz i k v hi hv)
  exact ⟨key 0 _ rfl, key 1 _ rfl, key 2 _ rfl, key 3 _ rfl, key 4 _ rfl⟩
theorem info_val : (Tryz.prog.info? 130).map (fun i => (i.zero, i.size, i.bytes)) = some (some (.agg zero5.toArray), 5, 80) := by kernel_rfl
/-- The values that were given out, as cells. -/
theorem cache_olds {w : World} {C co n cap : Nat} {VB : Option Nat} (h : Cache w C co VB n cap) : ∃ olds : List Value, olds.length = n * 5 ∧ (∀ j v, olds[j]? = some v → ∃ b, VB = some b ∧ Slot w b j v) := by
  cases VB with
  | none =>
    have hn : n = 0 := by have := h.nil rfl; have := h.le; omega
    subst hn
    exact ⟨[], rfl, fun j v e => by simp at e⟩
  | some b =>
    refine ⟨(List.range (n * 5)).map (fun j => (w.cell? ⟨b, j, none⟩).getD undef), by simp, fun j v e => ⟨b, rfl, ?_⟩⟩
    have hj : j < n * 5 := by have := (List.getElem?_eq_some_iff.1 e).1; simpa using this
    obtain ⟨u, hu⟩ := h.old b rfl j (by omega)
    simp [hj, hu.1] at e
    subst e
    exact hu
theorem GotV.full {w w1 : World} {C co n cap g : Nat} {VB : Option Nat} {olds : List Value} (h : Cache w C co VB n n) (hol : olds.length = n * 5) (hg : w.heap.size ≤ g) (hcap : n + 1 ≤ cap)
    (hR : Row w1 g 130 (olds ++ zero5 ++ (Builtin.zeroCells zero5.toArray (cap - (n + 1))).toList)) (hB : Below w.heap.size w w1) :
    GotV w C co VB n (w1.setCell ⟨C, co, none⟩ (.slice (some ⟨g, 0, none⟩) (n + 1) cap)) g cap := by
  have hC : C < w.heap.size := h.fld.lt
  have hA : AltC w (w1.setCell ⟨C, co, none⟩ (.slice (some ⟨g, 0, none⟩) (n + 1) cap)) (fun x y => x = C ∧ y = co) := (AltC.of_below hB _).trans (AltC.set _ _ _ _) (fun _ _ _ e => e)
  have hne : g ≠ C := by omega
  have hR2 : Row (w1.setCell ⟨C, co, none⟩ (.slice (some ⟨g, 0, none⟩) (n + 1) cap)) g 130 (olds ++ zero5 ++ (Builtin.zeroCells zero5.toArray (cap - (n + 1))).toList) := hR.far (fun e => hne e.symm) _
  have hz5 : ∀ (m i k : Nat) (v : Value), i < m → zero5[k]? = some v → (Builtin.zeroCells zero5.toArray m).toList[5 * i + k]? = some v := fun m i k v hi hv => by
    have hk : k < zero5.toArray.size := (List.getElem?_eq_some_iff.1 hv).1
    have := zero_get zero5.toArray m i k hk hi
    rw [show zero5.toArray.size = 5 from rfl] at this
    rw [this]
    rw [← hv]
    simp [show k < zero5.length from hk]
  refine ⟨⟨(h.fld.below hB).set _, by omega, (fun e => by cases e), by simpa using hne, fun b hb => by cases hb; exact hR2.lt, ?_, ?_⟩, ?_, hA, ⟨by omega, .inr ⟨g, rfl, hg⟩⟩⟩
  · intro b hb j hj
    cases hb
    have hjl : j < (olds ++ zero5 ++ (Builtin.zeroCells zero5.toArray (cap - (n + 1))).toList).length := by simp [hol, zero5]; omega
    exact ⟨_, Slot.of_row hR2 j (List.getElem?_eq_getElem hjl)⟩
  · intro b hb i hi hic
    cases hb
    exact zero_at (m := cap - (n + 1)) (i := i - (n + 1)) hR2 (hz5 _) (by simp [hol, zero5]; omega) (by omega)
  · rw [List.append_assoc] at hR2
    refine zero_at (vs := olds) (m := 1) (i := 0) hR2 (fun i k v hi hv => ?_) (by rw [hol]; omega) (by omega)
    obtain rfl : i = 0 := by omega
    have hk := (List.getElem?_eq_some_iff.1 hv).1
    rw [Nat.mul_zero, Nat.zero_add, List.getElem?_append_left hk, hv]
theorem ret_ptr {b o o' : Nat} (h : o = o') : Ending.returned (.pointer (some ⟨b, o, none⟩)) = .returned (.pointer (some ⟨b, o', none⟩)) := by rw [h]
set_option maxRecDepth 100000 in
set_option maxHeartbeats 1000000 in
theorem getValue_room (w : World) (C co vb n cap : Nat) (h : Cache w C co (some vb) n cap) (hc : n < cap) (hN : n ≤ 1000000000) :
    Calls Tryz.prog 111 #[.pointer (some ⟨C, co, none⟩)] w fun e w' => e = .returned (.pointer (some ⟨vb, 5 * n, none⟩)) ∧ GotV w C co (some vb) n w' vb cap := by
  have HC := hidden h
  have c0 := h.fld.1
  have f0 := h.fld.2
  simp only [Option.map_some] at c0
  have hci : (n : Int) < (cap : Int) := by omega
  have hw : IntKind.i64.wrap ((n : Int) + 1) = (n : Int) + 1 := by rw [IntKind.wrap_i64]; omega
  have hsl : ∀ W : World, (Instr.slice 134 (.slice (some ⟨vb, 0, none⟩) n cap) none (some (.int .i64 ((n : Int) + 1))) none).run Tryz.prog W = .ok (.slice (some ⟨vb, 0, none⟩) (n + 1) cap) W := fun W =>
    run_upto_k (sz := 5) Tryz.underlying134 (by kernel_rfl) _ n cap _ (n + 1) (by omega) hc
  clear h
  go_enter Tryz.func111, Tryz.ntmps111
  go_wp2
  go_quiet (fail)
  go_wp2
  obtain ⟨W1, hW1⟩ : ∃ W1, w.drewN nq = W1 := ⟨_, rfl⟩
  rw [hW1]
  have c1 : W1.cell? ⟨C, co, none⟩ = some (.slice (some ⟨vb, 0, none⟩) n cap) := by rw [← hW1]; exact c0
  have f1 : W1.frozen? ⟨C, co, none⟩ = false := by rw [← hW1]; exact f0
  have HW := hidden hW1
  clear hW1 c0 f0
  go_still_tail 14, (by kernel_rfl)
  change wpList _ _ _ _ _ W1.drew
  go_wp2
  refine wpAbs (fun W => Hid (GotV w C co (some vb) n W vb cap)) (hidden (by have := GotV.room (m := nq + 1) HC.out hc; rw [← HW.out]; exact this)) ?_
  rintro W2 HG
  have c2 := HG.out.cache.fld.1
  simp only [Option.map_some] at c2
  have hw3 : IntKind.i64.wrap ((n : Int) + 1 - 1) = (n : Int) := by rw [IntKind.wrap_i64]; omega
  have hw4 : IntKind.i64.wrap (((n + 1 : Nat) : Int) - 1) = (n : Int) := by rw [IntKind.wrap_i64]; omega
  have hnn : n < n + 1 := by omega
  clear c1 f1 hsl
  go_quiet (fail)
  go_wp2
  go_ret
  exact ⟨ret_ptr (by omega), HG.out.drewN _⟩
set_option maxRecDepth 100000 in
set_option maxHeartbeats 1000000 in
theorem getValue_full (w : World) (C co n : Nat) (VB : Option Nat) (h : Cache w C co VB n n) (hN : n ≤ 1000000000) :
    Calls Tryz.prog 111 #[.pointer (some ⟨C, co, none⟩)] w fun e w' => ∃ vb cap, e = .returned (.pointer (some ⟨vb, 5 * n, none⟩)) ∧ GotV w C co VB n w' vb cap := by
  have HC := hidden h
  have c0 := h.fld.1
  have f0 := h.fld.2
  have hlt := h.fld.lt
  obtain ⟨A, hA⟩ : ∃ A : Option Addr, VB.map (fun b => (⟨b, 0, none⟩ : Addr)) = A := ⟨_, rfl⟩
  rw [hA] at c0
  obtain ⟨i0, hi0, hzz⟩ := Option.map_eq_some_iff.1 info_val
  simp only [Prod.mk.injEq] at hzz
  obtain ⟨hz0, hz1, hz2⟩ := hzz
  obtain ⟨olds, hol, hrd⟩ := cache_olds h
  have hgrow : ∀ W : World, Below w.heap.size w W → ∃ cap w1, n + 1 ≤ cap ∧ (Builtin.append_ #[134, 134] 134 #[.slice A n n, .slice (some ⟨W.heap.size, 0, none⟩) 1 1]).run Tryz.prog (W.alloc (.cells zero5.toArray 130)) = .ok (.slice (some ⟨(W.alloc (.cells zero5.toArray 130)).heap.size, 0, none⟩) (n + 1) cap) w1 ∧ Row w1 (W.alloc (.cells zero5.toArray 130)).heap.size 130 (olds ++ zero5 ++ (Builtin.zeroCells zero5.toArray (cap - (n + 1))).toList) ∧ Below w.heap.size w w1 := fun W hB => by
    obtain ⟨cap, w1, h1, h2, h3, h4, _⟩ := run_grow_k (P := Tryz.prog) (W := W.alloc (.cells zero5.toArray 130)) (ty := 134) Tryz.underlying134 hi0 hz0 A n olds (by rw [hz1]; exact hol)
      (fun j v hv => by
        obtain ⟨b, hb, hs⟩ := hrd j v hv
        subst hb
        exact ⟨b, hA.symm, cell_next (below_alloc0 W _) (cell_next hB hs.1)⟩)
      (fun e => by
        cases VB with
        | none => have := h.nil rfl; omega
        | some b => rw [← hA] at e; cases e) W.heap.size 1 zero5 (by rw [hz1]; rfl) (Row.new W _ _) (by intro u hu; simp only [zero5, List.mem_cons, List.not_mem_nil, or_false] at hu; rcases hu with rfl | rfl | rfl | rfl | rfl <;> rfl) (by rw [hz2]; omega) (by omega)
    exact ⟨cap, w1, h1, h2, h3, below_next (below_next hB (below_alloc0 W _)) h4⟩
  have HG := hidden hgrow
  have HOL := hidden hol
  clear h hrd hz0 hz1 hz2 hi0 hgrow hol hA
  go_enter Tryz.func111, Tryz.ntmps111
  go_wp2
  go_quiet (fail)
  obtain ⟨W1, hW1⟩ : ∃ W1, w.drewN nq = W1 := ⟨_, rfl⟩
  rw [hW1]
  have c1 : W1.cell? ⟨C, co, none⟩ = some (.slice A n n) := by rw [← hW1]; exact c0
  have f1 : W1.frozen? ⟨C, co, none⟩ = false := by rw [← hW1]; exact f0
  have HB1 : Hid (Below w.heap.size w W1) := hidden (by rw [← hW1]; exact below_drewN0 (Below.refl _ _) _)
  clear hW1 c0 f0
  obtain ⟨cap, w2, hcap, hrun, hR, hB2⟩ := HG.out W1 HB1.out
  have hsz1 : (W1.alloc (.cells zero5.toArray 130)).heap.size = W1.heap.size + 1 := by simp
  rw [hsz1] at hrun hR
  have HRUN := hidden hrun
  have HR := hidden hR
  have HB2 := hidden hB2
  have c2 := cell_next hB2 HC.out.fld.1
  have f2 := (hB2.frozen (p := ⟨C, co, none⟩) hlt).trans HC.out.fld.2
  have HCAP := hidden hcap
  clear hrun hR hB2 hcap HG hsz1
  go_wp2_with ((with_reducible refine at_dst 35 ?_); go_must (refine walk_runapp rfl (.tmp 32) (.tmp 34) rfl rfl rfl HRUN.out ?_))
  obtain ⟨vb, hvb⟩ : ∃ vb, W1.heap.size + 1 = vb := ⟨_, rfl⟩
  rw [hvb] at HR ⊢
  have HVB : Hid (w.heap.size ≤ vb) := hidden (by rw [← hvb]; have := HB1.out.size; omega)
  clear hvb HRUN c1 f1 c2 f2
  refine wpAbs (fun W => Hid (GotV w C co VB n W vb cap)) (hidden (GotV.full HC.out HOL.out HVB.out HCAP.out HR.out HB2.out)) ?_
  rintro W2 HG
  have c2 := HG.out.cache.fld.1
  simp only [Option.map_some] at c2
  have hw3 : IntKind.i64.wrap ((n : Int) + 1 - 1) = (n : Int) := by rw [IntKind.wrap_i64]; omega
  have hw4 : IntKind.i64.wrap (((n + 1 : Nat) : Int) - 1) = (n : Int) := by rw [IntKind.wrap_i64]; omega
  have hnn : n < n + 1 := by omega
  go_quiet (fail)
  go_wp2
  go_ret
  exact ⟨vb, cap, ret_ptr (by omega), HG.out.drewN _⟩
theorem getValue_calls (w : World) (C co n cap : Nat) (VB : Option Nat) (h : Cache w C co VB n cap) (hN : n ≤ 1000000000) :
    Calls Tryz.prog 111 #[.pointer (some ⟨C, co, none⟩)] w fun e w' => ∃ vb cap, e = .returned (.pointer (some ⟨vb, 5 * n, none⟩)) ∧ GotV w C co VB n w' vb cap := by
  rcases Nat.lt_or_ge n cap with hc | hc
  · cases VB with
    | none => have := h.nil rfl; omega
    | some vb => exact (getValue_room w C co vb n cap h hc hN).mono fun e w' k => ⟨vb, cap, k⟩
  · have := h.le
    obtain rfl : cap = n := by omega
    exact getValue_full w C co cap VB h hN
end Go.Proofs.YtbdmdajbdmdknaaGreatDoor
namespace Go.Proofs.YtbdmdajbdmdknaaGreatDoor
open Go.RowKit
set_option linter.unusedVariables false
set_option linter.unusedSimpArgs false

/-- An object's names and values: the slice's field lies at ⟨b, o⟩. -/
structure KRow (w : World) (b o : Nat) (K : Option Nat) (n cap : Nat) : Prop where
  fld : Slot w b o (.slice (K.map fun k => ⟨k, 0, none⟩) n cap)
  le : n ≤ cap
  nil : K = none → cap = 0
  ne : K ≠ some b
  lt : ∀ k, K = some k → k < w.heap.size
  old : ∀ k, K = some k → ∀ j, j < 2 * cap → ∃ v, Slot w k j v
theorem KRow.alt {w w1 : World} {b o n cap : Nat} {K : Option Nat} (h : KRow w b o K n cap) {S : Nat → Nat → Prop} (k : AltC w w1 S) (h1 : ¬ S b o) (h2 : ∀ x y, K = some x → ¬ S x y) : KRow w1 b o K n cap :=
  ⟨h.fld.alt k h1, h.le, h.nil, h.ne, fun x hx => Nat.lt_of_lt_of_le (h.lt x hx) k.size, fun x hx j hj => by
    obtain ⟨v, hv⟩ := h.old x hx j hj
    exact ⟨v, hv.alt k (h2 x j hx)⟩⟩
/-- A new name's place is given out. -/
structure GotK (w : World) (b o : Nat) (K : Option Nat) (n : Nat) (w' : World) (k cap : Nat) : Prop where
  row : KRow w' b o (some k) (n + 1) cap
  alt : AltC w w' (fun x y => x = b ∧ y = o)
  keep : ∀ q, K = some q → ∀ j v, j < 2 * n → Slot w q j v → Slot w' k j v
  same : K = some k ∨ w.heap.size ≤ k
theorem KRow.drewN {w : World} {b o n cap : Nat} {K : Option Nat} (h : KRow w b o K n cap) (m : Nat) : KRow (w.drewN m) b o K n cap := ⟨h.fld, h.le, h.nil, h.ne, h.lt, h.old⟩
theorem GotK.drewN {w w' : World} {b o n k cap : Nat} {K : Option Nat} (h : GotK w b o K n w' k cap) (m : Nat) : GotK w b o K n (w'.drewN m) k cap :=
  ⟨h.row.drewN m, h.alt.trans (AltC.drewN w' m (fun _ _ => False)) (fun _ _ _ h => h.elim), h.keep, h.same⟩
theorem GotK.room {w : World} {b o k n cap m : Nat} (h : KRow w b o (some k) n cap) (hc : n < cap) : GotK w b o (some k) n ((w.drewN m).setCell ⟨b, o, none⟩ (.slice (some ⟨k, 0, none⟩) (n + 1) cap)) k cap := by
  have hA : AltC w ((w.drewN m).setCell ⟨b, o, none⟩ (.slice (some ⟨k, 0, none⟩) (n + 1) cap)) (fun x y => x = b ∧ y = o) := (AltC.drewN w m _).trans (AltC.set _ _ _ _) (fun _ _ _ e => e)
  have hne : k ≠ b := fun e => h.ne (by rw [e])
  have hf : Slot (w.drewN m) b o (.slice (some ⟨k, 0, none⟩) n cap) := h.fld
  refine ⟨⟨hf.set _, hc, (fun e => by cases e), h.ne, fun x hx => by simpa using h.lt x hx, fun x hx j hj => ?_⟩, hA, fun q hq j v hj hv => ?_, .inl rfl⟩
  · cases hx
    obtain ⟨v, hv⟩ := h.old k rfl j hj
    exact ⟨v, hv.alt hA (fun e => hne e.1)⟩
  · cases hq
    exact hv.alt hA (fun e => hne e.1)
def zero2 : List Value := [.string ⟨#[]⟩, .pointer none]
theorem info_kv : (Tryz.prog.info? 167).map (fun i => (i.zero, i.size, i.bytes)) = some (some (.agg zero2.toArray), 2, 24) := by kernel_rfl
theorem krow_olds {w : World} {b o n cap : Nat} {K : Option Nat} (h : KRow w b o K n cap) : ∃ olds : List Value, olds.length = n * 2 ∧ (∀ j v, olds[j]? = some v → ∃ k, K = some k ∧ Slot w k j v) := by
  cases K with
  | none =>
    have hn : n = 0 := by have := h.nil rfl; have := h.le; omega
    subst hn
    exact ⟨[], rfl, fun j v e => by simp at e⟩
  | some k =>
    refine ⟨(List.range (n * 2)).map (fun j => (w.cell? ⟨k, j, none⟩).getD undef), by simp, fun j v e => ⟨k, rfl, ?_⟩⟩
    have hj : j < n * 2 := by have := (List.getElem?_eq_some_iff.1 e).1; simpa using this
    obtain ⟨u, hu⟩ := h.old k rfl j (by have := h.le; omega)
    simp [hj, hu.1] at e
    subst e
    exact hu
theorem GotK.full {w w1 : World} {b o n cap g : Nat} {K : Option Nat} {olds rest : List Value} (h : KRow w b o K n n) (hol : olds.length = n * 2) (hrd : ∀ j v, olds[j]? = some v → ∃ k, K = some k ∧ Slot w k j v) (hg : w.heap.size ≤ g) (hcap : n + 1 ≤ cap) (hrl : rest.length = (cap - (n + 1)) * 2)
    (hR : Row w1 g 167 (olds ++ zero2 ++ rest)) (hB : Below w.heap.size w w1) :
    GotK w b o K n (w1.setCell ⟨b, o, none⟩ (.slice (some ⟨g, 0, none⟩) (n + 1) cap)) g cap := by
  have hC : b < w.heap.size := h.fld.lt
  have hA : AltC w (w1.setCell ⟨b, o, none⟩ (.slice (some ⟨g, 0, none⟩) (n + 1) cap)) (fun x y => x = b ∧ y = o) := (AltC.of_below hB _).trans (AltC.set _ _ _ _) (fun _ _ _ e => e)
  have hne : g ≠ b := by omega
  have hR2 : Row (w1.setCell ⟨b, o, none⟩ (.slice (some ⟨g, 0, none⟩) (n + 1) cap)) g 167 (olds ++ zero2 ++ rest) := hR.far (fun e => hne e.symm) _
  refine ⟨⟨(h.fld.below hB).set _, by omega, (fun e => by cases e), by simpa using hne, fun x hx => by cases hx; exact hR2.lt, fun x hx j hj => ?_⟩, hA, fun q hq j v hj hv => ?_, .inr hg⟩
  · cases hx
    have hjl : j < (olds ++ zero2 ++ rest).length := by simp [hol, zero2, hrl]; omega
    exact ⟨_, Slot.of_row hR2 j (List.getElem?_eq_getElem hjl)⟩
  · have hjl : j < olds.length := by omega
    obtain ⟨k, hk, hs⟩ := hrd j olds[j] (List.getElem?_eq_getElem hjl)
    rw [hq] at hk; cases hk
    have := hs.eq hv
    subst this
    exact Slot.of_row hR2 j (by rw [List.append_assoc, List.getElem?_append_left hjl, List.getElem?_eq_getElem hjl])
set_option maxRecDepth 100000 in
set_option maxHeartbeats 1000000 in
theorem getKV_room (w : World) (b o k n cap : Nat) (h : KRow w b o (some k) n cap) (hc : n < cap) (hN : n ≤ 1000000000) :
    Calls Tryz.prog 123 #[.pointer (some ⟨b, o, none⟩)] w fun e w' => e = .returned (.pointer (some ⟨k, 2 * n, none⟩)) ∧ GotK w b o (some k) n w' k cap := by
  have HC := hidden h
  have c0 := h.fld.1
  have f0 := h.fld.2
  simp only [Option.map_some] at c0
  have hci : (n : Int) < (cap : Int) := by omega
  have hw : IntKind.i64.wrap ((n : Int) + 1) = (n : Int) + 1 := by rw [IntKind.wrap_i64]; omega
  have hsl : ∀ W : World, (Instr.slice 125 (.slice (some ⟨k, 0, none⟩) n cap) none (some (.int .i64 ((n : Int) + 1))) none).run Tryz.prog W = .ok (.slice (some ⟨k, 0, none⟩) (n + 1) cap) W := fun W =>
    run_upto_k (sz := 2) Tryz.underlying125 (by kernel_rfl) _ n cap _ (n + 1) (by omega) hc
  clear h
  go_enter Tryz.func123, Tryz.ntmps123
  go_wp2
  go_quiet (fail)
  go_wp2
  obtain ⟨W1, hW1⟩ : ∃ W1, w.drewN nq = W1 := ⟨_, rfl⟩
  rw [hW1]
  have c1 : W1.cell? ⟨b, o, none⟩ = some (.slice (some ⟨k, 0, none⟩) n cap) := by rw [← hW1]; exact c0
  have f1 : W1.frozen? ⟨b, o, none⟩ = false := by rw [← hW1]; exact f0
  have HW := hidden hW1
  clear hW1 c0 f0
  go_still_tail 14, (by kernel_rfl)
  change wpList _ _ _ _ _ W1.drew
  go_wp2
  refine wpAbs (fun W => Hid (GotK w b o (some k) n W k cap)) (hidden (by have := GotK.room (m := nq + 1) HC.out hc; rw [← HW.out]; exact this)) ?_
  rintro W2 HG
  have c2 := HG.out.row.fld.1
  simp only [Option.map_some] at c2
  have hw3 : IntKind.i64.wrap ((n : Int) + 1 - 1) = (n : Int) := by rw [IntKind.wrap_i64]; omega
  have hw4 : IntKind.i64.wrap (((n + 1 : Nat) : Int) - 1) = (n : Int) := by rw [IntKind.wrap_i64]; omega
  have hnn : n < n + 1 := by omega
  clear c1 f1 hsl
  go_quiet (fail)
  go_wp2
  go_ret
  exact ⟨ret_ptr (by omega), HG.out.drewN _⟩
set_option maxRecDepth 100000 in
set_option maxHeartbeats 1000000 in
theorem getKV_full (w : World) (b o n : Nat) (K : Option Nat) (h : KRow w b o K n n) (hN : n ≤ 1000000000) :
    Calls Tryz.prog 123 #[.pointer (some ⟨b, o, none⟩)] w fun e w' => ∃ k cap, e = .returned (.pointer (some ⟨k, 2 * n, none⟩)) ∧ GotK w b o K n w' k cap := by
  have HC := hidden h
  have c0 := h.fld.1
  have f0 := h.fld.2
  have hlt := h.fld.lt
  obtain ⟨A, hA⟩ : ∃ A : Option Addr, K.map (fun b => (⟨b, 0, none⟩ : Addr)) = A := ⟨_, rfl⟩
  rw [hA] at c0
  obtain ⟨i0, hi0, hzz⟩ := Option.map_eq_some_iff.1 info_kv
  simp only [Prod.mk.injEq] at hzz
  obtain ⟨hz0, hz1, hz2⟩ := hzz
  obtain ⟨olds, hol, hrd⟩ := krow_olds h
  have hgrow : ∀ W : World, Below w.heap.size w W → ∃ cap w1, n + 1 ≤ cap ∧ (Builtin.append_ #[125, 125] 125 #[.slice A n n, .slice (some ⟨W.heap.size, 0, none⟩) 1 1]).run Tryz.prog (W.alloc (.cells zero2.toArray 167)) = .ok (.slice (some ⟨(W.alloc (.cells zero2.toArray 167)).heap.size, 0, none⟩) (n + 1) cap) w1 ∧ Row w1 (W.alloc (.cells zero2.toArray 167)).heap.size 167 (olds ++ zero2 ++ (Builtin.zeroCells zero2.toArray (cap - (n + 1))).toList) ∧ Below w.heap.size w w1 := fun W hB => by
    obtain ⟨cap, w1, h1, h2, h3, h4, _⟩ := run_grow_k (P := Tryz.prog) (W := W.alloc (.cells zero2.toArray 167)) (ty := 125) Tryz.underlying125 hi0 hz0 A n olds (by rw [hz1]; exact hol)
      (fun j v hv => by
        obtain ⟨k, hk, hs⟩ := hrd j v hv
        subst hk
        exact ⟨k, hA.symm, cell_next (below_alloc0 W _) (cell_next hB hs.1)⟩)
      (fun e => by
        cases K with
        | none => have := h.nil rfl; omega
        | some b => rw [← hA] at e; cases e) W.heap.size 1 zero2 (by rw [hz1]; rfl) (Row.new W _ _) (by intro u hu; simp only [zero2, List.mem_cons, List.not_mem_nil, or_false] at hu; rcases hu with rfl | rfl <;> rfl) (by rw [hz2]; omega) (by omega)
    exact ⟨cap, w1, h1, h2, h3, below_next (below_next hB (below_alloc0 W _)) h4⟩
  have HG := hidden hgrow
  have HOL := hidden hol
  have HRD := hidden hrd
  clear h hrd hz0 hz1 hz2 hi0 hgrow hol hA
  go_enter Tryz.func123, Tryz.ntmps123
  go_wp2
  go_quiet (fail)
  obtain ⟨W1, hW1⟩ : ∃ W1, w.drewN nq = W1 := ⟨_, rfl⟩
  rw [hW1]
  have c1 : W1.cell? ⟨b, o, none⟩ = some (.slice A n n) := by rw [← hW1]; exact c0
  have f1 : W1.frozen? ⟨b, o, none⟩ = false := by rw [← hW1]; exact f0
  have HB1 : Hid (Below w.heap.size w W1) := hidden (by rw [← hW1]; exact below_drewN0 (Below.refl _ _) _)
  clear hW1 c0 f0
  obtain ⟨cap, w2, hcap, hrun, hR, hB2⟩ := HG.out W1 HB1.out
  have hsz1 : (W1.alloc (.cells zero2.toArray 167)).heap.size = W1.heap.size + 1 := by simp
  rw [hsz1] at hrun hR
  have HRUN := hidden hrun
  have HR := hidden hR
  have HB2 := hidden hB2
  have c2 := cell_next hB2 HC.out.fld.1
  have f2 := (hB2.frozen (p := ⟨b, o, none⟩) hlt).trans HC.out.fld.2
  have HCAP := hidden hcap
  clear hrun hR hB2 hcap HG hsz1
  go_wp2_with ((with_reducible refine at_dst 35 ?_); go_must (refine walk_runapp rfl (.tmp 32) (.tmp 34) rfl rfl rfl HRUN.out ?_))
  obtain ⟨vb, hvb⟩ : ∃ vb, W1.heap.size + 1 = vb := ⟨_, rfl⟩
  rw [hvb] at HR ⊢
  have HVB : Hid (w.heap.size ≤ vb) := hidden (by rw [← hvb]; have := HB1.out.size; omega)
  clear hvb HRUN c1 f1 c2 f2
  refine wpAbs (fun W => Hid (GotK w b o K n W vb cap)) (hidden (GotK.full HC.out HOL.out HRD.out HVB.out HCAP.out (by rw [Array.length_toList, size_zeroCells]; rfl) HR.out HB2.out)) ?_
  rintro W2 HG
  have c2 := HG.out.row.fld.1
  simp only [Option.map_some] at c2
  have hw3 : IntKind.i64.wrap ((n : Int) + 1 - 1) = (n : Int) := by rw [IntKind.wrap_i64]; omega
  have hw4 : IntKind.i64.wrap (((n + 1 : Nat) : Int) - 1) = (n : Int) := by rw [IntKind.wrap_i64]; omega
  have hnn : n < n + 1 := by omega
  go_quiet (fail)
  go_wp2
  go_ret
  exact ⟨vb, cap, ret_ptr (by omega), HG.out.drewN _⟩
theorem getKV_calls (w : World) (b o n cap : Nat) (K : Option Nat) (h : KRow w b o K n cap) (hN : n ≤ 1000000000) :
    Calls Tryz.prog 123 #[.pointer (some ⟨b, o, none⟩)] w fun e w' => ∃ k cap, e = .returned (.pointer (some ⟨k, 2 * n, none⟩)) ∧ GotK w b o K n w' k cap := by
  rcases Nat.lt_or_ge n cap with hc | hc
  · cases K with
    | none => have := h.nil rfl; omega
    | some k => exact (getKV_room w b o k n cap h hc hN).mono fun e w' x => ⟨k, cap, x⟩
  · have := h.le
    obtain rfl : cap = n := by omega
    exact getKV_full w b o cap K h hN
theorem run_clear_nil (ty : TypeId) (W : World) : (Builtin.clear_ #[125] ty #[.slice none 0 0]).run Tryz.prog W = .ok (.tuple #[]) W := by kernel_rfl
set_option maxRecDepth 100000 in
set_option maxHeartbeats 1000000 in
/-- An object that is all zero is laid anew: nothing but its own cells is written, and they read as they did. -/
theorem oReset_calls (w : World) (b o : Nat) (h1 : Slot w b o (.slice none 0 0)) (h2 : Slot w b (o + 1) (.bool false)) :
    Calls Tryz.prog 122 #[.pointer (some ⟨b, o, none⟩)] w fun e w' => e = .returned (.tuple #[]) ∧ AltC w w' (fun x y => x = b ∧ o ≤ y ∧ y < o + 2) ∧ Slot w' b o (.slice none 0 0) ∧ Slot w' b (o + 1) (.bool false) := by
  have c1 := h1.1
  have f1 := h1.2
  have c2 := h2.1
  have f2 := h2.2
  have H1 := hidden h1
  have H2 := hidden h2
  clear h1 h2
  have hcl := run_clear_nil
  go_enter Tryz.func122, Tryz.ntmps122
  go_wp2
  go_end0
  have hA1 : AltC w (w.setCell ⟨b, o, none⟩ (.slice none 0 0)) (fun x y => x = b ∧ o ≤ y ∧ y < o + 2) := (AltC.set w b o _).mono (fun x y _ h => ⟨h.1, by omega, by omega⟩)
  have hA2 := hA1.trans (AltC.set (w.setCell ⟨b, o, none⟩ (.slice none 0 0)) b (o + 1) (.bool false)) (fun x y _ h => ⟨h.1, by omega, by omega⟩)
  have s1 : Slot (w.setCell ⟨b, o, none⟩ (.slice none 0 0)) b o (.slice none 0 0) := H1.out.set _
  have s2 : Slot (w.setCell ⟨b, o, none⟩ (.slice none 0 0)) b (o + 1) (.bool false) := H2.out.alt (AltC.set w b o _) (fun h => by omega)
  exact ⟨rfl, hA2, s1.alt (AltC.set _ b (o + 1) _) (fun h => by omega), s2.set _⟩
end Go.Proofs.YtbdmdajbdmdknaaGreatDoor
namespace Go.Proofs.YtbdmdajbdmdknaaGreatDoor
open Go.RowKit
set_option linter.unusedVariables false
set_option linter.unusedSimpArgs false

/-- A value of one's own that was given out, and written to. -/
structure GotS (w : World) (C co : Nat) (VB : Option Nat) (n : Nat) (w3 : World) (vb cap : Nat) : Prop where
  cache : Cache w3 C co (some vb) (n + 1) cap
  alt : AltC w w3 (SC C co VB n)
  grew : Grew w VB n (some vb) (n + 1)
theorem Grew.below {w w1 : World} {VB VB' : Option Nat} {n n' : Nat} (h : Grew w1 VB n VB' n') (hs : w.heap.size ≤ w1.heap.size) : Grew w VB n VB' n' :=
  ⟨h.le, h.same.imp (fun e => e) (fun ⟨b, e, hb⟩ => ⟨b, e, Nat.le_trans hs hb⟩)⟩
theorem GotV.got {w w1 w2 : World} {C co n vb cap : Nat} {VB : Option Nat} (h : GotV w1 C co VB n w2 vb cap) (hB : Below w.heap.size w w1) : GotS w C co VB n w2 vb cap :=
  ⟨h.cache, (AltC.of_below hB _).trans h.alt (fun x y _ e => .inl e), h.grew.below hB.size⟩
theorem GotS.sets {w w2 w3 : World} {C co n vb cap : Nat} {VB : Option Nat} (h : GotS w C co VB n w2 vb cap) (hA : AltC w2 w3 (fun x y => x = vb ∧ 5 * n ≤ y ∧ y < 5 * n + 5)) (hs : ∀ k, k < 5 → ∃ v, Slot w3 vb (5 * n + k) v) : GotS w C co VB n w3 vb cap := by
  have hne : vb ≠ C := fun e => h.cache.ne (by rw [e])
  refine ⟨⟨h.cache.fld.alt hA (fun e => hne e.1.symm), h.cache.le, h.cache.nil, h.cache.ne, fun b hb => Nat.lt_of_lt_of_le (h.cache.lt b hb) hA.size, fun b hb j hj => ?_, fun b hb i hi hc => ?_⟩, h.alt.trans hA (fun x y hx e => ?_), h.grew⟩
  · cases hb
    by_cases hj2 : 5 * n ≤ j
    · obtain ⟨v, hv⟩ := hs (j - 5 * n) (by omega)
      rw [show 5 * n + (j - 5 * n) = j by omega] at hv
      exact ⟨v, hv⟩
    · obtain ⟨v, hv⟩ := h.cache.old vb rfl j hj
      exact ⟨v, hv.alt hA (fun e => by omega)⟩
  · cases hb
    exact (h.cache.spare vb rfl i hi hc).alt hA (fun y h1 h2 e => by omega)
  · obtain ⟨rfl, h1, h2⟩ := e
    rcases h.grew.same with e2 | ⟨b, e2, hb⟩
    · exact .inr ⟨e2.symm, h1⟩
    · cases e2; omega
theorem GotS.reg {w w3 : World} {C co n vb cap : Nat} {VB : Option Nat} (h : GotS w C co VB n w3 vb cap) (k : Nat) (hk : k < 5) : RegN w w3 C co VB n (some vb) (n + 1) vb (5 * n + k) := by
  refine ⟨h.cache.lt vb rfl, fun e => ?_, ?_⟩
  · rcases e with ⟨e, _⟩ | ⟨_, e⟩
    · exact h.cache.ne (by rw [e])
    · omega
  · rcases h.grew.same with e2 | ⟨b, e2, hb⟩
    · exact .inr (.inr ⟨e2.symm, by omega⟩)
    · cases e2; exact .inl hb
theorem GotS.below {w w3 w4 : World} {C co n vb cap : Nat} {VB : Option Nat} (h : GotS w C co VB n w3 vb cap) (hB : Below w3.heap.size w3 w4) : GotS w C co VB n w4 vb cap :=
  ⟨h.cache.alt (AltC.of_below hB (fun _ _ => False)) (fun e => e) (fun _ _ _ e => e), h.alt.trans (AltC.of_below hB (fun _ _ => False)) (fun _ _ _ e => e.elim), h.grew⟩

/-- What holds once the place of a further name is given out: k is the block of the names, m of them are whole. -/
structure OM (w : World) (C co : Nat) (VB : Option Nat) (n : Nat) (wr : World) (VBr : Option Nat) (nr : Nat) (bo oo k m kcap : Nat) (L : List (Bs × JV)) (ad : Nat → Nat × Nat) (G : Nat → Nat → Nat → Prop) : Prop where
  len : L.length = m
  grew : Grew w VB n VBr nr
  alt : AltC w wr (SC C co VB n)
  row : KRow wr bo oo (some k) (m + 1) kcap
  flag : Slot wr bo (oo + 1) (.bool false)
  typ : Slot wr bo (oo + 4) (.int .i64 1)
  obj : ∀ y, oo ≤ y → y < oo + 5 → RegN w wr C co VB n VBr nr bo y
  kge : w.heap.size ≤ k
  kC : k ≠ C
  kV : VBr ≠ some k
  kvs : ∀ i (h : i < L.length), Slot wr k (2 * i) (.string (bs L[i].1)) ∧ Slot wr k (2 * i + 1) (ptr (ad i))
  reg : ∀ i x y, i < L.length → G i x y → RegN w wr C co VB n VBr nr x y ∧ k ≠ x ∧ ¬ (x = bo ∧ oo ≤ y ∧ y < oo + 5)
  dis : ∀ i j x y, i < L.length → j < L.length → G i x y → G j x y → i = j
  rep : ∀ i (h : i < L.length), Rep wr (G i) L[i].2 (ad i).1 (ad i).2
structure OL (w : World) (C co : Nat) (VB : Option Nat) (n : Nat) (wr : World) (VBr : Option Nat) (nr : Nat) (bo oo : Nat) (K : Option Nat) (kcap : Nat) (L : List (Bs × JV)) (ad : Nat → Nat × Nat) (G : Nat → Nat → Nat → Prop) : Prop where
  grew : Grew w VB n VBr nr
  alt : AltC w wr (SC C co VB n)
  row : KRow wr bo oo K L.length kcap
  flag : Slot wr bo (oo + 1) (.bool false)
  typ : Slot wr bo (oo + 4) (.int .i64 1)
  obj : ∀ y, oo ≤ y → y < oo + 5 → RegN w wr C co VB n VBr nr bo y
  kge : ∀ k, K = some k → w.heap.size ≤ k ∧ k ≠ C ∧ VBr ≠ some k
  kvs : ∀ i (h : i < L.length), ∃ k, K = some k ∧ Slot wr k (2 * i) (.string (bs L[i].1)) ∧ Slot wr k (2 * i + 1) (ptr (ad i))
  reg : ∀ i x y, i < L.length → G i x y → RegN w wr C co VB n VBr nr x y ∧ K ≠ some x ∧ ¬ (x = bo ∧ oo ≤ y ∧ y < oo + 5)
  dis : ∀ i j x y, i < L.length → j < L.length → G i x y → G j x y → i = j
  rep : ∀ i (h : i < L.length), Rep wr (G i) L[i].2 (ad i).1 (ad i).2
section
variable {w wr w1 w2 : World} {C co n nr n2 capr bo oo k m kcap cap' : Nat} {VB VBr VB2 K : Option Nat} {L : List (Bs × JV)} {ad : Nat → Nat × Nat} {G : Nat → Nat → Nat → Prop}
/-- The cell that tells the slice of names is the object's own. -/
theorem OL.alt1 (h : OL w C co VB n wr VBr nr bo oo K kcap L ad G) {y : Nat} (hy : oo ≤ y ∧ y < oo + 5) (hb : bo < w.heap.size) : SC C co VB n bo y := by
  have := (h.obj y hy.1 hy.2).2.2
  rcases this with e | e
  · omega
  · exact e
theorem OL.mid (h : OL w C co VB n wr VBr nr bo oo K kcap L ad G) (hc : Cache wr C co VBr nr capr) (g : GotK wr bo oo K L.length w1 k cap') : OM w C co VB n w1 VBr nr bo oo k L.length cap' L ad G := by
  have hbo := h.row.fld.lt
  have hsz := g.alt.size
  have hk : w.heap.size ≤ k ∧ k ≠ C ∧ VBr ≠ some k := by
    rcases g.same with e | e
    · exact h.kge k e
    · have h1 := hc.fld.lt
      have h2 := h.alt.size
      exact ⟨by omega, by omega, fun e2 => by have := hc.lt k e2; omega⟩
  have later : ∀ {x y : Nat}, RegN w wr C co VB n VBr nr x y → RegN w w1 C co VB n VBr nr x y := fun r => RegN.later (Grew.refl wr VBr nr) hsz r
  refine ⟨rfl, h.grew, h.alt.trans g.alt (fun x y hx e => ?_), g.row, h.flag.alt g.alt (fun e => by omega), h.typ.alt g.alt (fun e => by omega), fun y h1 h2 => later (h.obj y h1 h2), hk.1, hk.2.1, hk.2.2, fun i hi => ?_, fun i x y hi hg => ?_, h.dis, fun i hi => ?_⟩
  · obtain ⟨rfl, rfl⟩ := e
    exact h.alt1 ⟨Nat.le_refl _, by omega⟩ hx
  · obtain ⟨q, hq, s1, s2⟩ := h.kvs i hi
    exact ⟨g.keep q hq _ _ (by omega) s1, g.keep q hq _ _ (by omega) s2⟩
  · obtain ⟨r1, r2, r3⟩ := h.reg i x y hi hg
    refine ⟨later r1, fun e => ?_, r3⟩
    rcases g.same with e2 | e2
    · exact r2 (by rw [e2, e])
    · have := r1.1; omega
  · refine (h.rep i hi).alt g.alt (fun x y hg e => ?_)
    obtain ⟨r1, r2, r3⟩ := h.reg i x y hi hg
    exact r3 ⟨e.1, by omega, by omega⟩
theorem OM.next (h : OM w C co VB n w1 VBr nr bo oo k m kcap L ad G) (hA : AltC w1 w2 (fun x y => SC C co VBr nr x y ∨ (x = k ∧ 2 * m ≤ y))) (hrow : ∀ j, j < 2 * kcap → ∃ v, Slot w2 k j v) (hG : Grew w1 VBr nr VB2 n2) : OM w C co VB n w2 VB2 n2 bo oo k m kcap L ad G := by
  have hbk : bo ≠ k := fun e => h.row.ne (by rw [e])
  have hobj : ∀ y, oo ≤ y → y < oo + 5 → ¬ (SC C co VBr nr bo y ∨ (bo = k ∧ 2 * m ≤ y)) := fun y h1 h2 e => by
    rcases e with e | e
    · exact (h.obj y h1 h2).2.1 e
    · exact hbk e.1
  have later : ∀ {x y : Nat}, RegN w w1 C co VB n VBr nr x y → RegN w w2 C co VB n VB2 n2 x y := fun r => RegN.later hG hA.size r
  have hk1 := h.row.lt k rfl
  refine ⟨h.len, h.grew.trans hG (h.alt.size), h.alt.trans hA (fun x y hx e => ?_), ⟨h.row.fld.alt hA (hobj oo (Nat.le_refl _) (by omega)), h.row.le, h.row.nil, h.row.ne, fun q hq => by cases hq; exact Nat.lt_of_lt_of_le hk1 hA.size, fun q hq j hj => by cases hq; exact hrow j hj⟩,
    h.flag.alt hA (hobj _ (by omega) (by omega)), h.typ.alt hA (hobj _ (by omega) (by omega)), fun y h1 h2 => later (h.obj y h1 h2), h.kge, h.kC, fun e => ?_, fun i hi => ?_, fun i x y hi hg => ?_, h.dis, fun i hi => ?_⟩
  · rcases e with e | e
    · exact h.grew.sc hx e
    · have := h.kge; omega
  · rcases hG.same with e2 | ⟨b, e2, hb⟩
    · exact h.kV (e2 ▸ e)
    · rw [e2] at e; cases e; omega
  · have hno : ∀ y, y < 2 * m → ¬ (SC C co VBr nr k y ∨ (k = k ∧ 2 * m ≤ y)) := fun y hy e => by
      rcases e with (⟨e, _⟩ | ⟨e, _⟩) | ⟨_, e⟩
      · exact h.kC e
      · exact h.kV e
      · omega
    have hl := h.len
    obtain ⟨s1, s2⟩ := h.kvs i hi
    exact ⟨s1.alt hA (hno _ (by omega)), s2.alt hA (hno _ (by omega))⟩
  · obtain ⟨r1, r2, r3⟩ := h.reg i x y hi hg
    exact ⟨later r1, r2, r3⟩
  · refine (h.rep i hi).alt hA (fun x y hg e => ?_)
    obtain ⟨r1, r2, r3⟩ := h.reg i x y hi hg
    rcases e with e | e
    · exact r1.2.1 e
    · exact r2 e.1.symm
/-- The new name and its value are laid. -/
theorem OM.done {w3 w4 : World} (h : OM w C co VB n w2 VB2 n2 bo oo k m kcap L ad G) (h3 : OM w C co VB n w3 VBr nr bo oo k m kcap L ad G) {x : Bs} {v : JV} {b o : Nat} (hx : Slot w2 k (2 * m) (.string (bs x))) (hv : Slot w2 k (2 * m + 1) (ptr (b, o)))
    (hG : Grew w3 VBr nr VB2 n2) (hs : w3.heap.size ≤ w4.heap.size) (hs2 : w4.heap.size ≤ w2.heap.size) (hR : Rep w2 (RegN w3 w4 C co VBr nr VB2 n2) v b o) :
    OL w C co VB n w2 VB2 n2 bo oo (some k) kcap (L ++ [(x, v)]) (fun i => if i = m then (b, o) else ad i) (fun i => if i = m then RegN w3 w4 C co VBr nr VB2 n2 else G i) := by
  have hl := h.len
  have hll : (L ++ [(x, v)]).length = m + 1 := by simp [hl]
  have hnew : ∀ p q, RegN w3 w4 C co VBr nr VB2 n2 p q → RegN w w2 C co VB n VB2 n2 p q ∧ k ≠ p ∧ ¬ (p = bo ∧ oo ≤ q ∧ q < oo + 5) := fun p q r => by
    refine ⟨RegN.later (Grew.refl w4 VB2 n2) hs2 (RegN.earlier h3.grew h3.alt.size r), fun e => ?_, fun e => ?_⟩
    · subst e
      rcases r.2.2 with e2 | (⟨e2, _⟩ | ⟨e2, _⟩)
      · have := h3.row.lt k rfl; omega
      · exact h3.kC e2
      · exact h3.kV e2
    · obtain ⟨rfl, h1, h2⟩ := e
      have ho := h3.obj q h1 h2
      rcases r.2.2 with e2 | e2
      · have := ho.1; omega
      · exact ho.2.1 e2
  have hold : ∀ i, i < L.length → ∀ p q, G i p q → ¬ RegN w3 w4 C co VBr nr VB2 n2 p q := fun i hi p q hg r => by
    have r1 := (h3.reg i p q hi hg).1
    rcases r.2.2 with e2 | e2
    · have := r1.1; omega
    · exact r1.2.1 e2
  refine ⟨h.grew, h.alt, by rw [hll]; exact h.row, h.flag, h.typ, h.obj, fun q hq => by cases hq; exact ⟨h.kge, h.kC, h.kV⟩, fun i hi => ?_, fun i p q hi hg => ?_, fun i j p q hi hj h1 h2 => ?_, fun i hi => ?_⟩
  · rw [hll] at hi
    refine ⟨k, rfl, ?_⟩
    by_cases e : i = m
    · subst e
      rw [List.getElem_append_right (by omega), if_pos rfl]
      simp only [hl, Nat.sub_self, List.getElem_cons_zero]
      exact ⟨hx, hv⟩
    · rw [List.getElem_append_left (by omega), if_neg e]
      exact h.kvs i (by omega)
  · rw [hll] at hi
    by_cases e : i = m
    · rw [if_pos e] at hg
      obtain ⟨a1, a2, a3⟩ := hnew p q hg
      exact ⟨a1, fun e2 => a2 (by cases e2; rfl), a3⟩
    · rw [if_neg e] at hg
      obtain ⟨a1, a2, a3⟩ := h.reg i p q (by omega) hg
      exact ⟨a1, fun e2 => a2 (by cases e2; rfl), a3⟩
  · rw [hll] at hi hj
    by_cases e : i = m <;> by_cases e2 : j = m
    · omega
    · rw [if_pos e] at h1; rw [if_neg e2] at h2
      exact (hold j (by omega) p q h2 h1).elim
    · rw [if_neg e] at h1; rw [if_pos e2] at h2
      exact (hold i (by omega) p q h1 h2).elim
    · rw [if_neg e] at h1; rw [if_neg e2] at h2
      exact h.dis i j p q (by omega) (by omega) h1 h2
  · rw [hll] at hi
    by_cases e : i = m
    · subst e
      simp only [if_true]
      rw [List.getElem_append_right (by omega)]
      simp only [hl, Nat.sub_self, List.getElem_cons_zero]
      exact hR
    · simp only [if_neg e]
      rw [List.getElem_append_left (by omega)]
      exact h.rep i (by omega)
/-- The object is whole. -/
theorem OL.whole (h : OL w C co VB n wr VBr nr bo oo K kcap L ad G) : Rep wr (RegN w wr C co VB n VBr nr) (.obj L) bo oo := by
  refine .obj K kcap ad G ⟨h.obj oo (Nat.le_refl _) (by omega), h.row.fld⟩ h.row.le ⟨h.obj _ (by omega) (by omega), h.flag⟩ ⟨h.obj _ (by omega) (by omega), h.typ⟩ (fun k hk e => h.row.ne (by rw [hk, e])) (fun i hi => ?_) (fun i x y hi hg => h.reg i x y hi hg) h.dis h.rep
  obtain ⟨k, hk, s1, s2⟩ := h.kvs i hi
  obtain ⟨a1, a2, a3⟩ := h.kge k hk
  have hreg : ∀ y, RegN w wr C co VB n VBr nr k y := fun y => ⟨h.row.lt k hk, fun e => by
    rcases e with ⟨e, _⟩ | ⟨e, _⟩
    · exact a2 e
    · exact a3 e, .inl a1⟩
  exact ⟨k, hk, ⟨hreg _, s1⟩, ⟨hreg _, s2⟩⟩
end
end Go.Proofs.YtbdmdajbdmdknaaGreatDoor
namespace Go.Proofs.YtbdmdajbdmdknaaGreatDoor
set_option linter.unusedVariables false
set_option linter.unusedSimpArgs false

theorem idx_cases : ∀ (l : Bs), (Go.Lib.indexByte l 34 = -1 ∧ (34 : UInt8) ∉ l) ∨ ∃ x y : Bs, l = x ++ 34 :: y ∧ (34 : UInt8) ∉ x ∧ Go.Lib.indexByte l 34 = (x.length : Int)
  | [] => .inl ⟨rfl, by simp⟩
  | c :: l => by
    unfold Go.Lib.indexByte
    by_cases hc : c = 34
    · subst hc
      exact .inr ⟨[], l, rfl, by simp, by simp⟩
    · have hb : (c == 34) = false := beq_eq_false_iff_ne.2 hc
      rw [hb]
      rcases idx_cases l with ⟨h1, h2⟩ | ⟨x, y, rfl, h2, h3⟩
      · exact .inl ⟨by rw [h1]; rfl, by simp [h2]; exact fun e => hc e.symm⟩
      · refine .inr ⟨c :: x, y, rfl, by simp [h2]; exact fun e => hc e.symm, ?_⟩
        rw [h3]
        have hn : ((x.length : Int) == -1) = false := beq_eq_false_iff_ne.2 (by omega)
        rw [hn]
        simp
/-- Whether the next byte is escaped, behind bytes without a quotation mark. -/
def stS : Bool → Bs → Bool
  | e, [] => e
  | true, _ :: x => stS false x
  | false, c :: x => stS (c == 92) x
theorem rawS_t (c : UInt8) (l : Bs) : rawS true (c :: l) = (rawS false l).map fun p => (c :: p.1, p.2) := rfl
theorem rawS_f (c : UInt8) (l : Bs) : rawS false (c :: l) = if c = 34 then some ([], l) else (rawS (c == 92) l).map fun p => (c :: p.1, p.2) := rfl
theorem stS_t (c : UInt8) (l : Bs) : stS true (c :: l) = stS false l := rfl
theorem stS_f (c : UInt8) (l : Bs) : stS false (c :: l) = stS (c == 92) l := rfl
theorem rawS_pass : ∀ (e : Bool) (x r : Bs), (34 : UInt8) ∉ x → rawS e (x ++ r) = (rawS (stS e x) r).map fun p => (x ++ p.1, p.2)
  | e, [], r, _ => by cases e <;> (unfold stS; rw [List.nil_append]; cases rawS _ r <;> rfl)
  | true, c :: x, r, h => by
    have h2 : (34 : UInt8) ∉ x := fun hm => h (List.mem_cons_of_mem _ hm)
    rw [List.cons_append, rawS_t, stS_t, rawS_pass false x r h2]
    cases rawS (stS false x) r <;> rfl
  | false, c :: x, r, h => by
    have h2 : (34 : UInt8) ∉ x := fun hm => h (List.mem_cons_of_mem _ hm)
    have hc : c ≠ 34 := fun e => h (by rw [e]; exact List.mem_cons_self)
    rw [List.cons_append, rawS_f, stS_f, if_neg hc, rawS_pass (c == 92) x r h2]
    cases rawS (stS (c == 92) x) r <;> rfl
theorem stS_app : ∀ (x y : Bs) (e : Bool), stS e (x ++ y) = stS (stS e x) y
  | [], y, e => by cases e <;> rfl
  | c :: x, y, true => by rw [List.cons_append, stS_t, stS_t]; exact stS_app x y false
  | c :: x, y, false => by rw [List.cons_append, stS_f, stS_f]; exact stS_app x y (c == 92)
theorem stS_rep : ∀ (n : Nat), stS false (List.replicate n 92) = decide (n % 2 = 1)
  | 0 => rfl
  | 1 => rfl
  | n + 2 => by
    rw [List.replicate_succ, List.replicate_succ]
    show stS true (92 :: List.replicate n 92) = _
    show stS false (List.replicate n 92) = _
    rw [stS_rep n]
    congr 1
    rw [Nat.add_mod_right]
theorem stS_last {x : Bs} {c : UInt8} (hc : c ≠ 92) : stS false (x ++ [c]) = false := by
  rw [stS_app]
  cases stS false x
  · show (c == 92) = false
    exact beq_eq_false_iff_ne.2 hc
  · rfl
/-- The bytes from place i on are backslashes, the one ahead of them is none. -/
structure TailS (x : Bs) (i : Nat) : Prop where
  le : i ≤ x.length
  all : ∀ j (h : j < x.length), i ≤ j → x[j] = 92
  no : ∀ (h : i - 1 < x.length), 0 < i → x[i - 1] ≠ 92
theorem TailS.st {x : Bs} {i : Nat} (h : TailS x i) : stS false x = decide ((x.length - i) % 2 = 1) := by
  have e : x = x.take i ++ List.replicate (x.length - i) 92 := by
    conv => lhs; rw [← List.take_append_drop i x]
    congr 1
    refine List.eq_replicate_of_mem (fun b hb => ?_) |>.trans (by rw [List.length_drop])
    obtain ⟨j, hj, rfl⟩ := List.mem_iff_getElem.1 hb
    rw [List.getElem_drop]
    rw [List.length_drop] at hj
    exact h.all _ (by omega) (by omega)
  have h0 : stS false (x.take i) = false := by
    rcases Nat.eq_zero_or_pos i with hi | hi
    · subst hi; rfl
    · have hle := h.le
      have hl : i - 1 < x.length := by omega
      have e2 : x.take i = x.take (i - 1) ++ [x[i - 1]] := by
        conv => lhs; rw [show i = i - 1 + 1 by omega]
        rw [List.take_succ_eq_append_getElem hl]
      rw [e2]
      exact stS_last (h.no hl hi)
  conv => lhs; rw [e]
  rw [stS_app, h0, stS_rep]
theorem rawS_even {x y : Bs} {i : Nat} (h : TailS x i) (hx : (34 : UInt8) ∉ x) (he : (x.length - i) % 2 = 0) : rawS false (x ++ 34 :: y) = some (x, y) := by
  rw [rawS_pass _ _ _ hx, h.st, decide_eq_false (by omega)]
  simp [rawS]
theorem rawS_odd {x y : Bs} {i : Nat} (h : TailS x i) (hx : (34 : UInt8) ∉ x) (he : (x.length - i) % 2 = 1) : rawS false (x ++ 34 :: y) = (rawS false y).map fun p => (x ++ 34 :: p.1, p.2) := by
  rw [rawS_pass _ _ _ hx, h.st, decide_eq_true he]
  rw [rawS_t]
  cases rawS false y <;> rfl
theorem rawS_none : ∀ (e : Bool) (l : Bs), (34 : UInt8) ∉ l → rawS e l = none := by
  intro e l h
  have := rawS_pass e l [] h
  rw [List.append_nil] at this
  rw [this]
  cases stS e l <;> rfl
end Go.Proofs.YtbdmdajbdmdknaaGreatDoor
