/- The calls of a key set that read it, and AddKey. -/
import Derived.Test.YthgklpkkcaiehaaDoorKSet
namespace Go.Proofs.YthgklpkkcaiehaaDoor
open Go.RowKit
set_option linter.unusedVariables false
set_option linter.unusedSimpArgs false

theorem cell_new (w : World) (t : Nat) (x : Value) : (w.alloc (.cells #[x] t)).cell? ⟨w.heap.size, 0, none⟩ = some x := (Row.new w t [x]).cell 0
theorem info_key : (Tryd.prog.info? 81).map (fun i => (i.zero, i.size, i.bytes)) = some (some .nilIface, 1, 16) := by kernel_rfl
section
variable (bk : Nat → Nat) (m : Nat) (s : List Nat) (w : World) (gs mb base : Nat) (v : Value)
theorem len_calls (h : SetAt w gs mb base v (keysV bk s)) :
    Calls Tryd.prog 134 #[.pointer (some ⟨gs, 0, none⟩)] w fun e w' => e = .returned (.int .i64 s.length) ∧ w = w' := by
  obtain ⟨A, c, rfl, hc, hR, _⟩ := h.kl.read
  rw [keysV_len] at hc h
  have c0 := h.row.cell 0
  have c1 := h.row.cell 1
  simp at c0 c1
  clear h
  go_enter Tryd.func134, Tryd.ntmps134
  go_wp2
  go_ret
  exact ⟨rfl, rfl⟩
theorem key_calls (h : SetAt w gs mb base v (keysV bk s)) (hb : s.length ≤ 1000) (i : Nat) (hi : i < s.length) (k : Nat) (hk : s.getD i 0 = k) :
    Calls Tryd.prog 132 #[.pointer (some ⟨gs, 0, none⟩), .int .i64 i] w fun e w' => e = .returned (.tuple #[keyV bk k, .bool true]) ∧ w = w' := by
  obtain ⟨A, c, rfl, hc, hR, _⟩ := h.kl.read
  rw [keysV_len] at hc h
  have c0 := h.row.cell 0
  have c1 := h.row.cell 1
  simp at c0 c1
  clear h
  obtain ⟨b0, o0, rfl, _, ck⟩ := hR _ _ (keysV_at bk s i hi)
  rw [hk] at ck
  clear hR hk
  obtain ⟨n, hn⟩ : ∃ n, s.length = n := ⟨_, rfl⟩
  rw [hn] at *
  unfold keyV at ck ⊢
  go_enter Tryd.func132, Tryd.ntmps132
  go_wp2
  go_ret2
  exact ⟨rfl, rfl⟩
theorem keyNo_calls (h : SetAt w gs mb base v (keysV bk s)) (hb : s.length ≤ 1000) (i : Nat) (hi : s.length ≤ i) (hi2 : i ≤ 1000) :
    Calls Tryd.prog 132 #[.pointer (some ⟨gs, 0, none⟩), .int .i64 i] w fun e w' => e = .returned (.tuple #[.nilIface, .bool false]) ∧ w = w' := by
  obtain ⟨A, c, rfl, hc, hR, _⟩ := h.kl.read
  rw [keysV_len] at hc h
  have c0 := h.row.cell 0
  have c1 := h.row.cell 1
  simp at c0 c1
  clear h hR
  obtain ⟨n, hn⟩ : ∃ n, s.length = n := ⟨_, rfl⟩
  rw [hn] at *
  go_enter Tryd.func132, Tryd.ntmps132
  go_wp2
  go_ret2
  exact ⟨rfl, rfl⟩
theorem index_calls (h : SetAt w gs mb base v (keysV bk s)) (hb : s.length ≤ 1000) (ha : Apart bk m) (hkin : KeysIn w bk m) (hs : SetOk m s) (k : Nat) (hk : k < m) (r : Int) (hr : r = posK s k) :
    Calls Tryd.prog 131 #[.pointer (some ⟨gs, 0, none⟩), keyV bk k] w fun e w' => e = .returned (.int .i64 r) ∧ w = w' := by
  have K := hidden (indexNL_calls bk m s k w gs mb base v h hb ha hkin hs hk r hr)
  clear h ha hkin hs hr
  unfold keyV at K ⊢
  go_enter Tryd.func131, Tryd.ntmps131
  go_wp2_with (go_at_call 139; go_must (refine K.out.mono ?_; rintro e w1 ⟨rfl, rfl⟩))
  go_ret
  exact ⟨rfl, rfl⟩
/-- The keys are others now; of what was there just the set and the row of its keys are written. -/
structure SetTo (w : World) (gs mb base : Nat) (v : Value) (L : List Value) (w' : World) : Prop where
  alt : Alt w w' (fun i => i = gs ∨ some i = v.ownBlock)
  at' : ∃ v', SetAt w' gs mb base v' L ∧ (v'.ownBlock = v.ownBlock ∨ ∃ i, w.heap.size ≤ i ∧ v'.ownBlock = some i)
theorem setTo_store {w w1 : World} {gs mb base : Nat} {v v1 : Value} {L L1 : List Value} (h : SetAt w gs mb base v L) (hg : Alt w w1 (fun i => some i = v.ownBlock)) (hk : KL w1 base 81 v1 L1) (hv : v1.ownBlock = v.ownBlock ∨ ∃ i, w.heap.size ≤ i ∧ v1.ownBlock = some i) :
    SetTo w gs mb base v L1 (w1.setCell ⟨gs, 0, none⟩ v1) := by
  have hne : v.ownBlock ≠ some gs := h.kl.ne_row h.row (by decide)
  have hR : Row w1 gs 133 [v, .map (some mb)] := hg.row h.row (fun e => hne e.symm)
  have hne1 : v1.ownBlock ≠ some gs := hk.ne_row hR (by decide)
  have hmb : v.ownBlock ≠ some mb := h.kl.ne_obj h.map (by intro cs t fr e; cases e)
  have hgm : gs ≠ mb := by
    intro e
    subst e
    have := h.row.symm.trans h.map
    cases this
  have hA : Alt w (w1.setCell ⟨gs, 0, none⟩ v1) (fun i => i = gs ∨ some i = v.ownBlock) := (hg.mono (fun i hi h => Or.inr h)).trans (Alt.set w1 ⟨gs, 0, none⟩ v1) (fun i hi e => Or.inl e)
  refine ⟨hA, v1, ⟨by simpa using hR.set 0 v1, (Alt.set w1 ⟨gs, 0, none⟩ v1).kl hk (fun i hi e => hne1 (by rw [hi, e])), (hA.block mb h.lt ?_).trans h.map⟩, hv⟩
  rintro (e | e)
  · exact hgm e.symm
  · exact hmb e.symm
theorem addKey_no (h : SetAt w gs mb base v (keysV bk s)) (hb : s.length ≤ 1000) (ha : Apart bk m) (hkin : KeysIn w bk m) (hs : SetOk m s) (k : Nat) (hk : k < m) (hm : k ∈ s) :
    Calls Tryd.prog 127 #[.pointer (some ⟨gs, 0, none⟩), keyV bk k] w fun e w' => e = .returned (.iface 167 (.pointer (some ⟨w.heap.size, 0, none⟩))) ∧ Below w.heap.size w w' := by
  obtain ⟨p, hp⟩ : ∃ p : Nat, (p : Int) = posK s k := ⟨s.idxOf k, by rw [posK, if_pos hm]⟩
  have K := hidden (indexNL_calls bk m s k w gs mb base v h hb ha hkin hs hk p hp)
  clear h ha hkin hs hp hm
  unfold keyV at K ⊢
  go_enter Tryd.func127, Tryd.ntmps127
  have hpi : (-1 : Int) < (p : Int) := by omega
  go_wp2_with (first
    | (go_at_call 139; go_must (refine K.out.mono ?_; rintro e w1 ⟨rfl, rfl⟩))
    | (go_at_call 57; go_must (refine (newErrK_calls _ _).mono ?_; rintro e w5 ⟨rfl, hB5⟩)))
  go_ret
  exact ⟨rfl, hB5⟩
set_option maxRecDepth 100000 in
set_option maxHeartbeats 1000000 in
theorem addKey_yes (h : SetAt w gs mb base v (keysV bk s)) (hb : s.length ≤ 1000) (hbase : base ≤ w.heap.size) (ha : Apart bk m) (hkin : KeysIn w bk m) (hs : SetOk m s) (k : Nat) (hk : k < m) (hm : k ∉ s) :
    Calls Tryd.prog 127 #[.pointer (some ⟨gs, 0, none⟩), keyV bk k] w fun e w' => e = .returned .nilIface ∧ SetTo w gs mb base v (keysV bk (s ++ [k])) w' := by
  have K := hidden (indexNL_calls bk m s k w gs mb base v h hb ha hkin hs hk (-1) (by rw [posK, if_neg hm]))
  have eL : keysV bk s ++ [keyV bk k] = keysV bk (s ++ [k]) := by simp [keysV]
  have hlen := keysV_len bk s
  unfold keyV at K eL ⊢
  rw [← eL]
  clear eL ha hkin hs hm
  obtain ⟨L, hL⟩ : ∃ L, keysV bk s = L := ⟨_, rfl⟩
  rw [hL] at h hlen ⊢
  clear hL
  obtain ⟨A, c, rfl, hc, hR, _⟩ := h.kl.read
  obtain ⟨n, hn⟩ : ∃ n, L.length = n := ⟨_, rfl⟩
  rw [hn] at h hc hlen ⊢
  have H := hidden h
  have Hn := hidden hn
  have c0 := h.row.cell 0
  have c1 := h.row.cell 1
  simp at c0 c1
  clear h hR hn
  have hnb : n ≤ 1000 := by omega
  clear hlen hb
  go_enter Tryd.func127, Tryd.ntmps127
  go_wp2_with (first
    | (go_at_call 139; go_must (refine K.out.mono ?_; rintro e w1 ⟨rfl, rfl⟩))
    | (at_builtin; go_must (refine walk_kapp (base := base) (v := .slice A n c) rfl (.tmp 19) (.tmp 21) rfl Tryd.underlying72 info_key rfl (by decide) rfl rfl (H.out.kl.alloc _) (cell_new w _ _) rfl (Nat.le_trans hbase (below_alloc0 w _).size) (by rw [Hn.out]; omega) ?_; intro v1 w1 hO1 hg1 hv1; have HA1 : Hid (Alt w w1 (fun i => some i = Value.ownBlock (.slice A n c))) := hidden ((Alt.alloc w _ (fun i => some i = Value.ownBlock (.slice A n c))).trans (Alt.of_grown hg1) (fun i _ e => e)); have HO1 := hidden hO1; have HV1 : Hid (v1.ownBlock = Value.ownBlock (.slice A n c) ∨ ∃ i, w.heap.size ≤ i ∧ v1.ownBlock = some i) := hidden (hv1.imp (fun h => h) (fun h => ⟨_, (below_alloc0 w _).size, h⟩)); have hRg := HA1.out.row H.out.row (fun e => H.out.kl.ne_row H.out.row (by decide) e.symm); have f0' := hRg.free 0; have c0' := hRg.cell 0; simp at c0'; obtain ⟨A1, c1', rfl, _, _, _⟩ := hO1.read; clear hO1 hg1 hv1 hRg)))
  go_ret
  have hx := setTo_store H.out HA1.out HO1.out HV1.out
  rw [List.length_append] at hx
  exact ⟨rfl, hx⟩
end
end Go.Proofs.YthgklpkkcaiehaaDoor
