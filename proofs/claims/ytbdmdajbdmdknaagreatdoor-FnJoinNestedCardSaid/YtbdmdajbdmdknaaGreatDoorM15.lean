/- parseValue, at every text. The head of a token, as the parser sees it. Nothing here speaks of the program. parseValue, at every text. -/
import Derived.Test.YtbdmdajbdmdknaaGreatDoorJsonH
import Derived.Test.YtbdmdajbdmdknaaGreatDoorJsonK
namespace Go.Proofs.YtbdmdajbdmdknaaGreatDoor
open Go.RowKit
set_option linter.unusedVariables false
set_option linter.unusedSimpArgs false

section
variable {g d : Nat} {r : Bs}
theorem pVal_deep {f : Nat} {s : Bs} (h : 300 ≤ d) : pVal f d s = none := by
  cases f with
  | zero => rw [pVal]
  | succ f =>
    cases s with
    | nil => rw [pVal]
    | cons c r => rw [pVal, if_pos h]
theorem pVal_obj (h : d < 300) : pVal (g + 1) d (123 :: r) = oRest g (d + 1) r := by rw [pVal, if_neg (by omega), if_pos rfl]; rfl
theorem pVal_arr (h : d < 300) : pVal (g + 1) d (91 :: r) = aRest g (d + 1) r := by rw [pVal, if_neg (by omega), if_neg (by decide), if_pos rfl]; rfl
theorem pVal_str (h : d < 300) : pVal (g + 1) d (34 :: r) = (rawS false r).map fun p => (.str p.1, p.2) := by rw [pVal, if_neg (by omega), if_neg (by decide), if_neg (by decide), if_pos rfl]
theorem pVal_t (h : d < 300) : pVal (g + 1) d (116 :: r) = if (116 :: r).take 4 = trueB then some (.lit 5, (116 :: r).drop 4) else none := by rw [pVal, if_neg (by omega), if_neg (by decide), if_neg (by decide), if_neg (by decide), if_pos rfl]
theorem pVal_f (h : d < 300) : pVal (g + 1) d (102 :: r) = if (102 :: r).take 5 = falseB then some (.lit 6, (102 :: r).drop 5) else none := by rw [pVal, if_neg (by omega), if_neg (by decide), if_neg (by decide), if_neg (by decide), if_neg (by decide), if_pos rfl]
theorem pVal_n (h : d < 300) : pVal (g + 1) d (110 :: r) = if (110 :: r).take 4 = nullB then some (.lit 0, (110 :: r).drop 4) else if foldIs ((110 :: r).take 3) nanB then some (.num ((110 :: r).take 3), (110 :: r).drop 3) else none := by
  rw [pVal, if_neg (by omega), if_neg (by decide), if_neg (by decide), if_neg (by decide), if_neg (by decide), if_neg (by decide), if_pos rfl]
theorem pVal_num {c : UInt8} (h : d < 300) (h1 : c ≠ 123) (h2 : c ≠ 91) (h3 : c ≠ 34) (h4 : c ≠ 116) (h5 : c ≠ 102) (h6 : c ≠ 110) : pVal (g + 1) d (c :: r) = (rawN (c :: r)).map fun p => (.num p.1, p.2) := by
  rw [pVal, if_neg (by omega), if_neg h1, if_neg h2, if_neg h3, if_neg h4, if_neg h5, if_neg h6]
end
theorem rawN_len {c : UInt8} {l x y : Bs} (h : rawN (c :: l) = some (x, y)) : y.length < l.length + 1 := by
  unfold rawN at h
  simp only [] at h
  split at h
  · cases h; simp
  · split at h
    · split at h
      · cases h; rw [List.length_drop]; simp; omega
      · cases h
    · rename_i h1 h2
      cases h
      rw [List.length_drop]
      simp only [List.length_cons]
      omega
theorem POk.mono {w : World} {C co n L L2 : Nat} {VB : Option Nat} {v : JV} {r : Bs} {e : Ending} {w' : World} (h : POk w C co VB n L v r e w') (hl : L ≤ L2) : POk w C co VB n L2 v r e w' := by
  obtain ⟨a, b, c, p, o, h1, h2, h3, h4, h5⟩ := h
  exact ⟨a, b, c, p, o, h1, h2, h3, by omega, h5⟩
theorem obj_calls (f d : Nat) (hV : ∀ g, g < f → CallsV g) (w : World) (C co : Nat) (VB : Option Nat) (n cap : Nat) (s : ByteArray) (hC : Cache w C co VB n cap) (hN : n + s.size + 1 ≤ 1000000000) (hf : 2 * s.size < f) (hd : d ≤ 300) :
    Calls Tryz.prog 108 #[.pointer (some ⟨C, co, none⟩), .string s, .int .i64 d] w (PRes w C co VB n (n + s.size + 1) (oRest f d s.data.toList)) := by
  cases h : skipW s.data.toList with
  | nil =>
    have e : oRest f d s.data.toList = none := by unfold oRest; rw [h]
    rw [e]
    exact obj_none f d w C co VB n cap s hC (by omega) h
  | cons c2 r2 =>
    by_cases h125 : c2 = 125
    · subst h125
      have e : oRest f d s.data.toList = some (.obj [], r2) := by unfold oRest; rw [h]; simp
      rw [e]
      exact (obj_empty f d w C co VB n cap s hC (by omega) r2 h).mono fun e w' k => k.mono (by omega)
    · have e : oRest f d s.data.toList = (pObj f d (c2 :: r2)).map fun p => (.obj p.1, p.2) := by unfold oRest; rw [h]; simp only []; rw [if_neg h125]
      rw [e]
      exact obj_full f d hV w C co VB n cap s hC hN hf hd c2 r2 h h125 _ rfl
theorem arr_calls (f d : Nat) (hV : ∀ g, g < f → CallsV g) (w : World) (C co : Nat) (VB : Option Nat) (n cap : Nat) (s : ByteArray) (hC : Cache w C co VB n cap) (hN : n + s.size + 1 ≤ 1000000000) (hf : 2 * s.size + 2 ≤ f) (hd : d ≤ 300) :
    Calls Tryz.prog 109 #[.pointer (some ⟨C, co, none⟩), .string s, .int .i64 d] w (PRes w C co VB n (n + s.size + 1) (aRest f d s.data.toList)) := by
  cases h : skipW s.data.toList with
  | nil =>
    have e : aRest f d s.data.toList = none := by unfold aRest; rw [h]
    rw [e]
    exact arr_none f d w C co VB n cap s hC (by omega) h
  | cons c2 r2 =>
    by_cases h93 : c2 = 93
    · subst h93
      have e : aRest f d s.data.toList = some (.arr [], r2) := by unfold aRest; rw [h]; simp
      rw [e]
      exact (arr_empty f d w C co VB n cap s hC (by omega) r2 h).mono fun e w' k => k.mono (by omega)
    · have e : aRest f d s.data.toList = (pArr f d (c2 :: r2)).map fun p => (.arr p.1, p.2) := by unfold aRest; rw [h]; simp only []; rw [if_neg h93]
      rw [e]
      exact arr_full f d hV w C co VB n cap s hC hN hf hd c2 r2 h h93 _ rfl
theorem GotV.leaf {w w1 w2 : World} {C co n vb cap : Nat} {VB : Option Nat} (g : GotV w1 C co VB n w2 vb cap) (hB : Below w.heap.size w w1) (t : Int) (x : ByteArray) :
    GotS w C co VB n ((w2.setCell ⟨vb, 5 * n + 4, none⟩ (.int .i64 t)).setCell ⟨vb, 5 * n + 3, none⟩ (.string x)) vb cap ∧ Slot ((w2.setCell ⟨vb, 5 * n + 4, none⟩ (.int .i64 t)).setCell ⟨vb, 5 * n + 3, none⟩ (.string x)) vb (5 * n + 3) (.string x) ∧ Slot ((w2.setCell ⟨vb, 5 * n + 4, none⟩ (.int .i64 t)).setCell ⟨vb, 5 * n + 3, none⟩ (.string x)) vb (5 * n + 4) (.int .i64 t) := by
  obtain ⟨z0, z1, z2, z3, z4⟩ := g.zero
  have a1 := AltC.set w2 vb (5 * n + 4) (.int .i64 t)
  have a2 := AltC.set (w2.setCell ⟨vb, 5 * n + 4, none⟩ (.int .i64 t)) vb (5 * n + 3) (.string x)
  have t0 := (z0.alt a1 (fun e => by omega)).alt a2 (fun e => by omega)
  have t1 := (z1.alt a1 (fun e => by omega)).alt a2 (fun e => by omega)
  have t2 := (z2.alt a1 (fun e => by omega)).alt a2 (fun e => by omega)
  have t3 := (z3.alt a1 (fun e => by omega)).set (.string x)
  have t4 := (z4.set (.int .i64 t)).alt a2 (fun e => by omega)
  refine ⟨(g.got hB).sets ((a1.mono (fun x y _ e => ⟨e.1, by omega, by omega⟩)).trans a2 (fun x y _ e => ⟨e.1, by omega, by omega⟩)) (fun k hk => ?_), t3, t4⟩
  match k, hk with
  | 0, _ => exact ⟨_, t0⟩
  | 1, _ => exact ⟨_, t1⟩
  | 2, _ => exact ⟨_, t2⟩
  | 3, _ => exact ⟨_, t3⟩
  | 4, _ => exact ⟨_, t4⟩
/-- What a leaf that is a text or a number comes to. -/
theorem leaf_ok {w w3 : World} {C co n vb cap L : Nat} {VB : Option Nat} {x r : Bs} {u : ByteArray} (h : GotS w C co VB n w3 vb cap) (s3 : Slot w3 vb (5 * n + 3) (.string (bs x))) {t : Int} (s4 : Slot w3 vb (5 * n + 4) (.int .i64 t)) (hu : u = bs r) (hl : n + 1 + r.length ≤ L) (v : JV) (hv : (t = 7 ∧ v = .str x) ∨ (t = 4 ∧ v = .num x)) (m : Nat) :
    POk w C co VB n L v r (.returned (.tuple #[.pointer (some ⟨vb, 5 * n, none⟩), .string u, .nilIface])) (w3.drewN m) := by
  refine ⟨some vb, n + 1, cap, vb, 5 * n, ret_p (p := (vb, 5 * n)) (q := (vb, 5 * n)) rfl hu, h.cache.drewN m, h.grew, hl, h.alt.more (below_drewN0 (Below.refl _ _) m), ?_⟩
  have e3 : Cel (w3.drewN m) (RegN w (w3.drewN m) C co VB n (some vb) (n + 1)) vb (5 * n + 3) (.string (bs x)) := ⟨h.reg 3 (by omega), s3⟩
  have e4 : Cel (w3.drewN m) (RegN w (w3.drewN m) C co VB n (some vb) (n + 1)) vb (5 * n + 4) (.int .i64 t) := ⟨h.reg 4 (by omega), s4⟩
  rcases hv with ⟨rfl, rfl⟩ | ⟨rfl, rfl⟩
  · exact .str e3 e4
  · exact .num e3 e4
end Go.Proofs.YtbdmdajbdmdknaaGreatDoor
namespace Go.Proofs.YtbdmdajbdmdknaaGreatDoor
open Go.RowKit
set_option linter.unusedVariables false
set_option linter.unusedSimpArgs false

theorem rawS_plain : ∀ (x y : Bs), (34 : UInt8) ∉ x → (92 : UInt8) ∉ x → rawS false (x ++ 34 :: y) = some (x, y)
  | [], y, _, _ => by simp [rawS]
  | c :: x, y, h1, h2 => by
    rw [List.mem_cons, not_or] at h1 h2
    have hc : (c == 92) = false := by simpa using Ne.symm h2.1
    rw [List.cons_append, rawS_f, if_neg (Ne.symm h1.1), hc, rawS_plain x y h1.2 h2.2]
    rfl
theorem skipW_nw {c : UInt8} (l : Bs) (h : isWS c = false) : skipW (c :: l) = c :: l := by unfold skipW; rw [List.dropWhile_cons, h]; rfl
/-- The head of an algorithm and a key's name. -/
def headL (a k : Bs) : Bs := 123 :: 34 :: ([97, 108, 103] ++ 34 :: 58 :: 34 :: (a ++ 34 :: 44 :: 34 :: ([107, 105, 100] ++ 34 :: 58 :: 34 :: (k ++ 34 :: 125 :: []))))
theorem pText_headL (a k : Bs) (h1 : (34 : UInt8) ∉ a) (h2 : (92 : UInt8) ∉ a) (h3 : (34 : UInt8) ∉ k) (h4 : (92 : UInt8) ∉ k) : pText (headL a k) = some (.obj [([97, 108, 103], .str a), ([107, 105, 100], .str k)]) := by
  obtain ⟨g, hg⟩ : ∃ g, 2 * (headL a k).length + 2 = g + 4 := ⟨2 * (headL a k).length - 2, by simp [headL]; omega⟩
  unfold pText
  rw [hg]
  have hk : pObj (g + 2) 1 (34 :: ([107, 105, 100] ++ 34 :: 58 :: 34 :: (k ++ 34 :: 125 :: []))) = some ([([107, 105, 100], .str k)], []) := by
    refine pObj_close (skipW_nw _ rfl) (rawS_plain [107, 105, 100] _ (by decide) (by decide)) (skipW_nw _ rfl) (v := .str k) (r3 := 125 :: []) ?_ (skipW_nw _ rfl)
    rw [skipW_nw _ rfl, pVal_str (by omega), rawS_plain k _ h3 h4]
    rfl
  have ho : pObj (g + 3) 1 (34 :: ([97, 108, 103] ++ 34 :: 58 :: 34 :: (a ++ 34 :: 44 :: 34 :: ([107, 105, 100] ++ 34 :: 58 :: 34 :: (k ++ 34 :: 125 :: []))))) = some ([([97, 108, 103], .str a), ([107, 105, 100], .str k)], []) := by
    rw [pObj_comma (skipW_nw _ rfl) (rawS_plain [97, 108, 103] _ (by decide) (by decide)) (skipW_nw _ rfl) (v := .str a) (r3 := 44 :: 34 :: ([107, 105, 100] ++ 34 :: 58 :: 34 :: (k ++ 34 :: 125 :: []))) ?_ (skipW_nw _ rfl), hk]
    · rfl
    · rw [skipW_nw _ rfl, pVal_str (by omega), rawS_plain a _ h1 h2]
      rfl
  have hv : pVal (g + 4) 0 (skipW (headL a k)) = some (.obj [([97, 108, 103], .str a), ([107, 105, 100], .str k)], []) := by
    unfold headL
    rw [skipW_nw _ rfl, pVal_obj (by omega)]
    unfold oRest
    rw [skipW_nw _ rfl]
    simp only [ho]
    rfl
  rw [hv]
  rfl
end Go.Proofs.YtbdmdajbdmdknaaGreatDoor
namespace Go.Proofs.YtbdmdajbdmdknaaGreatDoor
open Go.RowKit
set_option linter.unusedVariables false
set_option linter.unusedSimpArgs false

set_option maxRecDepth 100000 in
set_option maxHeartbeats 4000000 in
theorem val_empty (w : World) (C co : Nat) (VB : Option Nat) (n d : Nat) (s : ByteArray) (h : s.size = 0) :
    Calls Tryz.prog 96 #[.pointer (some ⟨C, co, none⟩), .string s, .int .i64 d] w (PNo w C co VB n) := by
  go_enter Tryz.func96, Tryz.ntmps96
  go_wp2_with (go_at_call 69; go_must (refine (newErr_calls _ _).mono ?_; rintro e w1 ⟨T, a, rfl, hB⟩; have HB := hidden hB; clear hB))
  go_ret3
  exact PNo.of (AltC.of_below HB.out _)
set_option maxRecDepth 100000 in
set_option maxHeartbeats 4000000 in
theorem val_deep (w : World) (C co : Nat) (VB : Option Nat) (n d : Nat) (s : ByteArray) (h : 0 < s.size) (hd : d = 300) :
    Calls Tryz.prog 96 #[.pointer (some ⟨C, co, none⟩), .string s, .int .i64 d] w (PNo w C co VB n) := by
  have hne : ((s.size : Int) == 0) = false := beq_eq_false_iff_ne.2 (by omega)
  subst hd
  go_enter Tryz.func96, Tryz.ntmps96
  go_wp2_with (go_at_call 69; go_must (refine (newErr_calls _ _).mono ?_; rintro e w1 ⟨T, a, rfl, hB⟩; have HB := hidden hB; clear hB))
  go_ret3
  exact PNo.of (AltC.of_below HB.out _)
set_option maxRecDepth 100000 in
set_option maxHeartbeats 4000000 in
theorem val_obj (g d : Nat) (hV : ∀ q, q < g → CallsV q) (w : World) (C co : Nat) (VB : Option Nat) (n cap : Nat) (s : ByteArray) (hC : Cache w C co VB n cap) (hf : 2 * s.size < g + 1) (hN : n + s.size ≤ 1000000000) (hd : d < 300) (r : Bs) (hs : s.data.toList = 123 :: r) :
    Calls Tryz.prog 96 #[.pointer (some ⟨C, co, none⟩), .string s, .int .i64 d] w (PRes w C co VB n (n + s.size) (oRest g (d + 1) r)) := by
  obtain ⟨z1, z2, z3⟩ := cons_of hs
  have hp : 0 < s.size := by omega
  have hp' : 1 ≤ s.size := by omega
  have hne : ((s.size : Int) == 0) = false := beq_eq_false_iff_ne.2 (by omega)
  have hg := z2 hp
  have hdi : ¬ (300 : Int) < (d : Int) + 1 := by omega
  obtain ⟨s2, hs2⟩ : ∃ t : ByteArray, t.data.toList = r := ⟨bs r, rfl⟩
  have hz2 : s.size = s2.size + 1 := by (have : s2.size = r.length := by rw [size_toL, hs2]); omega
  rw [← hs2, bs_self] at z3
  have hcall := obj_calls g (d + 1) hV w C co VB n cap s2 hC (by omega) (by omega) (by omega)
  rw [hs2, show ((d + 1 : Nat) : Int) = (d : Int) + 1 by omega, show n + s2.size + 1 = n + s.size by omega] at hcall
  have HCALL := hidden hcall
  clear hs hC hV hs2 hz2 hcall z1 z2 hf
  cases hr : oRest g (d + 1) r with
  | none =>
    rw [hr] at HCALL
    clear hr
    go_enter Tryz.func96, Tryz.ntmps96
    go_wp2_with (first
      | (go_at_call 108; go_must (refine HCALL.out.mono ?_; rintro e w1 ⟨t, T, a, rfl, hA⟩; have HA := hidden hA; clear hA))
      | (go_at_call 69; go_must (refine (newErr_calls _ _).mono ?_; rintro e w2 ⟨T2, a2, rfl, hB⟩; have HB := hidden hB; clear hB)))
    go_ret3
    exact PNo.of (HA.out.more HB.out)
  | some vz =>
    obtain ⟨v, z⟩ := vz
    rw [hr] at HCALL
    clear hr
    go_enter Tryz.func96, Tryz.ntmps96
    go_wp2_with (go_at_call 108; go_must (refine HCALL.out.mono ?_; rintro e w1 ⟨VB2, n2, cap2, b2, o2, rfl, hC2, hG2, hL2, hA2, hR2⟩; dsimp only at hL2 ⊢; unfold ptr; have HR := hidden (show POk w C co VB n (n + s.size) v z (.returned (.tuple #[.pointer (some ⟨b2, o2, none⟩), .string (bs z), .nilIface])) w1 from ⟨VB2, n2, cap2, b2, o2, rfl, hC2, hG2, hL2, hA2, hR2⟩); clear hC2 hG2 hL2 hA2 hR2))
    go_ret3
    exact HR.out
set_option maxRecDepth 100000 in
set_option maxHeartbeats 4000000 in
theorem val_arr (g d : Nat) (hV : ∀ q, q < g → CallsV q) (w : World) (C co : Nat) (VB : Option Nat) (n cap : Nat) (s : ByteArray) (hC : Cache w C co VB n cap) (hf : 2 * s.size < g + 1) (hN : n + s.size ≤ 1000000000) (hd : d < 300) (r : Bs) (hs : s.data.toList = 91 :: r) :
    Calls Tryz.prog 96 #[.pointer (some ⟨C, co, none⟩), .string s, .int .i64 d] w (PRes w C co VB n (n + s.size) (aRest g (d + 1) r)) := by
  obtain ⟨z1, z2, z3⟩ := cons_of hs
  have hp : 0 < s.size := by omega
  have hp' : 1 ≤ s.size := by omega
  have hne : ((s.size : Int) == 0) = false := beq_eq_false_iff_ne.2 (by omega)
  have hg := z2 hp
  have hdi : ¬ (300 : Int) < (d : Int) + 1 := by omega
  obtain ⟨s2, hs2⟩ : ∃ t : ByteArray, t.data.toList = r := ⟨bs r, rfl⟩
  have hz2 : s.size = s2.size + 1 := by (have : s2.size = r.length := by rw [size_toL, hs2]); omega
  rw [← hs2, bs_self] at z3
  have hcall := arr_calls g (d + 1) hV w C co VB n cap s2 hC (by omega) (by omega) (by omega)
  rw [hs2, show ((d + 1 : Nat) : Int) = (d : Int) + 1 by omega, show n + s2.size + 1 = n + s.size by omega] at hcall
  have HCALL := hidden hcall
  clear hs hC hV hs2 hz2 hcall z1 z2 hf
  cases hr : aRest g (d + 1) r with
  | none =>
    rw [hr] at HCALL
    clear hr
    go_enter Tryz.func96, Tryz.ntmps96
    go_wp2_with (first
      | (go_at_call 109; go_must (refine HCALL.out.mono ?_; rintro e w1 ⟨t, T, a, rfl, hA⟩; have HA := hidden hA; clear hA))
      | (go_at_call 69; go_must (refine (newErr_calls _ _).mono ?_; rintro e w2 ⟨T2, a2, rfl, hB⟩; have HB := hidden hB; clear hB)))
    go_ret3
    exact PNo.of (HA.out.more HB.out)
  | some vz =>
    obtain ⟨v, z⟩ := vz
    rw [hr] at HCALL
    clear hr
    go_enter Tryz.func96, Tryz.ntmps96
    go_wp2_with (go_at_call 109; go_must (refine HCALL.out.mono ?_; rintro e w1 ⟨VB2, n2, cap2, b2, o2, rfl, hC2, hG2, hL2, hA2, hR2⟩; dsimp only at hL2 ⊢; unfold ptr; have HR := hidden (show POk w C co VB n (n + s.size) v z (.returned (.tuple #[.pointer (some ⟨b2, o2, none⟩), .string (bs z), .nilIface])) w1 from ⟨VB2, n2, cap2, b2, o2, rfl, hC2, hG2, hL2, hA2, hR2⟩); clear hC2 hG2 hL2 hA2 hR2))
    go_ret3
    exact HR.out
set_option maxRecDepth 100000 in
set_option maxHeartbeats 4000000 in
theorem val_str (d : Nat) (w : World) (C co : Nat) (VB : Option Nat) (n cap : Nat) (s : ByteArray) (hC : Cache w C co VB n cap) (hN : n + s.size ≤ 1000000000) (hd : d < 300) (r : Bs) (hs : s.data.toList = 34 :: r) :
    Calls Tryz.prog 96 #[.pointer (some ⟨C, co, none⟩), .string s, .int .i64 d] w (PRes w C co VB n (n + s.size) ((rawS false r).map fun p => (.str p.1, p.2))) := by
  obtain ⟨z1, z2, z3⟩ := cons_of hs
  have hp : 0 < s.size := by omega
  have hp' : 1 ≤ s.size := by omega
  have hne : ((s.size : Int) == 0) = false := beq_eq_false_iff_ne.2 (by omega)
  have hg := z2 hp
  have hdi : ¬ (300 : Int) < (d : Int) + 1 := by omega
  obtain ⟨s2, hs2⟩ : ∃ t : ByteArray, t.data.toList = r := ⟨bs r, rfl⟩
  have hz2 : s.size = s2.size + 1 := by (have : s2.size = r.length := by rw [size_toL, hs2]); omega
  rw [← hs2, bs_self] at z3
  have hcall := fun (x : Option (Bs × Bs)) (hx : x = rawS false r) => rawStr_calls s2 w (by omega) x (by rw [hx, hs2])
  have HCALL := hidden hcall
  have HC := hidden hC
  have HZ := hidden hz2
  have HS2 := hidden hs2
  clear hs hC hs2 hz2 hcall z1 z2
  cases hr : rawS false r with
  | none =>
    have HK := hidden (HCALL.out none hr.symm)
    clear hr
    go_enter Tryz.func96, Tryz.ntmps96
    go_wp2_with (first
      | (go_at_call 110; go_must (refine HK.out.mono ?_; rintro e w1 ⟨t, u, T, a, rfl, hA⟩; have HA := hidden hA; clear hA))
      | (go_at_call 69; go_must (refine (newErr_calls _ _).mono ?_; rintro e w2 ⟨T2, a2, rfl, hB⟩; have HB := hidden hB; clear hB)))
    go_ret3
    exact PNo.of ((AltC.of_below HA.out _).more HB.out)
  | some vz =>
    obtain ⟨x, y⟩ := vz
    have HK := hidden (HCALL.out (some (x, y)) hr.symm)
    have hlen := rawS_len _ _ _ _ hr
    have HLEN := hidden hlen
    clear hr hlen
    go_enter Tryz.func96, Tryz.ntmps96
    go_upto_region 21 with (first
      | (go_at_call 110; go_must (refine HK.out.mono ?_; rintro e w1 ⟨rfl, hA⟩; have HA := hidden hA; clear hA; dsimp only))
      | (go_at_call 111; go_must (refine (getValue_calls _ C co n cap VB (HC.out.alt (AltC.of_below HA.out (fun _ _ => False)) (fun e => e) (fun _ _ _ e => e)) (by omega)).mono ?_; rintro e w2 ⟨vb, cap1, rfl, hG⟩; have HG := hidden hG; clear hG)))
    have z4 := HG.out.zero.2.2.2.2
    have c4 := z4.1
    have f4 := z4.2
    have z3' := (HG.out.zero.2.2.2.1).alt (AltC.set w2 vb (5 * n + 4) (.int .i64 7)) (fun e => by omega)
    have c3 := z3'.1
    have f3 := z3'.2
    have hlf := HG.out.leaf HA.out 7 (bs x)
    have HLF := hidden hlf
    clear z4 z3' hlf
    go_wp2
    go_ret3
    exact leaf_ok (m := 0) HLF.out.1 HLF.out.2.1 HLF.out.2.2 rfl (by have h1 := HLEN.out; have h2 := HZ.out; (have h3 : s2.size = r.length := by rw [size_toL, HS2.out]); omega) _ (.inl ⟨rfl, rfl⟩)
set_option maxRecDepth 100000 in
set_option maxHeartbeats 4000000 in
theorem val_num (d : Nat) (w : World) (C co : Nat) (VB : Option Nat) (n cap : Nat) (s : ByteArray) (hC : Cache w C co VB n cap) (hN : n + s.size ≤ 1000000000) (hd : d < 300) (c : UInt8) (r : Bs) (hs : s.data.toList = c :: r) (h1 : c ≠ 123) (h2 : c ≠ 91) (h3 : c ≠ 34) (h4 : c ≠ 116) (h5 : c ≠ 102) (h6 : c ≠ 110) :
    Calls Tryz.prog 96 #[.pointer (some ⟨C, co, none⟩), .string s, .int .i64 d] w (PRes w C co VB n (n + s.size) ((rawN (c :: r)).map fun p => (.num p.1, p.2))) := by
  obtain ⟨z1, z2, z3⟩ := cons_of hs
  have hp : 0 < s.size := by omega
  have hp' : 1 ≤ s.size := by omega
  have hne : ((s.size : Int) == 0) = false := beq_eq_false_iff_ne.2 (by omega)
  have hg := z2 hp
  have hdi : ¬ (300 : Int) < (d : Int) + 1 := by omega
  obtain ⟨a, ha⟩ : ∃ a : Nat, c.toNat = a := ⟨_, rfl⟩
  have b1 := u8_ne (k := 123) (by omega) h1
  have b2 := u8_ne (k := 91) (by omega) h2
  have b3 := u8_ne (k := 34) (by omega) h3
  have b4 := u8_ne (k := 116) (by omega) h4
  have b5 := u8_ne (k := 102) (by omega) h5
  have b6 := u8_ne (k := 110) (by omega) h6
  rw [ha] at b1 b2 b3 b4 b5 b6
  obtain ⟨e1, f1⟩ := b1
  obtain ⟨e2, f2⟩ := b2
  obtain ⟨e3, f3⟩ := b3
  obtain ⟨e4, f4⟩ := b4
  obtain ⟨e5, f5⟩ := b5
  obtain ⟨e6, f6⟩ := b6
  have hcall := fun (x : Option (Bs × Bs)) (hx : x = rawN (c :: r)) => rawNum_calls s w (by omega) x (by rw [hx, hs])
  have HCALL := hidden hcall
  have HC := hidden hC
  have HS := hidden hs
  clear hs hC hcall z1 z2 z3 h1 h2 h3 h4 h5 h6
  cases hr : rawN (c :: r) with
  | none =>
    have HK := hidden (HCALL.out none hr.symm)
    clear hr
    go_enter Tryz.func96, Tryz.ntmps96
    go_wp2_with (first
      | (go_at_call 116; go_must (refine HK.out.mono ?_; rintro e w1 ⟨t, u, T, a, rfl, hA⟩; have HA := hidden hA; clear hA))
      | (go_at_call 69; go_must (refine (newErr_calls _ _).mono ?_; rintro e w2 ⟨T2, a2, rfl, hB⟩; have HB := hidden hB; clear hB)))
    go_ret3
    exact PNo.of ((AltC.of_below HA.out _).more HB.out)
  | some vz =>
    obtain ⟨x, y⟩ := vz
    have HK := hidden (HCALL.out (some (x, y)) hr.symm)
    have hlen := rawN_len hr
    have HLEN := hidden hlen
    clear hr hlen
    go_enter Tryz.func96, Tryz.ntmps96
    go_upto_region 45 with (first
      | (go_at_call 116; go_must (refine HK.out.mono ?_; rintro e w1 ⟨rfl, hA⟩; have HA := hidden hA; clear hA; dsimp only))
      | (go_at_call 111; go_must (refine (getValue_calls _ C co n cap VB (HC.out.alt (AltC.of_below HA.out (fun _ _ => False)) (fun e => e) (fun _ _ _ e => e)) (by omega)).mono ?_; rintro e w2 ⟨vb, cap1, rfl, hG⟩; have HG := hidden hG; clear hG)))
    have z4 := HG.out.zero.2.2.2.2
    have c4 := z4.1
    have f4 := z4.2
    have z3' := (HG.out.zero.2.2.2.1).alt (AltC.set w2 vb (5 * n + 4) (.int .i64 4)) (fun e => by omega)
    have c3 := z3'.1
    have f3 := z3'.2
    have hlf := HG.out.leaf HA.out 4 (bs x)
    have HLF := hidden hlf
    clear z4 z3' hlf
    go_wp2
    go_ret3
    exact leaf_ok (m := 0) HLF.out.1 HLF.out.2.1 HLF.out.2.2 rfl (by have h1 := HLEN.out; (have h3 : s.size = r.length + 1 := by rw [size_toL, HS.out]; rfl); omega) _ (.inr ⟨rfl, rfl⟩)
end Go.Proofs.YtbdmdajbdmdknaaGreatDoor
