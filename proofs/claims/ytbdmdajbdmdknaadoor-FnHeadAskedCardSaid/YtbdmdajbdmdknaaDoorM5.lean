/- What a call of the parser comes to; an object is parsed, if values are. The parser's function on bytes, case by case. Nothing here speaks of the program. -/
import Derived.Test.YtbdmdajbdmdknaaDoorM4
import Derived.Test.YtbdmdajbdmdknaaDoorJsonC
import Derived.Deep.CutBlock
import Derived.Test.YtbdmdajbdmdknaaDoorM1
namespace Go.Proofs.YtbdmdajbdmdknaaDoor
open Go.RowKit
set_option linter.unusedVariables false
set_option linter.unusedSimpArgs false

/-- A value, and what stands behind it. -/
def POk (w : World) (C co : Nat) (VB : Option Nat) (n L : Nat) (v : JV) (r : Bs) (e : Ending) (w' : World) : Prop :=
  ∃ VB' n' cap' b o, e = .returned (.tuple #[ptr (b, o), .string (bs r), .nilIface]) ∧ Cache w' C co VB' n' cap' ∧ Grew w VB n VB' n' ∧ n' + r.length ≤ L ∧ AltC w w' (SC C co VB n) ∧ Rep w' (RegN w w' C co VB n VB' n') v b o
/-- No value. -/
def PNo (w : World) (C co : Nat) (VB : Option Nat) (n : Nat) (e : Ending) (w' : World) : Prop :=
  ∃ t T a, e = .returned (.tuple #[.pointer none, .string t, .iface T (.pointer (some a))]) ∧ AltC w w' (SC C co VB n)
def PRes (w : World) (C co : Nat) (VB : Option Nat) (n L : Nat) (r : Option (JV × Bs)) (e : Ending) (w' : World) : Prop := match r with
  | some p => POk w C co VB n L p.1 p.2 e w'
  | none => PNo w C co VB n e w'
def CallsV (f : Nat) : Prop := ∀ (w : World) (C co : Nat) (VB : Option Nat) (n cap : Nat) (s : ByteArray) (d : Nat), Cache w C co VB n cap → 2 * s.size < f → n + s.size ≤ 1000000000 → d ≤ 300 →
  Calls Tryd.prog 63 #[.pointer (some ⟨C, co, none⟩), .string s, .int .i64 d] w (PRes w C co VB n (n + s.size) (pVal f d s.data.toList))
/-- What stands behind the brace. -/
def oRest (f d : Nat) (r : Bs) : Option (JV × Bs) := match skipW r with
  | [] => none
  | c2 :: r2 => if c2 = 125 then some (.obj [], r2) else (pObj f d (c2 :: r2)).map fun p => (.obj p.1, p.2)
def aRest (f d : Nat) (r : Bs) : Option (JV × Bs) := match skipW r with
  | [] => none
  | c2 :: r2 => if c2 = 93 then some (.arr [], r2) else (pArr f d (c2 :: r2)).map fun p => (.arr p.1, p.2)
theorem ret_no {t u : ByteArray} (h : t = u) {v : Value} : Ending.returned (.tuple #[.pointer none, .string t, v]) = .returned (.tuple #[.pointer none, .string u, v]) := by rw [h]
theorem ret_p {p q : Nat × Nat} {t u : ByteArray} (h : p = q) (h2 : t = u) {v : Value} : Ending.returned (.tuple #[ptr p, .string t, v]) = .returned (.tuple #[ptr q, .string u, v]) := by rw [h, h2]
theorem PNo.of {w w' : World} {C co n : Nat} {VB : Option Nat} {t : ByteArray} {T : Nat} {a : Addr} (h : AltC w w' (SC C co VB n)) : PNo w C co VB n (.returned (.tuple #[.pointer none, .string t, .iface T (.pointer (some a))])) w' := ⟨t, T, a, rfl, h⟩
theorem AltC.more {w w1 w2 : World} {S : Nat → Nat → Prop} (h : AltC w w1 S) (hB : Below w1.heap.size w1 w2) : AltC w w2 S := h.trans (AltC.of_below hB (fun _ _ => False)) (fun _ _ _ e => e.elim)
theorem skip_bs (s : ByteArray) (l : Bs) (h : s.data.toList = l) (w : World) (hN : s.size ≤ 1000000000) (r : ByteArray) (hr : r.data.toList = skipW l) :
    Calls Tryd.prog 61 #[.string s] w fun e w' => e = .returned (.string r) ∧ w = w' := by
  have e : r = bs (skipW s.data.toList) := by rw [h, ← hr, bs_self]
  rw [e]
  exact skip_calls s w hN
theorem OL.start {w w3 : World} {C co n vb cap : Nat} {VB : Option Nat} (h : GotS w C co VB n w3 vb cap) (s0 : Slot w3 vb (5 * n) (.slice none 0 0)) (s1 : Slot w3 vb (5 * n + 1) (.bool false)) (s4 : Slot w3 vb (5 * n + 4) (.int .i64 1)) (ad : Nat → Nat × Nat) (G : Nat → Nat → Nat → Prop) :
    OL w C co VB n w3 (some vb) (n + 1) vb (5 * n) none 0 [] ad G :=
  ⟨h.grew, h.alt, ⟨s0, Nat.le_refl _, fun _ => rfl, fun e => (by cases e), fun k e => (by cases e), fun k e => (by cases e)⟩, s1, s4, fun y h1 h2 => by
    have := h.reg (y - 5 * n) (by omega)
    rwa [show 5 * n + (y - 5 * n) = y by omega] at this, fun k e => (by cases e), fun i hi => (by simp at hi), fun i x y hi => (by simp at hi), fun i j x y hi => (by simp at hi), fun i hi => (by simp at hi)⟩
theorem GotV.objStart {w w1 w2 : World} {C co n vb cap : Nat} {VB : Option Nat} (g : GotV w C co VB n w1 vb cap) (h2 : AltC (w1.setCell ⟨vb, 5 * n + 4, none⟩ (.int .i64 1)) w2 (fun x y => x = vb ∧ 5 * n ≤ y ∧ y < 5 * n + 2)) (s0 : Slot w2 vb (5 * n) (.slice none 0 0)) (s1 : Slot w2 vb (5 * n + 1) (.bool false)) :
    GotS w C co VB n w2 vb cap ∧ Slot w2 vb (5 * n + 4) (.int .i64 1) := by
  obtain ⟨z0, z1, z2, z3, z4⟩ := g.zero
  have a1 := AltC.set w1 vb (5 * n + 4) (.int .i64 1)
  have t2 := (z2.alt a1 (fun e => by omega)).alt h2 (fun e => by omega)
  have t3 := (z3.alt a1 (fun e => by omega)).alt h2 (fun e => by omega)
  have t4 := (z4.set (.int .i64 1)).alt h2 (fun e => by omega)
  refine ⟨(g.got (Below.refl _ _)).sets ((a1.mono (fun x y _ e => ⟨e.1, by omega, by omega⟩)).trans h2 (fun x y _ e => ⟨e.1, by omega, by omega⟩)) (fun k hk => ?_), t4⟩
  match k, hk with
  | 0, _ => exact ⟨_, s0⟩
  | 1, _ => exact ⟨_, s1⟩
  | 2, _ => exact ⟨_, t2⟩
  | 3, _ => exact ⟨_, t3⟩
  | 4, _ => exact ⟨_, t4⟩
theorem emp_of {s : ByteArray} (h : s.data.toList = []) : s.size = 0 := by rw [size_toL, h]; rfl
theorem cons_of {s : ByteArray} {c : UInt8} {l : Bs} (h : s.data.toList = c :: l) : s.size = l.length + 1 ∧ (∀ hp, s[0]'hp = c) ∧ s.extract 1 s.size = bs l := by
  refine ⟨by rw [size_toL, h]; rfl, fun hp => ?_, by rw [extract_drop, h]; rfl⟩
  have := get_drop hp
  rw [List.drop_zero, h] at this
  simp at this
  exact this.symm
set_option maxRecDepth 100000 in
set_option maxHeartbeats 4000000 in
theorem obj_none (f d : Nat) (w : World) (C co : Nat) (VB : Option Nat) (n cap : Nat) (s : ByteArray) (hC : Cache w C co VB n cap) (hN : n + s.size ≤ 1000000000) (h : skipW s.data.toList = []) :
    Calls Tryd.prog 75 #[.pointer (some ⟨C, co, none⟩), .string s, .int .i64 d] w (PNo w C co VB n) := by
  have K1 := hidden (skip_bs s _ rfl w (by omega) ⟨#[]⟩ (by rw [h]))
  clear h hC
  go_enter Tryd.func75, Tryd.ntmps75
  go_wp2_with (first
    | (go_at_call 61; go_must (refine K1.out.mono ?_; rintro e w1 ⟨rfl, rfl⟩))
    | (go_at_call 48; go_must (refine (newErr_calls _ _).mono ?_; rintro e w1 ⟨T, a, rfl, hB⟩; have HB := hidden hB; clear hB)))
  go_ret3
  exact PNo.of (AltC.of_below HB.out _)
set_option maxRecDepth 100000 in
set_option maxHeartbeats 4000000 in
theorem obj_empty (f d : Nat) (w : World) (C co : Nat) (VB : Option Nat) (n cap : Nat) (s : ByteArray) (hC : Cache w C co VB n cap) (hN : n + s.size ≤ 1000000000) (r2 : Bs) (h : skipW s.data.toList = 125 :: r2) :
    Calls Tryd.prog 75 #[.pointer (some ⟨C, co, none⟩), .string s, .int .i64 d] w (POk w C co VB n (n + s.size) (.obj []) r2) := by
  obtain ⟨s1, hs1⟩ : ∃ s1 : ByteArray, s1.data.toList = skipW s.data.toList := ⟨bs _, rfl⟩
  have K1 := hidden (skip_bs s _ rfl w (by omega) s1 hs1)
  rw [h] at hs1
  obtain ⟨z1, z2, z3⟩ := cons_of hs1
  have hle := skipW_len s.data.toList
  rw [h, len_toL] at hle
  simp only [List.length_cons] at hle
  have hp1 : 0 < s1.size := by omega
  have hp1' : 1 ≤ s1.size := by omega
  have hne : ((s1.size : Int) == 0) = false := beq_eq_false_iff_ne.2 (by omega)
  have hg0 := z2 hp1
  have HZ3 := hidden z3
  have HLE := hidden hle
  have HC := hidden hC
  clear h hC hs1 z1 z2 z3 hle
  go_enter Tryd.func75, Tryd.ntmps75
  go_upto_region 5 with (first
    | (go_at_call 61; go_must (refine K1.out.mono ?_; rintro e w1 ⟨rfl, rfl⟩)))
  have HGV := hidden (getValue_calls w C co n cap VB HC.out (by omega))
  go_upto_region 6 with (go_at_call 78; go_must (refine HGV.out.mono ?_; rintro e w1 ⟨vb, cap1, rfl, hG⟩; have HG := hidden hG; clear hG))
  have z4 := HG.out.zero.2.2.2.2
  have c4 := z4.1
  have f4 := z4.2
  have HO := hidden (oReset_calls (w1.setCell ⟨vb, 5 * n + 4, none⟩ (.int .i64 1)) vb (5 * n) (HG.out.zero.1.alt (AltC.set _ _ _ _) (fun e => by omega)) (HG.out.zero.2.1.alt (AltC.set _ _ _ _) (fun e => by omega)))
  clear z4 HGV
  go_wp2_with (go_at_call 88; go_must (refine HO.out.mono ?_; rintro e w2 ⟨rfl, h1, h2, h3⟩; have HS := hidden (HG.out.objStart h1 h2 h3); have HOL := hidden (OL.start HS.out.1 h2 h3 HS.out.2 (fun _ => (0, 0)) (fun _ _ _ => True)); clear h1 h2 h3))
  go_quiet (fail)
  go_wp2
  go_ret3
  have hw := HOL.out.whole
  exact ⟨some vb, n + 1, cap1, vb, 5 * n, ret_p (p := (vb, 5 * n)) (q := (vb, 5 * n)) rfl HZ3.out, HS.out.1.cache.drewN _, HOL.out.grew, by have := HLE.out; omega, HOL.out.alt.more (below_drewN0 (Below.refl _ _) _), (hw.alt (AltC.drewN _ _ (fun _ _ => False)) (fun _ _ _ e => e)).mono (fun x y r => RegN.later (Grew.refl _ _ _) (Nat.le_refl _) r)⟩
end Go.Proofs.YtbdmdajbdmdknaaDoor
namespace Go.Proofs.YtbdmdajbdmdknaaDoor
set_option linter.unusedVariables false
set_option linter.unusedSimpArgs false

section
variable {g d : Nat} {s r r1 r2 r3 r4 x y : Bs} {c : UInt8} {v : JV}
theorem pObj_nil (h : skipW s = []) : pObj (g + 1) d s = none := by rw [pObj, h]
theorem pObj_no (h : skipW s = c :: r) (hc : c ≠ 34) : pObj (g + 1) d s = none := by rw [pObj, h]; simp only []; rw [if_neg hc]
theorem pObj_key (h : skipW s = 34 :: r1) (hz : rawS false r1 = none) : pObj (g + 1) d s = none := by rw [pObj, h]; simp only [if_true]; rw [hz]
theorem pObj_col0 (h : skipW s = 34 :: r1) (hz : rawS false r1 = some (x, y)) (h2 : skipW y = []) : pObj (g + 1) d s = none := by rw [pObj, h]; simp only [if_true]; rw [hz]; simp only []; rw [h2]
theorem pObj_col1 (h : skipW s = 34 :: r1) (hz : rawS false r1 = some (x, y)) (h2 : skipW y = c :: r2) (hc : c ≠ 58) : pObj (g + 1) d s = none := by rw [pObj, h]; simp only [if_true]; rw [hz]; simp only []; rw [h2]; simp only []; rw [if_neg hc]
theorem pObj_val0 (h : skipW s = 34 :: r1) (hz : rawS false r1 = some (x, y)) (h2 : skipW y = 58 :: r2) (hv : pVal g d (skipW r2) = none) : pObj (g + 1) d s = none := by
  rw [pObj, h]; simp only [if_true]; rw [hz]; simp only []; rw [h2]; simp only [if_true]; rw [hv]
theorem pObj_end0 (h : skipW s = 34 :: r1) (hz : rawS false r1 = some (x, y)) (h2 : skipW y = 58 :: r2) (hv : pVal g d (skipW r2) = some (v, r3)) (h4 : skipW r3 = []) : pObj (g + 1) d s = none := by
  rw [pObj, h]; simp only [if_true]; rw [hz]; simp only []; rw [h2]; simp only [if_true]; rw [hv]; simp only []; rw [h4]
theorem pObj_comma (h : skipW s = 34 :: r1) (hz : rawS false r1 = some (x, y)) (h2 : skipW y = 58 :: r2) (hv : pVal g d (skipW r2) = some (v, r3)) (h4 : skipW r3 = 44 :: r4) : pObj (g + 1) d s = (pObj g d r4).map fun p => ((x, v) :: p.1, p.2) := by
  rw [pObj, h]; simp only [if_true]; rw [hz]; simp only []; rw [h2]; simp only [if_true]; rw [hv]; simp only []; rw [h4]; simp only [if_true]
theorem pObj_close (h : skipW s = 34 :: r1) (hz : rawS false r1 = some (x, y)) (h2 : skipW y = 58 :: r2) (hv : pVal g d (skipW r2) = some (v, r3)) (h4 : skipW r3 = 125 :: r4) : pObj (g + 1) d s = some ([(x, v)], r4) := by
  rw [pObj, h]; simp only [if_true]; rw [hz]; simp only []; rw [h2]; simp only [if_true]; rw [hv]; simp only []; rw [h4]; simp only [if_true]; rw [if_neg (by decide)]
theorem pObj_bad (h : skipW s = 34 :: r1) (hz : rawS false r1 = some (x, y)) (h2 : skipW y = 58 :: r2) (hv : pVal g d (skipW r2) = some (v, r3)) (h4 : skipW r3 = c :: r4) (hc : c ≠ 44) (hc2 : c ≠ 125) : pObj (g + 1) d s = none := by
  rw [pObj, h]; simp only [if_true]; rw [hz]; simp only []; rw [h2]; simp only [if_true]; rw [hv]; simp only []; rw [h4]; simp only []; rw [if_neg hc, if_neg hc2]
theorem pArr_val0 (hv : pVal g d (skipW s) = none) : pArr (g + 1) d s = none := by rw [pArr, hv]
theorem pArr_end0 (hv : pVal g d (skipW s) = some (v, r3)) (h4 : skipW r3 = []) : pArr (g + 1) d s = none := by rw [pArr, hv]; simp only []; rw [h4]
theorem pArr_comma (hv : pVal g d (skipW s) = some (v, r3)) (h4 : skipW r3 = 44 :: r4) : pArr (g + 1) d s = (pArr g d r4).map fun p => (v :: p.1, p.2) := by rw [pArr, hv]; simp only []; rw [h4]; simp only [if_true]
theorem pArr_close (hv : pVal g d (skipW s) = some (v, r3)) (h4 : skipW r3 = 93 :: r4) : pArr (g + 1) d s = some ([v], r4) := by rw [pArr, hv]; simp only []; rw [h4]; simp only [if_true]; rw [if_neg (by decide)]
theorem pArr_bad (hv : pVal g d (skipW s) = some (v, r3)) (h4 : skipW r3 = c :: r4) (hc : c ≠ 44) (hc2 : c ≠ 93) : pArr (g + 1) d s = none := by rw [pArr, hv]; simp only []; rw [h4]; simp only []; rw [if_neg hc, if_neg hc2]
end
end Go.Proofs.YtbdmdajbdmdknaaDoor
