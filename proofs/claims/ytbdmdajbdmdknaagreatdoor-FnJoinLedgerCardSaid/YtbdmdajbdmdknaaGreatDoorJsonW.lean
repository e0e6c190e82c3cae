/- parseValue, at every text. -/
import Derived.Test.YtbdmdajbdmdknaaGreatDoorM4
namespace Go.Proofs.YtbdmdajbdmdknaaGreatDoor
open Go.RowKit
set_option linter.unusedVariables false
set_option linter.unusedSimpArgs false

set_option maxRecDepth 100000 in
set_option maxHeartbeats 4000000 in
theorem val_empty (w : World) (C co : Nat) (VB : Option Nat) (n d : Nat) (s : ByteArray) (h : s.size = 0) :
    Calls Tryz.prog 96 #[.pointer (some ⟨C, co, none⟩), .string s, .int .i64 d] w (PNo w C co VB n) := by
  go_enter Tryz.func96, Tryz.ntmps96
  go_wp2_with (go_at_call 69; go_must (refine (newErr_calls _ _).mono ?_; rintro e w1 ⟨T, a, rfl, hB⟩; have HB := hidden hB; clear hB))
  go_ret3
  exact PNo.of (AltC.of_below HB.out _)
set_option maxRecDepth 100000 in
set_option maxHeartbeats 4000000 in
theorem val_deep (w : World) (C co : Nat) (VB : Option Nat) (n d : Nat) (s : ByteArray) (h : 0 < s.size) (hd : d = 300) :
    Calls Tryz.prog 96 #[.pointer (some ⟨C, co, none⟩), .string s, .int .i64 d] w (PNo w C co VB n) := by
  have hne : ((s.size : Int) == 0) = false := beq_eq_false_iff_ne.2 (by omega)
  subst hd
  go_enter Tryz.func96, Tryz.ntmps96
  go_wp2_with (go_at_call 69; go_must (refine (newErr_calls _ _).mono ?_; rintro e w1 ⟨T, a, rfl, hB⟩; have HB := hidden hB; clear hB))
  go_ret3
  exact PNo.of (AltC.of_below HB.out _)
set_option maxRecDepth 100000 in
set_option maxHeartbeats 4000000 in
theorem val_obj (g d : Nat) (hV : ∀ q, q < g → CallsV q) (w : World) (C co : Nat) (VB : Option Nat) (n cap : Nat) (s : ByteArray) (hC : Cache w C co VB n cap) (hf : 2 * s.size < g + 1) (hN : n + s.size ≤ 1000000000) (hd : d < 300) (r : Bs) (hs : s.data.toList = 123 :: r) :
    Calls Tryz.prog 96 #[.pointer (some ⟨C, co, none⟩), .string s, .int .i64 d] w (PRes w C co VB n (n + s.size) (oRest g (d + 1) r)) := by
  obtain ⟨z1, z2, z3⟩ := cons_of hs
  have hp : 0 < s.size := by omega
  have hp' : 1 ≤ s.size := by omega
  have hne : ((s.size : Int) == 0) = false := beq_eq_false_iff_ne.2 (by omega)
  have hg := z2 hp
  have hdi : ¬ (300 : Int) < (d : Int) + 1 := by omega
  obtain ⟨s2, hs2⟩ : ∃ t : ByteArray, t.data.toList = r := ⟨bs r, rfl⟩
  have hz2 : s.size = s2.size + 1 := by (have : s2.size = r.length := by rw [size_toL, hs2]); omega
  rw [← hs2, bs_self] at z3
  have hcall := obj_calls g (d + 1) hV w C co VB n cap s2 hC (by omega) (by omega) (by omega)
  rw [hs2, show ((d + 1 : Nat) : Int) = (d : Int) + 1 by omega, show n + s2.size + 1 = n + s.size by omega] at hcall
  have HCALL := hidden hcall
  clear hs hC hV hs2 hz2 hcall z1 z2 hf
  cases hr : oRest g (d + 1) r with
  | none =>
    rw [hr] at HCALL
    clear hr
    go_enter Tryz.func96, Tryz.ntmps96
    go_wp2_with (first
      | (go_at_call 108; go_must (refine HCALL.out.mono ?_; rintro e w1 ⟨t, T, a, rfl, hA⟩; have HA := hidden hA; clear hA))
      | (go_at_call 69; go_must (refine (newErr_calls _ _).mono ?_; rintro e w2 ⟨T2, a2, rfl, hB⟩; have HB := hidden hB; clear hB)))
    go_ret3
    exact PNo.of (HA.out.more HB.out)
  | some vz =>
    obtain ⟨v, z⟩ := vz
    rw [hr] at HCALL
    clear hr
    go_enter Tryz.func96, Tryz.ntmps96
    go_wp2_with (go_at_call 108; go_must (refine HCALL.out.mono ?_; rintro e w1 ⟨VB2, n2, cap2, b2, o2, rfl, hC2, hG2, hL2, hA2, hR2⟩; dsimp only at hL2 ⊢; unfold ptr; have HR := hidden (show POk w C co VB n (n + s.size) v z (.returned (.tuple #[.pointer (some ⟨b2, o2, none⟩), .string (bs z), .nilIface])) w1 from ⟨VB2, n2, cap2, b2, o2, rfl, hC2, hG2, hL2, hA2, hR2⟩); clear hC2 hG2 hL2 hA2 hR2))
    go_ret3
    exact HR.out
set_option maxRecDepth 100000 in
set_option maxHeartbeats 4000000 in
theorem val_arr (g d : Nat) (hV : ∀ q, q < g → CallsV q) (w : World) (C co : Nat) (VB : Option Nat) (n cap : Nat) (s : ByteArray) (hC : Cache w C co VB n cap) (hf : 2 * s.size < g + 1) (hN : n + s.size ≤ 1000000000) (hd : d < 300) (r : Bs) (hs : s.data.toList = 91 :: r) :
    Calls Tryz.prog 96 #[.pointer (some ⟨C, co, none⟩), .string s, .int .i64 d] w (PRes w C co VB n (n + s.size) (aRest g (d + 1) r)) := by
  obtain ⟨z1, z2, z3⟩ := cons_of hs
  have hp : 0 < s.size := by omega
  have hp' : 1 ≤ s.size := by omega
  have hne : ((s.size : Int) == 0) = false := beq_eq_false_iff_ne.2 (by omega)
  have hg := z2 hp
  have hdi : ¬ (300 : Int) < (d : Int) + 1 := by omega
  obtain ⟨s2, hs2⟩ : ∃ t : ByteArray, t.data.toList = r := ⟨bs r, rfl⟩
  have hz2 : s.size = s2.size + 1 := by (have : s2.size = r.length := by rw [size_toL, hs2]); omega
  rw [← hs2, bs_self] at z3
  have hcall := arr_calls g (d + 1) hV w C co VB n cap s2 hC (by omega) (by omega) (by omega)
  rw [hs2, show ((d + 1 : Nat) : Int) = (d : Int) + 1 by omega, show n + s2.size + 1 = n + s.size by omega] at hcall
  have HCALL := hidden hcall
  clear hs hC hV hs2 hz2 hcall z1 z2 hf
  cases hr : aRest g (d + 1) r with
  | none =>
    rw [hr] at HCALL
    clear hr
    go_enter Tryz.func96, Tryz.ntmps96
    go_wp2_with (first
      | (go_at_call 109; go_must (refine HCALL.out.mono ?_; rintro e w1 ⟨t, T, a, rfl, hA⟩; have HA := hidden hA; clear hA))
      | (go_at_call 69; go_must (refine (newErr_calls _ _).mono ?_; rintro e w2 ⟨T2, a2, rfl, hB⟩; have HB := hidden hB; clear hB)))
    go_ret3
    exact PNo.of (HA.out.more HB.out)
  | some vz =>
    obtain ⟨v, z⟩ := vz
    rw [hr] at HCALL
    clear hr
    go_enter Tryz.func96, Tryz.ntmps96
    go_wp2_with (go_at_call 109; go_must (refine HCALL.out.mono ?_; rintro e w1 ⟨VB2, n2, cap2, b2, o2, rfl, hC2, hG2, hL2, hA2, hR2⟩; dsimp only at hL2 ⊢; unfold ptr; have HR := hidden (show POk w C co VB n (n + s.size) v z (.returned (.tuple #[.pointer (some ⟨b2, o2, none⟩), .string (bs z), .nilIface])) w1 from ⟨VB2, n2, cap2, b2, o2, rfl, hC2, hG2, hL2, hA2, hR2⟩); clear hC2 hG2 hL2 hA2 hR2))
    go_ret3
    exact HR.out
set_option maxRecDepth 100000 in
set_option maxHeartbeats 4000000 in
theorem val_str (d : Nat) (w : World) (C co : Nat) (VB : Option Nat) (n cap : Nat) (s : ByteArray) (hC : Cache w C co VB n cap) (hN : n + s.size ≤ 1000000000) (hd : d < 300) (r : Bs) (hs : s.data.toList = 34 :: r) :
    Calls Tryz.prog 96 #[.pointer (some ⟨C, co, none⟩), .string s, .int .i64 d] w (PRes w C co VB n (n + s.size) ((rawS false r).map fun p => (.str p.1, p.2))) := by
  obtain ⟨z1, z2, z3⟩ := cons_of hs
  have hp : 0 < s.size := by omega
  have hp' : 1 ≤ s.size := by omega
  have hne : ((s.size : Int) == 0) = false := beq_eq_false_iff_ne.2 (by omega)
  have hg := z2 hp
  have hdi : ¬ (300 : Int) < (d : Int) + 1 := by omega
  obtain ⟨s2, hs2⟩ : ∃ t : ByteArray, t.data.toList = r := ⟨bs r, rfl⟩
  have hz2 : s.size = s2.size + 1 := by (have : s2.size = r.length := by rw [size_toL, hs2]); omega
  rw [← hs2, bs_self] at z3
  have hcall := fun (x : Option (Bs × Bs)) (hx : x = rawS false r) => rawStr_calls s2 w (by omega) x (by rw [hx, hs2])
  have HCALL := hidden hcall
  have HC := hidden hC
  have HZ := hidden hz2
  have HS2 := hidden hs2
  clear hs hC hs2 hz2 hcall z1 z2
  cases hr : rawS false r with
  | none =>
    have HK := hidden (HCALL.out none hr.symm)
    clear hr
    go_enter Tryz.func96, Tryz.ntmps96
    go_wp2_with (first
      | (go_at_call 110; go_must (refine HK.out.mono ?_; rintro e w1 ⟨t, u, T, a, rfl, hA⟩; have HA := hidden hA; clear hA))
      | (go_at_call 69; go_must (refine (newErr_calls _ _).mono ?_; rintro e w2 ⟨T2, a2, rfl, hB⟩; have HB := hidden hB; clear hB)))
    go_ret3
    exact PNo.of ((AltC.of_below HA.out _).more HB.out)
  | some vz =>
    obtain ⟨x, y⟩ := vz
    have HK := hidden (HCALL.out (some (x, y)) hr.symm)
    have hlen := rawS_len _ _ _ _ hr
    have HLEN := hidden hlen
    clear hr hlen
    go_enter Tryz.func96, Tryz.ntmps96
    go_upto_region 21 with (first
      | (go_at_call 110; go_must (refine HK.out.mono ?_; rintro e w1 ⟨rfl, hA⟩; have HA := hidden hA; clear hA; dsimp only))
      | (go_at_call 111; go_must (refine (getValue_calls _ C co n cap VB (HC.out.alt (AltC.of_below HA.out (fun _ _ => False)) (fun e => e) (fun _ _ _ e => e)) (by omega)).mono ?_; rintro e w2 ⟨vb, cap1, rfl, hG⟩; have HG := hidden hG; clear hG)))
    have z4 := HG.out.zero.2.2.2.2
    have c4 := z4.1
    have f4 := z4.2
    have z3' := (HG.out.zero.2.2.2.1).alt (AltC.set w2 vb (5 * n + 4) (.int .i64 7)) (fun e => by omega)
    have c3 := z3'.1
    have f3 := z3'.2
    have hlf := HG.out.leaf HA.out 7 (bs x)
    have HLF := hidden hlf
    clear z4 z3' hlf
    go_wp2
    go_ret3
    exact leaf_ok (m := 0) HLF.out.1 HLF.out.2.1 HLF.out.2.2 rfl (by have h1 := HLEN.out; have h2 := HZ.out; (have h3 : s2.size = r.length := by rw [size_toL, HS2.out]); omega) _ (.inl ⟨rfl, rfl⟩)
set_option maxRecDepth 100000 in
set_option maxHeartbeats 4000000 in
theorem val_num (d : Nat) (w : World) (C co : Nat) (VB : Option Nat) (n cap : Nat) (s : ByteArray) (hC : Cache w C co VB n cap) (hN : n + s.size ≤ 1000000000) (hd : d < 300) (c : UInt8) (r : Bs) (hs : s.data.toList = c :: r) (h1 : c ≠ 123) (h2 : c ≠ 91) (h3 : c ≠ 34) (h4 : c ≠ 116) (h5 : c ≠ 102) (h6 : c ≠ 110) :
    Calls Tryz.prog 96 #[.pointer (some ⟨C, co, none⟩), .string s, .int .i64 d] w (PRes w C co VB n (n + s.size) ((rawN (c :: r)).map fun p => (.num p.1, p.2))) := by
  obtain ⟨z1, z2, z3⟩ := cons_of hs
  have hp : 0 < s.size := by omega
  have hp' : 1 ≤ s.size := by omega
  have hne : ((s.size : Int) == 0) = false := beq_eq_false_iff_ne.2 (by omega)
  have hg := z2 hp
  have hdi : ¬ (300 : Int) < (d : Int) + 1 := by omega
  obtain ⟨a, ha⟩ : ∃ a : Nat, c.toNat = a := ⟨_, rfl⟩
  have b1 := u8_ne (k := 123) (by omega) h1
  have b2 := u8_ne (k := 91) (by omega) h2
  have b3 := u8_ne (k := 34) (by omega) h3
  have b4 := u8_ne (k := 116) (by omega) h4
  have b5 := u8_ne (k := 102) (by omega) h5
  have b6 := u8_ne (k := 110) (by omega) h6
  rw [ha] at b1 b2 b3 b4 b5 b6
  obtain ⟨e1, f1⟩ := b1
  obtain ⟨e2, f2⟩ := b2
  obtain ⟨e3, f3⟩ := b3
  obtain ⟨e4, f4⟩ := b4
  obtain ⟨e5, f5⟩ := b5
  obtain ⟨e6, f6⟩ := b6
  have hcall := fun (x : Option (Bs × Bs)) (hx : x = rawN (c :: r)) => rawNum_calls s w (by omega) x (by rw [hx, hs])
  have HCALL := hidden hcall
  have HC := hidden hC
  have HS := hidden hs
  clear hs hC hcall z1 z2 z3 h1 h2 h3 h4 h5 h6
  cases hr : rawN (c :: r) with
  | none =>
    have HK := hidden (HCALL.out none hr.symm)
    clear hr
    go_enter Tryz.func96, Tryz.ntmps96
    go_wp2_with (first
      | (go_at_call 116; go_must (refine HK.out.mono ?_; rintro e w1 ⟨t, u, T, a, rfl, hA⟩; have HA := hidden hA; clear hA))
      | (go_at_call 69; go_must (refine (newErr_calls _ _).mono ?_; rintro e w2 ⟨T2, a2, rfl, hB⟩; have HB := hidden hB; clear hB)))
    go_ret3
    exact PNo.of ((AltC.of_below HA.out _).more HB.out)
  | some vz =>
    obtain ⟨x, y⟩ := vz
    have HK := hidden (HCALL.out (some (x, y)) hr.symm)
    have hlen := rawN_len hr
    have HLEN := hidden hlen
    clear hr hlen
    go_enter Tryz.func96, Tryz.ntmps96
    go_upto_region 45 with (first
      | (go_at_call 116; go_must (refine HK.out.mono ?_; rintro e w1 ⟨rfl, hA⟩; have HA := hidden hA; clear hA; dsimp only))
      | (go_at_call 111; go_must (refine (getValue_calls _ C co n cap VB (HC.out.alt (AltC.of_below HA.out (fun _ _ => False)) (fun e => e) (fun _ _ _ e => e)) (by omega)).mono ?_; rintro e w2 ⟨vb, cap1, rfl, hG⟩; have HG := hidden hG; clear hG)))
    have z4 := HG.out.zero.2.2.2.2
    have c4 := z4.1
    have f4 := z4.2
    have z3' := (HG.out.zero.2.2.2.1).alt (AltC.set w2 vb (5 * n + 4) (.int .i64 4)) (fun e => by omega)
    have c3 := z3'.1
    have f3 := z3'.2
    have hlf := HG.out.leaf HA.out 4 (bs x)
    have HLF := hidden hlf
    clear z4 z3' hlf
    go_wp2
    go_ret3
    exact leaf_ok (m := 0) HLF.out.1 HLF.out.2.1 HLF.out.2.2 rfl (by have h1 := HLEN.out; (have h3 : s.size = r.length + 1 := by rw [size_toL, HS.out]; rfl); omega) _ (.inr ⟨rfl, rfl⟩)
end Go.Proofs.YtbdmdajbdmdknaaGreatDoor
