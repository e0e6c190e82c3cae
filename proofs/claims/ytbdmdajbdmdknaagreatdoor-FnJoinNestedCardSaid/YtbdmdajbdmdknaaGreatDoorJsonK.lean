/- parseArray, if parseValue is as it should be. -/
import Derived.Test.YtbdmdajbdmdknaaGreatDoorJsonI
namespace Go.Proofs.YtbdmdajbdmdknaaGreatDoor
open Go.RowKit
set_option linter.unusedVariables false
set_option linter.unusedSimpArgs false

theorem u8_ne' {c : UInt8} {k : Nat} (hk : k < 256) (h : c ≠ UInt8.ofNat k) : (((c.toNat : Nat) : Int) == (k : Int)) = false ∧ (((c.toNat : Nat) : Int) != (k : Int)) = true :=
  ne_both (fun e => h ((u8_eq rfl hk).2 (by omega)))
theorem info_vptr : (Tryz.prog.info? 95).map (fun i => (i.zero, i.size, i.bytes)) = some (some (.pointer none), 1, 8) := by kernel_rfl
theorem run_sl0 (W : World) : (Instr.slice 128 (.slice none 0 0) none (some (.int .i64 0)) none).run Tryz.prog W = .ok (.slice none 0 0) W := run_upto_k (sz := 1) Tryz.underlying128 (by kernel_rfl) none 0 0 0 0 rfl (Nat.le_refl _)
theorem GotV.arrStart {w w1 : World} {C co n vb cap : Nat} {VB : Option Nat} (g : GotV w C co VB n w1 vb cap) :
    GotS w C co VB n ((w1.setCell ⟨vb, 5 * n + 4, none⟩ (.int .i64 2)).setCell ⟨vb, 5 * n + 2, none⟩ (.slice none 0 0)) vb cap ∧ Slot ((w1.setCell ⟨vb, 5 * n + 4, none⟩ (.int .i64 2)).setCell ⟨vb, 5 * n + 2, none⟩ (.slice none 0 0)) vb (5 * n + 2) (.slice none 0 0) ∧ Slot ((w1.setCell ⟨vb, 5 * n + 4, none⟩ (.int .i64 2)).setCell ⟨vb, 5 * n + 2, none⟩ (.slice none 0 0)) vb (5 * n + 4) (.int .i64 2) := by
  obtain ⟨z0, z1, z2, z3, z4⟩ := g.zero
  have a1 := AltC.set w1 vb (5 * n + 4) (.int .i64 2)
  have a2 := AltC.set (w1.setCell ⟨vb, 5 * n + 4, none⟩ (.int .i64 2)) vb (5 * n + 2) (.slice none 0 0)
  have t0 := (z0.alt a1 (fun e => by omega)).alt a2 (fun e => by omega)
  have t1 := (z1.alt a1 (fun e => by omega)).alt a2 (fun e => by omega)
  have t2 := (z2.alt a1 (fun e => by omega)).set (.slice none 0 0)
  have t3 := (z3.alt a1 (fun e => by omega)).alt a2 (fun e => by omega)
  have t4 := (z4.set (.int .i64 2)).alt a2 (fun e => by omega)
  refine ⟨(g.got (Below.refl _ _)).sets ((a1.mono (fun x y _ e => ⟨e.1, by omega, by omega⟩)).trans a2 (fun x y _ e => ⟨e.1, by omega, by omega⟩)) (fun k hk => ?_), t2, t4⟩
  match k, hk with
  | 0, _ => exact ⟨_, t0⟩
  | 1, _ => exact ⟨_, t1⟩
  | 2, _ => exact ⟨_, t2⟩
  | 3, _ => exact ⟨_, t3⟩
  | 4, _ => exact ⟨_, t4⟩
set_option maxRecDepth 100000 in
set_option maxHeartbeats 4000000 in
theorem arr_none (f d : Nat) (w : World) (C co : Nat) (VB : Option Nat) (n cap : Nat) (s : ByteArray) (hC : Cache w C co VB n cap) (hN : n + s.size ≤ 1000000000) (h : skipW s.data.toList = []) :
    Calls Tryz.prog 109 #[.pointer (some ⟨C, co, none⟩), .string s, .int .i64 d] w (PNo w C co VB n) := by
  have K1 := hidden (skip_bs s _ rfl w (by omega) ⟨#[]⟩ (by rw [h]))
  clear h hC
  go_enter Tryz.func109, Tryz.ntmps109
  go_wp2_with (first
    | (go_at_call 94; go_must (refine K1.out.mono ?_; rintro e w1 ⟨rfl, rfl⟩))
    | (go_at_call 69; go_must (refine (newErr_calls _ _).mono ?_; rintro e w1 ⟨T, a, rfl, hB⟩; have HB := hidden hB; clear hB)))
  go_ret3
  exact PNo.of (AltC.of_below HB.out _)
set_option maxRecDepth 100000 in
set_option maxHeartbeats 4000000 in
theorem arr_empty (f d : Nat) (w : World) (C co : Nat) (VB : Option Nat) (n cap : Nat) (s : ByteArray) (hC : Cache w C co VB n cap) (hN : n + s.size ≤ 1000000000) (r2 : Bs) (h : skipW s.data.toList = 93 :: r2) :
    Calls Tryz.prog 109 #[.pointer (some ⟨C, co, none⟩), .string s, .int .i64 d] w (POk w C co VB n (n + s.size) (.arr []) r2) := by
  obtain ⟨s1, hs1⟩ : ∃ s1 : ByteArray, s1.data.toList = skipW s.data.toList := ⟨bs _, rfl⟩
  have K1 := hidden (skip_bs s _ rfl w (by omega) s1 hs1)
  rw [h] at hs1
  obtain ⟨z1, z2, z3⟩ := cons_of hs1
  have hle := skipW_len s.data.toList
  rw [h, len_toL] at hle
  simp only [List.length_cons] at hle
  have hp1 : 0 < s1.size := by omega
  have hp1' : 1 ≤ s1.size := by omega
  have hne : ((s1.size : Int) == 0) = false := beq_eq_false_iff_ne.2 (by omega)
  have hg0 := z2 hp1
  have HZ3 := hidden z3
  have HLE := hidden hle
  have HC := hidden hC
  have hsl0 := run_sl0
  clear h hC hs1 z1 z2 z3 hle
  go_enter Tryz.func109, Tryz.ntmps109
  go_upto_region 5 with (go_at_call 94; go_must (refine K1.out.mono ?_; rintro e w1 ⟨rfl, rfl⟩))
  have HGV := hidden (getValue_calls w C co n cap VB HC.out (by omega))
  go_upto_region 6 with (go_at_call 111; go_must (refine HGV.out.mono ?_; rintro e w1 ⟨vb, cap1, rfl, hG⟩; have HG := hidden hG; clear hG))
  have z4 := HG.out.zero.2.2.2.2
  have c4 := z4.1
  have f4 := z4.2
  have z2 := (HG.out.zero.2.2.1).alt (AltC.set w1 vb (5 * n + 4) (.int .i64 2)) (fun e => by omega)
  have c2 := z2.1
  have f2 := z2.2
  have hst := HG.out.arrStart
  have HS := hidden hst
  have HAL := hidden (AL.start HS.out.1 HS.out.2.1 HS.out.2.2 (fun _ => (0, 0)) (fun _ _ _ => True))
  clear z4 z2 HGV hst
  go_wp2
  clear c4 f4 c2 f2
  refine wpAbs (fun W => Hid (GotS w C co VB n W vb cap1) ∧ Hid (AL w C co VB n W (some vb) (n + 1) vb (5 * n) (.slice none 0 0) [] (fun _ => (0, 0)) (fun _ _ _ => True))) ⟨hidden HS.out.1, HAL⟩ ?_
  rintro W2 ⟨HS2, HAL2⟩
  go_quiet (fail)
  go_wp2
  go_ret3
  exact ⟨some vb, n + 1, cap1, vb, 5 * n, ret_p (p := (vb, 5 * n)) (q := (vb, 5 * n)) rfl HZ3.out, HS2.out.cache.drewN _, HAL2.out.grew, by have := HLE.out; omega, HAL2.out.alt.more (below_drewN0 (Below.refl _ _) _), (HAL2.out.whole.alt (AltC.drewN _ _ (fun _ _ => False)) (fun _ _ _ e => e)).mono (fun x y r => RegN.later (Grew.refl _ _ _) (Nat.le_refl _) r)⟩
/-- What holds ahead of each element. -/
structure LoopA (w : World) (C co : Nat) (VB : Option Nat) (n N : Nat) (R : Option (List JV × Bs)) (f d bo oo : Nat) (wr : World) (sk : ByteArray) : Prop where
  ex : ∃ fk VBr nr capr va L ad G, 2 * sk.size + 2 ≤ fk ∧ fk ≤ f ∧ Cache wr C co VBr nr capr ∧ AL w C co VB n wr VBr nr bo oo va L ad G ∧ nr + sk.size ≤ N ∧ L.length + sk.size ≤ N ∧ R = (pArr fk d sk.data.toList).map (fun p => (L ++ p.1, p.2))
set_option maxRecDepth 100000 in
set_option maxHeartbeats 8000000 in
theorem arr_full (f d : Nat) (hV : ∀ g, g < f → CallsV g) (w : World) (C co : Nat) (VB : Option Nat) (n cap : Nat) (s : ByteArray) (hC : Cache w C co VB n cap) (hN : n + s.size + 1 ≤ 1000000000) (hf : 2 * s.size + 2 ≤ f) (hd : d ≤ 300) (c2 : UInt8) (r2 : Bs) (h : skipW s.data.toList = c2 :: r2) (h93 : c2 ≠ 93) (r : Option (JV × Bs)) (hr : r = (pArr f d (c2 :: r2)).map fun p => (.arr p.1, p.2)) :
    Calls Tryz.prog 109 #[.pointer (some ⟨C, co, none⟩), .string s, .int .i64 d] w (PRes w C co VB n (n + s.size + 1) r) := by
  obtain ⟨s1, hs1⟩ : ∃ s1 : ByteArray, s1.data.toList = skipW s.data.toList := ⟨bs _, rfl⟩
  have K1 := hidden (skip_bs s _ rfl w (by omega) s1 hs1)
  rw [h] at hs1
  obtain ⟨z1, z2, z3⟩ := cons_of hs1
  have hle := skipW_len s.data.toList
  rw [h, len_toL] at hle
  simp only [List.length_cons] at hle
  have hp1 : 0 < s1.size := by omega
  have hp1' : 1 ≤ s1.size := by omega
  have hne : ((s1.size : Int) == 0) = false := beq_eq_false_iff_ne.2 (by omega)
  have hg0 := z2 hp1
  obtain ⟨a, ha⟩ : ∃ a : Nat, c2.toNat = a := ⟨_, rfl⟩
  have hb := u8_ne' (k := 93) (by omega) h93
  rw [ha] at hb
  obtain ⟨e1, f1⟩ := hb
  have HLE := hidden (show s1.size ≤ s.size by omega)
  have HS1 := hidden hs1
  have HC := hidden hC
  have Hr := hidden hr
  have HV := hidden hV
  have HFF := hidden hf
  obtain ⟨N, hNd⟩ : ∃ N, n + s.size + 1 = N := ⟨_, rfl⟩
  have HND := hidden hNd
  have hnN : n ≤ N := by omega
  rw [hNd] at hN ⊢
  have hsl0 := run_sl0
  clear h hC hs1 z1 z2 z3 hle h93 hr hV hNd hf
  go_enter Tryz.func109, Tryz.ntmps109
  go_upto_region 9 with (go_at_call 94; go_must (refine K1.out.mono ?_; rintro e w1 ⟨rfl, rfl⟩))
  have HGV := hidden (getValue_calls w C co n cap VB HC.out (by omega))
  go_upto_region 10 with (go_at_call 111; go_must (refine HGV.out.mono ?_; rintro e w1 ⟨vb, cap1, rfl, hG⟩; have HG := hidden hG; clear hG))
  have z4 := HG.out.zero.2.2.2.2
  have c4 := z4.1
  have f4 := z4.2
  have z2 := (HG.out.zero.2.2.1).alt (AltC.set w1 vb (5 * n + 4) (.int .i64 2)) (fun e => by omega)
  have c2' := z2.1
  have f2 := z2.2
  have hst := HG.out.arrStart
  have HS := hidden hst
  have HAL := hidden (AL.start HS.out.1 HS.out.2.1 HS.out.2.2 (fun _ => (0, 0)) (fun _ _ _ => True))
  clear z4 z2 HGV hst
  go_upto_block 0 with (fail)
  clear c4 f4 c2' f2
  refine wpAbs (fun W => Hid (GotS w C co VB n W vb cap1) ∧ Hid (AL w C co VB n W (some vb) (n + 1) vb (5 * n) (.slice none 0 0) [] (fun _ => (0, 0)) (fun _ _ _ => True))) ⟨hidden HS.out.1, HAL⟩ ?_
  rintro W2 ⟨HS2, HAL2⟩
  have HLP : Hid (LoopA w C co VB n N (pArr f d (c2 :: r2)) f d vb (5 * n) W2 s1) := hidden ⟨f, some vb, n + 1, cap1, _, [], _, _, by have := HLE.out; have := HFF.out; omega, Nat.le_refl _, HS2.out.cache, HAL2.out, by have := HLE.out; have := HND.out; omega, by have := HLE.out; have := HND.out; simp; omega, by rw [HS1.out]; cases pArr f d (c2 :: r2) <;> simp⟩
  clear HG HS HAL HS2 HAL2 HLE HS1 hg0 e1 f1 ha hp1 hp1' hne K1 HND
  obtain ⟨R, hRd⟩ : ∃ R, pArr f d (c2 :: r2) = R := ⟨_, rfl⟩
  rw [hRd] at HLP Hr
  obtain ⟨oo, hoo⟩ : ∃ oo, 5 * n = oo := ⟨_, rfl⟩
  rw [hoo] at HLP ⊢
  clear hRd hoo hsl0
  go_wp2
  go_loopw [1] (fun u wr => ∃ sk : ByteArray, u = .string sk ∧ sk.size ≤ N ∧ Hid (LoopA w C co VB n N R f d vb oo wr sk)) (fun u _ => match u with | .string sk => sk.size | _ => 0)
  case atStart => exact ⟨s1, rfl, by obtain ⟨_, _, _, _, _, _, _, _, _, _, _, _, h, _⟩ := HLP.out.ex; omega, HLP⟩
  case round =>
    obtain ⟨sk, rfl, hskN, HL⟩ := hrel
    obtain ⟨fk, VBr, nr, capr, va, L, ad, G, hfk, hfkf, hCr, hAL, hn1, hn2, hR⟩ := HL.out.ex
    obtain ⟨g, rfl⟩ : ∃ g, fk = g + 1 := ⟨fk - 1, by omega⟩
    have HCr := hidden hCr
    have HALr := hidden hAL
    have HR := hidden hR
    have hVg := HV.out g (by omega)
    have HVG := hidden hVg
    clear hCr hAL hR HL HLP hVg
    obtain ⟨sa, hsa⟩ : ∃ t : ByteArray, t.data.toList = skipW sk.data.toList := ⟨bs _, rfl⟩
    have Ksa := hidden (skip_bs sk _ rfl wr (by omega) sa hsa)
    have hlesa : sa.size ≤ sk.size := by rw [size_toL sa, hsa, size_toL sk, show sk.data.toList = sk.data.toList from rfl]; exact skipW_len _
    go_upto_region 15 with (go_at_call 94; go_must (refine Ksa.out.mono ?_; rintro e wq ⟨rfl, rfl⟩))
    have HPV := hidden (HVG.out wr C co VBr nr capr sa d HCr.out (by omega) (by omega) hd)
    rw [hsa] at HPV
    clear hsa
    cases hv : pVal g d (skipW sk.data.toList) with
    | none =>
      have hrn : r = none := by rw [Hr.out, HR.out, pArr_val0 hv]; rfl
      subst hrn
      rw [hv] at HPV
      clear hv
      go_upto_region 16 with (go_at_call 96; go_must (refine HPV.out.mono ?_; rintro e w6 ⟨t1, T1, a1, rfl, hA⟩; dsimp only; have HAL6 := hidden (HALr.out.parsed hA (Grew.refl _ _ _)); clear hA))
      go_wp2_with (go_at_call 69; go_must (refine (newErr_calls _ _).mono ?_; rintro e w9 ⟨T, a9, rfl, hB⟩; have HB9 := hidden hB; clear hB))
      go_ret3
      exact PNo.of (HAL6.out.alt.more HB9.out)
    | some vz =>
      obtain ⟨v, z⟩ := vz
      rw [hv] at HPV
      have HVV := hidden hv
      obtain ⟨sz, hsz⟩ : ∃ t : ByteArray, t.data.toList = z := ⟨bs z, rfl⟩
      have hbsz : bs z = sz := by rw [← hsz, bs_self]
      have hzl : z.length = sz.size := by rw [size_toL, hsz]
      clear hv
      go_upto_region 18 with (go_at_call 96; go_must (refine HPV.out.mono ?_; rintro e w4 ⟨VB2, n2, cap2, b2, o2, rfl, hC6, hG6, hL6, hA6, hR6⟩; dsimp only at hL6 ⊢; rw [hbsz]; unfold ptr; have HC6 := hidden hC6; have HG6 := hidden hG6; have HA6 := hidden hA6; have HR6 := hidden hR6; have hle6 := hG6.le; have hL6' : n2 + sz.size ≤ nr + sa.size := (by rw [← hzl]; exact hL6); clear hA6 hC6 hG6 hR6 hL6))
      have hAL4 := HALr.out.parsed HA6.out HG6.out
      obtain ⟨vn, w6, hrun, hO6, hg6, hv1⟩ := run_app (P := Tryz.prog) (W := w4.alloc (.cells #[ptr (b2, o2)] 95)) (t := 128) (ty := 128) Tryz.underlying128 info_vptr rfl (by decide) (hAL4.own.alloc _) (A := some ⟨w4.heap.size, 0, none⟩) (m := 1) (c := 1) (ys := [ptr (b2, o2)]) (Rd.new w4 _ _ _ rfl) rfl (by intro u hu; simp only [List.mem_singleton] at hu; subst hu; rfl) (by have := hAL4.alt.size; simp; omega) (by rw [ptrs_len]; simp; omega)
      obtain ⟨An, kn, hvn, _, _, _⟩ := hO6.read
      rw [List.length_append, ptrs_len, List.length_singleton] at hvn
      subst hvn
      have hst := HALr.out.app HA6.out HG6.out HR6.out HC6.out hO6 hg6 hv1
      have HST := hidden hst
      have c2'' := hAL4.fld.1
      have s6 := hst.2.2
      have c6 := s6.1
      have f6 := s6.2
      unfold ptr at hrun
      have HRUN := hidden hrun
      clear hst s6 hrun hO6 hg6 hv1 hAL4 HPV hbsz hzl
      go_upto_region 19 with ((with_reducible refine at_dst 73 ?_); go_must (refine walk_runapp rfl (.tmp 70) (.tmp 72) rfl rfl rfl HRUN.out ?_))
      clear c2'' c6 f6
      refine wpAbs (fun W => Hid (AL w C co VB n W VB2 n2 vb oo (.slice An (L.length + 1) kn) (L ++ [v]) (fun i => if i = L.length then (b2, o2) else ad i) (fun i => if i = L.length then RegN wr w4 C co VBr nr VB2 n2 else G i)) ∧ Hid (Cache W C co VB2 n2 cap2)) ⟨hidden HST.out.1, hidden HST.out.2.1⟩ ?_
      rintro W7 ⟨HO7, HC7⟩
      clear HST HRUN HA6 HR6 HG6 HC6
      obtain ⟨sg, hsg⟩ : ∃ t : ByteArray, t.data.toList = skipW z := ⟨bs _, rfl⟩
      have Ksg := hidden (skip_bs sz _ hsz W7 (by omega) sg hsg)
      have hlesg : sg.size ≤ sz.size := by rw [size_toL sg, hsg, size_toL sz, show sz.data.toList = z from hsz]; exact skipW_len _
      go_upto_region 20 with (go_at_call 94; go_must (refine Ksg.out.mono ?_; rintro e wq ⟨rfl, rfl⟩))
      clear hsz
      cases hqsg : skipW z with
      | nil =>
        have hrn : r = none := by rw [Hr.out, HR.out, pArr_end0 HVV.out hqsg]; rfl
        subst hrn
        rw [hqsg] at hsg
        have hzsg := emp_of hsg
        clear hsg hlesg hqsg
        go_wp2_with (go_at_call 69; go_must (refine (newErr_calls _ _).mono ?_; rintro e w9 ⟨T, a9, rfl, hB⟩; have HB9 := hidden hB; clear hB))
        go_ret3
        exact PNo.of (HO7.out.alt.more HB9.out)
      | cons c5 r5 =>
        rw [hqsg] at hsg
        obtain ⟨sg1, sg2, sg3⟩ := cons_of hsg
        have hpsg : 0 < sg.size := by omega
        have hpsg' : 1 ≤ sg.size := by omega
        have hrsg : r5.length + 1 ≤ sg.size := by omega
        have hnsg : ((sg.size : Int) == 0) = false := beq_eq_false_iff_ne.2 (by omega)
        have hgsg := sg2 hpsg
        clear sg1 sg2 hsg
        obtain ⟨sn, hsn⟩ : ∃ t : ByteArray, t.data.toList = r5 := ⟨bs r5, rfl⟩
        have hzn : sn.size + 1 ≤ sg.size := by (have : sn.size = r5.length := by rw [size_toL, hsn]); omega
        rw [← hsn, bs_self] at sg3
        by_cases hc5 : c5 = 44
        · subst hc5
          have HRN : Hid (R = (pArr g d sn.data.toList).map (fun p => ((L ++ [v]) ++ p.1, p.2))) := hidden (by rw [HR.out, pArr_comma HVV.out hqsg, hsn]; cases pArr g d r5 <;> simp)
          have HLN : Hid ((L ++ [v]).length + sn.size ≤ N) := hidden (by rw [List.length_append]; simp; have := hlesa; omega)
          clear hqsg hsn
          go_wp2_with (fail)
          go_roundw
          case rel => exact ⟨sn, rfl, by omega, hidden ⟨g, VB2, n2, cap2, _, _, _, _, by omega, by omega, HC7.out, HO7.out, by omega, HLN.out, HRN.out⟩⟩
          case measure => simp; omega
        · obtain ⟨a5, ha5⟩ : ∃ a : Nat, c5.toNat = a := ⟨_, rfl⟩
          have hb44 := u8_ne' (k := 44) (by omega) hc5
          rw [ha5] at hb44
          obtain ⟨e44, f44⟩ := hb44
          by_cases hc6 : c5 = 93
          · subst hc6
            have hrn : r = some (.arr (L ++ [v]), r5) := by rw [Hr.out, HR.out, pArr_close HVV.out hqsg]; rfl
            subst hrn
            have HSN := hidden hsn
            have hr5 : n2 + r5.length ≤ N := by (have : sn.size = r5.length := by rw [size_toL, hsn]); omega
            clear hqsg hsn hc5 ha5 e44 f44
            go_wp2_with (fail)
            go_ret3
            exact ⟨VB2, n2, cap2, vb, oo, ret_p (p := (vb, oo)) (q := (vb, oo)) rfl (by rw [← HSN.out, bs_self]), HC7.out, HO7.out.grew, hr5, HO7.out.alt, HO7.out.whole⟩
          · have hb93 := u8_ne' (k := 93) (by omega) hc6
            rw [ha5] at hb93
            obtain ⟨e93, f93⟩ := hb93
            have hrn : r = none := by rw [Hr.out, HR.out, pArr_bad HVV.out hqsg hc5 hc6]; rfl
            subst hrn
            clear hqsg hsn hc5 hc6
            go_wp2_with (go_at_call 69; go_must (refine (newErr_calls _ _).mono ?_; rintro e w9 ⟨T, a9, rfl, hB⟩; have HB9 := hidden hB; clear hB))
            go_ret3
            exact PNo.of (HO7.out.alt.more HB9.out)
end Go.Proofs.YtbdmdajbdmdknaaGreatDoor
