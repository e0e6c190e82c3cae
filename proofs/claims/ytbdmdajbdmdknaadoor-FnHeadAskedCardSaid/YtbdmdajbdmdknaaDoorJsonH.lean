/- An object is parsed, if its values are. -/
import Derived.Test.YtbdmdajbdmdknaaDoorM5
namespace Go.Proofs.YtbdmdajbdmdknaaDoor
open Go.RowKit
set_option linter.unusedVariables false
set_option linter.unusedSimpArgs false

/-- What holds ahead of each member. -/
structure LoopO (w : World) (C co : Nat) (VB : Option Nat) (n N : Nat) (R : Option (List (Bs × JV) × Bs)) (f d bo oo : Nat) (wr : World) (sk : ByteArray) : Prop where
  ex : ∃ fk VBr nr capr K kcap L ad G, 2 * sk.size < fk ∧ fk ≤ f ∧ Cache wr C co VBr nr capr ∧ OL w C co VB n wr VBr nr bo oo K kcap L ad G ∧ nr + sk.size ≤ N ∧ L.length + sk.size ≤ N ∧ R = (pObj fk d sk.data.toList).map (fun p => (L ++ p.1, p.2))
theorem u8_ne {c : UInt8} {k : Nat} (hk : k < 256) (h : c ≠ UInt8.ofNat k) : (((c.toNat : Nat) : Int) == (k : Int)) = false ∧ (((c.toNat : Nat) : Int) != (k : Int)) = true :=
  ne_both (fun e => h ((u8_eq rfl hk).2 (by omega)))
theorem OM.setKey {w wr : World} {C co n nr bo oo k m kcap : Nat} {VB VBr : Option Nat} {L : List (Bs × JV)} {ad : Nat → Nat × Nat} {G : Nat → Nat → Nat → Prop} (h : OM w C co VB n wr VBr nr bo oo k m kcap L ad G) (j : Nat) (hj : j < 2) (v : Value) : OM w C co VB n (wr.setCell ⟨k, 2 * m + j, none⟩ v) VBr nr bo oo k m kcap L ad G ∧ Slot (wr.setCell ⟨k, 2 * m + j, none⟩ v) k (2 * m + j) v := by
  have hle := h.row.le
  obtain ⟨u, hu⟩ := h.row.old k rfl (2 * m + j) (by omega)
  have hA := AltC.set wr k (2 * m + j) v
  refine ⟨h.next (hA.mono (fun x y _ e => .inr ⟨e.1, by omega⟩)) (fun i hi => ?_) (Grew.refl _ _ _), hu.set v⟩
  by_cases e : i = 2 * m + j
  · subst e; exact ⟨_, hu.set v⟩
  · obtain ⟨u2, hu2⟩ := h.row.old k rfl i hi
    exact ⟨_, hu2.alt hA (fun e2 => e e2.2)⟩
theorem OM.below {w wr w2 : World} {C co n nr bo oo k m kcap : Nat} {VB VBr : Option Nat} {L : List (Bs × JV)} {ad : Nat → Nat × Nat} {G : Nat → Nat → Nat → Prop} (h : OM w C co VB n wr VBr nr bo oo k m kcap L ad G) (hB : Below wr.heap.size wr w2) : OM w C co VB n w2 VBr nr bo oo k m kcap L ad G :=
  h.next (AltC.of_below hB _) (fun i hi => by
    obtain ⟨u, hu⟩ := h.row.old k rfl i hi
    exact ⟨u, hu.below hB⟩) (Grew.refl _ _ _)
theorem OM.parsed {w w3 w4 : World} {C co n nr n2 bo oo k m kcap : Nat} {VB VBr VB2 : Option Nat} {L : List (Bs × JV)} {ad : Nat → Nat × Nat} {G : Nat → Nat → Nat → Prop} (h : OM w C co VB n w3 VBr nr bo oo k m kcap L ad G) (hA : AltC w3 w4 (SC C co VBr nr)) (hG : Grew w3 VBr nr VB2 n2) : OM w C co VB n w4 VB2 n2 bo oo k m kcap L ad G :=
  h.next (hA.mono (fun x y _ e => .inl e)) (fun i hi => by
    obtain ⟨u, hu⟩ := h.row.old k rfl i hi
    refine ⟨u, hu.alt hA (fun e => ?_)⟩
    rcases e with ⟨e, _⟩ | ⟨e, _⟩
    · exact h.kC e
    · exact h.kV e) hG
theorem OM.last {w w5 w6 : World} {C co n nr n2 bo oo k m kcap b2 o2 : Nat} {VB VBr VB2 : Option Nat} {L : List (Bs × JV)} {ad : Nat → Nat × Nat} {G : Nat → Nat → Nat → Prop} {x : Bs} {v : JV} (h5 : OM w C co VB n w5 VBr nr bo oo k m kcap L ad G) (hK : Slot w5 k (2 * m) (.string (bs x)))
    (hA : AltC w5 w6 (SC C co VBr nr)) (hG : Grew w5 VBr nr VB2 n2) (hR : Rep w6 (RegN w5 w6 C co VBr nr VB2 n2) v b2 o2) :
    OL w C co VB n (w6.setCell ⟨k, 2 * m + 1, none⟩ (ptr (b2, o2))) VB2 n2 bo oo (some k) kcap (L ++ [(x, v)]) (fun i => if i = m then (b2, o2) else ad i) (fun i => if i = m then RegN w5 w6 C co VBr nr VB2 n2 else G i) := by
  have h6 := h5.parsed hA hG
  obtain ⟨h7, hv7⟩ := h6.setKey 1 (by omega) (ptr (b2, o2))
  have hno : ∀ y, ¬ SC C co VBr nr k y := fun y e => by
    rcases e with ⟨e, _⟩ | ⟨e, _⟩
    · exact h5.kC e
    · exact h5.kV e
  have hs := AltC.set w6 k (2 * m + 1) (ptr (b2, o2))
  have hx7 := (hK.alt hA (hno _)).alt hs (fun e => by omega)
  have hR7 := hR.alt hs (fun p q r e => by
    obtain ⟨rfl, _⟩ := e
    rcases r.2.2 with e2 | e2
    · have := h5.row.lt p rfl; omega
    · exact hno _ e2)
  exact OM.done h7 h5 hx7 hv7 hG hA.size (by simp) hR7
theorem Cache.altO {w w1 : World} {C co n cap b o : Nat} {VB : Option Nat} (h : Cache w C co VB n cap) (k : AltC w w1 (fun x y => x = b ∧ y = o)) (h1 : ¬ SC C co VB n b o) (h2 : ∃ v, Slot w1 b o v) : Cache w1 C co VB n cap := by
  refine ⟨h.fld.alt k (fun e => h1 (.inl ⟨e.1.symm, e.2.symm⟩)), h.le, h.nil, h.ne, fun q hq => Nat.lt_of_lt_of_le (h.lt q hq) k.size, fun q hq j hj => ?_, fun q hq i hi hic => (h.spare q hq i hi hic).alt k (fun y hy1 hy2 e => h1 (.inr ⟨by rw [hq, e.1], by omega⟩))⟩
  by_cases e : q = b ∧ j = o
  · obtain ⟨rfl, rfl⟩ := e; exact h2
  · obtain ⟨v, hv⟩ := h.old q hq j hj
    exact ⟨v, hv.alt k e⟩
theorem Cache.set {w : World} {C co n cap k y : Nat} {VB : Option Nat} (h : Cache w C co VB n cap) (v : Value) (h1 : k ≠ C) (h2 : VB ≠ some k) : Cache (w.setCell ⟨k, y, none⟩ v) C co VB n cap :=
  h.alt (AltC.set w k y v) (fun e => h1 e.1.symm) (fun b z hb e => h2 (by rw [hb, e.1]))
theorem Cache.below {w w1 : World} {C co n cap : Nat} {VB : Option Nat} (h : Cache w C co VB n cap) (hB : Below w.heap.size w w1) : Cache w1 C co VB n cap := h.alt (AltC.of_below hB (fun _ _ => False)) (fun e => e) (fun _ _ _ e => e)
set_option maxRecDepth 100000 in
set_option maxHeartbeats 8000000 in
theorem obj_full (f d : Nat) (hV : ∀ g, g < f → CallsV g) (w : World) (C co : Nat) (VB : Option Nat) (n cap : Nat) (s : ByteArray) (hC : Cache w C co VB n cap) (hN : n + s.size + 1 ≤ 1000000000) (hf : 2 * s.size < f) (hd : d ≤ 300) (c2 : UInt8) (r2 : Bs) (h : skipW s.data.toList = c2 :: r2) (h125 : c2 ≠ 125) (r : Option (JV × Bs)) (hr : r = (pObj f d (c2 :: r2)).map fun p => (.obj p.1, p.2)) :
    Calls Tryd.prog 75 #[.pointer (some ⟨C, co, none⟩), .string s, .int .i64 d] w (PRes w C co VB n (n + s.size + 1) r) := by
  obtain ⟨s1, hs1⟩ : ∃ s1 : ByteArray, s1.data.toList = skipW s.data.toList := ⟨bs _, rfl⟩
  have K1 := hidden (skip_bs s _ rfl w (by omega) s1 hs1)
  rw [h] at hs1
  obtain ⟨z1, z2, z3⟩ := cons_of hs1
  have hle := skipW_len s.data.toList
  rw [h, len_toL] at hle
  simp only [List.length_cons] at hle
  have hp1 : 0 < s1.size := by omega
  have hp1' : 1 ≤ s1.size := by omega
  have hne : ((s1.size : Int) == 0) = false := beq_eq_false_iff_ne.2 (by omega)
  have hg0 := z2 hp1
  obtain ⟨a, ha⟩ : ∃ a : Nat, c2.toNat = a := ⟨_, rfl⟩
  have hb := u8_ne (k := 125) (by omega) h125
  rw [ha] at hb
  obtain ⟨e1, f1⟩ := hb
  have HLE := hidden (show s1.size ≤ s.size by omega)
  have HS1 := hidden hs1
  have HC := hidden hC
  have Hr := hidden hr
  have HV := hidden hV
  obtain ⟨N, hNd⟩ : ∃ N, n + s.size + 1 = N := ⟨_, rfl⟩
  have HND := hidden hNd
  have HFF := hidden hf
  have hnN : n ≤ N := by omega
  rw [hNd] at hN ⊢
  clear h hC hs1 z1 z2 z3 hle h125 hr hV hNd
  go_enter Tryd.func75, Tryd.ntmps75
  go_upto_region 9 with (go_at_call 61; go_must (refine K1.out.mono ?_; rintro e w1 ⟨rfl, rfl⟩))
  have HGV := hidden (getValue_calls w C co n cap VB HC.out (by omega))
  go_upto_region 10 with (go_at_call 78; go_must (refine HGV.out.mono ?_; rintro e w1 ⟨vb, cap1, rfl, hG⟩; have HG := hidden hG; clear hG))
  have z4 := HG.out.zero.2.2.2.2
  have c4 := z4.1
  have f4 := z4.2
  have HO := hidden (oReset_calls (w1.setCell ⟨vb, 5 * n + 4, none⟩ (.int .i64 1)) vb (5 * n) (HG.out.zero.1.alt (AltC.set _ _ _ _) (fun e => by omega)) (HG.out.zero.2.1.alt (AltC.set _ _ _ _) (fun e => by omega)))
  clear z4 HGV
  go_upto_block 0 with (go_at_call 88; go_must (refine HO.out.mono ?_; rintro e w2 ⟨rfl, h1, h2, h3⟩; have HS := hidden (HG.out.objStart h1 h2 h3); have HOL := hidden (OL.start HS.out.1 h2 h3 HS.out.2 (fun _ => (0, 0)) (fun _ _ _ => True)); clear h1 h2 h3))
  have HLP : Hid (LoopO w C co VB n N (pObj f d (c2 :: r2)) f d vb (5 * n) w2 s1) := hidden ⟨f, some vb, n + 1, cap1, none, 0, [], _, _, by have := HLE.out; have := HFF.out; omega, Nat.le_refl _, HS.out.1.cache, HOL.out, by have := HLE.out; have := HND.out; omega, by have := HLE.out; have := HND.out; simp; omega, by rw [HS1.out]; cases pObj f d (c2 :: r2) <;> simp⟩
  clear HO HG HS HOL HLE HS1 c4 f4 hg0 e1 f1 ha hp1 hp1' hne K1 HND
  obtain ⟨R, hRd⟩ : ∃ R, pObj f d (c2 :: r2) = R := ⟨_, rfl⟩
  rw [hRd] at HLP Hr
  obtain ⟨oo, hoo⟩ : ∃ oo, 5 * n = oo := ⟨_, rfl⟩
  rw [hoo] at HLP ⊢
  clear hRd hoo hf
  go_wp2
  go_loopw [1] (fun u wr => ∃ sk : ByteArray, u = .string sk ∧ sk.size ≤ N ∧ Hid (LoopO w C co VB n N R f d vb oo wr sk)) (fun u _ => match u with | .string sk => sk.size | _ => 0)
  case atStart => exact ⟨s1, rfl, by obtain ⟨_, _, _, _, _, _, _, _, _, _, _, _, _, h, _⟩ := HLP.out.ex; omega, HLP⟩
  case round =>
    obtain ⟨sk, rfl, hskN, HL⟩ := hrel
    obtain ⟨fk, VBr, nr, capr, K, kcap, L, ad, G, hfk, hfkf, hCr, hOL, hn1, hn2, hR⟩ := HL.out.ex
    obtain ⟨g, rfl⟩ : ∃ g, fk = g + 1 := ⟨fk - 1, by omega⟩
    obtain ⟨m, hm⟩ : ∃ m, L.length = m := ⟨_, rfl⟩
    have HM := hidden hm
    have HGK := hidden (getKV_calls wr vb oo m kcap K (by rw [← hm]; exact hOL.row) (by omega))
    have HCr := hidden hCr
    have HOLr := hidden hOL
    have HR := hidden hR
    have hVg := HV.out g (by omega)
    have HVG := hidden hVg
    rw [hm] at hn2
    clear hCr hOL hR HL HLP hVg hm
    go_upto_region 14 with (go_at_call 89; go_must (refine HGK.out.mono ?_; rintro e w3 ⟨k, kc, rfl, hG⟩; have HOM := hidden (HOLr.out.mid HCr.out (by rw [HM.out]; exact hG)); have HC3 := hidden (HCr.out.altO hG.alt (HOLr.out.obj oo (Nat.le_refl _) (by omega)).2.1 ⟨_, hG.row.fld⟩); clear hG))
    rw [HM.out] at HOM
    obtain ⟨sa, hsa⟩ : ∃ t : ByteArray, t.data.toList = skipW sk.data.toList := ⟨bs _, rfl⟩
    have Ksa := hidden (skip_bs sk _ rfl w3 (by omega) sa hsa)
    have hlesa : sa.size ≤ sk.size := by rw [size_toL sa, hsa, size_toL sk, show sk.data.toList = sk.data.toList from rfl]; exact skipW_len _
    go_upto_region 15 with (go_at_call 61; go_must (refine Ksa.out.mono ?_; rintro e wq ⟨rfl, rfl⟩))
    clear HGK
    cases hqsa : skipW sk.data.toList with
    | nil =>
      have hrn : r = none := by rw [Hr.out, HR.out, pObj_nil hqsa]; rfl
      subst hrn
      rw [hqsa] at hsa
      have hzsa := emp_of hsa
      clear hsa hlesa hqsa
      go_wp2_with (go_at_call 48; go_must (refine (newErr_calls _ _).mono ?_; rintro e w9 ⟨T, a9, rfl, hB⟩; have HB9 := hidden hB; clear hB))
      go_ret3
      exact PNo.of (HOM.out.alt.more HB9.out)
    | cons c r1 =>
      rw [hqsa] at hsa
      obtain ⟨sa1, sa2, sa3⟩ := cons_of hsa
      have hpsa : 0 < sa.size := by omega
      have hpsa' : 1 ≤ sa.size := by omega
      have hrsa : r1.length + 1 ≤ sa.size := by omega
      have hnsa : ((sa.size : Int) == 0) = false := beq_eq_false_iff_ne.2 (by omega)
      have hgsa := sa2 hpsa
      clear sa1 sa2 hsa
      by_cases hc : c = 34
      · subst hc
        obtain ⟨sb, hsb⟩ : ∃ sb : ByteArray, sb.data.toList = r1 := ⟨bs r1, rfl⟩
        have hzb : sb.size + 1 ≤ sk.size := by (have : sb.size = r1.length := by rw [size_toL, hsb]); omega
        rw [← hsb, bs_self] at sa3
        have HRK := hidden (fun W (z : Option (Bs × Bs)) (hz : z = rawS false r1) => rawKey_calls sb W (by omega) z (by rw [hz, hsb]))
        have HQA := hidden hqsa
        have hrow := HOM.out.row.le
        obtain ⟨u0, hu0⟩ := HOM.out.row.old k rfl (2 * m) (by omega)
        have HSB := hidden hsb
        clear hqsa hsb
        cases hz : rawS false r1 with
        | none =>
          have hrn : r = none := by rw [Hr.out, HR.out, pObj_key HQA.out hz]; rfl
          subst hrn
          have HZ := hidden hz
          clear hz
          go_upto_region 18 with (go_at_call 90; go_must (refine (HRK.out _ none HZ.out.symm).mono ?_; rintro e w4 ⟨t1, t2, T1, a1, rfl, hB⟩; have hs4 := hu0.below hB; have cs4 := hs4.1; have fs4 := hs4.2; have HOM4 := hidden (HOM.out.below hB); clear hB hs4))
          have HOM5 := hidden (HOM4.out.setKey 0 (by omega) (.string t1)).1
          clear cs4 fs4
          go_wp2_with (go_at_call 48; go_must (refine (newErr_calls _ _).mono ?_; rintro e w9 ⟨T, a9, rfl, hB⟩; have HB9 := hidden hB; clear hB))
          go_ret3
          exact PNo.of (HOM5.out.alt.more HB9.out)
        | some xy =>
          obtain ⟨x, y⟩ := xy
          have hxy := rawS_len _ _ _ _ hz
          have HZ := hidden hz
          obtain ⟨sy, hsy⟩ : ∃ sy : ByteArray, sy.data.toList = y := ⟨bs y, rfl⟩
          have hzy : sy.size + 2 ≤ sk.size := by (have h1 : sy.size = y.length := by rw [size_toL, hsy]); (have h2 : sb.size = r1.length := by rw [size_toL, HSB.out]); omega
          have hbsy : bs y = sy := by rw [← hsy, bs_self]
          clear hz hxy
          go_upto_region 18 with (go_at_call 90; go_must (refine (HRK.out _ (some (x, y)) HZ.out.symm).mono ?_; rintro e w4 ⟨rfl, hB⟩; dsimp only; rw [hbsy]; have hs4 := hu0.below hB; have cs4 := hs4.1; have fs4 := hs4.2; have HOM4 := hidden (HOM.out.below hB); have HC4 := hidden (HC3.out.below hB); clear hB hs4))
          refine wpAbs (fun W => Hid (OM w C co VB n W VBr nr vb oo k m kc L ad G) ∧ Hid (Slot W k (2 * m) (.string (bs x))) ∧ Hid (Cache W C co VBr nr capr)) ⟨hidden (HOM4.out.setKey 0 (by omega) (.string (bs x))).1, hidden (HOM4.out.setKey 0 (by omega) (.string (bs x))).2, hidden (HC4.out.set _ HOM4.out.kC HOM4.out.kV)⟩ ?_
          rintro W5 ⟨HOM5, HK5, HC5⟩
          have HBY := hidden hbsy
          clear cs4 fs4 hbsy hu0 HOM HC3 HRK sa3
          obtain ⟨sc, hsc⟩ : ∃ t : ByteArray, t.data.toList = skipW y := ⟨bs _, rfl⟩
          have Ksc := hidden (skip_bs sy _ hsy W5 (by omega) sc hsc)
          have hlesc : sc.size ≤ sy.size := by rw [size_toL sc, hsc, size_toL sy, show sy.data.toList = y from hsy]; exact skipW_len _
          go_upto_region 21 with (go_at_call 61; go_must (refine Ksc.out.mono ?_; rintro e wq ⟨rfl, rfl⟩))
          clear hsy
          cases hqsc : skipW y with
          | nil =>
            have hrn : r = none := by rw [Hr.out, HR.out, pObj_col0 HQA.out HZ.out hqsc]; rfl
            subst hrn
            rw [hqsc] at hsc
            have hzsc := emp_of hsc
            clear hsc hlesc hqsc
            go_wp2_with (go_at_call 48; go_must (refine (newErr_calls _ _).mono ?_; rintro e w9 ⟨T, a9, rfl, hB⟩; have HB9 := hidden hB; clear hB))
            go_ret3
            exact PNo.of (HOM5.out.alt.more HB9.out)
          | cons c3 r3 =>
            rw [hqsc] at hsc
            obtain ⟨sc1, sc2, sc3⟩ := cons_of hsc
            have hpsc : 0 < sc.size := by omega
            have hpsc' : 1 ≤ sc.size := by omega
            have hrsc : r3.length + 1 ≤ sc.size := by omega
            have hnsc : ((sc.size : Int) == 0) = false := beq_eq_false_iff_ne.2 (by omega)
            have hgsc := sc2 hpsc
            clear sc1 sc2 hsc
            by_cases hc3 : c3 = 58
            · subst hc3
              obtain ⟨sd, hsd⟩ : ∃ t : ByteArray, t.data.toList = r3 := ⟨bs r3, rfl⟩
              have hzd : sd.size + 3 ≤ sk.size := by (have : sd.size = r3.length := by rw [size_toL, hsd]); omega
              rw [← hsd, bs_self] at sc3
              have HQC := hidden hqsc
              clear hqsc
              obtain ⟨se, hse⟩ : ∃ t : ByteArray, t.data.toList = skipW r3 := ⟨bs _, rfl⟩
              have Kse := hidden (skip_bs sd _ hsd W5 (by omega) se hse)
              have hlese : se.size ≤ sd.size := by rw [size_toL se, hse, size_toL sd, show sd.data.toList = r3 from hsd]; exact skipW_len _
              go_upto_region 25 with (go_at_call 61; go_must (refine Kse.out.mono ?_; rintro e wq ⟨rfl, rfl⟩))
              have HSE := hidden hse
              have HPV := hidden (HVG.out W5 C co VBr nr capr se d HC5.out (by omega) (by omega) hd)
              rw [hse] at HPV
              obtain ⟨u1, hu1⟩ := HOM5.out.row.old k rfl (2 * m + 1) (by omega)
              have HU1 := hidden hu1
              clear hsd hse sc3 hu1
              cases hv : pVal g d (skipW r3) with
              | none =>
                have hrn : r = none := by rw [Hr.out, HR.out, pObj_val0 HQA.out HZ.out HQC.out hv]; rfl
                subst hrn
                rw [hv] at HPV
                clear hv
                go_upto_region 26 with (go_at_call 63; go_must (refine HPV.out.mono ?_; rintro e w6 ⟨t1, T1, a1, rfl, hA⟩; dsimp only; have HOM6 := hidden (HOM5.out.parsed hA (Grew.refl _ _ _)); obtain ⟨u6, hu6⟩ := HOM6.out.row.old k rfl (2 * m + 1) (by omega); have cs6 := hu6.1; have fs6 := hu6.2; clear hA hu6))
                have HOM7 := hidden (HOM6.out.setKey 1 (by omega) (.pointer none)).1
                clear cs6 fs6
                go_wp2_with (go_at_call 48; go_must (refine (newErr_calls _ _).mono ?_; rintro e w9 ⟨T, a9, rfl, hB⟩; have HB9 := hidden hB; clear hB))
                go_ret3
                exact PNo.of (HOM7.out.alt.more HB9.out)
              | some vz =>
                obtain ⟨v, z⟩ := vz
                rw [hv] at HPV
                have HVV := hidden hv
                obtain ⟨sz, hsz⟩ : ∃ t : ByteArray, t.data.toList = z := ⟨bs z, rfl⟩
                have hbsz : bs z = sz := by rw [← hsz, bs_self]
                have hzl : z.length = sz.size := by rw [size_toL, hsz]
                clear hv
                go_upto_region 26 with (go_at_call 63; go_must (refine HPV.out.mono ?_; rintro e w6 ⟨VB2, n2, cap2, b2, o2, rfl, hC6, hG6, hL6, hA6, hR6⟩; dsimp only at hL6 ⊢; rw [hbsz]; unfold ptr; have HOM6 := hidden (HOM5.out.parsed hA6 hG6); obtain ⟨u6, hu6⟩ := HOM6.out.row.old k rfl (2 * m + 1) (by omega); have cs6 := hu6.1; have fs6 := hu6.2; have HC6 := hidden hC6; have HG6 := hidden hG6; have HA6 := hidden hA6; have HR6 := hidden hR6; have hle6 := hG6.le; have hL6' : n2 + sz.size ≤ nr + se.size := (by rw [← hzl]; exact hL6); clear hA6 hu6 hC6 hG6 hR6 hL6))
                have HOLn := hidden (HOM5.out.last HK5.out HA6.out HG6.out HR6.out)
                have HCn := hidden (HC6.out.set (y := 2 * m + 1) (ptr (b2, o2)) HOM5.out.kC HOM6.out.kV)
                unfold ptr at HOLn HCn
                clear cs6 fs6
                refine wpAbs (fun W => Hid (OL w C co VB n W VB2 n2 vb oo (some k) kc (L ++ [(x, v)]) (fun i => if i = m then (b2, o2) else ad i) (fun i => if i = m then RegN W5 w6 C co VBr nr VB2 n2 else G i)) ∧ Hid (Cache W C co VB2 n2 cap2)) ⟨HOLn, HCn⟩ ?_
                rintro W7 ⟨HO7, HC7⟩
                clear HOLn HCn HU1 HPV HOM6 HA6 HR6 HG6 HC6 hbsz hzl
                obtain ⟨sg, hsg⟩ : ∃ t : ByteArray, t.data.toList = skipW z := ⟨bs _, rfl⟩
                have Ksg := hidden (skip_bs sz _ hsz W7 (by omega) sg hsg)
                have hlesg : sg.size ≤ sz.size := by rw [size_toL sg, hsg, size_toL sz, show sz.data.toList = z from hsz]; exact skipW_len _
                go_upto_region 29 with (go_at_call 61; go_must (refine Ksg.out.mono ?_; rintro e wq ⟨rfl, rfl⟩))
                clear hsz
                cases hqsg : skipW z with
                | nil =>
                  have hrn : r = none := by rw [Hr.out, HR.out, pObj_end0 HQA.out HZ.out HQC.out HVV.out hqsg]; rfl
                  subst hrn
                  rw [hqsg] at hsg
                  have hzsg := emp_of hsg
                  clear hsg hlesg hqsg
                  go_wp2_with (go_at_call 48; go_must (refine (newErr_calls _ _).mono ?_; rintro e w9 ⟨T, a9, rfl, hB⟩; have HB9 := hidden hB; clear hB))
                  go_ret3
                  exact PNo.of (HO7.out.alt.more HB9.out)
                | cons c5 r5 =>
                  rw [hqsg] at hsg
                  obtain ⟨sg1, sg2, sg3⟩ := cons_of hsg
                  have hpsg : 0 < sg.size := by omega
                  have hpsg' : 1 ≤ sg.size := by omega
                  have hrsg : r5.length + 1 ≤ sg.size := by omega
                  have hnsg : ((sg.size : Int) == 0) = false := beq_eq_false_iff_ne.2 (by omega)
                  have hgsg := sg2 hpsg
                  clear sg1 sg2 hsg
                  obtain ⟨sn, hsn⟩ : ∃ t : ByteArray, t.data.toList = r5 := ⟨bs r5, rfl⟩
                  have hzn : sn.size + 1 ≤ sg.size := by (have : sn.size = r5.length := by rw [size_toL, hsn]); omega
                  rw [← hsn, bs_self] at sg3
                  by_cases hc5 : c5 = 44
                  · subst hc5
                    have HRN : Hid (R = (pObj g d sn.data.toList).map (fun p => ((L ++ [(x, v)]) ++ p.1, p.2))) := hidden (by rw [HR.out, pObj_comma HQA.out HZ.out HQC.out HVV.out hqsg, hsn]; cases pObj g d r5 <;> simp)
                    have HLN : Hid ((L ++ [(x, v)]).length + sn.size ≤ N) := hidden (by rw [List.length_append, HM.out]; simp; omega)
                    clear hqsg hsn
                    go_wp2_with (fail)
                    go_roundw
                    case rel => exact ⟨sn, rfl, by omega, hidden ⟨g, VB2, n2, cap2, some k, kc, _, _, _, by omega, by omega, HC7.out, HO7.out, by omega, HLN.out, HRN.out⟩⟩
                    case measure => simp; omega
                  · obtain ⟨a5, ha5⟩ : ∃ a : Nat, c5.toNat = a := ⟨_, rfl⟩
                    have hb44 := u8_ne (k := 44) (by omega) hc5
                    rw [ha5] at hb44
                    obtain ⟨e44, f44⟩ := hb44
                    by_cases hc6 : c5 = 125
                    · subst hc6
                      have hrn : r = some (.obj (L ++ [(x, v)]), r5) := by rw [Hr.out, HR.out, pObj_close HQA.out HZ.out HQC.out HVV.out hqsg]; rfl
                      subst hrn
                      have HSN := hidden hsn
                      have hr5 : n2 + r5.length ≤ N := by (have : sn.size = r5.length := by rw [size_toL, hsn]); omega
                      clear hqsg hsn hc5 ha5 e44 f44
                      go_wp2_with (fail)
                      go_quiet (fail)
                      go_wp2
                      go_ret3
                      exact ⟨VB2, n2, cap2, vb, oo, ret_p (p := (vb, oo)) (q := (vb, oo)) rfl (by rw [← HSN.out, bs_self]), HC7.out.drewN _, HO7.out.grew, hr5, HO7.out.alt.more (below_drewN0 (Below.refl _ _) _), (HO7.out.whole.alt (AltC.drewN _ _ (fun _ _ => False)) (fun _ _ _ e => e)).mono (fun x y r => RegN.later (Grew.refl _ _ _) (Nat.le_refl _) r)⟩
                    · have hb125 := u8_ne (k := 125) (by omega) hc6
                      rw [ha5] at hb125
                      obtain ⟨e125, f125⟩ := hb125
                      have hrn : r = none := by rw [Hr.out, HR.out, pObj_bad HQA.out HZ.out HQC.out HVV.out hqsg hc5 hc6]; rfl
                      subst hrn
                      clear hqsg hsn hc5 hc6
                      go_wp2_with (go_at_call 48; go_must (refine (newErr_calls _ _).mono ?_; rintro e w9 ⟨T, a9, rfl, hB⟩; have HB9 := hidden hB; clear hB))
                      go_ret3
                      exact PNo.of (HO7.out.alt.more HB9.out)
            · obtain ⟨a3, ha3⟩ : ∃ a : Nat, c3.toNat = a := ⟨_, rfl⟩
              have hb58 := u8_ne (k := 58) (by omega) hc3
              rw [ha3] at hb58
              obtain ⟨e58, f58⟩ := hb58
              have hrn : r = none := by rw [Hr.out, HR.out, pObj_col1 HQA.out HZ.out hqsc hc3]; rfl
              subst hrn
              clear hqsc hc3
              go_wp2_with (go_at_call 48; go_must (refine (newErr_calls _ _).mono ?_; rintro e w9 ⟨T, a9, rfl, hB⟩; have HB9 := hidden hB; clear hB))
              go_ret3
              exact PNo.of (HOM5.out.alt.more HB9.out)
      · obtain ⟨ac, hac⟩ : ∃ a : Nat, c.toNat = a := ⟨_, rfl⟩
        have hb34 := u8_ne (k := 34) (by omega) hc
        rw [hac] at hb34
        obtain ⟨e34, f34⟩ := hb34
        have hrn : r = none := by rw [Hr.out, HR.out, pObj_no hqsa hc]; rfl
        subst hrn
        clear hqsa hc
        go_wp2_with (go_at_call 48; go_must (refine (newErr_calls _ _).mono ?_; rintro e w9 ⟨T, a9, rfl, hB⟩; have HB9 := hidden hB; clear hB))
        go_ret3
        exact PNo.of (HOM.out.alt.more HB9.out)
end Go.Proofs.YtbdmdajbdmdknaaDoor
