/- How bytes are written into a row of whatever values, and behind others. -/
import Derived.Test.YtbdmdajbdmdknaaGreatDoorM14
import Derived.Lib.AppendZerosOnto
namespace Go.Proofs.YtbdmdajbdmdknaaGreatDoor
open Go.RowKit
set_option linter.unusedVariables false
set_option linter.unusedSimpArgs false

theorem spv_nil (L : List Value) (o : Nat) : splice L o [] = L := by simp [splice]
theorem spv_len (L : List Value) (o : Nat) (M : List Value) (h : o + M.length ≤ L.length) : (splice L o M).length = L.length := by
  unfold splice; simp only [List.length_append, List.length_take, List.length_drop]; omega
theorem spv_snoc (L : List Value) (o : Nat) (M : List Value) (x : Value) (h : o + M.length < L.length) : (splice L o M).set (o + M.length) x = splice L o (M ++ [x]) := by
  unfold splice
  rw [List.drop_eq_getElem_cons h]
  have hl : (L.take o ++ M).length = o + M.length := by rw [List.length_append, List.length_take]; omega
  rw [← List.append_assoc, ← List.append_assoc, List.set_append_right _ _ (by omega), hl, Nat.sub_self, List.set_cons_zero, List.length_append, List.length_singleton, ← List.append_assoc, List.append_assoc _ [x], ← Nat.add_assoc]
  rfl
theorem spv_snoc2 (L : List Value) (o o' : Nat) (M : List Int) (x0 x1 : Int) (ho : o' = o + M.length) (h : o' + 2 ≤ L.length) : ((splice L o (nums .u8 M)).set o' (.int .u8 x0)).set (o' + 1) (.int .u8 x1) = splice L o (nums .u8 (M ++ [x0, x1])) := by
  subst ho
  have e1 := spv_snoc L o (nums .u8 M) (.int .u8 x0) (by rw [nums_len]; omega)
  have e2 := spv_snoc L o (nums .u8 M ++ [.int .u8 x0]) (.int .u8 x1) (by rw [List.length_append, nums_len]; simp; omega)
  rw [List.length_append, nums_len, List.length_singleton, ← Nat.add_assoc] at e2
  rw [nums_len] at e1
  rw [e1, e2, nums_app, List.append_assoc]
  rfl
theorem spv_snoc3 (L : List Value) (o o' : Nat) (M : List Int) (x0 x1 x2 : Int) (ho : o' = o + M.length) (h : o' + 3 ≤ L.length) : (((splice L o (nums .u8 M)).set o' (.int .u8 x0)).set (o' + 1) (.int .u8 x1)).set (o' + 2) (.int .u8 x2) = splice L o (nums .u8 (M ++ [x0, x1, x2])) := by
  rw [spv_snoc2 L o o' M x0 x1 ho (by omega)]
  have e := spv_snoc L o (nums .u8 (M ++ [x0, x1])) (.int .u8 x2) (by rw [nums_len, List.length_append]; simp; omega)
  rw [nums_len, List.length_append, show o + (M.length + [x0, x1].length) = o' + 2 by simp; omega] at e
  rw [e, show M ++ [x0, x1, x2] = (M ++ [x0, x1]) ++ [x2] by simp, nums_app .u8 (M ++ [x0, x1])]
  rfl
theorem spv_snoc4 (L : List Value) (o o' : Nat) (M : List Int) (x0 x1 x2 x3 : Int) (ho : o' = o + M.length) (h : o' + 4 ≤ L.length) : ((((splice L o (nums .u8 M)).set o' (.int .u8 x0)).set (o' + 1) (.int .u8 x1)).set (o' + 2) (.int .u8 x2)).set (o' + 3) (.int .u8 x3) = splice L o (nums .u8 (M ++ [x0, x1, x2, x3])) := by
  rw [spv_snoc3 L o o' M x0 x1 x2 ho (by omega)]
  have e := spv_snoc L o (nums .u8 (M ++ [x0, x1, x2])) (.int .u8 x3) (by rw [nums_len, List.length_append]; simp; omega)
  rw [nums_len, List.length_append, show o + (M.length + [x0, x1, x2].length) = o' + 3 by simp; omega] at e
  rw [e, show M ++ [x0, x1, x2, x3] = (M ++ [x0, x1, x2]) ++ [x3] by simp, nums_app .u8 (M ++ [x0, x1, x2])]
  rfl
theorem row_some {w : World} {g T i : Nat} {L : List Value} (h : Row w g T L) (hi : i < L.length) : ∃ v, w.cell? ⟨g, i, none⟩ = some v := ⟨_, (h.cell i).trans (List.getElem?_eq_getElem hi)⟩
/-- What holds between two rounds of writing. -/
structure EncSv (w : World) (gd T o m : Nat) (al l : List Int) (L : List Value) (d s : Value) (wr : World) (n' : Nat) : Prop where
  hn : ∃ (A' : Option Addr) (c' : Nat) (l' : List Int) (o' m' cd' : Nat) (pre : List Int), s = .slice A' n' c' ∧ d = .slice (some ⟨gd, o', none⟩) m' cd' ∧ Rd wr A' (nums .u8 l') ∧ l'.length = n' ∧ n' ≤ c' ∧ IsB l' ∧
    (∀ b f, A' = some ⟨b, f, none⟩ → b ≠ gd) ∧ encF al l = pre ++ encF al l' ∧ Row wr gd T (splice L o (nums .u8 pre)) ∧ pre.length + m' = m ∧ (m' = 0 ∨ o' = o + pre.length) ∧ m' = encLen n' ∧ m' ≤ cd'
  gr : w.grownBy wr (some gd)
theorem encSv_next {w w2 : World} {gd T o m n' c' oa b0 o' m' cd' : Nat} {al l l' pre : List Int} {L : List Value} {x0 x1 x2 x3 : Int} (h3 : 3 ≤ n') (hc : n' ≤ c') (hRd : Rd w2 (some ⟨b0, oa, none⟩) (nums .u8 l')) (hl : l'.length = n') (hb : IsB l') (hA : b0 ≠ gd)
    (heq : encF al l = pre ++ encF al l') (hst : encF al l' = [x0, x1, x2, x3] ++ encF al (l'.drop 3)) (hRow : Row w2 gd T (splice L o (nums .u8 (pre ++ [x0, x1, x2, x3])))) (hpm : pre.length + m' = m) (hop : o' = o + pre.length) (hm' : m' = encLen n') (hcd : m' ≤ cd') (hg : w.grownBy w2 (some gd)) :
    EncSv w gd T o m al l L (.slice (if cd' = 4 then some ⟨gd, o', none⟩ else some ⟨gd, o' + 4, none⟩) (m' - 4) (cd' - 4)) (.slice (if c' = 3 then some ⟨b0, oa, none⟩ else some ⟨b0, oa + 3, none⟩) (n' - 3) (c' - 3)) w2 (n' - 3) := by
  have h4 : m' - 4 = encLen (n' - 3) ∧ 4 ≤ m' := by unfold encLen at *; omega
  refine ⟨⟨_, _, l'.drop 3, if cd' = 4 then o' else o' + 4, m' - 4, cd' - 4, pre ++ [x0, x1, x2, x3], rfl, by split <;> rfl, hRd.drop3 (by omega), by rw [List.length_drop]; omega, by omega, fun x hx => hb x (List.mem_of_mem_drop hx), ?_, by rw [heq, hst, List.append_assoc], hRow, by simp only [List.length_append, List.length_cons, List.length_nil]; omega, ?_, h4.1, by omega⟩, hg⟩
  · intro b f h
    split at h <;> cases h <;> exact hA
  · by_cases hcd4 : cd' = 4
    · left; omega
    · right; rw [if_neg hcd4]; simp only [List.length_append, List.length_cons, List.length_nil]; omega
set_option maxRecDepth 100000 in
set_option maxHeartbeats 1000000 in
theorem encodeV_calls (g gd T o m cd : Nat) (al dm : List Int) (A : Option Addr) (n c : Nat) (l : List Int) (L : List Value) (w : World) (hE : EncAt w g al dm (-1)) (h : Rd w A (nums .u8 l)) (hn : l.length = n) (hb : IsB l) (hc : n ≤ c) (h0 : 0 < n)
    (hR : Row w gd T L) (hm : m = encLen n) (hcd : m ≤ cd) (ho : o + m ≤ L.length) (hg : g ≠ gd) (hA : ∀ b f, A = some ⟨b, f, none⟩ → b ≠ gd) (hN : n ≤ 100000) :
    Calls Tryz.prog 175 #[.pointer (some ⟨g, 0, none⟩), .slice (some ⟨gd, o, none⟩) m cd, .slice A n c] w fun e w' => e = .returned (.tuple #[]) ∧ Row w' gd T (splice L o (nums .u8 (encF al l))) ∧ w.grownBy w' (some gd) := by
  have size64 : (Tryz.prog.info? 186).map (·.size) = some (nums .u8 al).length := by rw [nums_len, hE.la]; kernel_rfl
  have hn0 : ¬ n = 0 := by omega
  have HE := hidden hE
  have HR := hidden hR
  have H := hidden h
  have HA := hidden hA
  clear hE hR h hA
  go_enter Tryz.func175, Tryz.ntmps175
  go_wp2_with (with_reducible refine at_dst 15 ?_; go_must (refine walk_load_at (off := 0) (cs := nums .u8 al) rfl _ _ rfl (fun j v hv => by
    have hj : j < al.length := by rw [← nums_len .u8]; exact (List.getElem?_eq_some_iff.1 hv).1
    rw [nums_at _ _ _ hj] at hv; cases hv; rw [Nat.zero_add]; exact HE.out.letter j (by rw [← HE.out.la]; exact hj)) rfl Tryz.underlying186 rfl size64 ?_))
  simp only [Act.put, List.setIfInBounds_toArray, List.set_cons_zero, List.set_cons_succ]
  go_loopw [1, 2] (fun d s wr => ∃ n' : Nat, n' ≤ n ∧ EncSv w gd T o m al l L d s wr n') (fun d s _ => (match s with | .slice _ k _ => k | _ => 0))
  case atStart => exact ⟨n, Nat.le_refl _, ⟨A, c, l, o, m, cd, [], rfl, rfl, H.out, hn, hc, hb, HA.out, rfl, by rw [show nums .u8 [] = [] from rfl, spv_nil]; exact HR.out, by simp, .inr rfl, hm, hcd⟩, World.grownBy.refl w _⟩
  case round =>
    obtain ⟨n', hn', hst⟩ := hrel
    obtain ⟨⟨A', c', l', o', m', cd', pre, rfl, rfl, hRd, hl', hc', hb', hA', heq, hRow, hpm, ho', hm', hcd'⟩, hgr⟩ := hst
    by_cases hlt : 3 ≤ n'
    · have hm4 : 4 ≤ m' := by rw [hm']; unfold encLen; omega
      have hop : o' = o + pre.length := by omega
      clear ho'
      obtain ⟨b0, oa, rfl, hb0, hcl⟩ := hRd.all (by omega)
      have k0 := hcl 0 (by omega)
      have k1 := hcl 1 (by omega)
      have k2 := hcl 2 (by omega)
      rw [Nat.add_zero] at k0
      obtain ⟨a, ha⟩ : ∃ a : Nat, gi l' 0 = (a : Int) := ⟨(gi l' 0).toNat, (Int.toNat_of_nonneg (gi_byte hb' 0).1).symm⟩
      obtain ⟨b, hb1⟩ : ∃ a : Nat, gi l' 1 = (a : Int) := ⟨(gi l' 1).toNat, (Int.toNat_of_nonneg (gi_byte hb' 1).1).symm⟩
      obtain ⟨c1, hc1⟩ : ∃ a : Nat, gi l' 2 = (a : Int) := ⟨(gi l' 2).toNat, (Int.toNat_of_nonneg (gi_byte hb' 2).1).symm⟩
      have ha2 := (gi_byte hb' 0).2
      have hb2 := (gi_byte hb' 1).2
      have hc2 := (gi_byte hb' 2).2
      rw [ha] at k0 ha2
      rw [hb1] at k1 hb2
      rw [hc1] at k2 hc2
      have hlti : (3 : Int) ≤ (n' : Int) := by omega
      have hstep := encF_step al l' (by omega)
      rw [ha, hb1, hc1] at hstep
      obtain ⟨U, hU⟩ : ∃ U, U = a * 65536 + b * 256 := ⟨_, rfl⟩
      obtain ⟨V, hV⟩ : ∃ V, V = U + c1 := ⟨_, rfl⟩
      have hv3 : val3 (a : Int) (b : Int) (c1 : Int) = (V : Int) := by unfold val3; omega
      have hVb : V < 16777216 := by omega
      obtain ⟨j0, hj0⟩ : ∃ j, j = V / 262144 := ⟨_, rfl⟩
      obtain ⟨t1, ht1⟩ : ∃ j, j = V / 4096 := ⟨_, rfl⟩
      obtain ⟨t2, ht2⟩ : ∃ j, j = V / 64 := ⟨_, rfl⟩
      obtain ⟨j1, hj1⟩ : ∃ j, j = t1 % 64 := ⟨_, rfl⟩
      obtain ⟨j2, hj2⟩ : ∃ j, j = t2 % 64 := ⟨_, rfl⟩
      obtain ⟨j3, hj3⟩ : ∃ j, j = V % 64 := ⟨_, rfl⟩
      have r0 : (V : Int) / 262144 = (j0 : Int) := by omega
      have r1 : (V : Int) / 4096 = (t1 : Int) := by omega
      have r2 : (V : Int) / 64 = (t2 : Int) := by omega
      rw [hv3, show ((V : Int) / 262144).toNat = j0 by omega, show ((V : Int) / 4096 % 64).toNat = j1 by omega, show ((V : Int) / 64 % 64).toNat = j2 by omega, show ((V : Int) % 64).toNat = j3 by omega] at hstep
      have v1 : bits .or .u64 ((a : Int) * 65536) ((b : Int) * 256) = (U : Int) := by rw [hU]; exact or64 (a * 65536) (b * 256) 16 (by omega) (by omega) (by omega)
      have v2 : bits .or .u64 (U : Int) (c1 : Int) = (V : Int) := by rw [hV]; exact or64 _ c1 8 (by omega) (by omega) (by omega)
      have s0 : bits .and .u64 (j0 : Int) 63 = (j0 : Int) := by rw [and64_63 j0 (by omega), Nat.mod_eq_of_lt (by omega)]
      have s1 : bits .and .u64 (t1 : Int) 63 = (j1 : Int) := by rw [and64_63 t1 (by omega), hj1]
      have s2 : bits .and .u64 (t2 : Int) 63 = (j2 : Int) := by rw [and64_63 t2 (by omega), hj2]
      have s3 : bits .and .u64 (V : Int) 63 = (j3 : Int) := by rw [and64_63 V (by omega), hj3]
      have e0 := HE.out.grown hgr (by simpa using hg) |>.letter j0 (by omega)
      have e1 := HE.out.grown hgr (by simpa using hg) |>.letter j1 (by omega)
      have e2 := HE.out.grown hgr (by simpa using hg) |>.letter j2 (by omega)
      have e3 := HE.out.grown hgr (by simpa using hg) |>.letter j3 (by omega)
      have i0 : (j0 : Int) < 64 := by omega
      have i1 : (j1 : Int) < 64 := by omega
      have i2 : (j2 : Int) < 64 := by omega
      have i3 : (j3 : Int) < 64 := by omega
      clear hU hj0 ht1 ht2 hj1 hj2 hj3
      obtain ⟨x0, hx0⟩ : ∃ x, x = gi al j0 := ⟨_, rfl⟩
      obtain ⟨x1, hx1⟩ : ∃ x, x = gi al j1 := ⟨_, rfl⟩
      obtain ⟨x2, hx2⟩ : ∃ x, x = gi al j2 := ⟨_, rfl⟩
      obtain ⟨x3, hx3⟩ : ∃ x, x = gi al j3 := ⟨_, rfl⟩
      rw [← hx0, ← hx1, ← hx2, ← hx3] at hstep
      rw [← hx0] at e0
      rw [← hx1] at e1
      rw [← hx2] at e2
      rw [← hx3] at e3
      clear hx0 hx1 hx2 hx3 hv3 hVb hV
      have hLl := spv_len L o (nums .u8 pre) (by rw [nums_len]; omega)
      obtain ⟨vd0, d0⟩ := row_some hRow (i := o') (by omega)
      obtain ⟨vd1, d1⟩ := row_some hRow (i := (o' + 1)) (by omega)
      obtain ⟨vd2, d2⟩ := row_some hRow (i := (o' + 2)) (by omega)
      obtain ⟨vd3, d3⟩ := row_some hRow (i := (o' + 3)) (by omega)
      have f0 := hRow.free o'
      have f1 := hRow.free (o' + 1)
      have f2 := hRow.free (o' + 2)
      have f3 := hRow.free (o' + 3)
      have m0i : (0 : Int) < (m' : Int) := by omega
      have m1i : (1 : Int) < (m' : Int) := by omega
      have m2i : (2 : Int) < (m' : Int) := by omega
      have m3i : (3 : Int) < (m' : Int) := by omega
      have n0i : (0 : Int) < (n' : Int) := by omega
      have n1i : (1 : Int) < (n' : Int) := by omega
      have n2i : (2 : Int) < (n' : Int) := by omega
      have q1 := fun W => run_from (W := W) Tryz.underlying31 size_u8' (some ⟨b0, oa, none⟩) n' c' 3 3 rfl (by omega) hc'
      have q2 := fun W => run_from (W := W) Tryz.underlying31 size_u8' (some ⟨gd, o', none⟩) m' cd' 4 4 rfl (by omega) hcd'
      have hgd : ¬ gd = g := fun e => hg e.symm
      have Hm' := hidden hm'
      have Hpm := hidden hpm
      have Hop := hidden hop
      have Heq := hidden heq
      have Hst := hidden hstep
      have Hgr := hidden hgr
      have HRow := hidden hRow
      have HRd := hidden hRd
      have HA2 := hidden hA'
      have Hb' := hidden hb'
      have Hl' := hidden hl'
      clear hm' hpm hop heq hstep hgr hRow hRd hA' hcl hb' hl' hLl ha hb1 hc1
      go_wp2
      go_quiet (fail)
      go_wp2
      refine ⟨⟨n' - 3, by omega, ?_⟩, ?_⟩
      · have Hg2 := grown_setD (grown_setD (grown_setD (grown_setD (grown_drewN Hgr.out nq) o' (.int .u8 x0)) (o' + 1) (.int .u8 x1)) (o' + 2) (.int .u8 x2)) (o' + 3) (.int .u8 x3)
        have Hg1 := grown_setD (grown_setD (grown_setD (grown_setD (grown_drewN (World.grownBy.refl wr (some gd)) nq) o' (.int .u8 x0)) (o' + 1) (.int .u8 x1)) (o' + 2) (.int .u8 x2)) (o' + 3) (.int .u8 x3)
        refine encSv_next hlt hc' (HRd.out.grown Hg1 HA2.out) Hl'.out Hb'.out (HA2.out _ _ rfl) Heq.out Hst.out ?_ Hpm.out Hop.out Hm'.out hcd' Hg2
        rw [← spv_snoc4 L o o' pre x0 x1 x2 x3 Hop.out (by have := Hop.out; have := Hpm.out; omega)]
        exact ((((HRow.out.drewN nq).set o' (.int .u8 x0)).set (o' + 1) (.int .u8 x1)).set (o' + 2) (.int .u8 x2)).set (o' + 3) (.int .u8 x3)
      · show n' - 3 < n'
        omega
    · have hlti : ¬ (3 : Int) ≤ (n' : Int) := by omega
      have hEn := HE.out.grown hgr (by simpa using hg)
      have cpad := hEn.padc
      have hgd : ¬ gd = g := fun e => hg e.symm
      rcases (show n' = 0 ∨ n' = 1 ∨ n' = 2 by omega) with rfl | rfl | rfl
      · have hl0 : l' = [] := List.eq_nil_of_length_eq_zero hl'
        subst hl0
        have HRow : Hid (Row wr gd T (splice L o (nums .u8 (encF al l)))) := hidden (by rw [heq, encF, List.append_nil]; exact hRow)
        have Hgr := hidden hgr
        clear hRow hgr heq hm' hpm ho' hRd hl' hb' hA' hEn cpad
        go_wp2
        (try simp only [Exit.inBlock, Exit.then])
        refine bodyPost_ret (results_none rfl _ _ _) rfl ?_
        exact ⟨rfl, HRow.out, Hgr.out⟩
      · have hm2 : m' = 2 := by rw [hm']; rfl
        have hop : o' = o + pre.length := by omega
        obtain ⟨b0, oa, rfl, hb0, hcl⟩ := hRd.all (by omega)
        have k0 := hcl 0 (by omega)
        rw [Nat.add_zero] at k0
        obtain ⟨a, ha⟩ : ∃ a : Nat, gi l' 0 = (a : Int) := ⟨(gi l' 0).toNat, (Int.toNat_of_nonneg (gi_byte hb' 0).1).symm⟩
        have ha2 := (gi_byte hb' 0).2
        rw [ha] at k0 ha2
        have hstep := encF_one al l' hl'
        rw [ha] at hstep
        obtain ⟨V, hV⟩ : ∃ V, V = a * 65536 := ⟨_, rfl⟩
        have hv3 : val3 (a : Int) 0 0 = (V : Int) := by unfold val3; omega
        obtain ⟨j0, hj0⟩ : ∃ j, j = V / 262144 := ⟨_, rfl⟩
        obtain ⟨t1, ht1⟩ : ∃ j, j = V / 4096 := ⟨_, rfl⟩
        obtain ⟨j1, hj1⟩ : ∃ j, j = t1 % 64 := ⟨_, rfl⟩
        have vv : (a : Int) * 65536 = (V : Int) := by omega
        have r0 : (V : Int) / 262144 = (j0 : Int) := by omega
        have r1 : (V : Int) / 4096 = (t1 : Int) := by omega
        rw [hv3, show ((V : Int) / 262144).toNat = j0 by omega, show ((V : Int) / 4096 % 64).toNat = j1 by omega] at hstep
        have s0 : bits .and .u64 (j0 : Int) 63 = (j0 : Int) := by rw [and64_63 j0 (by omega), Nat.mod_eq_of_lt (by omega)]
        have s1 : bits .and .u64 (t1 : Int) 63 = (j1 : Int) := by rw [and64_63 t1 (by omega), hj1]
        have e0 := hEn.letter j0 (by omega)
        have e1 := hEn.letter j1 (by omega)
        have i0 : (j0 : Int) < 64 := by omega
        have i1 : (j1 : Int) < 64 := by omega
        clear hV hj0 ht1 hj1 hv3
        obtain ⟨x0, hx0⟩ : ∃ x, x = gi al j0 := ⟨_, rfl⟩
        obtain ⟨x1, hx1⟩ : ∃ x, x = gi al j1 := ⟨_, rfl⟩
        rw [← hx0, ← hx1] at hstep
        rw [← hx0] at e0
        rw [← hx1] at e1
        clear hx0 hx1
        have hLl := spv_len L o (nums .u8 pre) (by rw [nums_len]; omega)
        obtain ⟨vd0, d0⟩ := row_some hRow (i := o') (by omega)
        obtain ⟨vd1, d1⟩ := row_some hRow (i := (o' + 1)) (by omega)
        have f0 := hRow.free o'
        have f1 := hRow.free (o' + 1)
        have HRow : Hid (Row ((wr.setCell ⟨gd, o', none⟩ (.int .u8 x0)).setCell ⟨gd, o' + 1, none⟩ (.int .u8 x1)) gd T (splice L o (nums .u8 (encF al l)))) := hidden (by
          rw [heq, hstep, ← spv_snoc2 L o o' pre x0 x1 hop (by omega)]
          exact (hRow.set o' (.int .u8 x0)).set (o' + 1) (.int .u8 x1))
        have Hgr := hidden (grown_setD (grown_setD hgr o' (.int .u8 x0)) (o' + 1) (.int .u8 x1))
        subst hm2
        clear hRow hgr heq hm' hpm ho' hRd hl' hb' hA' hEn hstep hop hLl ha hcl
        go_wp2
        go_end0
        exact ⟨rfl, HRow.out, Hgr.out⟩
      · have hm2 : m' = 3 := by rw [hm']; rfl
        have hop : o' = o + pre.length := by omega
        obtain ⟨b0, oa, rfl, hb0, hcl⟩ := hRd.all (by omega)
        have k0 := hcl 0 (by omega)
        rw [Nat.add_zero] at k0
        obtain ⟨a, ha⟩ : ∃ a : Nat, gi l' 0 = (a : Int) := ⟨(gi l' 0).toNat, (Int.toNat_of_nonneg (gi_byte hb' 0).1).symm⟩
        have ha2 := (gi_byte hb' 0).2
        rw [ha] at k0 ha2
        have k1 := hcl 1 (by omega)
        obtain ⟨b, hb1⟩ : ∃ a : Nat, gi l' 1 = (a : Int) := ⟨(gi l' 1).toNat, (Int.toNat_of_nonneg (gi_byte hb' 1).1).symm⟩
        have hb2 := (gi_byte hb' 1).2
        rw [hb1] at k1 hb2
        have hstep := encF_two al l' hl'
        rw [ha, hb1] at hstep
        obtain ⟨V, hV⟩ : ∃ V, V = a * 65536 + b * 256 := ⟨_, rfl⟩
        have hv3 : val3 (a : Int) (b : Int) 0 = (V : Int) := by unfold val3; omega
        have v1 : bits .or .u64 ((a : Int) * 65536) ((b : Int) * 256) = (V : Int) := by rw [hV]; exact or64 (a * 65536) (b * 256) 16 (by omega) (by omega) (by omega)
        obtain ⟨j0, hj0⟩ : ∃ j, j = V / 262144 := ⟨_, rfl⟩
        obtain ⟨t1, ht1⟩ : ∃ j, j = V / 4096 := ⟨_, rfl⟩
        obtain ⟨t2, ht2⟩ : ∃ j, j = V / 64 := ⟨_, rfl⟩
        obtain ⟨j1, hj1⟩ : ∃ j, j = t1 % 64 := ⟨_, rfl⟩
        obtain ⟨j2, hj2⟩ : ∃ j, j = t2 % 64 := ⟨_, rfl⟩
        have r0 : (V : Int) / 262144 = (j0 : Int) := by omega
        have r1 : (V : Int) / 4096 = (t1 : Int) := by omega
        have r2 : (V : Int) / 64 = (t2 : Int) := by omega
        rw [hv3, show ((V : Int) / 262144).toNat = j0 by omega, show ((V : Int) / 4096 % 64).toNat = j1 by omega, show ((V : Int) / 64 % 64).toNat = j2 by omega] at hstep
        have s0 : bits .and .u64 (j0 : Int) 63 = (j0 : Int) := by rw [and64_63 j0 (by omega), Nat.mod_eq_of_lt (by omega)]
        have s1 : bits .and .u64 (t1 : Int) 63 = (j1 : Int) := by rw [and64_63 t1 (by omega), hj1]
        have s2 : bits .and .u64 (t2 : Int) 63 = (j2 : Int) := by rw [and64_63 t2 (by omega), hj2]
        have e0 := hEn.letter j0 (by omega)
        have e1 := hEn.letter j1 (by omega)
        have e2 := hEn.letter j2 (by omega)
        have i0 : (j0 : Int) < 64 := by omega
        have i1 : (j1 : Int) < 64 := by omega
        have i2 : (j2 : Int) < 64 := by omega
        clear hV hj0 ht1 ht2 hj1 hj2 hv3
        obtain ⟨x0, hx0⟩ : ∃ x, x = gi al j0 := ⟨_, rfl⟩
        obtain ⟨x1, hx1⟩ : ∃ x, x = gi al j1 := ⟨_, rfl⟩
        obtain ⟨x2, hx2⟩ : ∃ x, x = gi al j2 := ⟨_, rfl⟩
        rw [← hx0, ← hx1, ← hx2] at hstep
        rw [← hx0] at e0
        rw [← hx1] at e1
        rw [← hx2] at e2
        clear hx0 hx1 hx2
        have hLl := spv_len L o (nums .u8 pre) (by rw [nums_len]; omega)
        obtain ⟨vd0, d0⟩ := row_some hRow (i := o') (by omega)
        obtain ⟨vd1, d1⟩ := row_some hRow (i := (o' + 1)) (by omega)
        obtain ⟨vd2, d2⟩ := row_some hRow (i := (o' + 2)) (by omega)
        have f0 := hRow.free o'
        have f1 := hRow.free (o' + 1)
        have f2 := hRow.free (o' + 2)
        have HRow : Hid (∀ q, Row ((((wr.drewN q).setCell ⟨gd, o', none⟩ (.int .u8 x0)).setCell ⟨gd, o' + 1, none⟩ (.int .u8 x1)).setCell ⟨gd, o' + 2, none⟩ (.int .u8 x2)) gd T (splice L o (nums .u8 (encF al l)))) := hidden (fun q => by
          rw [heq, hstep, ← spv_snoc3 L o o' pre x0 x1 x2 hop (by omega)]
          exact (((hRow.drewN q).set o' (.int .u8 x0)).set (o' + 1) (.int .u8 x1)).set (o' + 2) (.int .u8 x2))
        have Hgr : Hid (∀ q, w.grownBy ((((wr.drewN q).setCell ⟨gd, o', none⟩ (.int .u8 x0)).setCell ⟨gd, o' + 1, none⟩ (.int .u8 x1)).setCell ⟨gd, o' + 2, none⟩ (.int .u8 x2)) (some gd)) := hidden (fun q => grown_setD (grown_setD (grown_setD (grown_drewN hgr q) o' (.int .u8 x0)) (o' + 1) (.int .u8 x1)) (o' + 2) (.int .u8 x2))
        subst hm2
        clear hRow hgr heq hm' hpm ho' hRd hl' hb' hA' hEn hstep hop hLl ha hb1 hcl
        go_wp2
        go_quiet (fail)
        go_wp2
        go_end0
        exact ⟨rfl, HRow.out _, Hgr.out _⟩
end Go.Proofs.YtbdmdajbdmdknaaGreatDoor
