/- The reference's base64: spec.PartEncoded, spec.PartOf. -/
import Derived.Test.YtmibnnmampfalaaDoorPart0
namespace Go.Proofs.YtmibnnmampfalaaDoor
open Go.RowKit
set_option linter.unusedVariables false
set_option linter.unusedSimpArgs false

/-- The letters as a text. -/
structure IsLet (s : ByteArray) : Prop where
  sz : s.size = 64
  eq : s.data.toList.map (fun b => (b.toNat : Int)) = alpha true
structure LetP (w : World) (e : Ending) (w' : World) : Prop where
  res : ∃ s, e = .returned (.string s) ∧ IsLet s
  wd : w = w'
set_option maxRecDepth 100000 in
theorem partLetters_calls (w : World) : Calls Tryd.prog 31 #[.bool true] w fun e w' => LetP w e w' := by
  go_enter Tryd.func31, Tryd.ntmps31
  go_wp2
  go_ret
  exact ⟨⟨_, rfl, ⟨by kernel_rfl, by kernel_rfl⟩⟩, rfl⟩
theorem and32_63 (x : Nat) (h : x < 4294967296) : bits .and .u32 (x : Int) 63 = ((x % 64 : Nat) : Int) := by
  show IntKind.u32.wrap ((BitVec.ofInt 32 (x : Int) &&& BitVec.ofInt 32 63).toNat : Int) = _
  rw [BitVec.toNat_and, BitVec.ofInt_natCast, BitVec.toNat_ofNat, Nat.mod_eq_of_lt (by omega), show (BitVec.ofInt 32 63).toNat = 2 ^ 6 - 1 from rfl, Nat.and_two_pow_sub_one_eq_mod, wrapU32]
  omega
/-- The number that the first bytes make. -/
def nv (a0 a1 a2 : Nat) : Nat → Nat
  | 0 => 0
  | 1 => a0
  | 2 => a0 * 256 + a1
  | _ => (a0 * 256 + a1) * 256 + a2
def quad (al : List Int) (V : Nat) : List Int := [gi al (V / 262144), gi al (V / 4096 % 64), gi al (V / 64 % 64), gi al (V % 64)]
theorem quad_at (al : List Int) (V : Nat) : (quad al V).take 1 = (quad al V).take 0 ++ [gi al (V / 262144)] ∧ (quad al V).take 2 = (quad al V).take 1 ++ [gi al (V / 4096 % 64)] ∧ (quad al V).take 3 = (quad al V).take 2 ++ [gi al (V / 64 % 64)] ∧ (quad al V).take 4 = (quad al V).take 3 ++ [gi al (V % 64)] :=
  ⟨rfl, rfl, rfl, rfl⟩
theorem encF_quad (al : List Int) (l : List Int) (kk : Nat) (h0 : 0 < l.length) (hk : kk = min 3 l.length) (a0 a1 a2 V : Nat) (h1 : gi l 0 = a0) (h2 : gi l 1 = a1) (h3 : gi l 2 = a2) (hV : V = nv a0 a1 a2 3) : encF al l = (quad al V).take (kk + 1) ++ encF al (l.drop kk) := by
  have hV' : V = (a0 * 256 + a1) * 256 + a2 := hV
  match l, h0 with
  | [a], _ =>
    obtain rfl : kk = 1 := by rw [hk]; rfl
    have e1 : a1 = 0 := by have : (0 : Int) = a1 := h2; omega
    have e2 : a2 = 0 := by have : (0 : Int) = a2 := h3; omega
    have e0 : a = (a0 : Int) := h1
    simp only [encF, quad, List.take_succ_cons, List.take_zero, List.drop_succ_cons, List.drop_zero, List.append_nil]
    rw [show (val3 a 0 0 / 262144).toNat = V / 262144 by unfold val3; omega, show (val3 a 0 0 / 4096 % 64).toNat = V / 4096 % 64 by unfold val3; omega]
  | [a, b], _ =>
    obtain rfl : kk = 2 := by rw [hk]; rfl
    have e2 : a2 = 0 := by have : (0 : Int) = a2 := h3; omega
    have e0 : a = (a0 : Int) := h1
    have e1 : b = (a1 : Int) := h2
    simp only [encF, quad, List.take_succ_cons, List.take_zero, List.drop_succ_cons, List.drop_zero, List.append_nil]
    rw [show (val3 a b 0 / 262144).toNat = V / 262144 by unfold val3; omega, show (val3 a b 0 / 4096 % 64).toNat = V / 4096 % 64 by unfold val3; omega, show (val3 a b 0 / 64 % 64).toNat = V / 64 % 64 by unfold val3; omega]
  | a :: b :: c :: r, _ =>
    obtain rfl : kk = 3 := by rw [hk]; simp only [List.length_cons]; omega
    have e0 : a = (a0 : Int) := h1
    have e1 : b = (a1 : Int) := h2
    have e2 : c = (a2 : Int) := h3
    simp only [encF, quad, List.take_succ_cons, List.take_zero, List.drop_succ_cons, List.drop_zero, List.cons_append, List.nil_append]
    rw [show (val3 a b c / 262144).toNat = V / 262144 by unfold val3; omega, show (val3 a b c / 4096 % 64).toNat = V / 4096 % 64 by unfold val3; omega, show (val3 a b c / 64 % 64).toNat = V / 64 % 64 by unfold val3; omega, show (val3 a b c % 64).toNat = V % 64 by unfold val3; omega]
/-- Between two groups. -/
structure PSt (w : World) (al l : List Int) (d s : Value) (wr : World) (n' : Nat) : Prop where
  st : ∃ (A' : Option Addr) (c' : Nat) (l' pre : List Int), s = .slice A' n' c' ∧ Own wr w.heap.size 5 d (nums .u8 pre) ∧ encF al l = pre ++ encF al l' ∧ Rd wr A' (nums .u8 l') ∧ l'.length = n' ∧ n' ≤ c' ∧ IsB l'
  bel : Below w.heap.size w wr
  blk : 0 < n' → ∀ A' k c', s = .slice A' k c' → ∀ b f, A' = some ⟨b, f, none⟩ → b < w.heap.size
  pl : ∀ (pre l' : List Int), encF al l = pre ++ encF al l' → pre.length ≤ 200000
theorem rd_own {W w1 : World} {b0 oa base e : Nat} {v : Value} {l vs : List Value} {o : Obj} (hR : Rd W (some ⟨b0, oa, none⟩) l) (hg : (W.alloc o).grownBy w1 v.ownBlock) (hO : Own W base e v vs) (hb : b0 < base) : Rd w1 (some ⟨b0, oa, none⟩) l := by
  intro i x hx
  obtain ⟨b, f, he, hlt, hc⟩ := hR i x hx
  cases he
  refine ⟨b0, oa, rfl, Nat.lt_of_lt_of_le (by simp; omega) hg.size, ?_⟩
  have h1 : (W.alloc o).cell? ⟨b0, oa + i, none⟩ = some x := cell_next (below_alloc0 W o) hc
  have hne : some b0 ≠ v.ownBlock := fun e => by have := (hO.lt b0 e.symm).1; omega
  have := hg.block b0 (by simp; omega) hne
  unfold World.cell? at h1 ⊢
  rw [this]; exact h1
theorem len_pre {al l pre l' : List Int} {n : Nat} (hl : l.length = n) (hn : n ≤ 100000) (h : encF al l = pre ++ encF al l') : pre.length ≤ 200000 := by
  have := congrArg List.length h
  rw [List.length_append, encLen_eq, hl] at this
  unfold encLen at this
  omega
theorem pst_next {w wr : World} {al l l' pre : List Int} {V K n' c0 b0 oa : Nat} {d : Value} (hK : K ≤ n') (hn : l'.length = n') (hc : n' ≤ c0) (hb : IsB l') (hq : encF al l' = (quad al V).take (K + 1) ++ encF al (l'.drop K)) (heq : encF al l = pre ++ encF al l')
    (hO : Own wr w.heap.size 5 d (nums .u8 (pre ++ (quad al V).take (K + 1)))) (hB : Below w.heap.size w wr) (hR : Rd wr (some ⟨b0, oa, none⟩) (nums .u8 l')) (hb0 : b0 < w.heap.size) (hpl : ∀ (pre l' : List Int), encF al l = pre ++ encF al l' → pre.length ≤ 200000) :
    PSt w al l d (.slice (if c0 = K then some ⟨b0, oa, none⟩ else some ⟨b0, oa + K, none⟩) (n' - K) (c0 - K)) wr (n' - K) := by
  refine ⟨⟨_, _, l'.drop K, pre ++ (quad al V).take (K + 1), rfl, hO, by rw [heq, hq, List.append_assoc], hR.drop3 (by omega), by rw [List.length_drop]; omega, by omega, fun x hx => hb x (List.mem_of_mem_drop hx)⟩, hB, ?_, hpl⟩
  intro _ A' k c' e b f e2
  cases e
  split at e2 <;> cases e2 <;> exact hb0
set_option maxRecDepth 100000 in
set_option maxHeartbeats 2000000 in
theorem partEncoded_calls (A : Option Addr) (n c : Nat) (l : List Int) (w : World) (h : Rd w A (nums .u8 l)) (hn : l.length = n) (hb : IsB l) (hc : n ≤ c) (hN : n ≤ 100000) :
    Calls Tryd.prog 22 #[.slice A n c, .bool true, .bool false] w (NewB w (encF (alpha true) l)) := by
  have HP0 : Hid (PSt w (alpha true) l (.slice (some ⟨w.heap.size, 0, none⟩) 0 0) (.slice A n c) (w.alloc (.cells #[] 5)) n) := hidden ⟨⟨A, c, l, [], rfl, own_empty w _, rfl, h.alloc _, hn, hc, hb⟩, below_alloc0 w _, (fun h0 A' k c' e b f e2 => by cases e; obtain ⟨b', o', e3, hlt, _⟩ := h.all (by omega); rw [e2] at e3; cases e3; exact hlt), fun pre l' => len_pre hn hN⟩
  clear h hn hb hc
  go_enter Tryd.func22, Tryd.ntmps22
  go_wp2_with (go_at_call 31; go_must (refine (partLetters_calls _).mono ?_; intro e w1 hp; obtain ⟨s, rfl, hs⟩ := hp.res; obtain rfl := hp.wd; dsimp only))
  have HS := hidden hs
  clear hs hp
  go_loopw [0, 8] (fun s0 s8 wr => ∃ n' : Nat, n' ≤ n ∧ (∃ (A' : Option Addr) (c' : Nat), s0 = .slice A' n' c') ∧ PSt w (alpha true) l s8 s0 wr n') (fun s0 _ _ => (match s0 with | .slice _ k _ => k | _ => 0))
  case atStart => exact ⟨n, Nat.le_refl _, ⟨A, c, rfl⟩, HP0.out⟩
  case round =>
    obtain ⟨n', hn', ⟨A0, c0, rfl⟩, hP⟩ := hrel
    obtain ⟨A', c', l', pre, he, hO, heq, hRd, hl', hc', hb'⟩ := hP.st
    cases he
    have hB := hP.bel
    have hpl := hP.pl
    have HPL := hidden hpl
    have hblk := hP.blk
    clear hpl hP
    by_cases h0 : 0 < n'
    · have h0i : (0 : Int) < (n' : Int) := by omega
      obtain ⟨b0, oa, rfl, hb0, hcl⟩ := hRd.all (by omega)
      have hb0w : b0 < w.heap.size := hblk h0 _ _ _ rfl _ _ rfl
      clear hblk
      obtain ⟨a0, ha0⟩ : ∃ a : Nat, gi l' 0 = (a : Int) := ⟨(gi l' 0).toNat, (Int.toNat_of_nonneg (gi_byte hb' 0).1).symm⟩
      obtain ⟨a1, ha1⟩ : ∃ a : Nat, gi l' 1 = (a : Int) := ⟨(gi l' 1).toNat, (Int.toNat_of_nonneg (gi_byte hb' 1).1).symm⟩
      obtain ⟨a2, ha2⟩ : ∃ a : Nat, gi l' 2 = (a : Int) := ⟨(gi l' 2).toNat, (Int.toNat_of_nonneg (gi_byte hb' 2).1).symm⟩
      have b0' : a0 < 256 := by have := (gi_byte hb' 0).2; omega
      have b1' : a1 < 256 := by have := (gi_byte hb' 1).2; omega
      have b2' : a2 < 256 := by have := (gi_byte hb' 2).2; omega
      have z1 : n' ≤ 1 → a1 = 0 := fun h => by
        have : gi l' 1 = 0 := by simp [gi, List.getD_eq_getElem?_getD, List.getElem?_eq_none (show l'.length ≤ 1 by omega)]
        omega
      have z2 : n' ≤ 2 → a2 = 0 := fun h => by
        have : gi l' 2 = 0 := by simp [gi, List.getD_eq_getElem?_getD, List.getElem?_eq_none (show l'.length ≤ 2 by omega)]
        omega
      have HCL : Hid (∀ i, i < n' → ∃ v : Nat, wr.cell? ⟨b0, oa + i, none⟩ = some (.int .u8 (v : Int)) ∧ gi l' i = v) := hidden (fun i hi => by
        obtain ⟨a, ha⟩ : ∃ a : Nat, gi l' i = (a : Int) := ⟨(gi l' i).toNat, (Int.toNat_of_nonneg (gi_byte hb' i).1).symm⟩
        exact ⟨a, by rw [← ha]; exact hcl i (by omega), ha⟩)
      obtain ⟨V, hVV⟩ : ∃ V, V = nv a0 a1 a2 3 := ⟨_, rfl⟩
      have hVe : V = (a0 * 256 + a1) * 256 + a2 := hVV
      have hVb : V < 16777216 := by omega
      have HQ := hidden (fun (kk : Nat) (hk : kk = min 3 l'.length) => encF_quad (alpha true) l' kk (by omega) hk a0 a1 a2 V ha0 ha1 ha2 hVV)
      have kc0 := hcl 0 (by omega)
      rw [ha0, Nat.add_zero] at kc0
      have HKC := hidden hcl
      obtain ⟨U2, hU2⟩ : ∃ U, U = a0 * 256 + a1 := ⟨_, rfl⟩
      have o1 : bits .or .u32 0 (a0 : Int) = (a0 : Int) := by have := or32 0 a0 8 (by omega) (by omega) (by omega); simpa using this
      have o2 : bits .or .u32 ((a0 : Int) * 256) (a1 : Int) = (U2 : Int) := by rw [hU2]; exact or32 (a0 * 256) a1 8 (by omega) (by omega) (by omega)
      have o3 : bits .or .u32 ((U2 : Int) * 256) (a2 : Int) = (V : Int) := by rw [hVe, ← hU2]; exact or32 (U2 * 256) a2 8 (by omega) (by omega) (by omega)
      have n0 : nv a0 a1 a2 0 = 0 := rfl
      have n1 : nv a0 a1 a2 1 = a0 := rfl
      have n2 : nv a0 a1 a2 2 = U2 := by rw [hU2]; rfl
      have n3 : nv a0 a1 a2 3 = V := hVV.symm
      have U2b : (U2 : Int) < 65536 := by omega
      have c0b : (a0 : Int) < 256 := by omega
      obtain ⟨j0, hj0⟩ : ∃ j, j = V / 262144 := ⟨_, rfl⟩
      obtain ⟨t1, ht1⟩ : ∃ j, j = V / 4096 := ⟨_, rfl⟩
      obtain ⟨t2, ht2⟩ : ∃ j, j = V / 64 := ⟨_, rfl⟩
      obtain ⟨j1, hj1⟩ : ∃ j, j = t1 % 64 := ⟨_, rfl⟩
      obtain ⟨j2, hj2⟩ : ∃ j, j = t2 % 64 := ⟨_, rfl⟩
      obtain ⟨j3, hj3⟩ : ∃ j, j = V % 64 := ⟨_, rfl⟩
      have r0 : (V : Int) / 262144 = (j0 : Int) := by omega
      have r1 : (V : Int) / 4096 = (t1 : Int) := by omega
      have r2 : (V : Int) / 64 = (t2 : Int) := by omega
      have s0 : bits .and .u32 (j0 : Int) 63 = (j0 : Int) := by rw [and32_63 j0 (by omega), Nat.mod_eq_of_lt (by omega)]
      have s1 : bits .and .u32 (t1 : Int) 63 = (j1 : Int) := by rw [and32_63 t1 (by omega), hj1]
      have s2 : bits .and .u32 (t2 : Int) 63 = (j2 : Int) := by rw [and32_63 t2 (by omega), hj2]
      have s3 : bits .and .u32 (V : Int) 63 = (j3 : Int) := by rw [and32_63 V (by omega), hj3]
      have q := quad_at (alpha true) V
      rw [← hj0, ← ht1, ← ht2, ← hj1, ← hj2, ← hj3] at q
      have i0 : j0 < 64 := by omega
      have i1 : j1 < 64 := by omega
      have i2 : j2 < 64 := by omega
      have i3 : j3 < 64 := by omega
      have HQA := hidden q
      have HO := hidden hO
      have HEQ := hidden heq
      have HRD := hidden hRd
      have HL' := hidden hl'
      have HB' := hidden hb'
      have HBB := hidden hB
      have HA1 := hidden ha1
      have HA2 := hidden ha2
      have HZ1 := hidden z1
      have HZ2 := hidden z2
      have HV := hidden hVe
      have HU := hidden hU2
      have HsZ := hidden HS.out.sz
      clear ha0 ha1 ha2 hcl hO heq hRd hl' hb' hB z1 z2 q hj0 ht1 ht2 hj1 hj2 hj3 hVV hVe hU2 hVb
      by_cases hK3 : 3 ≤ n'
      · have h3i : (3 : Int) ≤ (n' : Int) := by omega
        have cK0 := kc0
        have cK1 := HKC.out 1 (by rw [HL'.out]; omega)
        rw [HA1.out] at cK1
        have cK2 := HKC.out 2 (by rw [HL'.out]; omega)
        rw [HA2.out] at cK2
        have l0i : (0 : Int) < (n' : Int) := by omega
        have l1i : (1 : Int) < (n' : Int) := by omega
        have l2i : (2 : Int) < (n' : Int) := by omega
        have q1 := fun W => run_from (W := W) Tryd.underlying22 size_u8' (some ⟨b0, oa, none⟩) n' c0 3 3 rfl (by omega) hc'
        have ab1 : (a1 : Int) < 256 := by omega
        have ab2 : (a2 : Int) < 256 := by omega
        go_wp2
        go_loopw [9, 11] (fun s9 s11 wx => ∃ i : Nat, i ≤ 3 ∧ s11 = .int .i64 i ∧ s9 = .int .u32 (nv a0 a1 a2 i) ∧ wx = wr) (fun _ s11 _ => 3 - (intOf s11).toNat)
        case atStart => exact ⟨0, by omega, rfl, by rw [n0]; rfl, rfl⟩
        case round =>
          obtain ⟨i, hi, rfl, rfl, rfl⟩ := hrel
          rcases (show i = 0 ∨ i = 1 ∨ i = 2 ∨ i = 3 by omega) with rfl | rfl | rfl | rfl
          · go_wp2
            go_roundw
            case rel => exact ⟨1, by omega, by first | rfl | go_num, (by rw [n1]), by first | rfl | trivial⟩
            case measure => simp [intOf]
          · go_wp2
            go_roundw
            case rel => exact ⟨2, by omega, by first | rfl | go_num, (by rw [n2]), by first | rfl | trivial⟩
            case measure => simp [intOf]
          · go_wp2
            go_roundw
            case rel => exact ⟨3, by omega, by first | rfl | go_num, (by rw [n3]), by first | rfl | trivial⟩
            case measure => simp [intOf]
          · rw [n3]
            clear n0 n1 n2 n3 o1 o2 o3 c0b U2b ab1 ab2
            go_wp2
            go_loopw [8, 12] (fun s8 s12 wx => ∃ i : Nat, i ≤ 4 ∧ s12 = .int .i64 i ∧ Own wx w.heap.size 5 s8 (nums .u8 (pre ++ (quad (alpha true) V).take i)) ∧ Below w.heap.size w wx ∧ Rd wx (some ⟨b0, oa, none⟩) (nums .u8 l')) (fun _ s12 _ => 4 - (intOf s12).toNat)
            case atStart => exact ⟨0, by omega, rfl, by rw [List.take_zero, List.append_nil]; exact HO.out, HBB.out, HRD.out⟩
            case round =>
              obtain ⟨i, hi, rfl, hO2, hB2, hR2⟩ := hrel
              have HO2 := hidden hO2
              have HB2 := hidden hB2
              have HR2 := hidden hR2
              clear hO2 hB2 hR2
              rcases (show i = 0 ∨ i = 1 ∨ i = 2 ∨ i = 3 ∨ i = 4 by omega) with rfl | rfl | rfl | rfl | rfl
              · obtain ⟨cc, hcc⟩ : ∃ cc, (s[j0]'(by rw [HsZ.out]; omega)) = cc := ⟨_, rfl⟩
                have hct := text_at HS.out.eq j0 (by rw [HsZ.out]; omega)
                rw [hcc] at hct
                obtain ⟨xn, hxn⟩ : ∃ xn : Nat, cc.toNat = xn := ⟨_, rfl⟩
                rw [hxn] at hct
                have HX := hidden hct
                have hss : (j0 : Int) < (s.size : Int) := by rw [HsZ.out]; omega
                clear hct
                have hlen : Hid ((nums .u8 (pre ++ (quad (alpha true) V).take 0)).length ≤ 300000) := hidden (by rw [nums_len, List.length_append, List.length_take]; have := HPL.out pre l' HEQ.out; omega)
                go_wp2_with (at_builtin; go_must (refine walk_app (base := w.heap.size) (ys := nums .u8 [(xn : Int)]) rfl (.tmp 44) (.tmp 53) rfl Tryd.underlying22 info_u8 rfl (by decide) rfl rfl (HO2.out.alloc _) (Rd.new _ 5 (nums .u8 [(xn : Int)]) _ rfl) rfl (nums_one _ _) (by have := HB2.out.size; simp; omega) (by have := hlen.out; rw [nums_len (l := [(xn : Int)])]; simp only [List.length_singleton]; omega) ?_); intro v1 w1 HO3 hg3 _; have hB3 := below_app (HB2.out.trans ((below_alloc0 _ _).mono HB2.out.size)) hg3 (HO2.out.alloc _) (Nat.le_refl _) (by have := HB2.out.size; simp; omega); have hR3 := rd_own HR2.out hg3 HO2.out hb0w)
                go_roundw
                case rel => (repeat apply Exists.intro); refine ⟨?_, rfl⟩; exact ⟨1, by omega, by first | rfl | go_num, by rw [HQA.out.1, ← HX.out, ← List.append_assoc, nums_app]; exact HO3, hB3, hR3⟩
                case measure => simp [intOf]
              · obtain ⟨cc, hcc⟩ : ∃ cc, (s[j1]'(by rw [HsZ.out]; omega)) = cc := ⟨_, rfl⟩
                have hct := text_at HS.out.eq j1 (by rw [HsZ.out]; omega)
                rw [hcc] at hct
                obtain ⟨xn, hxn⟩ : ∃ xn : Nat, cc.toNat = xn := ⟨_, rfl⟩
                rw [hxn] at hct
                have HX := hidden hct
                have hss : (j1 : Int) < (s.size : Int) := by rw [HsZ.out]; omega
                clear hct
                have hlen : Hid ((nums .u8 (pre ++ (quad (alpha true) V).take 1)).length ≤ 300000) := hidden (by rw [nums_len, List.length_append, List.length_take]; have := HPL.out pre l' HEQ.out; omega)
                go_wp2_with (at_builtin; go_must (refine walk_app (base := w.heap.size) (ys := nums .u8 [(xn : Int)]) rfl (.tmp 44) (.tmp 53) rfl Tryd.underlying22 info_u8 rfl (by decide) rfl rfl (HO2.out.alloc _) (Rd.new _ 5 (nums .u8 [(xn : Int)]) _ rfl) rfl (nums_one _ _) (by have := HB2.out.size; simp; omega) (by have := hlen.out; rw [nums_len (l := [(xn : Int)])]; simp only [List.length_singleton]; omega) ?_); intro v1 w1 HO3 hg3 _; have hB3 := below_app (HB2.out.trans ((below_alloc0 _ _).mono HB2.out.size)) hg3 (HO2.out.alloc _) (Nat.le_refl _) (by have := HB2.out.size; simp; omega); have hR3 := rd_own HR2.out hg3 HO2.out hb0w)
                go_roundw
                case rel => (repeat apply Exists.intro); refine ⟨?_, rfl⟩; exact ⟨2, by omega, by first | rfl | go_num, by rw [HQA.out.2.1, ← HX.out, ← List.append_assoc, nums_app]; exact HO3, hB3, hR3⟩
                case measure => simp [intOf]
              · obtain ⟨cc, hcc⟩ : ∃ cc, (s[j2]'(by rw [HsZ.out]; omega)) = cc := ⟨_, rfl⟩
                have hct := text_at HS.out.eq j2 (by rw [HsZ.out]; omega)
                rw [hcc] at hct
                obtain ⟨xn, hxn⟩ : ∃ xn : Nat, cc.toNat = xn := ⟨_, rfl⟩
                rw [hxn] at hct
                have HX := hidden hct
                have hss : (j2 : Int) < (s.size : Int) := by rw [HsZ.out]; omega
                clear hct
                have hlen : Hid ((nums .u8 (pre ++ (quad (alpha true) V).take 2)).length ≤ 300000) := hidden (by rw [nums_len, List.length_append, List.length_take]; have := HPL.out pre l' HEQ.out; omega)
                go_wp2_with (at_builtin; go_must (refine walk_app (base := w.heap.size) (ys := nums .u8 [(xn : Int)]) rfl (.tmp 44) (.tmp 53) rfl Tryd.underlying22 info_u8 rfl (by decide) rfl rfl (HO2.out.alloc _) (Rd.new _ 5 (nums .u8 [(xn : Int)]) _ rfl) rfl (nums_one _ _) (by have := HB2.out.size; simp; omega) (by have := hlen.out; rw [nums_len (l := [(xn : Int)])]; simp only [List.length_singleton]; omega) ?_); intro v1 w1 HO3 hg3 _; have hB3 := below_app (HB2.out.trans ((below_alloc0 _ _).mono HB2.out.size)) hg3 (HO2.out.alloc _) (Nat.le_refl _) (by have := HB2.out.size; simp; omega); have hR3 := rd_own HR2.out hg3 HO2.out hb0w)
                go_roundw
                case rel => (repeat apply Exists.intro); refine ⟨?_, rfl⟩; exact ⟨3, by omega, by first | rfl | go_num, by rw [HQA.out.2.2.1, ← HX.out, ← List.append_assoc, nums_app]; exact HO3, hB3, hR3⟩
                case measure => simp [intOf]
              · obtain ⟨cc, hcc⟩ : ∃ cc, (s[j3]'(by rw [HsZ.out]; omega)) = cc := ⟨_, rfl⟩
                have hct := text_at HS.out.eq j3 (by rw [HsZ.out]; omega)
                rw [hcc] at hct
                obtain ⟨xn, hxn⟩ : ∃ xn : Nat, cc.toNat = xn := ⟨_, rfl⟩
                rw [hxn] at hct
                have HX := hidden hct
                have hss : (j3 : Int) < (s.size : Int) := by rw [HsZ.out]; omega
                clear hct
                have hlen : Hid ((nums .u8 (pre ++ (quad (alpha true) V).take 3)).length ≤ 300000) := hidden (by rw [nums_len, List.length_append, List.length_take]; have := HPL.out pre l' HEQ.out; omega)
                go_wp2_with (at_builtin; go_must (refine walk_app (base := w.heap.size) (ys := nums .u8 [(xn : Int)]) rfl (.tmp 44) (.tmp 53) rfl Tryd.underlying22 info_u8 rfl (by decide) rfl rfl (HO2.out.alloc _) (Rd.new _ 5 (nums .u8 [(xn : Int)]) _ rfl) rfl (nums_one _ _) (by have := HB2.out.size; simp; omega) (by have := hlen.out; rw [nums_len (l := [(xn : Int)])]; simp only [List.length_singleton]; omega) ?_); intro v1 w1 HO3 hg3 _; have hB3 := below_app (HB2.out.trans ((below_alloc0 _ _).mono HB2.out.size)) hg3 (HO2.out.alloc _) (Nat.le_refl _) (by have := HB2.out.size; simp; omega); have hR3 := rd_own HR2.out hg3 HO2.out hb0w)
                go_roundw
                case rel => (repeat apply Exists.intro); refine ⟨?_, rfl⟩; exact ⟨4, by omega, by first | rfl | go_num, by rw [HQA.out.2.2.2, ← HX.out, ← List.append_assoc, nums_app]; exact HO3, hB3, hR3⟩
                case measure => simp [intOf]
              · go_wp2
                go_loopw [8, 13] (fun s8 s13 wx => s13 = .int .i64 (3 : Nat) ∧ Own wx w.heap.size 5 s8 (nums .u8 (pre ++ (quad (alpha true) V).take 4)) ∧ Below w.heap.size w wx ∧ Rd wx (some ⟨b0, oa, none⟩) (nums .u8 l')) (fun _ _ _ => 0)
                case atStart => exact ⟨rfl, HO2.out, HB2.out, HR2.out⟩
                case round =>
                  obtain ⟨rfl, hO5, hB5, hR5⟩ := hrel
                  have HO5 := hidden hO5
                  have HB5 := hidden hB5
                  have HR5 := hidden hR5
                  clear hO5 hB5 hR5
                  go_wp2
                  have hpn := pst_next (K := 3) (c0 := c0) (by omega) HL'.out hc' HB'.out (HQ.out 3 (by rw [HL'.out]; omega)) HEQ.out HO5.out HB5.out HR5.out hb0w HPL.out
                  exact ⟨⟨n' - 3, by omega, ⟨_, _, rfl⟩, hpn⟩, (show n' - 3 < n' by omega)⟩
      · rcases (show n' = 1 ∨ n' = 2 by omega) with rfl | rfl
        · clear hK3
          have cK0 := kc0
          have q1 := fun W => run_from (W := W) Tryd.underlying22 size_u8' (some ⟨b0, oa, none⟩) 1 c0 1 1 rfl (by omega) hc'
          have ab1 : (a1 : Int) < 256 := by omega
          have ab2 : (a2 : Int) < 256 := by omega
          go_wp2
          go_loopw [9, 11] (fun s9 s11 wx => ∃ i : Nat, i ≤ 3 ∧ s11 = .int .i64 i ∧ s9 = .int .u32 (nv a0 a1 a2 i) ∧ wx = wr) (fun _ s11 _ => 3 - (intOf s11).toNat)
          case atStart => exact ⟨0, by omega, rfl, by rw [n0]; rfl, rfl⟩
          case round =>
            obtain ⟨i, hi, rfl, rfl, rfl⟩ := hrel
            rcases (show i = 0 ∨ i = 1 ∨ i = 2 ∨ i = 3 by omega) with rfl | rfl | rfl | rfl
            · go_wp2
              go_roundw
              case rel => exact ⟨1, by omega, by first | rfl | go_num, (by rw [n1]), by first | rfl | trivial⟩
              case measure => simp [intOf]
            · go_wp2
              go_roundw
              case rel => exact ⟨2, by omega, by first | rfl | go_num, (by rw [n2, HU.out, HZ1.out (by omega)]; rfl), by first | rfl | trivial⟩
              case measure => simp [intOf]
            · go_wp2
              go_roundw
              case rel => exact ⟨3, by omega, by first | rfl | go_num, (by rw [n3, HV.out, ← HU.out, HZ2.out (by omega)]; rfl), by first | rfl | trivial⟩
              case measure => simp [intOf]
            · rw [n3]
              clear n0 n1 n2 n3 o1 o2 o3 c0b U2b ab1 ab2
              go_wp2
              go_loopw [8, 12] (fun s8 s12 wx => ∃ i : Nat, i ≤ 2 ∧ s12 = .int .i64 i ∧ Own wx w.heap.size 5 s8 (nums .u8 (pre ++ (quad (alpha true) V).take i)) ∧ Below w.heap.size w wx ∧ Rd wx (some ⟨b0, oa, none⟩) (nums .u8 l')) (fun _ s12 _ => 2 - (intOf s12).toNat)
              case atStart => exact ⟨0, by omega, rfl, by rw [List.take_zero, List.append_nil]; exact HO.out, HBB.out, HRD.out⟩
              case round =>
                obtain ⟨i, hi, rfl, hO2, hB2, hR2⟩ := hrel
                have HO2 := hidden hO2
                have HB2 := hidden hB2
                have HR2 := hidden hR2
                clear hO2 hB2 hR2
                rcases (show i = 0 ∨ i = 1 ∨ i = 2 by omega) with rfl | rfl | rfl
                · obtain ⟨cc, hcc⟩ : ∃ cc, (s[j0]'(by rw [HsZ.out]; omega)) = cc := ⟨_, rfl⟩
                  have hct := text_at HS.out.eq j0 (by rw [HsZ.out]; omega)
                  rw [hcc] at hct
                  obtain ⟨xn, hxn⟩ : ∃ xn : Nat, cc.toNat = xn := ⟨_, rfl⟩
                  rw [hxn] at hct
                  have HX := hidden hct
                  have hss : (j0 : Int) < (s.size : Int) := by rw [HsZ.out]; omega
                  clear hct
                  have hlen : Hid ((nums .u8 (pre ++ (quad (alpha true) V).take 0)).length ≤ 300000) := hidden (by rw [nums_len, List.length_append, List.length_take]; have := HPL.out pre l' HEQ.out; omega)
                  go_wp2_with (at_builtin; go_must (refine walk_app (base := w.heap.size) (ys := nums .u8 [(xn : Int)]) rfl (.tmp 44) (.tmp 53) rfl Tryd.underlying22 info_u8 rfl (by decide) rfl rfl (HO2.out.alloc _) (Rd.new _ 5 (nums .u8 [(xn : Int)]) _ rfl) rfl (nums_one _ _) (by have := HB2.out.size; simp; omega) (by have := hlen.out; rw [nums_len (l := [(xn : Int)])]; simp only [List.length_singleton]; omega) ?_); intro v1 w1 HO3 hg3 _; have hB3 := below_app (HB2.out.trans ((below_alloc0 _ _).mono HB2.out.size)) hg3 (HO2.out.alloc _) (Nat.le_refl _) (by have := HB2.out.size; simp; omega); have hR3 := rd_own HR2.out hg3 HO2.out hb0w)
                  go_roundw
                  case rel => (repeat apply Exists.intro); refine ⟨?_, rfl⟩; exact ⟨1, by omega, by first | rfl | go_num, by rw [HQA.out.1, ← HX.out, ← List.append_assoc, nums_app]; exact HO3, hB3, hR3⟩
                  case measure => simp [intOf]
                · obtain ⟨cc, hcc⟩ : ∃ cc, (s[j1]'(by rw [HsZ.out]; omega)) = cc := ⟨_, rfl⟩
                  have hct := text_at HS.out.eq j1 (by rw [HsZ.out]; omega)
                  rw [hcc] at hct
                  obtain ⟨xn, hxn⟩ : ∃ xn : Nat, cc.toNat = xn := ⟨_, rfl⟩
                  rw [hxn] at hct
                  have HX := hidden hct
                  have hss : (j1 : Int) < (s.size : Int) := by rw [HsZ.out]; omega
                  clear hct
                  have hlen : Hid ((nums .u8 (pre ++ (quad (alpha true) V).take 1)).length ≤ 300000) := hidden (by rw [nums_len, List.length_append, List.length_take]; have := HPL.out pre l' HEQ.out; omega)
                  go_wp2_with (at_builtin; go_must (refine walk_app (base := w.heap.size) (ys := nums .u8 [(xn : Int)]) rfl (.tmp 44) (.tmp 53) rfl Tryd.underlying22 info_u8 rfl (by decide) rfl rfl (HO2.out.alloc _) (Rd.new _ 5 (nums .u8 [(xn : Int)]) _ rfl) rfl (nums_one _ _) (by have := HB2.out.size; simp; omega) (by have := hlen.out; rw [nums_len (l := [(xn : Int)])]; simp only [List.length_singleton]; omega) ?_); intro v1 w1 HO3 hg3 _; have hB3 := below_app (HB2.out.trans ((below_alloc0 _ _).mono HB2.out.size)) hg3 (HO2.out.alloc _) (Nat.le_refl _) (by have := HB2.out.size; simp; omega); have hR3 := rd_own HR2.out hg3 HO2.out hb0w)
                  go_roundw
                  case rel => (repeat apply Exists.intro); refine ⟨?_, rfl⟩; exact ⟨2, by omega, by first | rfl | go_num, by rw [HQA.out.2.1, ← HX.out, ← List.append_assoc, nums_app]; exact HO3, hB3, hR3⟩
                  case measure => simp [intOf]
                · go_wp2
                  go_loopw [8, 13] (fun s8 s13 wx => s13 = .int .i64 (1 : Nat) ∧ Own wx w.heap.size 5 s8 (nums .u8 (pre ++ (quad (alpha true) V).take 2)) ∧ Below w.heap.size w wx ∧ Rd wx (some ⟨b0, oa, none⟩) (nums .u8 l')) (fun _ _ _ => 0)
                  case atStart => exact ⟨rfl, HO2.out, HB2.out, HR2.out⟩
                  case round =>
                    obtain ⟨rfl, hO5, hB5, hR5⟩ := hrel
                    have HO5 := hidden hO5
                    have HB5 := hidden hB5
                    have HR5 := hidden hR5
                    clear hO5 hB5 hR5
                    go_wp2
                    have hpn := pst_next (K := 1) (c0 := c0) (by omega) HL'.out hc' HB'.out (HQ.out 1 (by rw [HL'.out]; omega)) HEQ.out HO5.out HB5.out HR5.out hb0w HPL.out
                    exact ⟨⟨0, by omega, ⟨_, _, rfl⟩, hpn⟩, (show 0 < 1 by omega)⟩
        · clear hK3
          have cK0 := kc0
          have cK1 := HKC.out 1 (by rw [HL'.out]; omega)
          rw [HA1.out] at cK1
          have q1 := fun W => run_from (W := W) Tryd.underlying22 size_u8' (some ⟨b0, oa, none⟩) 2 c0 2 2 rfl (by omega) hc'
          have ab1 : (a1 : Int) < 256 := by omega
          have ab2 : (a2 : Int) < 256 := by omega
          go_wp2
          go_loopw [9, 11] (fun s9 s11 wx => ∃ i : Nat, i ≤ 3 ∧ s11 = .int .i64 i ∧ s9 = .int .u32 (nv a0 a1 a2 i) ∧ wx = wr) (fun _ s11 _ => 3 - (intOf s11).toNat)
          case atStart => exact ⟨0, by omega, rfl, by rw [n0]; rfl, rfl⟩
          case round =>
            obtain ⟨i, hi, rfl, rfl, rfl⟩ := hrel
            rcases (show i = 0 ∨ i = 1 ∨ i = 2 ∨ i = 3 by omega) with rfl | rfl | rfl | rfl
            · go_wp2
              go_roundw
              case rel => exact ⟨1, by omega, by first | rfl | go_num, (by rw [n1]), by first | rfl | trivial⟩
              case measure => simp [intOf]
            · go_wp2
              go_roundw
              case rel => exact ⟨2, by omega, by first | rfl | go_num, (by rw [n2]), by first | rfl | trivial⟩
              case measure => simp [intOf]
            · go_wp2
              go_roundw
              case rel => exact ⟨3, by omega, by first | rfl | go_num, (by rw [n3, HV.out, ← HU.out, HZ2.out (by omega)]; rfl), by first | rfl | trivial⟩
              case measure => simp [intOf]
            · rw [n3]
              clear n0 n1 n2 n3 o1 o2 o3 c0b U2b ab1 ab2
              go_wp2
              go_loopw [8, 12] (fun s8 s12 wx => ∃ i : Nat, i ≤ 3 ∧ s12 = .int .i64 i ∧ Own wx w.heap.size 5 s8 (nums .u8 (pre ++ (quad (alpha true) V).take i)) ∧ Below w.heap.size w wx ∧ Rd wx (some ⟨b0, oa, none⟩) (nums .u8 l')) (fun _ s12 _ => 3 - (intOf s12).toNat)
              case atStart => exact ⟨0, by omega, rfl, by rw [List.take_zero, List.append_nil]; exact HO.out, HBB.out, HRD.out⟩
              case round =>
                obtain ⟨i, hi, rfl, hO2, hB2, hR2⟩ := hrel
                have HO2 := hidden hO2
                have HB2 := hidden hB2
                have HR2 := hidden hR2
                clear hO2 hB2 hR2
                rcases (show i = 0 ∨ i = 1 ∨ i = 2 ∨ i = 3 by omega) with rfl | rfl | rfl | rfl
                · obtain ⟨cc, hcc⟩ : ∃ cc, (s[j0]'(by rw [HsZ.out]; omega)) = cc := ⟨_, rfl⟩
                  have hct := text_at HS.out.eq j0 (by rw [HsZ.out]; omega)
                  rw [hcc] at hct
                  obtain ⟨xn, hxn⟩ : ∃ xn : Nat, cc.toNat = xn := ⟨_, rfl⟩
                  rw [hxn] at hct
                  have HX := hidden hct
                  have hss : (j0 : Int) < (s.size : Int) := by rw [HsZ.out]; omega
                  clear hct
                  have hlen : Hid ((nums .u8 (pre ++ (quad (alpha true) V).take 0)).length ≤ 300000) := hidden (by rw [nums_len, List.length_append, List.length_take]; have := HPL.out pre l' HEQ.out; omega)
                  go_wp2_with (at_builtin; go_must (refine walk_app (base := w.heap.size) (ys := nums .u8 [(xn : Int)]) rfl (.tmp 44) (.tmp 53) rfl Tryd.underlying22 info_u8 rfl (by decide) rfl rfl (HO2.out.alloc _) (Rd.new _ 5 (nums .u8 [(xn : Int)]) _ rfl) rfl (nums_one _ _) (by have := HB2.out.size; simp; omega) (by have := hlen.out; rw [nums_len (l := [(xn : Int)])]; simp only [List.length_singleton]; omega) ?_); intro v1 w1 HO3 hg3 _; have hB3 := below_app (HB2.out.trans ((below_alloc0 _ _).mono HB2.out.size)) hg3 (HO2.out.alloc _) (Nat.le_refl _) (by have := HB2.out.size; simp; omega); have hR3 := rd_own HR2.out hg3 HO2.out hb0w)
                  go_roundw
                  case rel => (repeat apply Exists.intro); refine ⟨?_, rfl⟩; exact ⟨1, by omega, by first | rfl | go_num, by rw [HQA.out.1, ← HX.out, ← List.append_assoc, nums_app]; exact HO3, hB3, hR3⟩
                  case measure => simp [intOf]
                · obtain ⟨cc, hcc⟩ : ∃ cc, (s[j1]'(by rw [HsZ.out]; omega)) = cc := ⟨_, rfl⟩
                  have hct := text_at HS.out.eq j1 (by rw [HsZ.out]; omega)
                  rw [hcc] at hct
                  obtain ⟨xn, hxn⟩ : ∃ xn : Nat, cc.toNat = xn := ⟨_, rfl⟩
                  rw [hxn] at hct
                  have HX := hidden hct
                  have hss : (j1 : Int) < (s.size : Int) := by rw [HsZ.out]; omega
                  clear hct
                  have hlen : Hid ((nums .u8 (pre ++ (quad (alpha true) V).take 1)).length ≤ 300000) := hidden (by rw [nums_len, List.length_append, List.length_take]; have := HPL.out pre l' HEQ.out; omega)
                  go_wp2_with (at_builtin; go_must (refine walk_app (base := w.heap.size) (ys := nums .u8 [(xn : Int)]) rfl (.tmp 44) (.tmp 53) rfl Tryd.underlying22 info_u8 rfl (by decide) rfl rfl (HO2.out.alloc _) (Rd.new _ 5 (nums .u8 [(xn : Int)]) _ rfl) rfl (nums_one _ _) (by have := HB2.out.size; simp; omega) (by have := hlen.out; rw [nums_len (l := [(xn : Int)])]; simp only [List.length_singleton]; omega) ?_); intro v1 w1 HO3 hg3 _; have hB3 := below_app (HB2.out.trans ((below_alloc0 _ _).mono HB2.out.size)) hg3 (HO2.out.alloc _) (Nat.le_refl _) (by have := HB2.out.size; simp; omega); have hR3 := rd_own HR2.out hg3 HO2.out hb0w)
                  go_roundw
                  case rel => (repeat apply Exists.intro); refine ⟨?_, rfl⟩; exact ⟨2, by omega, by first | rfl | go_num, by rw [HQA.out.2.1, ← HX.out, ← List.append_assoc, nums_app]; exact HO3, hB3, hR3⟩
                  case measure => simp [intOf]
                · obtain ⟨cc, hcc⟩ : ∃ cc, (s[j2]'(by rw [HsZ.out]; omega)) = cc := ⟨_, rfl⟩
                  have hct := text_at HS.out.eq j2 (by rw [HsZ.out]; omega)
                  rw [hcc] at hct
                  obtain ⟨xn, hxn⟩ : ∃ xn : Nat, cc.toNat = xn := ⟨_, rfl⟩
                  rw [hxn] at hct
                  have HX := hidden hct
                  have hss : (j2 : Int) < (s.size : Int) := by rw [HsZ.out]; omega
                  clear hct
                  have hlen : Hid ((nums .u8 (pre ++ (quad (alpha true) V).take 2)).length ≤ 300000) := hidden (by rw [nums_len, List.length_append, List.length_take]; have := HPL.out pre l' HEQ.out; omega)
                  go_wp2_with (at_builtin; go_must (refine walk_app (base := w.heap.size) (ys := nums .u8 [(xn : Int)]) rfl (.tmp 44) (.tmp 53) rfl Tryd.underlying22 info_u8 rfl (by decide) rfl rfl (HO2.out.alloc _) (Rd.new _ 5 (nums .u8 [(xn : Int)]) _ rfl) rfl (nums_one _ _) (by have := HB2.out.size; simp; omega) (by have := hlen.out; rw [nums_len (l := [(xn : Int)])]; simp only [List.length_singleton]; omega) ?_); intro v1 w1 HO3 hg3 _; have hB3 := below_app (HB2.out.trans ((below_alloc0 _ _).mono HB2.out.size)) hg3 (HO2.out.alloc _) (Nat.le_refl _) (by have := HB2.out.size; simp; omega); have hR3 := rd_own HR2.out hg3 HO2.out hb0w)
                  go_roundw
                  case rel => (repeat apply Exists.intro); refine ⟨?_, rfl⟩; exact ⟨3, by omega, by first | rfl | go_num, by rw [HQA.out.2.2.1, ← HX.out, ← List.append_assoc, nums_app]; exact HO3, hB3, hR3⟩
                  case measure => simp [intOf]
                · go_wp2
                  go_loopw [8, 13] (fun s8 s13 wx => s13 = .int .i64 (2 : Nat) ∧ Own wx w.heap.size 5 s8 (nums .u8 (pre ++ (quad (alpha true) V).take 3)) ∧ Below w.heap.size w wx ∧ Rd wx (some ⟨b0, oa, none⟩) (nums .u8 l')) (fun _ _ _ => 0)
                  case atStart => exact ⟨rfl, HO2.out, HB2.out, HR2.out⟩
                  case round =>
                    obtain ⟨rfl, hO5, hB5, hR5⟩ := hrel
                    have HO5 := hidden hO5
                    have HB5 := hidden hB5
                    have HR5 := hidden hR5
                    clear hO5 hB5 hR5
                    go_wp2
                    have hpn := pst_next (K := 2) (c0 := c0) (by omega) HL'.out hc' HB'.out (HQ.out 2 (by rw [HL'.out]; omega)) HEQ.out HO5.out HB5.out HR5.out hb0w HPL.out
                    exact ⟨⟨0, by omega, ⟨_, _, rfl⟩, hpn⟩, (show 0 < 2 by omega)⟩
    · clear hblk
      obtain rfl : n' = 0 := by omega
      have hl0 : l' = [] := List.eq_nil_of_length_eq_zero hl'
      subst hl0
      have HO := hidden hO
      have HEQ : Hid (encF (alpha true) l = pre) := hidden (by rw [heq, encF, List.append_nil])
      have HBB := hidden hB
      clear hO heq hB hRd hl' hb'
      go_wp2
      go_ret
      exact ⟨_, rfl, by rw [HEQ.out]; exact HO.out, HBB.out⟩
end Go.Proofs.YtmibnnmampfalaaDoor
