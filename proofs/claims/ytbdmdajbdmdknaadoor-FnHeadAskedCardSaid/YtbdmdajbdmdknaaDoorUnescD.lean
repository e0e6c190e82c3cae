/- unescapeStringBestEffort, at every text: the walk. -/
import Derived.Test.YtbdmdajbdmdknaaDoorM9
import Derived.Deep.CutBlock
namespace Go.Proofs.YtbdmdajbdmdknaaDoor
open Go.RowKit
set_option linter.unusedVariables false
set_option linter.unusedSimpArgs false

theorem u8_of {c : UInt8} {a : Nat} (k : UInt8) (h : c.toNat = a) (hk : k.toNat = a) : c = k := UInt8.toNat_inj.1 (h.trans hk.symm)
theorem u8_neq {c : UInt8} {a : Nat} (k : UInt8) (h : c.toNat = a) (hk : k.toNat ≠ a) : c ≠ k := fun e => hk (by rw [← e]; exact h)
theorem esc_u (r : Bs) : escB 117 r = escU r := by simp [escB]
theorem hexL_lt : ∀ (l : Bs) (m x : Nat), hexL m l = some x → x < (m + 1) * 16 ^ l.length
  | [], m, x, h => by cases h; simp
  | c :: l, m, x, h => by
    unfold hexL at h
    split at h
    · cases h
    · rename_i d hd
      have hd16 : d < 16 := by
        rcases hexD_cases c with ⟨a, _, h1, h2, h3⟩ | ⟨a, b, _, _, _, h1, h2, h3⟩ | ⟨a, b, _, _, _, _, h3⟩
        · rw [hd] at h3; cases h3; omega
        · rw [hd] at h3; cases h3; omega
        · rw [hd] at h3; cases h3
      have ih := hexL_lt l (m * 16 + d) x h
      rw [List.length_cons, Nat.pow_succ]
      have : (m * 16 + d + 1) * 16 ^ l.length ≤ (m + 1) * 16 * 16 ^ l.length := Nat.mul_le_mul_right _ (by omega)
      calc x < (m * 16 + d + 1) * 16 ^ l.length := ih
        _ ≤ (m + 1) * 16 * 16 ^ l.length := this
        _ = (m + 1) * (16 ^ l.length * 16) := by rw [Nat.mul_assoc, Nat.mul_comm 16]
theorem hex4_lt {l : Bs} {x : Nat} (hl : l.length = 4) (h : hex4 l = some x) : x ≤ 65535 := by
  have := hexL_lt l 0 x h
  rw [hl] at this
  omega
theorem escU_short {r : Bs} (h : r.length < 4) : escU r = ([92, 117], r) := by unfold escU; rw [if_pos h]
theorem escU_nohex {r : Bs} (h : ¬ r.length < 4) (hx : hex4 (r.take 4) = none) : escU r = ([92, 117], r) := by unfold escU; rw [if_neg h, hx]
theorem escU_one {r : Bs} {x : Nat} (h : ¬ r.length < 4) (hx : hex4 (r.take 4) = some x) (hs : sur x = false) : escU r = (utf x, r.drop 4) := by unfold escU; rw [if_neg h, hx]; simp [hs]
theorem escU_half {r : Bs} {x : Nat} (h : ¬ r.length < 4) (hx : hex4 (r.take 4) = some x) (hs : sur x = true) (hp : (r.drop 4).length < 6 ∨ (r.drop 4).getD 0 0 ≠ 92 ∨ (r.drop 4).getD 1 0 ≠ 117) : escU r = ([92, 117] ++ r.take 4, r.drop 4) := by
  unfold escU; rw [if_neg h, hx]; simp only [hs]; rw [if_neg (by simp), if_pos hp]
theorem escU_half2 {r : Bs} {x : Nat} (h : ¬ r.length < 4) (hx : hex4 (r.take 4) = some x) (hs : sur x = true) (hp : ¬ ((r.drop 4).length < 6 ∨ (r.drop 4).getD 0 0 ≠ 92 ∨ (r.drop 4).getD 1 0 ≠ 117)) (hy : hex4 ((r.drop 6).take 4) = none) : escU r = ([92, 117] ++ r.take 4, r.drop 4) := by
  unfold escU; rw [if_neg h, hx]; simp only [hs]; rw [if_neg (by simp), if_neg hp, hy]
theorem escU_pair {r : Bs} {x y : Nat} (h : ¬ r.length < 4) (hx : hex4 (r.take 4) = some x) (hs : sur x = true) (hp : ¬ ((r.drop 4).length < 6 ∨ (r.drop 4).getD 0 0 ≠ 92 ∨ (r.drop 4).getD 1 0 ≠ 117)) (hy : hex4 ((r.drop 6).take 4) = some y) : escU r = (utf (decR x y), r.drop 10) := by
  unfold escU; rw [if_neg h, hx]; simp only [hs]; rw [if_neg (by simp), if_neg hp, hy]
theorem get_at0 {s : ByteArray} {k : Nat} (h : k < s.size) : s.data.toList.getD k 0 = s[k]'h := by
  rw [List.getD_eq_getElem?_getD, List.getElem?_eq_getElem (show k < s.data.toList.length from h), Option.getD_some]
  rfl
set_option maxRecDepth 100000 in
set_option maxHeartbeats 8000000 in
theorem unC_all (s : Bs) (hl : s.length ≤ 200000000) : UnC s (unB s) := by
  by_cases h92 : (92 : UInt8) ∈ s
  case neg => rw [unB_plain s h92]; exact unC_plain s h92
  intro w hSY
  obtain ⟨hs1, hs2⟩ := unAZ s h92
  obtain ⟨m, hm⟩ : ∃ m, (unA s).length = m := ⟨_, rfl⟩
  have HIX : Hid (Go.Lib.indexByte (bs s).data.toList (92 : Int).toNat.toUInt8 = (m : Int)) := hidden (by rw [← hm]; exact idx_at s h92)
  have hlen : s.length = m + 1 + (unZ s).length := by have := congrArg List.length hs1; simp only [List.length_append, List.length_cons] at this; omega
  obtain ⟨Z, hZ⟩ : ∃ Z, bs (unZ s) = Z := ⟨_, rfl⟩
  have hex : ∀ k, k = s.length → (bs s).extract (m + 1) k = Z := fun k hk => by
    rw [ex_drop s _ k hk, ← hZ]
    congr 1
    have : s.drop (m + 1) = (92 :: unZ s).drop 1 := by
      conv => lhs; rw [hs1]
      rw [List.drop_append, List.drop_of_length_le (by omega)]
      simp [hm]
    rw [this]; rfl
  have hZl : Z.data.toList = unZ s := by rw [← hZ, toL_bs]
  have hZs : Z.size = (unZ s).length := by rw [← hZ]; rfl
  obtain ⟨S, hSS⟩ : ∃ S, bs s = S := ⟨_, rfl⟩
  have hSz : S.size = s.length := by rw [← hSS]; rfl
  have hexS : S.extract (m + 1) S.size = Z := by rw [hSz, ← hSS]; exact hex _ rfl
  obtain ⟨N, hN⟩ : ∃ N, s.length = N := ⟨_, rfl⟩
  have K1 : Hid (∀ W, Calls Tryd.prog 49 #[.string S] W fun e w' => ∃ c, e = .returned (.slice (some ⟨W.heap.size, 0, none⟩) N c) ∧ N ≤ c ∧ Buf w' W.heap.size 5 N (ints s) ∧ Below W.heap.size W w') := hidden (fun W => by
    have := s2u_calls s W
    rw [hSS] at this
    unfold S2U at this
    rw [hN] at this
    exact this)
  have hup : ∀ (W : World) (B c : Nat), N ≤ c → (Instr.slice 32 (.slice (some ⟨B, 0, none⟩) N c) none (some (.int .i64 (m : Int))) none).run Tryd.prog W = .ok (.slice (some ⟨B, 0, none⟩) m c) W := fun W B c h => run_upto (W := W) Tryd.underlying32 size_u8U _ N c m m rfl (by omega)
  have HUP := hidden hup
  have HS0 := hidden (And.intro hs1 (And.intro hm (And.intro hZl (And.intro hZs (And.intro hN hl)))))
  have HSY := hidden hSY
  have hmN : m + 1 ≤ N := by omega
  have hm0 : ¬ (m : Int) < 0 := by omega
  have hw1 : IntKind.i64.wrap ((m : Int) + 1) = (m : Int) + 1 := by rw [IntKind.wrap_i64]; omega
  have hSN : S.size = N := by rw [hSz, hN]
  have hmS : m + 1 ≤ S.size := by omega
  rw [hSS] at HIX ⊢
  clear hs1 hs2 hm hlen hZ hex hZl hZs hSS hSz hN hup hSY h92 hl hSN
  have HmN := hidden hmN
  go_enter Tryd.func55, Tryd.ntmps55
  go_upto_region 5 with (first
    | (go_at_call 57; go_must (refine (idx_calls _ _ _).mono ?_; rintro e wq ⟨rfl, rfl⟩; rw [HIX.out]))
    | (go_at_call 49; go_must (refine (K1.out w).mono ?_; rintro e w1 ⟨cc, rfl, hc, hb, hB⟩; have HC := hidden hc; have HB1 := hidden hb; have HW1 := hidden hB; have hup := HUP.out w1 w.heap.size cc hc; clear hc hb hB)))
  go_upto_region 6 with (fail)
  clear hup
  obtain ⟨g, hg⟩ : ∃ g, w.heap.size = g := ⟨_, rfl⟩
  have HG := hidden hg
  rw [hg] at HB1 ⊢
  have HL1 : Hid (LU s w w1 g N (ints (unA s)) Z.data.toList ∧ (ints (unA s)).length = m) := hidden ⟨⟨by
      have := HB1.out.take m
      have e : (ints s).take m = ints (unA s) := by
        rw [← HS0.out.2.1]
        conv => { lhs; arg 2; rw [HS0.out.1] }
        rw [ints_app]
        exact List.take_left' (ints_len _)
      rwa [e] at this, by have := HW1.out; rwa [hg] at this ⊢, by rw [ints_len, HS0.out.2.1, HS0.out.2.2.1, ← HS0.out.2.2.2.2.1]; have := congrArg List.length HS0.out.1; simp only [List.length_append, List.length_cons] at this; have h2 := HS0.out.2.1; omega, by
      rw [HS0.out.2.2.1, ← ints_app, unB_eq s s.length (Nat.le_refl _), unT_fuel (unZ s).length s.length _ (Nat.le_refl _) (unZ_len s)]⟩, by rw [ints_len]; exact HS0.out.2.1⟩
  clear hg HB1
  go_wp2
  go_loopw [0, 4] (fun u v wr => ∃ (sk : ByteArray) (pre : List Int) (n : Nat), u = .string sk ∧ v = .slice (some ⟨g, 0, none⟩) n cc ∧ sk.size ≤ N ∧ Hid (LU s w wr g N pre sk.data.toList ∧ pre.length = n)) (fun u _ _ => match u with | .string sk => sk.size | _ => 0)
  case atStart => exact ⟨Z, _, m, rfl, rfl, by have := HL1.out.1.len; have e : Z.data.toList.length = Z.size := rfl; omega, HL1⟩
  case round =>
    clear HL1 HIX K1 HUP hexS hm0 hw1 hmS hmN
    obtain ⟨sk, pre, n, rfl, rfl, hskN, HLU⟩ := hrel
    by_cases h0 : sk.size = 0
    · have hsk : sk.data.toList = [] := List.eq_nil_of_length_eq_zero h0
      have hfin : ints (unB s) = pre := by have := HLU.out.1.eq; rw [hsk] at this; simpa [unT, ints] using this.symm
      have hrd : Rd wr (some ⟨g, 0, none⟩) (nums .u8 (bI (bs (unB s)))) := by rw [ints_bI, hfin]; exact HLU.out.1.buf.rd
      have hfn : (bs (unB s)).size = n := by rw [size_bs, ← ints_len, hfin]; exact HLU.out.2
      have K2 := hidden (b2s_calls (some ⟨g, 0, none⟩) n cc (bs (unB s)) wr hrd hfn)
      have h0i : ¬ (0 : Int) < (sk.size : Int) := by omega
      have HBW := hidden HLU.out.1.below
      clear hsk hfin hrd hfn h0 HLU
      go_wp2_with (go_at_call 54; go_must (refine K2.out.mono ?_; rintro e wq ⟨rfl, rfl⟩))
      go_ret
      exact ⟨rfl, HBW.out⟩
    · have hpos : 0 < sk.size := by omega
      have hpi : (0 : Int) < (sk.size : Int) := by omega
      have hp1 : 1 ≤ sk.size := hpos
      have hd := get_drop hpos
      rw [List.drop_zero] at hd
      obtain ⟨c, hc⟩ : ∃ c, sk[0]'hpos = c := ⟨_, rfl⟩
      rw [hc] at hd
      obtain ⟨r, hr⟩ : ∃ r, sk.extract 1 sk.size = r := ⟨_, rfl⟩
      have hrl : r.data.toList = sk.data.toList.drop 1 := by rw [← hr, extract_drop, toL_bs]
      rw [← hrl] at hd
      have hrs : r.size + 1 = sk.size := by
        have h1 := congrArg List.length hd
        simp only [List.length_cons] at h1
        exact h1.symm
      obtain ⟨a, ha⟩ : ∃ a : Nat, c.toNat = a := ⟨_, rfl⟩
      have hLU1 : LU s w wr g N pre (c :: r.data.toList) := by rw [← hd]; exact HLU.out.1
      have HL := hidden (And.intro hLU1 HLU.out.2)
      have HA := hidden (And.intro ha (And.intro hrs hskN))
      have HGW : Hid (w.heap.size ≤ g) := hidden (Nat.le_of_eq HG.out)
      clear hd hrl HLU hLU1 hrs h0 hskN
      go_upto_block 2 with fail
      clear hc hr hpos hpi hp1
      go_cut [0, 4] (fun u v wx => ∃ (sk' : ByteArray) (pre' : List Int) (n' : Nat), u = .string sk' ∧ v = .slice (some ⟨g, 0, none⟩) n' cc ∧ sk'.size < sk.size ∧ sk'.size ≤ N ∧ Hid (MU s w wx g N pre' sk'.data.toList ∧ pre'.length = n'))
      case first =>
        by_cases hu : a = 117
        · subst hu
          obtain rfl : c = 117 := u8_of 117 HA.out.1 rfl
          have HR : Hid (r.data.toList.length = r.size) := hidden rfl
          obtain ⟨R, hR⟩ : ∃ R, r.data.toList = R := ⟨_, rfl⟩
          have HRR := hidden hR
          rw [hR] at HL HR
          clear hR
          by_cases h4 : r.size < 4
          · have h4i : (r.size : Int) < 4 := by omega
            have he : escB 117 R = ([92, 117], R) := by rw [esc_u]; exact escU_short (by rw [HR.out]; exact h4)
            have HE := hidden he
            have hroom := HL.out.1.rooms he
            clear he ha h4
            go_wp2_with ((with_reducible refine at_dst 83 ?_); go_must (refine walk_app_buf (N := N) (y := ints [92, 117]) rfl _ _ rfl Tryd.underlying32 size_u8U (HL.out.1.buf) (HL.out.2) (hroom) HC.out rfl rfl (.inr ⟨Tryd.underlying9, _, rfl, by simp [Go.Lib.strCells, nums, ints]⟩) ?_; intro w5 hb5 hg5; have H5 := hidden (And.intro hb5 ((HL.out.1.below).grown hg5 (HL.out.1.below).size (fun k hk => by cases hk; exact HGW.out))); clear hb5 hg5))
            go_meet
            exact ⟨r, _, _, rfl, rfl, by have := HA.out.2.1; omega, by have := HA.out.2; omega, hidden ⟨by rw [HRR.out]; exact HL.out.1.mu HE.out H5.out.1 H5.out.2, by rw [List.length_append, HL.out.2]⟩⟩
          have h4i : ¬ (r.size : Int) < 4 := by omega
          have h4s : 4 ≤ r.size := by omega
          have h4n : ¬ R.length < 4 := by rw [HR.out]; exact h4
          have hl4 : (R.take 4).length = 4 := by rw [List.length_take]; omega
          obtain ⟨X4, hX4⟩ : ∃ X, r.extract 0 4 = X := ⟨_, rfl⟩
          have hX4b : X4 = bs (R.take 4) := by rw [← hX4, extract_take, HRR.out]
          have hSW : SynAt wr := HSY.out.next HL.out.1.below
          have K4 : Hid (Calls Tryd.prog 64 #[.string X4, .int .i64 16, .int .i64 16] wr (PS wr (R.take 4))) := hidden (by rw [hX4b]; exact parseS_calls _ hl4 wr hSW)
          have HSW := hidden hSW
          have HXS : Hid (Go.Lib.strCells X4 = nums .u8 (ints (R.take 4))) := hidden (by rw [hX4b]; exact strCells_bs _)
          clear hX4b hSW h4
          cases hx4 : hex4 (R.take 4) with
          | none =>
            have HX4 := hidden hx4
            have he : escB 117 R = ([92, 117], R) := by rw [esc_u]; exact escU_nohex h4n hx4
            have HE := hidden he
            have hroom := HL.out.1.rooms he
            clear he ha hx4 h4n hl4
            go_wp2_with (first
              | (go_at_call 64; ((with_reducible refine K4.out.mono ?_); rintro e wA ⟨hB, hE⟩; rw [HX4.out] at hE; obtain ⟨T4, a4, rfl⟩ := hE; have HBA := hidden hB; clear hB))
              | ((with_reducible refine at_dst 94 ?_); go_must (refine walk_app_buf (N := N) (y := ints [92, 117]) rfl _ _ rfl Tryd.underlying32 size_u8U (HL.out.1.buf.below HBA.out HL.out.1.buf.lt) (HL.out.2) (hroom) HC.out rfl rfl (.inr ⟨Tryd.underlying9, _, rfl, by simp [Go.Lib.strCells, nums, ints]⟩) ?_; intro w5 hb5 hg5; have H5 := hidden (And.intro hb5 ((below_then HL.out.1.below HL.out.1.below.size HBA.out).grown hg5 (below_then HL.out.1.below HL.out.1.below.size HBA.out).size (fun k hk => by cases hk; exact HGW.out))); clear hb5 hg5)))
            go_meet
            exact ⟨r, _, _, rfl, rfl, by have := HA.out.2.1; omega, by have := HA.out.2; omega, hidden ⟨by rw [HRR.out]; exact HL.out.1.mu HE.out H5.out.1 H5.out.2, by rw [List.length_append, HL.out.2]⟩⟩
          | some x =>
            have HX4 := hidden hx4
            have hxl := hex4_lt hl4 hx4
            have hwx : IntKind.i32.wrap (x : Int) = (x : Int) := by rw [IntKind.wrap_i32]; omega
            obtain ⟨b, hb⟩ : ∃ b, sur x = b := ⟨_, rfl⟩
            have KS : Hid (∀ W, Calls Tryd.prog 65 #[.int .i32 (x : Int)] W fun e w' => e = .returned (.bool b) ∧ W = w') := hidden (fun W => by rw [← hb]; exact isSur_calls x hxl W)
            obtain ⟨R4, hR4⟩ : ∃ X, r.extract 4 r.size = X := ⟨_, rfl⟩
            have hR4b : R4.data.toList = R.drop 4 := by rw [← hR4, extract_drop, toL_bs, HRR.out]
            have hR4s : R4.size + 4 = r.size := by
              have : R4.data.toList.length = R4.size := rfl
              rw [← this, hR4b, List.length_drop, HR.out]; omega
            have HR4 := hidden (And.intro hR4b hR4s)
            have HXL := hidden (And.intro hxl (And.intro hl4 h4n))
            clear hxl
            cases b with
            | false =>
              have he : escB 117 R = (utf x, R.drop 4) := by rw [esc_u]; exact escU_one h4n hx4 hb
              have HE := hidden he
              have hroom := HL.out.1.rooms he
              clear he ha hx4 h4n hl4 hb hR4b hR4s
              go_wp2_with (first
                | (go_at_call 64; ((with_reducible refine K4.out.mono ?_); rintro e wA ⟨hB, hE⟩; rw [HX4.out] at hE; dsimp only at hE; subst hE; have HBA := hidden hB; clear hB))
                | (go_at_call 65; ((with_reducible refine (KS.out _).mono ?_); rintro e wq ⟨rfl, rfl⟩; dsimp only))
                | ((with_reducible refine at_dst 105 ?_); go_must (refine walk_app_buf (N := N) (y := ints (utf x)) rfl _ _ rfl Tryd.underlying32 size_u8U (HL.out.1.buf.below HBA.out HL.out.1.buf.lt) (HL.out.2) (hroom) HC.out rfl rfl (.inr ⟨Tryd.underlying9, _, rfl, strCells_utf _⟩) ?_; intro w5 hb5 hg5; have H5 := hidden (And.intro hb5 ((below_then HL.out.1.below HL.out.1.below.size HBA.out).grown hg5 (below_then HL.out.1.below HL.out.1.below.size HBA.out).size (fun k hk => by cases hk; exact HGW.out))); clear hb5 hg5)))
              go_meet
              exact ⟨R4, _, _, rfl, rfl, by have := HA.out.2.1; have := HR4.out.2; omega, by have := HA.out.2; have := HR4.out.2; omega, hidden ⟨by rw [HR4.out.1]; exact HL.out.1.mu HE.out H5.out.1 H5.out.2, by rw [List.length_append, HL.out.2]⟩⟩
            | true =>
              have HBS := hidden hb
              by_cases hp : (R.drop 4).length < 6 ∨ (R.drop 4).getD 0 0 ≠ 92 ∨ (R.drop 4).getD 1 0 ≠ 117
              · have he : escB 117 R = ([92, 117] ++ R.take 4, R.drop 4) := by rw [esc_u]; exact escU_half h4n hx4 hb hp
                have HE := hidden he
                have hroom := HL.out.1.rooms he
                rw [ints_app, List.length_append] at hroom
                have hroom1 : pre.length + (ints [92, 117]).length ≤ N := by omega
                have hroom2 : (pre ++ ints [92, 117]).length + (ints (R.take 4)).length ≤ N := by rw [List.length_append]; omega
                have hsz : (R.drop 4).length = R4.size := by rw [← hR4b]; rfl
                rw [hsz, ← hR4b] at hp
                have FIN : Hid (∀ w6, Buf w6 g 5 N ((pre ++ ints [92, 117]) ++ ints (R.take 4)) → Below w.heap.size w w6 → MU s w w6 g N ((pre ++ ints [92, 117]) ++ ints (R.take 4)) R4.data.toList) := hidden (fun w6 h1 h2 => by
                  rw [HR4.out.1]
                  have h3 := HL.out.1.mu (w1 := w6) HE.out (by rw [ints_app, ← List.append_assoc]; exact h1) h2
                  rwa [ints_app, ← List.append_assoc] at h3)
                clear he ha hx4 h4n hl4 hb hR4b hR4s hroom hsz
                by_cases q1 : R4.size < 6
                · have q1i : (R4.size : Int) < 6 := by omega
                  clear hp q1
                  go_wp2_with (first
                    | (go_at_call 64; ((with_reducible refine K4.out.mono ?_); rintro e wA ⟨hB, hE⟩; rw [HX4.out] at hE; dsimp only at hE; subst hE; have HBA := hidden hB; clear hB)) | (go_at_call 65; ((with_reducible refine (KS.out _).mono ?_); rintro e wq ⟨rfl, rfl⟩; dsimp only)) | ((with_reducible refine at_dst 120 ?_); go_must (refine walk_app_buf (N := N) (y := ints [92, 117]) rfl _ _ rfl Tryd.underlying32 size_u8U (HL.out.1.buf.below HBA.out HL.out.1.buf.lt) (HL.out.2) (hroom1) HC.out rfl rfl (.inr ⟨Tryd.underlying9, _, rfl, by simp [Go.Lib.strCells, nums, ints]⟩) ?_; intro w5 hb5 hg5; have H5 := hidden (And.intro hb5 ((below_then HL.out.1.below HL.out.1.below.size HBA.out).grown hg5 (below_then HL.out.1.below HL.out.1.below.size HBA.out).size (fun k hk => by cases hk; exact HGW.out))); clear hb5 hg5)) | ((with_reducible refine at_dst 123 ?_); go_must (refine walk_app_buf (N := N) (y := ints (R.take 4)) rfl _ _ rfl Tryd.underlying32 size_u8U (H5.out.1) (by rw [List.length_append, HL.out.2]) (hroom2) HC.out rfl rfl (.inr ⟨Tryd.underlying9, _, rfl, HXS.out⟩) ?_; intro w6 hb5 hg5; have H6 := hidden (And.intro hb5 ((H5.out.2).grown hg5 (H5.out.2).size (fun k hk => by cases hk; exact HGW.out))); clear hb5 hg5)))
                  go_meet
                  exact ⟨R4, _, _, rfl, rfl, by have := HA.out.2.1; have := HR4.out.2; omega, by have := HA.out.2; have := HR4.out.2; omega, hidden ⟨FIN.out _ H6.out.1 H6.out.2, by rw [List.length_append, List.length_append, HL.out.2]⟩⟩
                · have q1i : ¬ (R4.size : Int) < 6 := by omega
                  have g0 : 0 < R4.size := by omega
                  have g1 : 1 < R4.size := by omega
                  have gi0 : (0 : Int) < (R4.size : Int) := by omega
                  have gi1 : (1 : Int) < (R4.size : Int) := by omega
                  rw [get_at0 g0, get_at0 g1] at hp
                  obtain ⟨c0, hc0⟩ : ∃ c, R4[0]'g0 = c := ⟨_, rfl⟩
                  obtain ⟨c1, hc1⟩ : ∃ c, R4[1]'g1 = c := ⟨_, rfl⟩
                  rw [hc0, hc1] at hp
                  obtain ⟨a0, ha0⟩ : ∃ a : Nat, c0.toNat = a := ⟨_, rfl⟩
                  obtain ⟨a1, ha1⟩ : ∃ a : Nat, c1.toNat = a := ⟨_, rfl⟩
                  by_cases q2 : a0 = 92
                  · have q3 : a1 ≠ 117 := by
                      rcases hp with h | h | h
                      · omega
                      · exact absurd (u8_of 92 ha0 q2.symm) h
                      · exact fun e => h (u8_of 117 ha1 e.symm)
                    have q3i : ((a1 : Int) == 117) = false := beq_eq_false_iff_ne.2 (by omega)
                    have q3j : ((a1 : Int) != 117) = true := by rw [bne, q3i]; rfl
                    subst q2
                    clear hp q1 q3
                    go_wp2_with (first
                      | (go_at_call 64; ((with_reducible refine K4.out.mono ?_); rintro e wA ⟨hB, hE⟩; rw [HX4.out] at hE; dsimp only at hE; subst hE; have HBA := hidden hB; clear hB)) | (go_at_call 65; ((with_reducible refine (KS.out _).mono ?_); rintro e wq ⟨rfl, rfl⟩; dsimp only)) | ((with_reducible refine at_dst 120 ?_); go_must (refine walk_app_buf (N := N) (y := ints [92, 117]) rfl _ _ rfl Tryd.underlying32 size_u8U (HL.out.1.buf.below HBA.out HL.out.1.buf.lt) (HL.out.2) (hroom1) HC.out rfl rfl (.inr ⟨Tryd.underlying9, _, rfl, by simp [Go.Lib.strCells, nums, ints]⟩) ?_; intro w5 hb5 hg5; have H5 := hidden (And.intro hb5 ((below_then HL.out.1.below HL.out.1.below.size HBA.out).grown hg5 (below_then HL.out.1.below HL.out.1.below.size HBA.out).size (fun k hk => by cases hk; exact HGW.out))); clear hb5 hg5)) | ((with_reducible refine at_dst 123 ?_); go_must (refine walk_app_buf (N := N) (y := ints (R.take 4)) rfl _ _ rfl Tryd.underlying32 size_u8U (H5.out.1) (by rw [List.length_append, HL.out.2]) (hroom2) HC.out rfl rfl (.inr ⟨Tryd.underlying9, _, rfl, HXS.out⟩) ?_; intro w6 hb5 hg5; have H6 := hidden (And.intro hb5 ((H5.out.2).grown hg5 (H5.out.2).size (fun k hk => by cases hk; exact HGW.out))); clear hb5 hg5)))
                    go_meet
                    exact ⟨R4, _, _, rfl, rfl, by have := HA.out.2.1; have := HR4.out.2; omega, by have := HA.out.2; have := HR4.out.2; omega, hidden ⟨FIN.out _ H6.out.1 H6.out.2, by rw [List.length_append, List.length_append, HL.out.2]⟩⟩
                  · have q2i : ((a0 : Int) == 92) = false := beq_eq_false_iff_ne.2 (by omega)
                    have q2j : ((a0 : Int) != 92) = true := by rw [bne, q2i]; rfl
                    clear hp q1 q2
                    go_wp2_with (first
                      | (go_at_call 64; ((with_reducible refine K4.out.mono ?_); rintro e wA ⟨hB, hE⟩; rw [HX4.out] at hE; dsimp only at hE; subst hE; have HBA := hidden hB; clear hB)) | (go_at_call 65; ((with_reducible refine (KS.out _).mono ?_); rintro e wq ⟨rfl, rfl⟩; dsimp only)) | ((with_reducible refine at_dst 120 ?_); go_must (refine walk_app_buf (N := N) (y := ints [92, 117]) rfl _ _ rfl Tryd.underlying32 size_u8U (HL.out.1.buf.below HBA.out HL.out.1.buf.lt) (HL.out.2) (hroom1) HC.out rfl rfl (.inr ⟨Tryd.underlying9, _, rfl, by simp [Go.Lib.strCells, nums, ints]⟩) ?_; intro w5 hb5 hg5; have H5 := hidden (And.intro hb5 ((below_then HL.out.1.below HL.out.1.below.size HBA.out).grown hg5 (below_then HL.out.1.below HL.out.1.below.size HBA.out).size (fun k hk => by cases hk; exact HGW.out))); clear hb5 hg5)) | ((with_reducible refine at_dst 123 ?_); go_must (refine walk_app_buf (N := N) (y := ints (R.take 4)) rfl _ _ rfl Tryd.underlying32 size_u8U (H5.out.1) (by rw [List.length_append, HL.out.2]) (hroom2) HC.out rfl rfl (.inr ⟨Tryd.underlying9, _, rfl, HXS.out⟩) ?_; intro w6 hb5 hg5; have H6 := hidden (And.intro hb5 ((H5.out.2).grown hg5 (H5.out.2).size (fun k hk => by cases hk; exact HGW.out))); clear hb5 hg5)))
                    go_meet
                    exact ⟨R4, _, _, rfl, rfl, by have := HA.out.2.1; have := HR4.out.2; omega, by have := HA.out.2; have := HR4.out.2; omega, hidden ⟨FIN.out _ H6.out.1 H6.out.2, by rw [List.length_append, List.length_append, HL.out.2]⟩⟩
              · have hp2 := hp
                rw [not_or, not_or] at hp2
                obtain ⟨p1, p2, p3⟩ := hp2
                have hsz : (R.drop 4).length = R4.size := by rw [← hR4b]; rfl
                rw [hsz] at p1
                rw [← hR4b] at p2 p3
                have q1i : ¬ (R4.size : Int) < 6 := by omega
                have g0 : 0 < R4.size := by omega
                have g1 : 1 < R4.size := by omega
                have g6 : 6 ≤ R4.size := by omega
                have gi0 : (0 : Int) < (R4.size : Int) := by omega
                have gi1 : (1 : Int) < (R4.size : Int) := by omega
                rw [get_at0 g0] at p2
                rw [get_at0 g1] at p3
                obtain ⟨c0, hc0⟩ : ∃ c, R4[0]'g0 = c := ⟨_, rfl⟩
                obtain ⟨c1, hc1⟩ : ∃ c, R4[1]'g1 = c := ⟨_, rfl⟩
                rw [hc0] at p2
                rw [hc1] at p3
                obtain rfl : c0 = 92 := by simpa using p2
                obtain rfl : c1 = 117 := by simpa using p3
                have t92 : (92 : UInt8).toNat = 92 := rfl
                have t117 : (117 : UInt8).toNat = 117 := rfl
                obtain ⟨Y4, hY4⟩ : ∃ X, R4.extract 2 6 = X := ⟨_, rfl⟩
                have hY4b : Y4 = bs ((R.drop 6).take 4) := by
                  rw [← hY4, ← bs_self R4, ex_mid, hR4b, List.drop_drop]
                have hly : ((R.drop 6).take 4).length = 4 := by rw [List.length_take, List.length_drop]; rw [List.length_drop] at hsz; omega
                have K5 : Hid (∀ W, SynAt W → Calls Tryd.prog 64 #[.string Y4, .int .i64 16, .int .i64 16] W (PS W ((R.drop 6).take 4))) := hidden (fun W h => by rw [hY4b]; exact parseS_calls _ hly W h)
                clear hY4b p1 p2 p3
                cases hy4 : hex4 ((R.drop 6).take 4) with
                | none =>
                  have HY4 := hidden hy4
                  have he : escB 117 R = ([92, 117] ++ R.take 4, R.drop 4) := by rw [esc_u]; exact escU_half2 h4n hx4 hb hp hy4
                  have HE := hidden he
                  have hroom := HL.out.1.rooms he
                  rw [ints_app, List.length_append] at hroom
                  have hroom1 : pre.length + (ints [92, 117]).length ≤ N := by omega
                  have hroom2 : (pre ++ ints [92, 117]).length + (ints (R.take 4)).length ≤ N := by rw [List.length_append]; omega
                  have FIN : Hid (∀ w6, Buf w6 g 5 N ((pre ++ ints [92, 117]) ++ ints (R.take 4)) → Below w.heap.size w w6 → MU s w w6 g N ((pre ++ ints [92, 117]) ++ ints (R.take 4)) R4.data.toList) := hidden (fun w6 h1 h2 => by
                    rw [HR4.out.1]
                    have h3 := HL.out.1.mu (w1 := w6) HE.out (by rw [ints_app, ← List.append_assoc]; exact h1) h2
                    rwa [ints_app, ← List.append_assoc] at h3)
                  clear he ha hx4 h4n hl4 hb hR4b hR4s hroom hsz hp hy4 hly
                  go_wp2_with (first
                    | (go_at_call 64; ((with_reducible refine K4.out.mono ?_); rintro e wA ⟨hB, hE⟩; rw [HX4.out] at hE; dsimp only at hE; subst hE; have HBA := hidden hB; clear hB)) | (go_at_call 65; ((with_reducible refine (KS.out _).mono ?_); rintro e wq ⟨rfl, rfl⟩; dsimp only)) | (go_at_call 64; ((with_reducible refine (K5.out wA (HSW.out.next HBA.out)).mono ?_); rintro e wB ⟨hB, hE⟩; rw [HY4.out] at hE; obtain ⟨T5, a5, rfl⟩ := hE; have HBB := hidden (below_next HBA.out hB); clear hB)) | ((with_reducible refine at_dst 133 ?_); go_must (refine walk_app_buf (N := N) (y := ints [92, 117]) rfl _ _ rfl Tryd.underlying32 size_u8U (HL.out.1.buf.below HBB.out HL.out.1.buf.lt) (HL.out.2) (hroom1) HC.out rfl rfl (.inr ⟨Tryd.underlying9, _, rfl, by simp [Go.Lib.strCells, nums, ints]⟩) ?_; intro w5 hb5 hg5; have H5 := hidden (And.intro hb5 ((below_then HL.out.1.below HL.out.1.below.size HBB.out).grown hg5 (below_then HL.out.1.below HL.out.1.below.size HBB.out).size (fun k hk => by cases hk; exact HGW.out))); clear hb5 hg5)) | ((with_reducible refine at_dst 136 ?_); go_must (refine walk_app_buf (N := N) (y := ints (R.take 4)) rfl _ _ rfl Tryd.underlying32 size_u8U (H5.out.1) (by rw [List.length_append, HL.out.2]) (hroom2) HC.out rfl rfl (.inr ⟨Tryd.underlying9, _, rfl, HXS.out⟩) ?_; intro w6 hb5 hg5; have H6 := hidden (And.intro hb5 ((H5.out.2).grown hg5 (H5.out.2).size (fun k hk => by cases hk; exact HGW.out))); clear hb5 hg5)))
                  go_meet
                  exact ⟨R4, _, _, rfl, rfl, by have := HA.out.2.1; have := HR4.out.2; omega, by have := HA.out.2; have := HR4.out.2; omega, hidden ⟨FIN.out _ H6.out.1 H6.out.2, by rw [List.length_append, List.length_append, HL.out.2]⟩⟩
                | some y =>
                  have HY4 := hidden hy4
                  have hyl := hex4_lt hly hy4
                  have hwy : IntKind.i32.wrap (y : Int) = (y : Int) := by rw [IntKind.wrap_i32]; omega
                  obtain ⟨z, hz⟩ : ∃ z, decR x y = z := ⟨_, rfl⟩
                  have KD : Hid (∀ W, Calls Tryd.prog 66 #[.int .i32 (x : Int), .int .i32 (y : Int)] W fun e w' => e = .returned (.int .i32 z) ∧ W = w') := hidden (fun W => by rw [← hz]; exact decR_calls x y HXL.out.1 hyl W)
                  obtain ⟨R9, hR9⟩ : ∃ X, R4.extract 6 R4.size = X := ⟨_, rfl⟩
                  have hR9b : R9.data.toList = R.drop 10 := by rw [← hR9, extract_drop, toL_bs, hR4b, List.drop_drop]
                  have hR9s : R9.size ≤ R4.size := by
                    have : R9.data.toList.length = R9.size := rfl
                    rw [← this, hR9b, ← hsz, List.length_drop, List.length_drop]; omega
                  have HR9 := hidden (And.intro hR9b hR9s)
                  have he : escB 117 R = (utf z, R.drop 10) := by rw [esc_u, ← hz]; exact escU_pair h4n hx4 hb hp hy4
                  have HE := hidden he
                  have hroom := HL.out.1.rooms he
                  clear he ha hx4 h4n hl4 hb hR4b hR4s hsz hp hy4 hly hyl hz hR9b hR9s
                  go_wp2_with (first
                    | (go_at_call 64; ((with_reducible refine K4.out.mono ?_); rintro e wA ⟨hB, hE⟩; rw [HX4.out] at hE; dsimp only at hE; subst hE; have HBA := hidden hB; clear hB)) | (go_at_call 65; ((with_reducible refine (KS.out _).mono ?_); rintro e wq ⟨rfl, rfl⟩; dsimp only)) | (go_at_call 64; ((with_reducible refine (K5.out wA (HSW.out.next HBA.out)).mono ?_); rintro e wB ⟨hB, hE⟩; rw [HY4.out] at hE; dsimp only at hE; subst hE; have HBB := hidden (below_next HBA.out hB); clear hB)) | (go_at_call 66; ((with_reducible refine (KD.out _).mono ?_); rintro e wq ⟨rfl, rfl⟩; dsimp only)) | ((with_reducible refine at_dst 145 ?_); go_must (refine walk_app_buf (N := N) (y := ints (utf z)) rfl _ _ rfl Tryd.underlying32 size_u8U (HL.out.1.buf.below HBB.out HL.out.1.buf.lt) (HL.out.2) (hroom) HC.out rfl rfl (.inr ⟨Tryd.underlying9, _, rfl, strCells_utf _⟩) ?_; intro w5 hb5 hg5; have H5 := hidden (And.intro hb5 ((below_then HL.out.1.below HL.out.1.below.size HBB.out).grown hg5 (below_then HL.out.1.below HL.out.1.below.size HBB.out).size (fun k hk => by cases hk; exact HGW.out))); clear hb5 hg5)))
                  go_meet
                  exact ⟨R9, _, _, rfl, rfl, by have := HA.out.2.1; have := HR4.out.2; have := HR9.out.2; omega, by have := HA.out.2; have := HR4.out.2; have := HR9.out.2; omega, hidden ⟨by rw [HR9.out.1]; exact HL.out.1.mu HE.out H5.out.1 H5.out.2, by rw [List.length_append, HL.out.2]⟩⟩
        by_cases h34 : a = 34
        · subst h34
          have he : escB c r.data.toList = ([34], r.data.toList) := by rw [u8_of 34 HA.out.1 rfl]; simp [escB, esc1]
          have HE := hidden he
          have hroom := HL.out.1.rooms he
          clear he ha
          go_wp2_with (at_builtin; go_must (refine walk_app_buf (N := N) (y := ints [34]) rfl _ _ rfl Tryd.underlying32 size_u8U (HL.out.1.buf.alloc _) (HL.out.2) (hroom) HC.out rfl rfl (.inl ⟨rfl, _, _, rfl, Rd.new wr 5 (nums .u8 [34]) _ rfl⟩) ?_; intro w5 hb5 hg5; have H5 := hidden (And.intro hb5 ((HL.out.1.below.trans (below_alloc0 wr _ |>.mono HL.out.1.below.size)).grown hg5 (Nat.le_trans HL.out.1.below.size (below_alloc0 wr _).size) (fun k hk => by cases hk; exact HGW.out))); clear hb5 hg5))
          go_meet
          exact ⟨r, _, _, rfl, rfl, by have := HA.out.2.1; omega, by have := HA.out.2; omega, hidden ⟨HL.out.1.mu HE.out H5.out.1 H5.out.2, by rw [List.length_append, HL.out.2]⟩⟩
        by_cases h92 : a = 92
        · subst h92
          have he : escB c r.data.toList = ([92], r.data.toList) := by rw [u8_of 92 HA.out.1 rfl]; simp [escB, esc1]
          have HE := hidden he
          have hroom := HL.out.1.rooms he
          clear he ha
          go_wp2_with (at_builtin; go_must (refine walk_app_buf (N := N) (y := ints [92]) rfl _ _ rfl Tryd.underlying32 size_u8U (HL.out.1.buf.alloc _) (HL.out.2) (hroom) HC.out rfl rfl (.inl ⟨rfl, _, _, rfl, Rd.new wr 5 (nums .u8 [92]) _ rfl⟩) ?_; intro w5 hb5 hg5; have H5 := hidden (And.intro hb5 ((HL.out.1.below.trans (below_alloc0 wr _ |>.mono HL.out.1.below.size)).grown hg5 (Nat.le_trans HL.out.1.below.size (below_alloc0 wr _).size) (fun k hk => by cases hk; exact HGW.out))); clear hb5 hg5))
          go_meet
          exact ⟨r, _, _, rfl, rfl, by have := HA.out.2.1; omega, by have := HA.out.2; omega, hidden ⟨HL.out.1.mu HE.out H5.out.1 H5.out.2, by rw [List.length_append, HL.out.2]⟩⟩
        by_cases h47 : a = 47
        · subst h47
          have he : escB c r.data.toList = ([47], r.data.toList) := by rw [u8_of 47 HA.out.1 rfl]; simp [escB, esc1]
          have HE := hidden he
          have hroom := HL.out.1.rooms he
          clear he ha
          go_wp2_with (at_builtin; go_must (refine walk_app_buf (N := N) (y := ints [47]) rfl _ _ rfl Tryd.underlying32 size_u8U (HL.out.1.buf.alloc _) (HL.out.2) (hroom) HC.out rfl rfl (.inl ⟨rfl, _, _, rfl, Rd.new wr 5 (nums .u8 [47]) _ rfl⟩) ?_; intro w5 hb5 hg5; have H5 := hidden (And.intro hb5 ((HL.out.1.below.trans (below_alloc0 wr _ |>.mono HL.out.1.below.size)).grown hg5 (Nat.le_trans HL.out.1.below.size (below_alloc0 wr _).size) (fun k hk => by cases hk; exact HGW.out))); clear hb5 hg5))
          go_meet
          exact ⟨r, _, _, rfl, rfl, by have := HA.out.2.1; omega, by have := HA.out.2; omega, hidden ⟨HL.out.1.mu HE.out H5.out.1 H5.out.2, by rw [List.length_append, HL.out.2]⟩⟩
        by_cases h98 : a = 98
        · subst h98
          have he : escB c r.data.toList = ([8], r.data.toList) := by rw [u8_of 98 HA.out.1 rfl]; simp [escB, esc1]
          have HE := hidden he
          have hroom := HL.out.1.rooms he
          clear he ha
          go_wp2_with (at_builtin; go_must (refine walk_app_buf (N := N) (y := ints [8]) rfl _ _ rfl Tryd.underlying32 size_u8U (HL.out.1.buf.alloc _) (HL.out.2) (hroom) HC.out rfl rfl (.inl ⟨rfl, _, _, rfl, Rd.new wr 5 (nums .u8 [8]) _ rfl⟩) ?_; intro w5 hb5 hg5; have H5 := hidden (And.intro hb5 ((HL.out.1.below.trans (below_alloc0 wr _ |>.mono HL.out.1.below.size)).grown hg5 (Nat.le_trans HL.out.1.below.size (below_alloc0 wr _).size) (fun k hk => by cases hk; exact HGW.out))); clear hb5 hg5))
          go_meet
          exact ⟨r, _, _, rfl, rfl, by have := HA.out.2.1; omega, by have := HA.out.2; omega, hidden ⟨HL.out.1.mu HE.out H5.out.1 H5.out.2, by rw [List.length_append, HL.out.2]⟩⟩
        by_cases h102 : a = 102
        · subst h102
          have he : escB c r.data.toList = ([12], r.data.toList) := by rw [u8_of 102 HA.out.1 rfl]; simp [escB, esc1]
          have HE := hidden he
          have hroom := HL.out.1.rooms he
          clear he ha
          go_wp2_with (at_builtin; go_must (refine walk_app_buf (N := N) (y := ints [12]) rfl _ _ rfl Tryd.underlying32 size_u8U (HL.out.1.buf.alloc _) (HL.out.2) (hroom) HC.out rfl rfl (.inl ⟨rfl, _, _, rfl, Rd.new wr 5 (nums .u8 [12]) _ rfl⟩) ?_; intro w5 hb5 hg5; have H5 := hidden (And.intro hb5 ((HL.out.1.below.trans (below_alloc0 wr _ |>.mono HL.out.1.below.size)).grown hg5 (Nat.le_trans HL.out.1.below.size (below_alloc0 wr _).size) (fun k hk => by cases hk; exact HGW.out))); clear hb5 hg5))
          go_meet
          exact ⟨r, _, _, rfl, rfl, by have := HA.out.2.1; omega, by have := HA.out.2; omega, hidden ⟨HL.out.1.mu HE.out H5.out.1 H5.out.2, by rw [List.length_append, HL.out.2]⟩⟩
        by_cases h110 : a = 110
        · subst h110
          have he : escB c r.data.toList = ([10], r.data.toList) := by rw [u8_of 110 HA.out.1 rfl]; simp [escB, esc1]
          have HE := hidden he
          have hroom := HL.out.1.rooms he
          clear he ha
          go_wp2_with (at_builtin; go_must (refine walk_app_buf (N := N) (y := ints [10]) rfl _ _ rfl Tryd.underlying32 size_u8U (HL.out.1.buf.alloc _) (HL.out.2) (hroom) HC.out rfl rfl (.inl ⟨rfl, _, _, rfl, Rd.new wr 5 (nums .u8 [10]) _ rfl⟩) ?_; intro w5 hb5 hg5; have H5 := hidden (And.intro hb5 ((HL.out.1.below.trans (below_alloc0 wr _ |>.mono HL.out.1.below.size)).grown hg5 (Nat.le_trans HL.out.1.below.size (below_alloc0 wr _).size) (fun k hk => by cases hk; exact HGW.out))); clear hb5 hg5))
          go_meet
          exact ⟨r, _, _, rfl, rfl, by have := HA.out.2.1; omega, by have := HA.out.2; omega, hidden ⟨HL.out.1.mu HE.out H5.out.1 H5.out.2, by rw [List.length_append, HL.out.2]⟩⟩
        by_cases h114 : a = 114
        · subst h114
          have he : escB c r.data.toList = ([13], r.data.toList) := by rw [u8_of 114 HA.out.1 rfl]; simp [escB, esc1]
          have HE := hidden he
          have hroom := HL.out.1.rooms he
          clear he ha
          go_wp2_with (at_builtin; go_must (refine walk_app_buf (N := N) (y := ints [13]) rfl _ _ rfl Tryd.underlying32 size_u8U (HL.out.1.buf.alloc _) (HL.out.2) (hroom) HC.out rfl rfl (.inl ⟨rfl, _, _, rfl, Rd.new wr 5 (nums .u8 [13]) _ rfl⟩) ?_; intro w5 hb5 hg5; have H5 := hidden (And.intro hb5 ((HL.out.1.below.trans (below_alloc0 wr _ |>.mono HL.out.1.below.size)).grown hg5 (Nat.le_trans HL.out.1.below.size (below_alloc0 wr _).size) (fun k hk => by cases hk; exact HGW.out))); clear hb5 hg5))
          go_meet
          exact ⟨r, _, _, rfl, rfl, by have := HA.out.2.1; omega, by have := HA.out.2; omega, hidden ⟨HL.out.1.mu HE.out H5.out.1 H5.out.2, by rw [List.length_append, HL.out.2]⟩⟩
        by_cases h116 : a = 116
        · subst h116
          have he : escB c r.data.toList = ([9], r.data.toList) := by rw [u8_of 116 HA.out.1 rfl]; simp [escB, esc1]
          have HE := hidden he
          have hroom := HL.out.1.rooms he
          clear he ha
          go_wp2_with (at_builtin; go_must (refine walk_app_buf (N := N) (y := ints [9]) rfl _ _ rfl Tryd.underlying32 size_u8U (HL.out.1.buf.alloc _) (HL.out.2) (hroom) HC.out rfl rfl (.inl ⟨rfl, _, _, rfl, Rd.new wr 5 (nums .u8 [9]) _ rfl⟩) ?_; intro w5 hb5 hg5; have H5 := hidden (And.intro hb5 ((HL.out.1.below.trans (below_alloc0 wr _ |>.mono HL.out.1.below.size)).grown hg5 (Nat.le_trans HL.out.1.below.size (below_alloc0 wr _).size) (fun k hk => by cases hk; exact HGW.out))); clear hb5 hg5))
          go_meet
          exact ⟨r, _, _, rfl, rfl, by have := HA.out.2.1; omega, by have := HA.out.2; omega, hidden ⟨HL.out.1.mu HE.out H5.out.1 H5.out.2, by rw [List.length_append, HL.out.2]⟩⟩
        have he : escB c r.data.toList = ([92, c], r.data.toList) := by
          have hh := HA.out.1
          have n0 := u8_neq 117 hh (fun e => hu e.symm)
          have n34 := u8_neq 34 hh (fun e => h34 e.symm)
          have n92 := u8_neq 92 hh (fun e => h92 e.symm)
          have n47 := u8_neq 47 hh (fun e => h47 e.symm)
          have n98 := u8_neq 98 hh (fun e => h98 e.symm)
          have n102 := u8_neq 102 hh (fun e => h102 e.symm)
          have n110 := u8_neq 110 hh (fun e => h110 e.symm)
          have n114 := u8_neq 114 hh (fun e => h114 e.symm)
          have n116 := u8_neq 116 hh (fun e => h116 e.symm)
          simp [escB, esc1, n0, n34, n92, n47, n98, n102, n110, n114, n116]
        have e34 : ((a : Int) == 34) = false := beq_eq_false_iff_ne.2 (by omega)
        have e92 : ((a : Int) == 92) = false := beq_eq_false_iff_ne.2 (by omega)
        have e47 : ((a : Int) == 47) = false := beq_eq_false_iff_ne.2 (by omega)
        have e98 : ((a : Int) == 98) = false := beq_eq_false_iff_ne.2 (by omega)
        have e102 : ((a : Int) == 102) = false := beq_eq_false_iff_ne.2 (by omega)
        have e110 : ((a : Int) == 110) = false := beq_eq_false_iff_ne.2 (by omega)
        have e114 : ((a : Int) == 114) = false := beq_eq_false_iff_ne.2 (by omega)
        have e116 : ((a : Int) == 116) = false := beq_eq_false_iff_ne.2 (by omega)
        have e117 : ((a : Int) == 117) = false := beq_eq_false_iff_ne.2 (by omega)
        have HE := hidden he
        have hroom := HL.out.1.rooms he
        have hcc : ints [92, c] = [92, (a : Int)] := by have := HA.out.1; simp [ints, this]
        have HCC := hidden hcc
        clear he ha hcc hu h34 h92 h47 h98 h102 h110 h114 h116
        go_wp2_with (at_builtin; go_must (refine walk_app_buf (N := N) (y := ints [92, c]) rfl _ _ rfl Tryd.underlying32 size_u8U (HL.out.1.buf.alloc _) (HL.out.2) (hroom) HC.out rfl rfl (.inl ⟨rfl, _, _, rfl, by rw [HCC.out]; exact Rd.new wr 5 (nums .u8 [92, (a : Int)]) _ rfl⟩) ?_; intro w5 hb5 hg5; have H5 := hidden (And.intro hb5 ((HL.out.1.below.trans (below_alloc0 wr _ |>.mono HL.out.1.below.size)).grown hg5 (Nat.le_trans HL.out.1.below.size (below_alloc0 wr _).size) (fun k hk => by cases hk; exact HGW.out))); clear hb5 hg5))
        go_meet
        exact ⟨r, _, _, rfl, rfl, by have := HA.out.2.1; omega, by have := HA.out.2; omega, hidden ⟨HL.out.1.mu HE.out H5.out.1 H5.out.2, by rw [List.length_append, HL.out.2]⟩⟩
      case rest =>
        clear HL HA ha c r
        obtain ⟨s1, p1, n1, rfl, rfl, hlt, hsN, HM⟩ := hcut
        by_cases h9 : (92 : UInt8) ∈ s1.data.toList
        · obtain ⟨e1, _⟩ := unAZ _ h9
          obtain ⟨k, hk⟩ : ∃ k, (unA s1.data.toList).length = k := ⟨_, rfl⟩
          have HI : Hid (Go.Lib.indexByte s1.data.toList (92 : Int).toNat.toUInt8 = (k : Int)) := hidden (by rw [← hk]; exact idx_at _ h9)
          have hsz : s1.size = k + 1 + (unZ s1.data.toList).length := by
            have := congrArg List.length e1
            simp only [List.length_append, List.length_cons] at this
            have e : s1.data.toList.length = s1.size := rfl
            omega
          obtain ⟨X, hX⟩ : ∃ X, s1.extract 0 k = X := ⟨_, rfl⟩
          have hXb : X = bs (unA s1.data.toList) := by
            rw [← hX, extract_take]
            congr 1
            conv => { lhs; arg 2; rw [e1] }
            exact List.take_left' hk
          obtain ⟨Y, hY⟩ : ∃ X, s1.extract (k + 1) s1.size = X := ⟨_, rfl⟩
          have hYb : Y.data.toList = unZ s1.data.toList := by
            rw [← hY, extract_drop, toL_bs]
            conv => { lhs; arg 2; rw [e1] }
            rw [show unA s1.data.toList ++ 92 :: unZ s1.data.toList = (unA s1.data.toList ++ [92]) ++ unZ s1.data.toList from by simp]
            exact List.drop_left' (by simp [hk])
          have hYs : Y.size + k + 1 = s1.size := by
            have e : Y.data.toList.length = Y.size := rfl
            rw [← e, hYb]; omega
          have HXS : Hid (Go.Lib.strCells X = nums .u8 (ints (unA s1.data.toList))) := hidden (by rw [hXb]; exact strCells_bs _)
          have hroom : p1.length + (ints (unA s1.data.toList)).length ≤ N := by
            have := HM.out.1.len
            rw [ints_len, hk]
            have e : s1.data.toList.length = s1.size := rfl
            omega
          have HY := hidden (And.intro hYb (And.intro hYs hk))
          have hk0 : ¬ (k : Int) < 0 := by omega
          have hks : k ≤ s1.size := by omega
          have hks1 : k + 1 ≤ s1.size := by omega
          have hwk : IntKind.i64.wrap ((k : Int) + 1) = (k : Int) + 1 := by have := HS0.out.2.2.2.2; rw [IntKind.wrap_i64]; omega
          have HHH := hidden (And.intro hlt hsN)
          clear e1 h9 hk hsz hXb hYb hYs hlt hsN
          go_wp2_with (first
            | (go_at_call 57; go_must (refine (idx_calls _ _ _).mono ?_; rintro e wq ⟨rfl, rfl⟩; rw [HI.out]))
            | ((with_reducible refine at_dst 159 ?_); go_must (refine walk_app_buf (N := N) (y := ints (unA s1.data.toList)) rfl _ _ rfl Tryd.underlying32 size_u8U (HM.out.1.buf) (HM.out.2) (hroom) HC.out rfl rfl (.inr ⟨Tryd.underlying9, _, rfl, HXS.out⟩) ?_; intro w5 hb5 hg5; have H5 := hidden (And.intro hb5 ((HM.out.1.below).grown hg5 (HM.out.1.below).size (fun k hk => by cases hk; exact HGW.out))); clear hb5 hg5)))
          go_roundw
          case rel => exact ⟨Y, _, _, rfl, rfl, by have := HHH.out.2; have := HY.out.2.1; omega, hidden ⟨⟨H5.out.1, H5.out.2, by
            rw [List.length_append, ints_len, HY.out.2.2]
            have h1 := HM.out.1.len
            have h2 := HY.out.2.1
            have e : Y.data.toList.length = Y.size := rfl
            have e' : s1.data.toList.length = s1.size := rfl
            omega, by
            rw [List.append_assoc, ← ints_app, HY.out.1, unT_fuel (unZ s1.data.toList).length s1.data.toList.length _ (Nat.le_refl _) (unZ_len _)]
            exact HM.out.1.eq⟩, by rw [List.length_append, HM.out.2]⟩⟩
          case measure =>
            have h1 := HHH.out.1
            have h2 := HY.out.2.1
            show Y.size < sk.size
            omega
        · obtain ⟨e1, e2⟩ := unA_no _ h9
          have HI : Hid (Go.Lib.indexByte s1.data.toList (92 : Int).toNat.toUInt8 = -1) := hidden (indexByte_no 92 _ h9)
          have hroom : p1.length + (ints s1.data.toList).length ≤ N := by rw [ints_len]; exact HM.out.1.len
          have hfin : p1 ++ ints s1.data.toList = ints (unB s) := by
            have := HM.out.1.eq
            rw [e1, e2] at this
            have hT : unT s1.data.toList.length [] = [] := by cases s1.data.toList.length <;> rfl
            rw [hT, List.append_nil] at this
            exact this
          have HF := hidden hfin
          have K2 : Hid (∀ W n2, n2 = n1 + (ints s1.data.toList).length → Buf W g 5 N (p1 ++ ints s1.data.toList) → Calls Tryd.prog 54 #[.slice (some ⟨g, 0, none⟩) n2 cc] W fun e w' => e = .returned (.string (bs (unB s))) ∧ W = w') := hidden (fun W n2 hn h => b2s_calls (some ⟨g, 0, none⟩) n2 cc (bs (unB s)) W (by rw [ints_bI, ← HF.out]; exact h.rd) (by rw [size_bs, ← ints_len, ← HF.out, List.length_append, HM.out.2, hn]))
          clear e1 e2 h9 hfin hlt hsN
          go_wp2_with (first
            | (go_at_call 57; go_must (refine (idx_calls _ _ _).mono ?_; rintro e wq ⟨rfl, rfl⟩; rw [HI.out]))
            | ((with_reducible refine at_dst 154 ?_); go_must (refine walk_app_buf (N := N) (y := ints s1.data.toList) rfl _ _ rfl Tryd.underlying32 size_u8U (HM.out.1.buf) (HM.out.2) (hroom) HC.out rfl rfl (.inr ⟨Tryd.underlying9, _, rfl, strCells_ints _⟩) ?_; intro w5 hb5 hg5; have H5 := hidden (And.intro hb5 ((HM.out.1.below).grown hg5 (HM.out.1.below).size (fun k hk => by cases hk; exact HGW.out))); clear hb5 hg5))
            | (go_at_call 54; go_must (refine (K2.out _ _ rfl H5.out.1).mono ?_; rintro e wq ⟨rfl, rfl⟩)))
          go_ret
          exact ⟨rfl, H5.out.2⟩
end Go.Proofs.YtbdmdajbdmdknaaDoor
