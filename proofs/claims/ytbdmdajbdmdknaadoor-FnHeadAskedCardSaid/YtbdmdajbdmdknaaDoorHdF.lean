/- (*spec.headStyle).text: the walk. -/
import Derived.Test.YtbdmdajbdmdknaaDoorHdE
namespace Go.Proofs.YtbdmdajbdmdknaaDoor
open Go.RowKit
set_option linter.unusedVariables false
set_option linter.unusedSimpArgs false

/-- A round's end. -/
theorem tx_leaf {w wr W : World} {g : Nat} {st0 : Int} {s : ByteArray} {pos fuel : Nat} {st : Int} {o : Bs} {pos2 fuel2 : Nat} {st2 : Int} {o2 : Bs} {x : ByteArray} (h : TxAt w wr g st0 s pos fuel st o) (h2 : TxAt w W g st0 s pos2 fuel2 st2 o2) (hx : x = bs o2) (hp : pos < s.size) (hlt : pos < pos2) :
    (∃ pos fuel st o_1, Value.string x = Value.string (bs o_1) ∧ Hid (TxAt w W g st0 s pos fuel st o_1)) ∧ s.size - W.iterPos w.heap.size < s.size - wr.iterPos w.heap.size := by
  refine ⟨⟨pos2, fuel2, st2, o2, by rw [hx], h2⟩, ?_⟩
  simp only [World.iterPos, h.it, h2.it]
  omega
theorem bs_nil_ne {sh : Bs} (h : ¬ sh = []) : ((bs sh).toList == []) = false := by
  rw [beq_eq_false_iff_ne, Lib.toList_data, toL_bs]; exact h
theorem wrap32_id (x : Int) (h0 : 0 ≤ x) (h1 : x ≤ 2000000) : wrap32 x = x := by unfold wrap32; omega
theorem hexHi_calls (ci : Int) (c : Nat) (h1 : (c : Int) = ci) (h2 : c ≤ 1114111) (h3 : (65536 : Int) ≤ ci) (W : World) : Calls Tryd.prog 39 #[.int .i32 (wrap32 (55296 + wrap32 (ci - 65536) / 1024))] W fun e w' => e = .returned (.string (bs (hexU (55296 + (c - 65536) / 1024) 4))) ∧ w' = W := by
  have e1 : wrap32 (ci - 65536) = ((c - 65536 : Nat) : Int) := by rw [wrap32_id _ (by omega) (by omega)]; omega
  have e2 : wrap32 (55296 + wrap32 (ci - 65536) / 1024) = ((55296 + (c - 65536) / 1024 : Nat) : Int) := by rw [e1, wrap32_id _ (by omega) (by omega)]; omega
  rw [e2]
  exact headHex_calls _ (by omega) W
theorem band1023 (m : Nat) (hm : m < 2000000) : bits .and .i32 (m : Int) 1023 = ((m % 1024 : Nat) : Int) := by
  have h : (BitVec.ofInt 32 (m : Int) &&& BitVec.ofInt 32 1023).toNat = m % 1024 := by
    rw [BitVec.ofInt_natCast, BitVec.toNat_and, BitVec.toNat_ofNat]
    have h15 : (BitVec.ofInt 32 1023).toNat = 2 ^ 10 - 1 := by decide
    rw [h15, Nat.and_two_pow_sub_one_eq_mod]
    omega
  show IntKind.i32.wrap ((BitVec.ofInt 32 (m : Int) &&& BitVec.ofInt 32 1023).toNat : Int) = _
  rw [h, IntKind.wrap_i32]
  omega
theorem hexLo_calls (ci : Int) (c : Nat) (h1 : (c : Int) = ci) (h2 : c ≤ 1114111) (h3 : (65536 : Int) ≤ ci) (W : World) : Calls Tryd.prog 39 #[.int .i32 (wrap32 (56320 + bits .and .i32 (wrap32 (ci - 65536)) 1023))] W fun e w' => e = .returned (.string (bs (hexU (56320 + (c - 65536) % 1024) 4))) ∧ w' = W := by
  have e1 : wrap32 (ci - 65536) = ((c - 65536 : Nat) : Int) := by rw [wrap32_id _ (by omega) (by omega)]; omega
  have e2 : wrap32 (56320 + bits .and .i32 (wrap32 (ci - 65536)) 1023) = ((56320 + (c - 65536) % 1024 : Nat) : Int) := by rw [e1, band1023 _ (by omega), wrap32_id _ (by omega) (by omega)]; omega
  rw [e2]
  exact headHex_calls _ (by omega) W
theorem hex1_calls (ci : Int) (c : Nat) (h1 : (c : Int) = ci) (h3 : ¬ (65536 : Int) ≤ ci) (W : World) : Calls Tryd.prog 39 #[.int .i32 ci] W fun e w' => e = .returned (.string (bs (hexU c 4))) ∧ w' = W := by
  rw [← h1]
  exact headHex_calls _ (by omega) W
theorem grown_more {w1 w2 w3 : World} {g : Nat} (h : w1.grownBy w2 (some g)) (h2 : w2.grownBy w3 (some g)) : w1.grownBy w3 (some g) :=
  ⟨h2.os.trans h.os, h2.tape.trans h.tape, h2.output.trans h.output, Nat.le_trans h.size h2.size, fun k hk hne => (h2.block k (Nat.lt_of_lt_of_le hk h.size) hne).trans (h.block k hk hne)⟩
set_option maxRecDepth 100000 in
set_option maxHeartbeats 2000000 in
theorem text_calls (g : Nat) (st0 : Int) (s : ByteArray) (hs : s.size ≤ 1000000) (w : World) (h : StyAt w g st0) :
    Calls Tryd.prog 27 #[.pointer (some ⟨g, 0, none⟩), .string s] w fun e w' => e = .returned (.string (bs (34 :: ((textS st0 (runesOf s s.size 0)).1 ++ [34])))) ∧ StyAt w' g (textS st0 (runesOf s s.size 0)).2 ∧ w.grownBy w' (some g) := by
  have hg : g < w.heap.size := h.lt
  obtain ⟨F, hF⟩ : ∃ F, textS st0 (runesOf s s.size 0) = F := ⟨_, rfl⟩
  have HF := hidden hF
  rw [hF]
  clear hF
  go_enter Tryd.func27, Tryd.ntmps27
  go_wp2
  go_loopw [5] (fun v wr => ∃ (pos fuel : Nat) (st : Int) (o : Bs), v = .string (bs o) ∧ Hid (TxAt w wr g st0 s pos fuel st o)) (fun _ wr => s.size - wr.iterPos w.heap.size)
  case atStart =>
    refine ⟨0, s.size, st0, [34], rfl, hidden ⟨?_, ?_, ?_, ?_, by omega, rfl, rfl⟩⟩
    · exact h.alloc _
    · simpa using World.iter_heap w s 0
    · exact grown_below (B := 0) (below_alloc0 w _) _
    · simp; omega
  case round =>
    obtain ⟨pos, fuel, st, o, rfl, HT⟩ := hrel
    have hit := HT.out.it
    have ho : (bs o).size ≤ 12000001 := by rw [size_bs]; have := HT.out.len; omega
    by_cases hp : pos < s.size
    · have hnx : ∀ ty, (Instr.next (.pointer (some ⟨w.heap.size, 0, none⟩)) true ty).run Tryd.prog wr = _ := fun ty => Lib.run_next_any_at wr w.heap.size s pos ty hit hp
      have HS := hidden (fun (W : World) hS hG => HT.out.step (W := W) hg hp hS hG)
      have hc := Lib.rune_le s pos
      have HW1 : Hid (StyAt (wr.iterAt w.heap.size s (pos + (Utf8.decode s pos).2)) g st) := hidden (HT.out.sty.below (Lib.below_iterAt (Below.refl w.heap.size wr) (k := w.heap.size) (Nat.le_refl _) s (pos + (Utf8.decode s pos).2)) hg)
      have hwd := width_pos s pos hp
      obtain ⟨c, hcc⟩ : ∃ c, (Utf8.decode s pos).1 = c := ⟨_, rfl⟩
      obtain ⟨wd, hwdd⟩ : ∃ c, (Utf8.decode s pos).2 = c := ⟨_, rfl⟩
      rw [hcc] at hc HS hnx
      obtain ⟨ci, hci⟩ : ∃ x : Int, (c : Int) = x := ⟨_, rfl⟩
      rw [hci] at hnx
      have HCI := hidden (And.intro hci hc)
      rw [hwdd] at hwd HS HW1 hnx
      clear hcc hwdd hci hc
      go_upto_region 5 with (fail)
      refine wpAbs (fun W => Hid (StyAt W g st) ∧ Hid (∀ W2, StyAt W2 g (runeS st c).2 → W.grownBy W2 (some g) → TxAt w W2 g st0 s (pos + wd) (fuel - 1) (runeS st c).2 (o ++ (runeS st c).1))) ⟨HW1, hidden (fun W2 h1 h2 => HS.out W2 h1 h2)⟩ ?_
      clear HS HW1 hnx hit
      rintro W1 ⟨HW1, HS⟩
      have hsl := shortB_len ci
      obtain ⟨sh, hsh⟩ : ∃ x, shortB ci = x := ⟨_, rfl⟩
      rw [hsh] at hsl
      have KSH : Hid (Calls Tryd.prog 38 #[.int .i32 ci] W1 fun e w' => e = .returned (.string (bs sh)) ∧ w' = W1) := hidden (by rw [← hsh]; exact headShort_calls ci W1)
      go_upto_region 6 with (go_at_call 38; go_must (refine KSH.out.mono ?_; rintro e w2 ⟨rfl, rfl⟩))
      clear KSH
      have hcell : w2.cell? ⟨g, 0, none⟩ = some (.int .u64 st) := HW1.out.cell 0
      have hne : ¬ sh = [] → ((bs sh).toList == []) = false := bs_nil_ne
      obtain ⟨shB, hshB⟩ : ∃ x, bs sh = x := ⟨_, rfl⟩
      have hshz : shB.size ≤ 2 := by rw [← hshB, size_bs]; exact hsl
      have ho2 : o.length = (bs o).size := (size_bs o).symm
      rw [hshB] at hne ⊢
      have HSH := hidden (And.intro hsh (And.intro hshB hne))
      have HOO := hidden ho2
      clear hsh hshB hne hsl ho2
      obtain ⟨oB, hoB⟩ : ∃ x, bs o = x := ⟨_, rfl⟩
      rw [hoB] at ho ⊢
      have HOB := hidden hoB
      clear hoB
      obtain ⟨M, hM⟩ : ∃ M : Bool, decide (mustR ci) = M := ⟨_, rfl⟩
      have HM := hidden hM
      clear hM
      go_cut [9] from 88 (fun s9 wx => s9 = .bool M ∧ wx = w2)
      case first =>
        by_cases m1 : ci < 32
        · have e : M = true := by rw [← HM.out, decide_eq_true_eq]; exact .inl m1
          subst e
          go_wp2
          go_meet
          case rel => exact ⟨rfl, rfl⟩
        by_cases m2 : ci = 34
        · have e : M = true := by rw [← HM.out, decide_eq_true_eq]; exact .inr (.inl m2)
          subst e
          have e1 : (ci == 34) = true := by rw [beq_iff_eq]; exact m2
          clear m2
          go_wp2
          go_meet
          case rel => exact ⟨rfl, rfl⟩
        have e2 : (ci == 34) = false := by rw [beq_eq_false_iff_ne]; exact m2
        by_cases m3 : ci = 92
        · have e : M = true := by rw [← HM.out, decide_eq_true_eq]; exact .inr (.inr m3)
          subst e
          have e1 : (ci == 92) = true := by rw [beq_iff_eq]; exact m3
          clear m2 m3
          go_wp2
          go_meet
          case rel => exact ⟨rfl, rfl⟩
        have e3 : (ci == 92) = false := by rw [beq_eq_false_iff_ne]; exact m3
        have e : M = false := by rw [← HM.out, decide_eq_false_iff_not]; rintro (h | h | h); exact m1 h; exact m2 h; exact m3 h
        subst e
        clear m2 m3
        go_wp2
        go_meet
        case rel => exact ⟨rfl, rfl⟩
      case rest =>
        obtain ⟨rfl, rfl⟩ := hcut
        go_upto_region 7 with (fail)
        go_cut [10] from 88 (fun s10 wx => ∃ (E : Bool) (st2 : Int), s10 = .bool E ∧ Hid (StyAt wx g st2 ∧ wc.grownBy wx (some g) ∧ runeS st c = (if E then escS st2 c else (encR c, st2))))
        case first =>
          cases M with
          | true =>
            have HR : Hid (runeS st c = escS st c) := hidden (by unfold runeS; rw [if_pos (by rw [HCI.out.1]; exact of_decide_eq_true HM.out)])
            go_wp2
            go_meet
            case rel => exact ⟨true, st, rfl, hidden ⟨HW1.out, World.grownBy.refl _ _, HR.out⟩⟩
          | false =>
            have HNM : Hid (¬ mustR (c : Int)) := hidden (by rw [HCI.out.1]; exact of_decide_eq_false HM.out)
            by_cases hst : st = 0
            · have HR : Hid (runeS st c = (encR c, st)) := hidden (by unfold runeS; rw [if_neg HNM.out, if_pos hst])
              go_wp2
              go_meet
              case rel => exact ⟨false, st, rfl, hidden ⟨HW1.out, World.grownBy.refl _ _, HR.out⟩⟩
            · have K5 := hidden (nextS_calls g st 5 wc HW1.out (by decide))
              have HR : Hid (runeS st c = (if (st != 0 && lcgN st 5 == 0) = true then escS (lcg st) c else (encR c, lcg st))) := hidden (by
                unfold runeS
                rw [if_neg HNM.out, if_neg hst]
                by_cases h5 : lcgN st 5 = 0
                · rw [if_pos h5, if_pos (by simp [hst, h5])]
                · rw [if_neg h5, if_neg (by simp [h5])])
              obtain ⟨n5, hn5⟩ : ∃ x, lcgN st 5 = x := ⟨_, rfl⟩
              rw [hn5] at K5 HR
              clear hn5
              go_wp2_with (go_at_call 37; go_must (refine K5.out.mono ?_; rintro e w3 ⟨rfl, hS3, hG3⟩; have HS3 := hidden hS3; have HG3 := hidden hG3; clear hS3 hG3))
              go_meet
              case rel => exact ⟨st != 0 && n5 == 0, lcg st, rfl, hidden ⟨HS3.out, HG3.out, HR.out⟩⟩
        case rest =>
          obtain ⟨E, st2, rfl, HE⟩ := hcut
          cases E with
          | false =>
            have HR : Hid (runeS st c = (encR c, st2)) := hidden HE.out.2.2
            have hez := encode_size_le ci
            clear hcell
            go_wp2
            have HLF := hidden (HS.out _ (by rw [HR.out]; exact HE.out.1) HE.out.2.1)
            exact tx_leaf HT.out HLF.out (by rw [HR.out, ← HOB.out]; rw [← bs_app]; rw [encR, HCI.out.1, bs_self]) hp (by omega)
          | true =>
            have hcell2 : wc.cell? ⟨g, 0, none⟩ = some (.int .u64 st2) := HE.out.1.cell 0
            clear hcell
            go_upto_region 11 with (fail)
            go_cut [52] from 88 (fun s52 wx => ∃ (S : Bool) (st3 : Int), s52 = .bool S ∧ Hid (StyAt wx g st3 ∧ wc.grownBy wx (some g) ∧ runeS st c = (if S then sh else hexR c, st3)))
            case first =>
              by_cases hse : sh = []
              · obtain rfl : shB = ⟨#[]⟩ := by rw [← HSH.out.2.1, hse]; rfl
                have HR : Hid (runeS st c = (hexR c, st2)) := hidden (HE.out.2.2.trans (by rw [if_pos rfl]; unfold escS; rw [if_pos (by rw [HCI.out.1]; exact HSH.out.1.trans hse)]))
                go_wp2
                go_meet
                case rel => exact ⟨false, st2, rfl, hidden ⟨HE.out.1, World.grownBy.refl _ _, HR.out⟩⟩
              · have hn0 := HSH.out.2.2 hse
                have hshc : shortB (c : Int) = sh := by rw [HCI.out.1]; exact HSH.out.1
                have HSC := hidden hshc
                clear hshc
                by_cases hs0 : st2 = 0
                · have HR : Hid (runeS st c = (sh, st2)) := hidden (HE.out.2.2.trans (by rw [if_pos rfl]; unfold escS; rw [HSC.out, if_neg hse, if_pos hs0]))
                  go_wp2
                  go_meet
                  case rel => exact ⟨true, _, rfl, hidden ⟨HE.out.1, World.grownBy.refl _ _, HR.out⟩⟩
                · have K2 := hidden (nextS_calls g st2 2 wc HE.out.1 (by decide))
                  have HR : Hid (runeS st c = (if (st2 == 0 || lcgN st2 2 == 0) = true then sh else hexR c, lcg st2)) := hidden (HE.out.2.2.trans (by
                    rw [if_pos rfl]
                    unfold escS
                    rw [HSC.out, if_neg hse, if_neg hs0]
                    by_cases h5 : lcgN st2 2 = 0
                    · rw [if_pos h5, if_pos (by simp [h5])]
                    · rw [if_neg h5, if_neg (by simp [hs0, h5])]))
                  obtain ⟨n5, hn5⟩ : ∃ x, lcgN st2 2 = x := ⟨_, rfl⟩
                  rw [hn5] at K2 HR
                  clear hn5
                  go_wp2_with (go_at_call 37; go_must (refine K2.out.mono ?_; rintro e w3 ⟨rfl, hS3, hG3⟩; have HS3 := hidden hS3; have HG3 := hidden hG3; clear hS3 hG3))
                  go_meet
                  case rel => exact ⟨st2 == 0 || n5 == 0, lcg st2, rfl, hidden ⟨HS3.out, HG3.out, HR.out⟩⟩
            case rest =>
              obtain ⟨S, st3, rfl, HT3⟩ := hcut
              have HG6 := hidden (grown_more HE.out.2.1 HT3.out.2.1)
              clear hcell2
              cases S with
              | true =>
                have HR : Hid (runeS st c = (sh, st3)) := hidden HT3.out.2.2
                go_wp2
                have HLF := hidden (HS.out _ (by rw [HR.out]; exact HT3.out.1) HG6.out)
                exact tx_leaf HT.out HLF.out (by rw [HR.out, ← HOB.out, ← HSH.out.2.1, bs_app]) hp (by omega)
              | false =>
                have HR0 : Hid (runeS st c = (hexR c, st3)) := hidden HT3.out.2.2
                by_cases h16 : (65536 : Int) ≤ ci
                · have HR : Hid (runeS st c = (hexU (55296 + (c - 65536) / 1024) 4 ++ hexU (56320 + (c - 65536) % 1024) 4, st3)) := hidden (HR0.out.trans (by rw [hexR, if_pos (by have := HCI.out.1; omega)]))
                  have KX := hidden (hexHi_calls ci c HCI.out.1 HCI.out.2 h16 wc)
                  have KY := hidden (hexLo_calls ci c HCI.out.1 HCI.out.2 h16 wc)
                  have hz1 : (bs (hexU (55296 + (c - 65536) / 1024) 4)).size = 6 := by rw [size_bs, hexU_len]
                  have hz2 : (bs (hexU (56320 + (c - 65536) % 1024) 4)).size = 6 := by rw [size_bs, hexU_len]
                  obtain ⟨X, hX⟩ : ∃ x, bs (hexU (55296 + (c - 65536) / 1024) 4) = x := ⟨_, rfl⟩
                  obtain ⟨Y, hY⟩ : ∃ x, bs (hexU (56320 + (c - 65536) % 1024) 4) = x := ⟨_, rfl⟩
                  rw [hX] at hz1 KX
                  rw [hY] at hz2 KY
                  have HXY := hidden (And.intro hX hY)
                  clear hX hY
                  go_wp2_with (go_at_call 39; first
                    | ((with_reducible refine KX.out.mono ?_); (rintro e wx ⟨rfl, rfl⟩))
                    | ((with_reducible refine KY.out.mono ?_); (rintro e wy ⟨rfl, rfl⟩)))
                  have HLF := hidden (HS.out _ (by rw [HR.out]; exact HT3.out.1) HG6.out)
                  exact tx_leaf HT.out HLF.out (by rw [HR.out, ← HOB.out, ← HXY.out.1, ← HXY.out.2, bs_app, bs_app]) hp (by omega)
                · have HR : Hid (runeS st c = (hexU c 4, st3)) := hidden (HR0.out.trans (by rw [hexR, if_neg (by have := HCI.out.1; omega)]))
                  have KX := hidden (hex1_calls ci c HCI.out.1 h16 wc)
                  have hz1 : (bs (hexU c 4)).size = 6 := by rw [size_bs, hexU_len]
                  obtain ⟨X, hX⟩ : ∃ x, bs (hexU c 4) = x := ⟨_, rfl⟩
                  rw [hX] at hz1 KX
                  have HXY := hidden hX
                  clear hX
                  go_wp2_with (go_at_call 39; go_must (refine KX.out.mono ?_; rintro e wx ⟨rfl, rfl⟩))
                  have HLF := hidden (HS.out _ (by rw [HR.out]; exact HT3.out.1) HG6.out)
                  exact tx_leaf HT.out HLF.out (by rw [HR.out, ← HOB.out, ← HXY.out, bs_app]) hp (by omega)
    · have hnx : ∀ ty, (Instr.next (.pointer (some ⟨w.heap.size, 0, none⟩)) true ty).run Tryd.prog wr = _ := fun ty => Lib.run_next_end_at wr w.heap.size s pos ty hit hp
      have ht := HT.out.txt
      have hf := HT.out.fin
      rw [runesOf_end s fuel pos hp] at ht hf
      simp only [textS, List.append_nil] at ht hf
      rw [HF.out] at ht hf
      have HT2 := hidden (And.intro ht hf)
      obtain ⟨oB, hoB⟩ : ∃ x, bs o = x := ⟨_, rfl⟩
      rw [hoB] at ho ⊢
      have HO := hidden hoB
      clear ht hf hoB
      go_wp2
      go_ret
      refine ⟨congrArg (fun x => Ending.returned (.string x)) (show oB ++ ⟨#[34]⟩ = _ by rw [← HO.out, show (⟨#[34]⟩ : ByteArray) = bs [34] from rfl, bs_app, HT2.out.1]; rfl), by rw [← HT2.out.2]; exact HT.out.sty, HT.out.gr⟩
end Go.Proofs.YtbdmdajbdmdknaaDoor
