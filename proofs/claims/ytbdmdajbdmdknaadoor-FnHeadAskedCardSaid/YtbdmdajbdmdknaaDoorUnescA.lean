/- strconv.ParseUint of four letters, to the base 16. -/
import Derived.Test.YtbdmdajbdmdknaaDoorM8
import Derived.Test.YtbdmdajbdmdknaaDoorM3
namespace Go.Proofs.YtbdmdajbdmdknaaDoor
open Go.RowKit
set_option linter.unusedVariables false
set_option linter.unusedSimpArgs false

theorem low_dig : ∀ n : Fin 256, ((65 ≤ n.val ∧ n.val ≤ 70 ∨ 97 ≤ n.val ∧ n.val ≤ 102) → (97 ≤ (n.val ||| 32) ∧ (n.val ||| 32) ≤ 102)) ∧
    ((65 ≤ n.val ∧ n.val ≤ 70) → (n.val ||| 32) = n.val + 32) ∧ ((97 ≤ n.val ∧ n.val ≤ 102) → (n.val ||| 32) = n.val) ∧
    (¬ (65 ≤ n.val ∧ n.val ≤ 70) → ¬ (97 ≤ n.val ∧ n.val ≤ 102) → (n.val ||| 32) < 97 ∨ 102 < (n.val ||| 32)) ∧ (n.val ||| 32) < 256 := by decide +kernel
theorem bits_or_u8 : ∀ n : Fin 256, bits .or .u8 (n.val : Int) 32 = ((n.val ||| 32 : Nat) : Int) := by decide +kernel
theorem lower_calls (c : Nat) (hc : c < 256) (w : World) : Calls Tryd.prog 91 #[.int .u8 (c : Int)] w fun e w' => e = .returned (.int .u8 ((c ||| 32 : Nat) : Int)) ∧ w = w' := by
  have hb : bits .or .u8 (c : Int) 32 = ((c ||| 32 : Nat) : Int) := bits_or_u8 ⟨c, hc⟩
  go_enter Tryd.func91, Tryd.ntmps91
  go_wp2
  go_ret
  exact ⟨rfl, rfl⟩
theorem hexD_cases (c : UInt8) : (∃ a : Nat, c.toNat = a ∧ 48 ≤ a ∧ a ≤ 57 ∧ hexD c = some (a - 48)) ∨ (∃ a b : Nat, c.toNat = a ∧ (65 ≤ a ∧ a ≤ 70 ∨ 97 ≤ a ∧ a ≤ 102) ∧ (a ||| 32) = b ∧ 97 ≤ b ∧ b ≤ 102 ∧ hexD c = some (b - 87)) ∨
    (∃ a b : Nat, c.toNat = a ∧ ¬ (48 ≤ a ∧ a ≤ 57) ∧ (a ||| 32) = b ∧ (b < 97 ∨ 102 < b) ∧ hexD c = none) := by
  have hn := c.toNat_lt
  obtain ⟨h1, h2, h3, h4, h5⟩ := low_dig ⟨c.toNat, hn⟩
  simp only at h1 h2 h3 h4 h5
  have e : ∀ k : UInt8, (k ≤ c) = (k.toNat ≤ c.toNat) := fun k => rfl
  have e2 : ∀ k : UInt8, (c ≤ k) = (c.toNat ≤ k.toNat) := fun k => rfl
  unfold hexD
  simp only [e, e2]
  simp only [show (48 : UInt8).toNat = 48 from rfl, show (57 : UInt8).toNat = 57 from rfl, show (97 : UInt8).toNat = 97 from rfl, show (102 : UInt8).toNat = 102 from rfl, show (65 : UInt8).toNat = 65 from rfl, show (70 : UInt8).toNat = 70 from rfl]
  by_cases a1 : 48 ≤ c.toNat ∧ c.toNat ≤ 57
  · exact .inl ⟨_, rfl, a1.1, a1.2, by rw [if_pos a1]⟩
  · by_cases a2 : 97 ≤ c.toNat ∧ c.toNat ≤ 102
    · have := h1 (.inr a2)
      exact .inr (.inl ⟨_, _, rfl, .inr a2, rfl, this.1, this.2, by rw [if_neg a1, if_pos a2, h3 a2]⟩)
    · by_cases a3 : 65 ≤ c.toNat ∧ c.toNat ≤ 70
      · have := h1 (.inl a3)
        exact .inr (.inl ⟨_, _, rfl, .inl a3, rfl, this.1, this.2, by rw [if_neg a1, if_neg a2, if_pos a3, h2 a3]; exact congrArg some (by omega)⟩)
      · exact .inr (.inr ⟨_, _, rfl, a1, rfl, h4 a3 a2, by rw [if_neg a1, if_neg a2, if_neg a3]⟩)
def PU (w : World) (l : Bs) (e : Ending) (w' : World) : Prop := Below w.heap.size w w' ∧ match hex4 l with
  | some x => e = .returned (.tuple #[.int .u64 (x : Int), .nilIface])
  | none => e = .returned (.tuple #[.int .u64 0, .iface 139 (.int .i64 2)])
theorem hexL_none {m : Nat} {c : UInt8} {l : Bs} (h : hexD c = none) : hexL m (c :: l) = none := by simp [hexL, h]
theorem hexL_some {m d : Nat} {c : UInt8} {l : Bs} (h : hexD c = some d) : hexL m (c :: l) = hexL (m * 16 + d) l := by simp [hexL, h]
set_option maxRecDepth 100000 in
set_option maxHeartbeats 4000000 in
theorem parseU_calls (l : Bs) (hl : l.length = 4) (w : World) : Calls Tryd.prog 84 #[.string (bs l), .int .i64 16, .int .i64 16] w (PU w l) := by
  have hne : (bs l).toList.isEmpty = false := by
    rw [Lib.toList_data, toL_bs]
    cases l with
    | nil => simp at hl
    | cons c l => rfl
  have hsz : (bs l).size = 4 := hl
  have hcv : (convert 9 32 (.string (bs l))).run Tryd.prog w = .ok (.slice (some ⟨w.heap.size, 0, none⟩) 4 (grownCap w 4 0 5)) (Go.Lib.bytesWorld w 5 (bs l)) := by
    have := Go.Lib.run_convert_string_bytes (P := Tryd.prog) w 9 32 5 (bs l) Tryd.underlying9 Tryd.underlying32 Tryd.underlying5
    rwa [hsz] at this
  have HR := hidden (rd_bI w 5 (bs l))
  have HB := hidden (below_bytes0 w 5 (bs l))
  have HL := hidden hl
  have HS := hidden hsz
  clear hl hsz
  go_enter Tryd.func84, Tryd.ntmps84
  go_wp2
  refine wpAbs (fun W => W = Go.Lib.bytesWorld w 5 (bs l)) rfl ?_
  intro w1 hw1
  rw [← hw1] at HR HB
  clear hw1 hcv
  go_loopw [101, 13, 12] (fun i v u wr => ∃ (k m : Nat) (M : Int), M = (m : Int) ∧ k ≤ 4 ∧ i = .int .i64 k ∧ u = .bool false ∧ v = .int .u64 M ∧ m < 16 ^ k ∧ wr = w1 ∧ Hid (hex4 l = hexL m (l.drop k))) (fun i _ _ _ => 4 - (intOf i).toNat)
  case atStart => exact ⟨0, 0, 0, rfl, by omega, rfl, rfl, rfl, by decide, rfl, hidden rfl⟩
  case round =>
    obtain ⟨k, m, M, hM, hk, rfl, rfl, rfl, hm, rfl, HX⟩ := hrel
    have HMM := hidden hM
    by_cases hlt : k < 4
    · have hm4 : m < 4096 := Nat.lt_of_lt_of_le hm (by have : 16 ^ k ≤ 16 ^ 3 := Nat.pow_le_pow_right (by omega) (by omega); omega)
      obtain ⟨b, o, e0, _, hc⟩ := HR.out.at k (by rw [bI_len, HS.out]; exact hlt)
      cases e0
      rw [Nat.zero_add] at hc
      have hlk : k < l.length := by rw [HL.out]; exact hlt
      have hgi : gi (bI (bs l)) k = ((l[k]'hlk).toNat : Int) := by simp [gi, bI, toL_bs, List.getD_eq_getElem?_getD, hlk]
      have hd : l.drop k = l[k]'hlk :: l.drop (k + 1) := List.drop_eq_getElem_cons hlk
      rw [hgi] at hc
      obtain ⟨c, hcc⟩ : ∃ c, l[k]'hlk = c := ⟨_, rfl⟩
      rw [hcc] at hc hd
      have HD := hidden hd
      have hp : m < 16 ^ k := hm
      have HP := hidden hp
      clear hgi hcc hd hm hp
      rcases hexD_cases c with ⟨a, ha, h1, h2, h3⟩ | ⟨a, b, ha, hab, hb, h1, h2, h3⟩ | ⟨a, b, ha, h1, hb, h2, h3⟩
      · rw [ha] at hc
        have hwm : IntKind.u64.wrap (M * 16) = M * 16 := by rw [IntKind.wrap_u64]; omega
        have hws : IntKind.u8.wrap ((a : Int) - 48) = (a : Int) - 48 := by rw [IntKind.wrap_u8]; omega
        have hwc : IntKind.u64.wrap ((a : Int) - 48) = (a : Int) - 48 := by rw [IntKind.wrap_u64]; omega
        have hwa : IntKind.u64.wrap (M * 16 + ((a : Int) - 48)) = M * 16 + ((a : Int) - 48) := by rw [IntKind.wrap_u64]; omega
        have HN : Hid (hex4 l = hexL (m * 16 + (a - 48)) (l.drop (k + 1))) := hidden (by rw [HX.out, HD.out, hexL_some h3])
        have HM : Hid (m * 16 + (a - 48) < 16 ^ (k + 1)) := hidden (by have := HP.out; rw [Nat.pow_succ]; omega)
        have c0 : ((a : Int) == 95) = false := beq_eq_false_iff_ne.2 (by omega)
        have c1 : ¬ (M * 16 + ((a : Int) - 48) < M * 16) := by omega
        have c2 : ¬ (65535 < M * 16 + ((a : Int) - 48)) := by omega
        have c3 : ¬ (1152921504606846976 ≤ M) := by omega
        have c4 : ¬ (16 ≤ (a : Int) - 48) := by omega
        have c5 : (48 : Int) ≤ (a : Int) := by omega
        have c6 : (a : Int) ≤ 57 := by omega
        have hki : (k : Int) < 4 := by omega
        have HK := hidden hlt
        have HAB := hidden (And.intro h1 h2)
        clear h3 ha hm4 h1 h2 hk hlt hM
        go_wp2
        go_roundw
        case rel => exact ⟨k + 1, m * 16 + (a - 48), _, (by have := HMM.out; have := HAB.out; omega), (by have := HK.out; omega), by go_num, rfl, rfl, HM.out, trivial, HN⟩
        case measure => simp [intOf]; omega
      · have ha256 : a < 256 := by omega
        have KL : Hid (∀ W, Calls Tryd.prog 91 #[.int .u8 (a : Int)] W fun e w' => e = .returned (.int .u8 (b : Int)) ∧ W = w') := hidden (fun W => by have := lower_calls a ha256 W; rwa [hb] at this)
        rw [ha] at hc
        have hwm : IntKind.u64.wrap (M * 16) = M * 16 := by rw [IntKind.wrap_u64]; omega
        have hws : IntKind.u8.wrap ((b : Int) - 97) = (b : Int) - 97 := by rw [IntKind.wrap_u8]; omega
        obtain ⟨d, hdd⟩ : ∃ d : Int, (b : Int) - 97 + 10 = d := ⟨_, rfl⟩
        have hws2 : IntKind.u8.wrap ((b : Int) - 97 + 10) = d := by rw [IntKind.wrap_u8]; omega
        have hwc : IntKind.u64.wrap d = d := by rw [IntKind.wrap_u64]; omega
        have hwa : IntKind.u64.wrap (M * 16 + d) = M * 16 + d := by rw [IntKind.wrap_u64]; omega
        have HN : Hid (hex4 l = hexL (m * 16 + (b - 87)) (l.drop (k + 1))) := hidden (by rw [HX.out, HD.out, hexL_some h3])
        have HM : Hid (m * 16 + (b - 87) < 16 ^ (k + 1)) := hidden (by have := HP.out; rw [Nat.pow_succ]; omega)
        have c0 : ((a : Int) == 95) = false := beq_eq_false_iff_ne.2 (by omega)
        have c1 : ¬ (M * 16 + d < M * 16) := by omega
        have c2 : ¬ (65535 < M * 16 + d) := by omega
        have c3 : ¬ (1152921504606846976 ≤ M) := by omega
        have c4 : ¬ (16 ≤ d) := by omega
        have c5 : (48 : Int) ≤ (a : Int) := by omega
        have c6 : ¬ (a : Int) ≤ 57 := by omega
        have c7 : (97 : Int) ≤ (b : Int) := by omega
        have c8 : (b : Int) ≤ 122 := by omega
        have HDD := hidden hdd
        clear hdd
        have hki : (k : Int) < 4 := by omega
        have HK := hidden hlt
        have HBD := hidden (And.intro h1 h2)
        clear h3 ha hm4 h1 h2 hk hlt ha256 hb hab hM
        go_wp2_with (go_at_call 91; go_must (refine (KL.out _).mono ?_; rintro e wq ⟨rfl, rfl⟩))
        go_roundw
        case rel => exact ⟨k + 1, m * 16 + (b - 87), _, (by have := HMM.out; have := HBD.out; have := HDD.out; omega), (by have := HK.out; omega), by go_num, rfl, rfl, HM.out, trivial, HN⟩
        case measure => have := HK.out; simp [intOf]; omega
      · have ha256 : a < 256 := by have := c.toNat_lt; omega
        have KL : Hid (∀ W, Calls Tryd.prog 91 #[.int .u8 (a : Int)] W fun e w' => e = .returned (.int .u8 (b : Int)) ∧ W = w') := hidden (fun W => by have := lower_calls a ha256 W; rwa [hb] at this)
        rw [ha] at hc
        have hx : hex4 l = none := by rw [HX.out, HD.out, hexL_none h3]
        have HN := hidden hx
        have hki : (k : Int) < 4 := by omega
        have hb256 : b < 256 := by rw [← hb]; exact (low_dig ⟨a, ha256⟩).2.2.2.2
        have hfin : PU w l (.returned (.tuple #[.int .u64 0, .iface 139 (.int .i64 2)])) wr := ⟨HB.out, by rw [hx]⟩
        have HF := hidden hfin
        clear h3 ha hm4 hk hlt hx hfin HX HD HP HN hM
        by_cases h95 : a = 95
        · subst h95
          obtain rfl : b = 127 := by rw [← hb]; decide
          clear hb h1 h2 ha256 hb256
          go_wp2_with (go_at_call 91; go_must (refine (KL.out _).mono ?_; rintro e wq ⟨rfl, rfl⟩))
          go_ret2
          exact HF.out
        · have c0 : ((a : Int) == 95) = false := beq_eq_false_iff_ne.2 (by omega)
          rcases (show a < 48 ∨ 57 < a by omega) with g | g
          · have c5 : ¬ (48 : Int) ≤ (a : Int) := by omega
            rcases (show b < 97 ∨ (97 ≤ b ∧ 102 < b ∧ b ≤ 122) ∨ 122 < b by omega) with g2 | g2 | g2
            · have c7 : ¬ (97 : Int) ≤ (b : Int) := by omega
              clear g g2 h1 h2 hb ha256 hb256 h95
              go_wp2_with (go_at_call 91; go_must (refine (KL.out _).mono ?_; rintro e wq ⟨rfl, rfl⟩))
              go_ret2
              exact HF.out
            · have c7 : (97 : Int) ≤ (b : Int) := by omega
              have c8 : (b : Int) ≤ 122 := by omega
              have hws : IntKind.u8.wrap ((b : Int) - 97) = (b : Int) - 97 := by rw [IntKind.wrap_u8]; omega
              have hws2 : IntKind.u8.wrap ((b : Int) - 97 + 10) = (b : Int) - 97 + 10 := by rw [IntKind.wrap_u8]; omega
              have c4 : 16 ≤ (b : Int) - 97 + 10 := by omega
              clear g g2 h1 h2 hb ha256 hb256 h95
              go_wp2_with (go_at_call 91; go_must (refine (KL.out _).mono ?_; rintro e wq ⟨rfl, rfl⟩))
              go_ret2
              exact HF.out
            · have c7 : (97 : Int) ≤ (b : Int) := by omega
              have c8 : ¬ (b : Int) ≤ 122 := by omega
              clear g g2 h1 h2 hb ha256 hb256 h95
              go_wp2_with (go_at_call 91; go_must (refine (KL.out _).mono ?_; rintro e wq ⟨rfl, rfl⟩))
              go_ret2
              exact HF.out
          · have c5 : (48 : Int) ≤ (a : Int) := by omega
            have c6 : ¬ (a : Int) ≤ 57 := by omega
            rcases (show b < 97 ∨ (97 ≤ b ∧ 102 < b ∧ b ≤ 122) ∨ 122 < b by omega) with g2 | g2 | g2
            · have c7 : ¬ (97 : Int) ≤ (b : Int) := by omega
              clear g g2 h1 h2 hb ha256 hb256 h95
              go_wp2_with (go_at_call 91; go_must (refine (KL.out _).mono ?_; rintro e wq ⟨rfl, rfl⟩))
              go_ret2
              exact HF.out
            · have c7 : (97 : Int) ≤ (b : Int) := by omega
              have c8 : (b : Int) ≤ 122 := by omega
              have hws : IntKind.u8.wrap ((b : Int) - 97) = (b : Int) - 97 := by rw [IntKind.wrap_u8]; omega
              have hws2 : IntKind.u8.wrap ((b : Int) - 97 + 10) = (b : Int) - 97 + 10 := by rw [IntKind.wrap_u8]; omega
              have c4 : 16 ≤ (b : Int) - 97 + 10 := by omega
              clear g g2 h1 h2 hb ha256 hb256 h95
              go_wp2_with (go_at_call 91; go_must (refine (KL.out _).mono ?_; rintro e wq ⟨rfl, rfl⟩))
              go_ret2
              exact HF.out
            · have c7 : (97 : Int) ≤ (b : Int) := by omega
              have c8 : ¬ (b : Int) ≤ 122 := by omega
              clear g g2 h1 h2 hb ha256 hb256 h95
              go_wp2_with (go_at_call 91; go_must (refine (KL.out _).mono ?_; rintro e wq ⟨rfl, rfl⟩))
              go_ret2
              exact HF.out
    · obtain rfl : k = 4 := by omega
      have hx : hex4 l = some m := by rw [HX.out, List.drop_of_length_le (by rw [HL.out]; omega)]; rfl
      have HX2 := hidden hx
      obtain rfl : M = (m : Int) := hM
      clear hx HX
      go_wp2
      go_ret2
      refine ⟨HB.out, ?_⟩
      rw [HX2.out]
      rfl
end Go.Proofs.YtbdmdajbdmdknaaDoor
