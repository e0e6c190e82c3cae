/- Blanks ahead of a JSON value: skipWS. -/
import Derived.Test.YtbdmdajbdmdknaaDoorM1
import Derived.Test.YtbdmdajbdmdknaaDoorProg
namespace Go.Proofs.YtbdmdajbdmdknaaDoor
open Go.RowKit
set_option linter.unusedVariables false
set_option linter.unusedSimpArgs false

theorem bs_self (s : ByteArray) : bs s.data.toList = s := by cases s; rfl
theorem toL_bs (l : Bs) : (bs l).data.toList = l := rfl
theorem size_bs (l : Bs) : (bs l).size = l.length := rfl
theorem size_toL (s : ByteArray) : s.size = s.data.toList.length := rfl
theorem bs_inj {a b : Bs} (h : bs a = bs b) : a = b := by rw [← toL_bs a, h, toL_bs]
theorem extract_drop (s : ByteArray) (k : Nat) : s.extract k s.size = bs (s.data.toList.drop k) := by
  rw [← bs_self (s.extract k s.size)]
  congr 1
  rw [ByteArray.data_extract, Array.toList_extract, List.extract_eq_take_drop]
  exact List.take_of_length_le (by rw [List.length_drop]; exact Nat.le_of_eq rfl)
theorem extract_take (s : ByteArray) (k : Nat) : s.extract 0 k = bs (s.data.toList.take k) := by
  rw [← bs_self (s.extract 0 k)]
  congr 1
  rw [ByteArray.data_extract, Array.toList_extract, List.extract_eq_take_drop]
  simp
theorem get_drop {s : ByteArray} {k : Nat} (h : k < s.size) : s.data.toList.drop k = s[k]'h :: s.data.toList.drop (k + 1) := by
  rw [List.drop_eq_getElem_cons (show k < s.data.toList.length from h)]
  congr 1
def wsN (n : Nat) : Bool := n == 32 || n == 10 || n == 9 || n == 13
theorem isWS_nat (c : UInt8) : isWS c = wsN c.toNat := by
  unfold isWS wsN
  have h : ∀ d : UInt8, (c == d) = (c.toNat == d.toNat) := fun d => by
    rw [Bool.eq_iff_iff]
    simp only [beq_iff_eq]
    exact ⟨fun e => by rw [e], fun e => UInt8.toNat_inj.1 e⟩
  rw [h, h, h, h]
  rfl
theorem skipW_yes {c : UInt8} (l : Bs) (h : wsN c.toNat = true) : skipW (c :: l) = skipW l := by
  unfold skipW
  rw [List.dropWhile_cons, isWS_nat, h]
  rfl
theorem skipW_no {c : UInt8} (l : Bs) (h : wsN c.toNat = false) : skipW (c :: l) = c :: l := by
  unfold skipW
  rw [List.dropWhile_cons, isWS_nat, h]
  rfl
theorem wsN_cases {n : Nat} (h : wsN n = true) : n = 32 ∨ n = 10 ∨ n = 9 ∨ n = 13 := by
  simp [wsN] at h; omega
/-- What the walk asks where a byte is none of some. -/
theorem ne_both {a : Nat} {k : Int} (h : (a : Int) ≠ k) : ((a : Int) == k) = false ∧ ((a : Int) != k) = true := by
  have : ((a : Int) == k) = false := beq_eq_false_iff_ne.2 h
  exact ⟨this, by rw [bne, this]; rfl⟩
theorem ret_str {a b : ByteArray} (h : a = b) : Ending.returned (.string a) = .returned (.string b) := by rw [h]
set_option maxRecDepth 100000 in
set_option maxHeartbeats 1000000 in
theorem skipSlow_calls (s : ByteArray) (w : World) (hN : s.size ≤ 1000000000) :
    Calls Tryd.prog 73 #[.string s] w fun e w' => e = .returned (.string (bs (skipW s.data.toList))) ∧ w = w' := by
  by_cases h0 : s.size = 0
  · have hs : s.data.toList = [] := List.eq_nil_of_length_eq_zero h0
    have hr : bs (skipW s.data.toList) = s := by rw [hs]; rw [← bs_self s, hs]; rfl
    rw [hr]
    have HR := hidden hr
    clear hs hr
    go_enter Tryd.func73, Tryd.ntmps73
    go_wp2
    go_ret
    exact ⟨rfl, rfl⟩
  · have hpos : 0 < s.size := by omega
    have hpi : (0 : Int) < (s.size : Int) := by omega
    have hne0 : ((s.size : Int) == 0) = false := beq_eq_false_iff_ne.2 (by omega)
    obtain ⟨c, hc⟩ : ∃ c, s[0]'hpos = c := ⟨_, rfl⟩
    have hl := get_drop hpos
    rw [hc, List.drop_zero] at hl
    obtain ⟨a, ha⟩ : ∃ a : Nat, c.toNat = a := ⟨_, rfl⟩
    cases hw : wsN a with
    | false =>
      have hr : bs (skipW s.data.toList) = s := by rw [hl, skipW_no _ (by rw [ha]; exact hw), ← hl, bs_self]
      rw [hr]
      have h4 : a ≠ 32 ∧ a ≠ 10 ∧ a ≠ 9 ∧ a ≠ 13 := by simp [wsN] at hw; omega
      obtain ⟨e1, f1⟩ := ne_both (a := a) (k := 32) (by omega)
      obtain ⟨e2, f2⟩ := ne_both (a := a) (k := 10) (by omega)
      obtain ⟨e3, f3⟩ := ne_both (a := a) (k := 9) (by omega)
      obtain ⟨e4, f4⟩ := ne_both (a := a) (k := 13) (by omega)
      clear hl hw hr h4 h0
      go_enter Tryd.func73, Tryd.ntmps73
      go_wp2
      go_ret
      exact ⟨rfl, rfl⟩
    | true =>
      have HL : Hid (skipW s.data.toList = skipW (s.data.toList.drop 1)) := hidden (by conv => { lhs; rw [hl] }; rw [skipW_yes _ (by rw [ha]; exact hw)])
      have h4 := wsN_cases hw
      clear hl hw h0
      rcases h4 with h | h | h | h
      all_goals
        subst h
        go_enter Tryd.func73, Tryd.ntmps73
        go_wp2
        go_loop [3] (fun i => ∃ k : Nat, 1 ≤ k ∧ k ≤ s.size ∧ i = .int .i64 k ∧ Hid (skipW s.data.toList = skipW (s.data.toList.drop k))) (fun i => s.size - (intOf i).toNat)
        case atStart => exact ⟨1, by omega, by omega, rfl, HL⟩
        case round =>
          obtain ⟨k, hk1, hk, rfl, HK⟩ := hrel
          by_cases hlt : k < s.size
          · have hlti : (k : Int) < (s.size : Int) := by omega
            have hd := get_drop hlt
            obtain ⟨d, hdd⟩ : ∃ d, s[k]'hlt = d := ⟨_, rfl⟩
            rw [hdd] at hd
            obtain ⟨b, hb⟩ : ∃ b : Nat, d.toNat = b := ⟨_, rfl⟩
            cases hw : wsN b with
            | false =>
              have HR : Hid (s.extract k s.size = bs (skipW s.data.toList)) := hidden (by rw [extract_drop, HK.out, hd, skipW_no _ (by rw [hb]; exact hw)])
              have h4 : b ≠ 32 ∧ b ≠ 10 ∧ b ≠ 9 ∧ b ≠ 13 := by simp [wsN] at hw; omega
              obtain ⟨e1, f1⟩ := ne_both (a := b) (k := 32) (by omega)
              obtain ⟨e2, f2⟩ := ne_both (a := b) (k := 10) (by omega)
              obtain ⟨e3, f3⟩ := ne_both (a := b) (k := 9) (by omega)
              obtain ⟨e4, f4⟩ := ne_both (a := b) (k := 13) (by omega)
              clear hd hw h4
              go_wp2
              go_ret
              exact ⟨ret_str HR.out, rfl⟩
            | true =>
              have HN : Hid (skipW s.data.toList = skipW (s.data.toList.drop (k + 1))) := hidden (by rw [HK.out, hd, skipW_yes _ (by rw [hb]; exact hw)])
              have h4 := wsN_cases hw
              clear hd hw
              rcases h4 with h | h | h | h
              all_goals
                subst h
                go_wp2
                go_round
                case rel => exact ⟨k + 1, by omega, by omega, by go_num, HN⟩
                case measure => simp [intOf]; omega
          · obtain rfl : k = s.size := by omega
            have HR : Hid ((⟨#[]⟩ : ByteArray) = bs (skipW s.data.toList)) := hidden (by rw [HK.out, List.drop_of_length_le (show s.data.toList.length ≤ s.size from Nat.le_refl _)]; rfl)
            go_wp2
            go_ret
            exact ⟨ret_str HR.out, rfl⟩
set_option maxRecDepth 100000 in
set_option maxHeartbeats 1000000 in
theorem skip_calls (s : ByteArray) (w : World) (hN : s.size ≤ 1000000000) :
    Calls Tryd.prog 61 #[.string s] w fun e w' => e = .returned (.string (bs (skipW s.data.toList))) ∧ w = w' := by
  have HS := hidden (skipSlow_calls s w hN)
  by_cases h0 : s.size = 0
  · have hs : s.data.toList = [] := List.eq_nil_of_length_eq_zero h0
    have hr : bs (skipW s.data.toList) = s := by rw [hs]; rw [← bs_self s, hs]; rfl
    rw [hr]
    clear hs hr HS
    go_enter Tryd.func61, Tryd.ntmps61
    go_wp2
    go_ret
    exact ⟨rfl, rfl⟩
  · have hpos : 0 < s.size := by omega
    have hpi : (0 : Int) < (s.size : Int) := by omega
    have hne0 : ((s.size : Int) == 0) = false := beq_eq_false_iff_ne.2 (by omega)
    obtain ⟨c, hc⟩ : ∃ c, s[0]'hpos = c := ⟨_, rfl⟩
    have hl := get_drop hpos
    rw [hc, List.drop_zero] at hl
    obtain ⟨a, ha⟩ : ∃ a : Nat, c.toNat = a := ⟨_, rfl⟩
    by_cases h32 : 32 < a
    · have hi : (32 : Int) < (a : Int) := by omega
      have hr : bs (skipW s.data.toList) = s := by rw [hl, skipW_no _ (by rw [ha]; simp [wsN]; omega), ← hl, bs_self]
      rw [hr]
      clear hl hr h0 HS
      go_enter Tryd.func61, Tryd.ntmps61
      go_wp2
      go_ret
      exact ⟨rfl, rfl⟩
    · have hi : ¬ (32 : Int) < (a : Int) := by omega
      clear hl h0
      go_enter Tryd.func61, Tryd.ntmps61
      go_wp2_with (go_at_call 73; go_must (refine HS.out.mono ?_; rintro e w1 ⟨rfl, rfl⟩))
      go_ret
      exact ⟨rfl, rfl⟩
end Go.Proofs.YtbdmdajbdmdknaaDoor
