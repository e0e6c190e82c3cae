/- Numbers of a JSON text: zzFold, parseRawNumber. -/
import Derived.Test.YtbdmdajbdmdknaaDoorJsonB
namespace Go.Proofs.YtbdmdajbdmdknaaDoor
open Go.RowKit
set_option linter.unusedVariables false
set_option linter.unusedSimpArgs false

theorem u8_eq {c : UInt8} {a k : Nat} (ha : c.toNat = a) (hk : k < 256) : (c = UInt8.ofNat k) ↔ a = k := by
  rw [← UInt8.toNat_inj, ha, UInt8.toNat_ofNat', Nat.mod_eq_of_lt (by omega)]
theorem lowC_up {c : UInt8} (h1 : 65 ≤ c.toNat) (h2 : c.toNat ≤ 90) : (lowC c).toNat = c.toNat + 32 := by
  unfold lowC
  rw [if_pos (by rw [UInt8.le_iff_toNat_le, UInt8.le_iff_toNat_le]; exact ⟨h1, h2⟩), UInt8.toNat_add]
  show (c.toNat + 32) % 256 = _
  omega
theorem lowC_no {c : UInt8} (h : ¬ (65 ≤ c.toNat ∧ c.toNat ≤ 90)) : lowC c = c := by
  unfold lowC
  rw [if_neg (by rw [UInt8.le_iff_toNat_le, UInt8.le_iff_toNat_le]; exact h)]
theorem fold_len {s m : Bs} (h : s.length ≠ m.length) : foldIs s m = false := by
  unfold foldIs
  refine beq_eq_false_iff_ne.2 (fun e => h ?_)
  have := congrArg List.length e
  simpa using this
/-- The first k letters are alike. -/
def FoldTo (s m : Bs) (k : Nat) : Prop := ∀ j (h1 : j < s.length) (h2 : j < m.length), j < k → lowC s[j] = m[j]
theorem FoldTo.end_ {s m : Bs} (h : FoldTo s m s.length) (hl : s.length = m.length) : foldIs s m = true := by
  unfold foldIs
  rw [beq_iff_eq]
  refine List.ext_getElem (by simpa using hl) (fun j h1 h2 => ?_)
  rw [List.getElem_map]
  exact h j (by simpa using h1) h2 (by simpa using h1)
theorem fold_ne {s m : Bs} {j : Nat} (h1 : j < s.length) (h2 : j < m.length) (h : lowC s[j] ≠ m[j]) : foldIs s m = false := by
  unfold foldIs
  refine beq_eq_false_iff_ne.2 (fun e => h ?_)
  have := congrArg (fun l => l[j]?) e
  simp only [List.getElem?_map, List.getElem?_eq_getElem h1, List.getElem?_eq_getElem h2, Option.map_some, Option.some.injEq] at this
  exact this
set_option maxRecDepth 100000 in
set_option maxHeartbeats 1000000 in
theorem fold_calls (s m : ByteArray) (w : World) (hN : s.size ≤ 1000000000) (r : Bool) (hr : r = foldIs s.data.toList m.data.toList) :
    Calls Tryd.prog 81 #[.string s, .string m] w fun e w' => e = .returned (.bool r) ∧ w = w' := by
  by_cases hl : s.size = m.size
  · obtain ⟨n, hn⟩ : ∃ n, s.size = n := ⟨_, rfl⟩
    have hm : m.size = n := by omega
    have Hr := hidden hr
    have HL := hidden (show s.data.toList.length = m.data.toList.length from hl)
    clear hr hl
    go_enter Tryd.func81, Tryd.ntmps81
    go_wp2
    go_loop [5] (fun i => ∃ k : Nat, k ≤ n ∧ i = .int .i64 k ∧ Hid (FoldTo s.data.toList m.data.toList k)) (fun i => n - (intOf i).toNat)
    case atStart => exact ⟨0, by omega, rfl, hidden (fun j _ _ h => by omega)⟩
    case round =>
      obtain ⟨k, hk, rfl, HF⟩ := hrel
      by_cases hlt : k < n
      · have hks : k < s.size := by omega
        have hkm : k < m.size := by omega
        obtain ⟨c, hc⟩ : ∃ c, s[k]'hks = c := ⟨_, rfl⟩
        obtain ⟨d, hd⟩ : ∃ d, m[k]'hkm = d := ⟨_, rfl⟩
        obtain ⟨a, ha⟩ : ∃ a : Nat, c.toNat = a := ⟨_, rfl⟩
        obtain ⟨b, hb⟩ : ∃ b : Nat, d.toNat = b := ⟨_, rfl⟩
        have hF2 : (lowC c).toNat = b → FoldTo s.data.toList m.data.toList (k + 1) := fun e j h1 h2 hj => by
          rcases Nat.lt_or_ge j k with h | h
          · exact HF.out j h1 h2 h
          · obtain rfl : j = k := by omega
            have e1 : s.data.toList[j] = c := hc
            have e2 : m.data.toList[j] = d := hd
            rw [e1, e2]; exact UInt8.toNat_inj.1 (by rw [e, hb])
        have hF3 : (lowC c).toNat ≠ b → r = false := fun e => by
          rw [Hr.out]
          refine fold_ne (j := k) hks hkm (fun e2 => e ?_)
          have e3 : s.data.toList[k]'hks = c := hc
          have e4 : m.data.toList[k]'hkm = d := hd
          rw [e3, e4] at e2
          rw [e2, hb]
        have HF2 := hidden hF2
        have HF3 := hidden hF3
        have ha256 : a < 256 := by rw [← ha]; exact c.toNat_lt
        clear hF2 hF3
        by_cases hup : 65 ≤ a ∧ a ≤ 90
        · have hlow : (lowC c).toNat = a + 32 := by rw [lowC_up (by omega) (by omega), ha]
          have HLOW := hidden hlow
          have h65 : (65 : Int) ≤ (a : Int) := by omega
          have h90 : (a : Int) ≤ 90 := by omega
          have hw1 : IntKind.u8.wrap ((a : Int) + 32) = ((a : Int) + 32) := by rw [IntKind.wrap]; simp [IntKind.bits, IntKind.signed]; omega
          clear hup hlow
          by_cases he : a + 32 = b
          · subst he
            have HN := hidden (HF2.out HLOW.out)
            have e1 : ((a : Int) + 32 != ((a + 32 : Nat) : Int)) = false := by simp
            clear ha256
            go_wp2
            go_round
            case rel => exact ⟨k + 1, by omega, by go_num, HN⟩
            case measure => simp [intOf]; omega
          · have hrf := HF3.out (by rw [HLOW.out]; exact he)
            subst hrf
            have e1 : ((a : Int) + 32 == (b : Int)) = false := beq_eq_false_iff_ne.2 (by omega)
            have e2 : ((a : Int) + 32 != (b : Int)) = true := by rw [bne, e1]; rfl
            clear he
            go_wp2
            go_ret
            exact ⟨rfl, rfl⟩
        · have hlow : (lowC c).toNat = a := by rw [lowC_no (by omega), ha]
          have HLOW := hidden hlow
          clear hlow
          by_cases he : a = b
          · subst he
            have HN := hidden (HF2.out HLOW.out)
            have e1 : ((a : Int) != (a : Int)) = false := by simp
            by_cases h65 : 65 ≤ a
            · have h1 : (65 : Int) ≤ (a : Int) := by omega
              have h2 : ¬ (a : Int) ≤ 90 := by omega
              clear hup
              go_wp2
              go_round
              case rel => exact ⟨k + 1, by omega, by go_num, HN⟩
              case measure => simp [intOf]; omega
            · have h1 : ¬ (65 : Int) ≤ (a : Int) := by omega
              clear hup
              go_wp2
              go_round
              case rel => exact ⟨k + 1, by omega, by go_num, HN⟩
              case measure => simp [intOf]; omega
          · have hrf := HF3.out (by rw [HLOW.out]; exact he)
            subst hrf
            have e1 : ((a : Int) == (b : Int)) = false := beq_eq_false_iff_ne.2 (by omega)
            have e2 : ((a : Int) != (b : Int)) = true := by rw [bne, e1]; rfl
            clear he
            by_cases h65 : 65 ≤ a
            · have h1 : (65 : Int) ≤ (a : Int) := by omega
              have h2 : ¬ (a : Int) ≤ 90 := by omega
              clear hup
              go_wp2
              go_ret
              exact ⟨rfl, rfl⟩
            · have h1 : ¬ (65 : Int) ≤ (a : Int) := by omega
              clear hup
              go_wp2
              go_ret
              exact ⟨rfl, rfl⟩
      · obtain rfl : k = n := by omega
        have hrt : r = true := by
          rw [Hr.out]
          refine FoldTo.end_ (by rw [len_toL, hn]; exact HF.out) HL.out
        subst hrt
        go_wp2
        go_ret
        exact ⟨rfl, rfl⟩
  · have hrf : r = false := by rw [hr, fold_len (show s.data.toList.length ≠ m.data.toList.length from hl)]
    subst hrf
    have e1 : ((s.size : Int) == (m.size : Int)) = false := beq_eq_false_iff_ne.2 (by omega)
    have e2 : ((s.size : Int) != (m.size : Int)) = true := by rw [bne, e1]; rfl
    clear hr hl
    go_enter Tryd.func81, Tryd.ntmps81
    go_wp2
    go_ret
    exact ⟨rfl, rfl⟩
theorem num_cases {c : UInt8} {a : Nat} (ha : c.toNat = a) (h : isNumC c = true) : (48 ≤ a ∧ a ≤ 57) ∨ a = 46 ∨ a = 45 ∨ a = 101 ∨ a = 69 ∨ a = 43 := by
  have h' : ((decide (48 ≤ c.toNat) && decide (c.toNat ≤ 57)) || c == 46 || c == 45 || c == 101 || c == 69 || c == 43) = true := h
  simp only [Bool.or_eq_true, Bool.and_eq_true, decide_eq_true_eq, beq_iff_eq] at h'
  rw [ha] at h'
  rcases h' with ((((h | h) | h) | h) | h) | h
  · exact .inl h
  · exact .inr (.inl (by rw [← ha, h]; rfl))
  · exact .inr (.inr (.inl (by rw [← ha, h]; rfl)))
  · exact .inr (.inr (.inr (.inl (by rw [← ha, h]; rfl))))
  · exact .inr (.inr (.inr (.inr (.inl (by rw [← ha, h]; rfl)))))
  · exact .inr (.inr (.inr (.inr (.inr (by rw [← ha, h]; rfl)))))
theorem num_not {c : UInt8} {a : Nat} (ha : c.toNat = a) (h : isNumC c = false) : ¬ (48 ≤ a ∧ a ≤ 57) ∧ a ≠ 46 ∧ a ≠ 45 ∧ a ≠ 101 ∧ a ≠ 69 ∧ a ≠ 43 := by
  have h' : ((decide (48 ≤ c.toNat) && decide (c.toNat ≤ 57)) || c == 46 || c == 45 || c == 101 || c == 69 || c == 43) = false := h
  simp only [Bool.or_eq_false_iff, beq_eq_false_iff_ne] at h'
  obtain ⟨⟨⟨⟨⟨h1, h2⟩, h3⟩, h4⟩, h5⟩, h6⟩ := h'
  have lit : ∀ k : Nat, k < 256 → c ≠ UInt8.ofNat k → a ≠ k := fun k hk hne e => hne ((u8_eq ha hk).2 e)
  rw [ha] at h1
  refine ⟨fun e => ?_, lit 46 (by omega) h2, lit 45 (by omega) h3, lit 101 (by omega) h4, lit 69 (by omega) h5, lit 43 (by omega) h6⟩
  simp [e.1, e.2] at h1
/-- The first k bytes are a number's. -/
def NumTo (l : Bs) (k : Nat) : Prop := ∀ j (h : j < l.length), j < k → isNumC l[j] = true
theorem NumTo.take {l : Bs} {k : Nat} (h : NumTo l k) (hk : k < l.length) (hn : isNumC l[k] = false) : (l.takeWhile isNumC).length = k := by
  induction l generalizing k with
  | nil => simp at hk
  | cons c l ih =>
    cases k with
    | zero =>
      simp at hn
      rw [List.takeWhile_cons, hn]; rfl
    | succ k =>
      have h0 := h 0 (by simp) (by omega)
      simp at h0
      rw [List.takeWhile_cons, h0]
      simp only [if_true, List.length_cons]
      rw [ih (k := k) (fun j hj hjk => by have := h (j + 1) (by simpa using hj) (by omega); simpa using this) (by simpa using hk) (by simpa using hn)]
theorem take_all {p : UInt8 → Bool} : ∀ (l : Bs), (∀ x ∈ l, p x = true) → l.takeWhile p = l
  | [], _ => rfl
  | c :: l, h => by
    rw [List.takeWhile_cons, h c List.mem_cons_self, if_pos rfl, take_all l (fun x hx => h x (List.mem_cons_of_mem _ hx))]
theorem NumTo.all {l : Bs} (h : NumTo l l.length) : rawN l = some (l, []) := by
  have : (l.takeWhile isNumC).length = l.length := by
    have e : l.takeWhile isNumC = l := by
      apply take_all
      intro x hx
      obtain ⟨j, hj, rfl⟩ := List.mem_iff_getElem.1 hx
      exact h j hj hj
    rw [e]
  unfold rawN
  rw [this]
  simp
theorem NumTo.cut {l : Bs} {k : Nat} (h : NumTo l k) (hk : k < l.length) (hn : isNumC l[k] = false) (h0 : ¬ (k = 0 ∨ (k = 1 ∧ (l.head? = some 45 ∨ l.head? = some 43)))) : rawN l = some (l.take k, l.drop k) := by
  unfold rawN
  rw [h.take hk hn]
  simp only []
  rw [if_neg (by omega), if_neg h0]
theorem NumTo.special {l : Bs} {k : Nat} (h : NumTo l k) (hk : k < l.length) (hn : isNumC l[k] = false) (h0 : k = 0 ∨ (k = 1 ∧ (l.head? = some 45 ∨ l.head? = some 43))) :
    rawN l = if foldIs ((l.drop k).take 3) infB ∨ foldIs ((l.drop k).take 3) nanB then some (l.take (k + 3), l.drop (k + 3)) else none := by
  unfold rawN
  rw [h.take hk hn]
  simp only []
  rw [if_neg (by omega), if_pos h0]
theorem NumTo.succ {l : Bs} {k : Nat} (h : NumTo l k) (hn : ∀ hk, isNumC (l[k]'hk) = true) : NumTo l (k + 1) := fun j hj hjk => by
  rcases Nat.lt_or_ge j k with h2 | h2
  · exact h j hj h2
  · obtain rfl : j = k := by omega
    exact hn hj
theorem extract_mid (s : ByteArray) (k n : Nat) : s.extract k (k + n) = bs ((s.data.toList.drop k).take n) := by
  rw [← bs_self (s.extract k (k + n))]
  congr 1
  rw [ByteArray.data_extract, Array.toList_extract, List.extract_eq_take_drop]
  congr 1
  omega
/-- What stands behind the place k of a text that begins no number. -/
structure SpecN (s : ByteArray) (k : Nat) (r : Option (Bs × Bs)) : Prop where
  eq : r = if foldIs ((s.data.toList.drop k).take 3) infB ∨ foldIs ((s.data.toList.drop k).take 3) nanB then some (s.data.toList.take (k + 3), s.data.toList.drop (k + 3)) else none
set_option maxRecDepth 100000 in
set_option maxHeartbeats 4000000 in
theorem rawNum_calls (s : ByteArray) (w : World) (hN : s.size ≤ 1000000000) (r : Option (Bs × Bs)) (hr : r = rawN s.data.toList) :
    Calls Tryd.prog 83 #[.string s] w (RawP w r) := by
  have Hr := hidden hr
  clear hr
  go_enter Tryd.func83, Tryd.ntmps83
  go_wp2
  go_loop [0, 11] (fun u i => ∃ k : Nat, k ≤ s.size ∧ u = .string s ∧ i = .int .i64 k ∧ Hid (NumTo s.data.toList k)) (fun _ i => s.size - (intOf i).toNat)
  case atStart => exact ⟨0, by omega, rfl, rfl, hidden (fun j _ h => by omega)⟩
  case round =>
    obtain ⟨k, hk, rfl, rfl, HNT⟩ := hrel
    by_cases hlt : k < s.size
    · have hlti : (k : Int) < (s.size : Int) := by omega
      obtain ⟨c, hc⟩ : ∃ c, s[k]'hlt = c := ⟨_, rfl⟩
      obtain ⟨a, ha⟩ : ∃ a : Nat, c.toNat = a := ⟨_, rfl⟩
      cases hnum : isNumC c with
      | true =>
        have HN := hidden (HNT.out.succ (fun hk' => by rw [get_toL hlt, hc]; exact hnum))
        have h6 := num_cases ha hnum
        clear hnum
        rcases h6 with h | h | h | h | h | h
        · have h1 : (48 : Int) ≤ (a : Int) := by omega
          have h2 : (a : Int) ≤ 57 := by omega
          clear h
          go_wp2
          go_round
          case rel => exact ⟨k + 1, by omega, rfl, by go_num, HN⟩
          case measure => simp [intOf]; omega
        all_goals
          subst h
          go_wp2
          go_round
          case rel => exact ⟨k + 1, by omega, rfl, by go_num, HN⟩
          case measure => simp [intOf]; omega
      | false =>
        obtain ⟨h1, h2, h3, h4, h5, h6⟩ := num_not ha hnum
        obtain ⟨e1, f1⟩ := ne_both (a := a) (k := 46) (by omega)
        obtain ⟨e2, f2⟩ := ne_both (a := a) (k := 45) (by omega)
        obtain ⟨e3, f3⟩ := ne_both (a := a) (k := 101) (by omega)
        obtain ⟨e4, f4⟩ := ne_both (a := a) (k := 69) (by omega)
        obtain ⟨e5, f5⟩ := ne_both (a := a) (k := 43) (by omega)
        have HNUM : Hid (isNumC (s.data.toList[k]'hlt) = false) := hidden (by rw [get_toL hlt, hc]; exact hnum)
        have hpos : 0 < s.size := by omega
        obtain ⟨c0, hc0⟩ : ∃ c, s[0]'hpos = c := ⟨_, rfl⟩
        have hhead : s.data.toList.head? = some c0 := by
          have := get_drop hpos
          rw [hc0, List.drop_zero] at this
          rw [this]; rfl
        have hdig : decide ((48 : Int) ≤ (a : Int)) = false ∨ (decide ((48 : Int) ≤ (a : Int)) = true ∧ decide ((a : Int) ≤ 57) = false) := by
          by_cases h : 48 ≤ a
          · exact .inr ⟨decide_eq_true (by omega), decide_eq_false (by omega)⟩
          · exact .inl (decide_eq_false (by omega))
        clear h1 h2 h3 h4 h5 h6 hnum
        by_cases hs : k = 0 ∨ (k = 1 ∧ (s.data.toList.head? = some 45 ∨ s.data.toList.head? = some 43))
        · have HSP : Hid (SpecN s k r) := hidden ⟨Hr.out.trans (HNT.out.special hlt HNUM.out hs)⟩
          rw [hhead] at hs
          clear hhead
          rcases hs with h0 | ⟨h1, hsg | hsg⟩
          · have g1 : ((k : Int) == 0) = true := by rw [h0]; rfl
            have hk3 : k ≤ 1 := by omega
            clear h0
            rcases hdig with hd | ⟨hd, hd2⟩
            all_goals
              by_cases h3 : k + 3 ≤ s.size
              · have hw3 : IntKind.i64.wrap ((k : Int) + 3) = ((k + 3 : Nat) : Int) := by rw [IntKind.wrap_i64]; omega
                have hw4 : (3 : Int) ≤ ((s.size - k : Nat) : Int) := by omega
                have hw5 : 3 ≤ s.size - k := by omega
                obtain ⟨sm, hsm⟩ : ∃ sm, s.extract k (k + 3) = sm := ⟨_, rfl⟩
                have hsl : sm.data.toList = (s.data.toList.drop k).take 3 := by rw [← hsm, extract_mid, toL_bs]
                have HSM := hidden hsl
                have hsz3 : sm.size ≤ 1000000000 := by rw [size_toL, hsl, List.length_take]; omega
                obtain ⟨b1, hb1⟩ : ∃ b, foldIs ((s.data.toList.drop k).take 3) infB = b := ⟨_, rfl⟩
                obtain ⟨b2, hb2⟩ : ∃ b, foldIs ((s.data.toList.drop k).take 3) nanB = b := ⟨_, rfl⟩
                have HF1 := hidden (fun W => fold_calls sm ⟨#[105, 110, 102]⟩ W hsz3 b1 (by rw [hsl]; exact hb1.symm))
                have HF2 := hidden (fun W => fold_calls sm ⟨#[110, 97, 110]⟩ W hsz3 b2 (by rw [hsl]; exact hb2.symm))
                have hre := HSP.out.eq
                rw [hb1, hb2] at hre
                have HRE := hidden hre
                clear hsl hb1 hb2 hre hsz3
                cases b1 with
                | true =>
                  have hre : r = some (s.data.toList.take (k + 3), s.data.toList.drop (k + 3)) := by rw [HRE.out, if_pos (.inl rfl)]
                  subst hre
                  go_wp2_with (go_at_call 81; go_must (refine (HF1.out _).mono ?_; rintro e w1 ⟨rfl, rfl⟩))
                  go_quiet (fail)
                  go_wp2
                  go_ret3
                  exact ⟨ret3 (extract_take s (k + 3)) (extract_drop s (k + 3)), below_drewN0 (Below.refl _ _) _⟩
                | false =>
                  cases b2 with
                  | true =>
                    have hre : r = some (s.data.toList.take (k + 3), s.data.toList.drop (k + 3)) := by rw [HRE.out, if_pos (.inr rfl)]
                    subst hre
                    go_wp2_with (first | (go_at_call 81; ((with_reducible refine (HF1.out _).mono ?_); rintro e w1 ⟨rfl, rfl⟩)) | (go_at_call 81; ((with_reducible refine (HF2.out _).mono ?_); rintro e w1 ⟨rfl, rfl⟩)))
                    go_quiet (fail)
                    go_wp2
                    go_ret3
                    exact ⟨ret3 (extract_take s (k + 3)) (extract_drop s (k + 3)), below_drewN0 (Below.refl _ _) _⟩
                  | false =>
                    have hre : r = none := by rw [HRE.out]; simp
                    subst hre
                    go_wp2_with (first | (go_at_call 81; ((with_reducible refine (HF1.out _).mono ?_); rintro e w1 ⟨rfl, rfl⟩)) | (go_at_call 81; ((with_reducible refine (HF2.out _).mono ?_); rintro e w1 ⟨rfl, rfl⟩)) | (go_at_call 48; go_must (refine (newErr_calls _ _).mono ?_; rintro e w1 ⟨T, a, rfl, hB⟩; have HB := hidden hB; clear hB)))
                    go_ret3
                    exact ⟨_, _, _, _, rfl, HB.out⟩
              · have hw4 : ¬ (3 : Int) ≤ ((s.size - k : Nat) : Int) := by omega
                have hw5 : ¬ 3 ≤ s.size - k := by omega
                have hre : r = none := by
                  rw [HSP.out.eq, fold_len (by rw [List.length_take, List.length_drop, len_toL]; show _ ≠ 3; omega), fold_len (by rw [List.length_take, List.length_drop, len_toL]; show _ ≠ 3; omega)]; simp
                subst hre
                go_wp2_with (go_at_call 48; go_must (refine (newErr_calls _ _).mono ?_; rintro e w1 ⟨T, a, rfl, hB⟩; have HB := hidden hB; clear hB))
                go_ret3
                exact ⟨_, _, _, _, rfl, HB.out⟩
          · have hc45 : c0 = 45 := by simpa using hsg
            subst hc45
            have g1 : ((k : Int) == 0) = false := beq_eq_false_iff_ne.2 (by omega)
            have g2 : ((k : Int) == 1) = true := by rw [h1]; rfl
            have hk3 : k ≤ 1 := by omega
            clear h1 hsg
            rcases hdig with hd | ⟨hd, hd2⟩
            all_goals
              by_cases h3 : k + 3 ≤ s.size
              · have hw3 : IntKind.i64.wrap ((k : Int) + 3) = ((k + 3 : Nat) : Int) := by rw [IntKind.wrap_i64]; omega
                have hw4 : (3 : Int) ≤ ((s.size - k : Nat) : Int) := by omega
                have hw5 : 3 ≤ s.size - k := by omega
                obtain ⟨sm, hsm⟩ : ∃ sm, s.extract k (k + 3) = sm := ⟨_, rfl⟩
                have hsl : sm.data.toList = (s.data.toList.drop k).take 3 := by rw [← hsm, extract_mid, toL_bs]
                have HSM := hidden hsl
                have hsz3 : sm.size ≤ 1000000000 := by rw [size_toL, hsl, List.length_take]; omega
                obtain ⟨b1, hb1⟩ : ∃ b, foldIs ((s.data.toList.drop k).take 3) infB = b := ⟨_, rfl⟩
                obtain ⟨b2, hb2⟩ : ∃ b, foldIs ((s.data.toList.drop k).take 3) nanB = b := ⟨_, rfl⟩
                have HF1 := hidden (fun W => fold_calls sm ⟨#[105, 110, 102]⟩ W hsz3 b1 (by rw [hsl]; exact hb1.symm))
                have HF2 := hidden (fun W => fold_calls sm ⟨#[110, 97, 110]⟩ W hsz3 b2 (by rw [hsl]; exact hb2.symm))
                have hre := HSP.out.eq
                rw [hb1, hb2] at hre
                have HRE := hidden hre
                clear hsl hb1 hb2 hre hsz3
                cases b1 with
                | true =>
                  have hre : r = some (s.data.toList.take (k + 3), s.data.toList.drop (k + 3)) := by rw [HRE.out, if_pos (.inl rfl)]
                  subst hre
                  go_wp2_with (go_at_call 81; go_must (refine (HF1.out _).mono ?_; rintro e w1 ⟨rfl, rfl⟩))
                  go_quiet (fail)
                  go_wp2
                  go_ret3
                  exact ⟨ret3 (extract_take s (k + 3)) (extract_drop s (k + 3)), below_drewN0 (Below.refl _ _) _⟩
                | false =>
                  cases b2 with
                  | true =>
                    have hre : r = some (s.data.toList.take (k + 3), s.data.toList.drop (k + 3)) := by rw [HRE.out, if_pos (.inr rfl)]
                    subst hre
                    go_wp2_with (first | (go_at_call 81; ((with_reducible refine (HF1.out _).mono ?_); rintro e w1 ⟨rfl, rfl⟩)) | (go_at_call 81; ((with_reducible refine (HF2.out _).mono ?_); rintro e w1 ⟨rfl, rfl⟩)))
                    go_quiet (fail)
                    go_wp2
                    go_ret3
                    exact ⟨ret3 (extract_take s (k + 3)) (extract_drop s (k + 3)), below_drewN0 (Below.refl _ _) _⟩
                  | false =>
                    have hre : r = none := by rw [HRE.out]; simp
                    subst hre
                    go_wp2_with (first | (go_at_call 81; ((with_reducible refine (HF1.out _).mono ?_); rintro e w1 ⟨rfl, rfl⟩)) | (go_at_call 81; ((with_reducible refine (HF2.out _).mono ?_); rintro e w1 ⟨rfl, rfl⟩)) | (go_at_call 48; go_must (refine (newErr_calls _ _).mono ?_; rintro e w1 ⟨T, a, rfl, hB⟩; have HB := hidden hB; clear hB)))
                    go_ret3
                    exact ⟨_, _, _, _, rfl, HB.out⟩
              · have hw4 : ¬ (3 : Int) ≤ ((s.size - k : Nat) : Int) := by omega
                have hw5 : ¬ 3 ≤ s.size - k := by omega
                have hre : r = none := by
                  rw [HSP.out.eq, fold_len (by rw [List.length_take, List.length_drop, len_toL]; show _ ≠ 3; omega), fold_len (by rw [List.length_take, List.length_drop, len_toL]; show _ ≠ 3; omega)]; simp
                subst hre
                go_wp2_with (go_at_call 48; go_must (refine (newErr_calls _ _).mono ?_; rintro e w1 ⟨T, a, rfl, hB⟩; have HB := hidden hB; clear hB))
                go_ret3
                exact ⟨_, _, _, _, rfl, HB.out⟩
          · have hc43 : c0 = 43 := by simpa using hsg
            subst hc43
            have g1 : ((k : Int) == 0) = false := beq_eq_false_iff_ne.2 (by omega)
            have g2 : ((k : Int) == 1) = true := by rw [h1]; rfl
            have hk3 : k ≤ 1 := by omega
            clear h1 hsg
            rcases hdig with hd | ⟨hd, hd2⟩
            all_goals
              by_cases h3 : k + 3 ≤ s.size
              · have hw3 : IntKind.i64.wrap ((k : Int) + 3) = ((k + 3 : Nat) : Int) := by rw [IntKind.wrap_i64]; omega
                have hw4 : (3 : Int) ≤ ((s.size - k : Nat) : Int) := by omega
                have hw5 : 3 ≤ s.size - k := by omega
                obtain ⟨sm, hsm⟩ : ∃ sm, s.extract k (k + 3) = sm := ⟨_, rfl⟩
                have hsl : sm.data.toList = (s.data.toList.drop k).take 3 := by rw [← hsm, extract_mid, toL_bs]
                have HSM := hidden hsl
                have hsz3 : sm.size ≤ 1000000000 := by rw [size_toL, hsl, List.length_take]; omega
                obtain ⟨b1, hb1⟩ : ∃ b, foldIs ((s.data.toList.drop k).take 3) infB = b := ⟨_, rfl⟩
                obtain ⟨b2, hb2⟩ : ∃ b, foldIs ((s.data.toList.drop k).take 3) nanB = b := ⟨_, rfl⟩
                have HF1 := hidden (fun W => fold_calls sm ⟨#[105, 110, 102]⟩ W hsz3 b1 (by rw [hsl]; exact hb1.symm))
                have HF2 := hidden (fun W => fold_calls sm ⟨#[110, 97, 110]⟩ W hsz3 b2 (by rw [hsl]; exact hb2.symm))
                have hre := HSP.out.eq
                rw [hb1, hb2] at hre
                have HRE := hidden hre
                clear hsl hb1 hb2 hre hsz3
                cases b1 with
                | true =>
                  have hre : r = some (s.data.toList.take (k + 3), s.data.toList.drop (k + 3)) := by rw [HRE.out, if_pos (.inl rfl)]
                  subst hre
                  go_wp2_with (go_at_call 81; go_must (refine (HF1.out _).mono ?_; rintro e w1 ⟨rfl, rfl⟩))
                  go_quiet (fail)
                  go_wp2
                  go_ret3
                  exact ⟨ret3 (extract_take s (k + 3)) (extract_drop s (k + 3)), below_drewN0 (Below.refl _ _) _⟩
                | false =>
                  cases b2 with
                  | true =>
                    have hre : r = some (s.data.toList.take (k + 3), s.data.toList.drop (k + 3)) := by rw [HRE.out, if_pos (.inr rfl)]
                    subst hre
                    go_wp2_with (first | (go_at_call 81; ((with_reducible refine (HF1.out _).mono ?_); rintro e w1 ⟨rfl, rfl⟩)) | (go_at_call 81; ((with_reducible refine (HF2.out _).mono ?_); rintro e w1 ⟨rfl, rfl⟩)))
                    go_quiet (fail)
                    go_wp2
                    go_ret3
                    exact ⟨ret3 (extract_take s (k + 3)) (extract_drop s (k + 3)), below_drewN0 (Below.refl _ _) _⟩
                  | false =>
                    have hre : r = none := by rw [HRE.out]; simp
                    subst hre
                    go_wp2_with (first | (go_at_call 81; ((with_reducible refine (HF1.out _).mono ?_); rintro e w1 ⟨rfl, rfl⟩)) | (go_at_call 81; ((with_reducible refine (HF2.out _).mono ?_); rintro e w1 ⟨rfl, rfl⟩)) | (go_at_call 48; go_must (refine (newErr_calls _ _).mono ?_; rintro e w1 ⟨T, a, rfl, hB⟩; have HB := hidden hB; clear hB)))
                    go_ret3
                    exact ⟨_, _, _, _, rfl, HB.out⟩
              · have hw4 : ¬ (3 : Int) ≤ ((s.size - k : Nat) : Int) := by omega
                have hw5 : ¬ 3 ≤ s.size - k := by omega
                have hre : r = none := by
                  rw [HSP.out.eq, fold_len (by rw [List.length_take, List.length_drop, len_toL]; show _ ≠ 3; omega), fold_len (by rw [List.length_take, List.length_drop, len_toL]; show _ ≠ 3; omega)]; simp
                subst hre
                go_wp2_with (go_at_call 48; go_must (refine (newErr_calls _ _).mono ?_; rintro e w1 ⟨T, a, rfl, hB⟩; have HB := hidden hB; clear hB))
                go_ret3
                exact ⟨_, _, _, _, rfl, HB.out⟩
        · have hre := Hr.out.trans (HNT.out.cut hlt HNUM.out hs)
          subst hre
          rw [hhead] at hs
          clear hhead
          have g1 : ((k : Int) == 0) = false := beq_eq_false_iff_ne.2 (by omega)
          by_cases h1 : k = 1
          · have g2 : ((k : Int) == 1) = true := by rw [h1]; rfl
            obtain ⟨b, hb⟩ : ∃ b : Nat, c0.toNat = b := ⟨_, rfl⟩
            have hn45 : c0 ≠ 45 := fun e => hs (.inr ⟨h1, .inl (by rw [e])⟩)
            have hn43 : c0 ≠ 43 := fun e => hs (.inr ⟨h1, .inr (by rw [e])⟩)
            obtain ⟨e6, f6⟩ := ne_both (a := b) (k := 45) (fun e => hn45 (UInt8.toNat_inj.1 (by rw [hb]; show b = 45; omega)))
            obtain ⟨e7, f7⟩ := ne_both (a := b) (k := 43) (fun e => hn43 (UInt8.toNat_inj.1 (by rw [hb]; show b = 43; omega)))
            clear h1 hs hn45 hn43
            rcases hdig with hd | ⟨hd, hd2⟩
            all_goals
              go_wp2
              go_ret3
              exact ⟨ret3 (extract_take s k) (extract_drop s k), Below.refl _ _⟩
          · have g2 : ((k : Int) == 1) = false := beq_eq_false_iff_ne.2 (by omega)
            clear h1 hs
            rcases hdig with hd | ⟨hd, hd2⟩
            all_goals
              go_wp2
              go_ret3
              exact ⟨ret3 (extract_take s k) (extract_drop s k), Below.refl _ _⟩
    · obtain rfl : k = s.size := by omega
      have hre := Hr.out.trans (NumTo.all HNT.out)
      subst hre
      go_wp2
      go_ret3
      exact ⟨ret3 (bs_self s).symm rfl, Below.refl _ _⟩
end Go.Proofs.YtbdmdajbdmdknaaDoor
