/- The walk of FnJoinNested. -/
import Derived.Test.YtbdmdajbdmdknaaGreatDoorM19
namespace Go.Proofs.YtbdmdajbdmdknaaGreatDoor
open Go.RowKit
set_option linter.unusedVariables false
set_option linter.unusedSimpArgs false

def toyS : ByteArray := ⟨#[116, 111, 121]⟩
theorem tame_safe {s : ByteArray} (h : safeS s = true) : Tame s := by
  have h1 : ∀ x ∈ s.data.toList, okN x.toNat = true := by
    intro x hx
    have := h
    unfold safeS safeL at this
    exact List.all_eq_true.1 this x hx
  constructor
  · intro e
    have := h1 _ e
    revert this; decide
  · intro e
    have := h1 _ e
    revert this; decide
theorem tame_toy : Tame toyS := ⟨by decide, by decide⟩
/-- What is known at the heads of the loops over the layers. -/
structure LayAt (w wr : World) (l : List Int) (v : Value) : Prop where
  below : Below w.heap.size w wr
  res : ∃ A c, v = .slice A l.length c ∧ ArgB wr A l.length c l
theorem lay_shape (hd key pl : List Int) : lay1 hd key pl = encF (alpha true) hd ++ 46 :: (encF (alpha true) pl ++ 46 :: encF (alpha true) (layR hd key pl)) := by
  simp [lay1, layS, signF, tailF]
theorem layS_shape (hd pl : List Int) : layS hd pl = encF (alpha true) hd ++ [46] ++ encF (alpha true) pl := by
  simp [layS, signF, tailF]
set_option maxRecDepth 100000 in
set_option maxHeartbeats 8000000 in
theorem nested_walk (A : Option Addr) (n c : Nat) (vs : List (Option Addr × Nat × Nat)) (ls : List (List Int)) (kid : ByteArray) (A2 : Option Addr) (n2 c2 : Nat) (z2 : List Int) (w : World) (sr : Rd w A (slvs vs)) (sl : vs.length = n) (sc : n ≤ c) (sa : A = none → c = 0) (sb : n ≤ 9223372036854775807) (sv : SlcIs w vs ls) (x1 : kid.size ≤ 140737488351232) (r2 : IsRow .u8 w A2 n2 c2 z2) (y2 : n2 * 1 ≤ 140737488351232) :
    Calls Tryz.prog 4 #[.slice A n c, .string kid, .slice A2 n2 c2] w fun e w' => e = .returned (.bool true) ∧ Below w.heap.size w w' := by

  have e2 := r2.came.arg
  generalize z2.take n2 = l2 at e2
  have E2 := hidden e2
  have EV := hidden sr
  have EL := hidden sl
  have ES := hidden sv
  obtain ⟨r6, hr6⟩ : ∃ r : Bool, r = true ↔ n ≤ 2147483647 ∧ ∀ x ∈ vs, x.2.1 ≤ 2147483647 := ⟨decide (n ≤ 2147483647 ∧ ∀ x ∈ vs, x.2.1 ≤ 2147483647), by simp⟩
  have K6 := hidden (fits6_calls A n c vs w sr sl sb r6 hr6)
  clear r2 e2 y2 sr sv hr6 sc sa sl
  cases r6 with
  | false =>
    go_enter Tryz.func4, Tryz.ntmps4
    go_wp2_with (first
      | (go_at_call 14; go_must (refine K6.out.mono ?_; rintro e wq ⟨rfl, rfl⟩)))
    go_ret
    exact ⟨rfl, Below.refl _ _⟩
  | true =>
    by_cases hz1 : kid.size ≤ 2147483647
    case neg =>
      have hi1 : (2147483647 : Int) < (kid.size : Int) := by omega
      go_enter Tryz.func4, Tryz.ntmps4
      go_wp2_with (first
        | (go_at_call 14; go_must (refine K6.out.mono ?_; rintro e wq ⟨rfl, rfl⟩)))
      go_ret
      exact ⟨rfl, Below.refl _ _⟩
    have hi1 : ¬ (2147483647 : Int) < (kid.size : Int) := by omega
    by_cases hz2 : n2 ≤ 2147483647
    case neg =>
      have hi2 : (2147483647 : Int) < (n2 : Int) := by omega
      go_enter Tryz.func4, Tryz.ntmps4
      go_wp2_with (first
        | (go_at_call 14; go_must (refine K6.out.mono ?_; rintro e wq ⟨rfl, rfl⟩)))
      go_ret
      exact ⟨rfl, Below.refl _ _⟩
    have hi2 : ¬ (2147483647 : Int) < (n2 : Int) := by omega
    by_cases h6 : n ≤ 6
    case neg =>
      have hi6 : (6 : Int) < (n : Int) := by omega
      go_enter Tryz.func4, Tryz.ntmps4
      go_wp2_with (first
        | (go_at_call 14; go_must (refine K6.out.mono ?_; rintro e wq ⟨rfl, rfl⟩))
        | (go_at_call 17; go_must (refine (partAwake_calls _).mono ?_; rintro e w2 ⟨rfl, hB2⟩)))
      go_ret
      exact ⟨rfl, hB2⟩
    have hi6 : ¬ (6 : Int) < (n : Int) := by omega
    obtain ⟨r, hr⟩ : ∃ r : Bool, r = true ↔ ∀ x ∈ [(A2, n2, c2)], x.2.1 ≤ 2000 := ⟨decide (∀ x ∈ [(A2, n2, c2)], x.2.1 ≤ 2000), by simp⟩
    have Hr := hidden hr
    have KR : Hid (∀ (W : World) X, Rd W X (slvs [(A2, n2, c2)]) → Calls Tryz.prog 15 #[.slice X 1 1] W fun e w' => e = .returned (.bool r) ∧ W = w') := hidden (fun W X h => partShort_calls X 1 1 _ W h rfl (by omega) r hr)
    clear hr
    cases r with
    | false =>
      go_enter Tryz.func4, Tryz.ntmps4
      go_wp2_with (first
        | (go_at_call 14; go_must (refine K6.out.mono ?_; rintro e wq ⟨rfl, rfl⟩))
        | (go_at_call 15; go_must (refine (KR.out _ _ (Rd.new w _ (slvs [(A2, n2, c2)]) _ rfl)).mono ?_; rintro e w1 ⟨rfl, rfl⟩))
        | (go_at_call 17; go_must (refine (partAwake_calls _).mono ?_; rintro e w2 ⟨rfl, hB2⟩)))
      go_ret
      exact ⟨rfl, below_next (below_alloc0 _ _) hB2⟩
    | true =>
      have q2 : n2 ≤ 2000 := by have := Hr.out.1 rfl; simpa using this
      obtain ⟨q, hq⟩ : ∃ q : Bool, q = [kid].all okS := ⟨_, rfl⟩
      have Hq := hidden hq
      have KQ : Hid (∀ (W : World) X, Rd W X (strs [kid]) → Calls Tryz.prog 16 #[.slice X 1 1] W fun e w' => e = .returned (.bool q) ∧ W = w') := hidden (fun W X h => joinSafe_calls X 1 1 [kid] W h rfl (by omega) q hq)
      clear hq
      cases q with
      | false =>
        go_enter Tryz.func4, Tryz.ntmps4
        go_wp2_with (first
          | (go_at_call 14; go_must (refine K6.out.mono ?_; rintro e wq ⟨rfl, rfl⟩))
          | (go_at_call 15; go_must (refine (KR.out _ _ (Rd.new w _ (slvs [(A2, n2, c2)]) _ rfl)).mono ?_; rintro e w1 ⟨rfl, rfl⟩))
          | (go_at_call 16; go_must (refine (KQ.out _ _ (Rd.new (w.alloc _) _ (strs [kid]) _ (by simp))).mono ?_; rintro e w1 ⟨rfl, rfl⟩))
          | (go_at_call 17; go_must (refine (partAwake_calls _).mono ?_; rintro e w2 ⟨rfl, hB2⟩)))
        go_ret
        exact ⟨rfl, below_next (below_next (below_alloc0 _ _) (below_alloc0 _ _)) hB2⟩
      | true =>
        have hk0 : okS kid = true := by have := Hq.out; simpa using this.symm
        obtain ⟨hks, hksafe⟩ : kid.size ≤ 60 ∧ safeS kid = true := by simpa [okS] using hk0
        have htk := hidden (tame_safe hksafe)
        obtain ⟨hd, hhd⟩ : ∃ hd, hd = bts (headS toyS kid) := ⟨_, rfl⟩
        obtain ⟨nH, hnH⟩ : ∃ nH, nH = toyS.size + kid.size + 19 := ⟨_, rfl⟩
        have hnH' : nH = kid.size + 22 := by rw [hnH]; show 3 + kid.size + 19 = kid.size + 22; omega
        have lhd : hd.length = nH := by rw [hhd, headS_len, hnH]
        have hnHb : nH ≤ 82 := by omega
        have bhd : IsB hd := by rw [hhd]; exact bts_isB _
        have HD := hidden (And.intro hhd (And.intro hnH (And.intro lhd bhd)))
        have HL : Hid (∀ i, i ≤ 6 → (layN hd ls l2 i).length ≤ 14000 ∧ (i ≤ 5 → (layN hd ls l2 i).length ≤ 10200)) := hidden (fun i hi => layN_len (by rw [lhd]; omega) (by rw [E2.out.len]; omega) i hi)
        have HIB : Hid (∀ i, IsB (layN hd ls l2 i)) := hidden (fun i => layN_isB bhd E2.out.isB i)
        have HZ0 := hidden (below_next (below_alloc0 w (.cells (slvs [(A2, n2, c2)]).toArray 31)) (below_alloc0 _ (.cells (strs [kid]).toArray 9)))
        clear hk0 hksafe hhd hnH lhd bhd
        go_enter Tryz.func4, Tryz.ntmps4
        go_wp2_with (first
          | (go_at_call 14; go_must (refine K6.out.mono ?_; rintro e wq ⟨rfl, rfl⟩))
          | (go_at_call 15; go_must (refine (KR.out _ _ (Rd.new w _ (slvs [(A2, n2, c2)]) _ rfl)).mono ?_; rintro e w1 ⟨rfl, rfl⟩))
          | (go_at_call 16; go_must (refine (KQ.out _ _ (Rd.new (w.alloc _) _ (strs [kid]) _ (by simp))).mono ?_; rintro e w1 ⟨rfl, rfl⟩)))
        go_loopw [48] (fun i wr => ∃ k : Nat, k ≤ n ∧ i = .int .i64 k ∧ Hid (Below w.heap.size w wr) ∧ Hid (∀ j (hj : j < vs.length), j < k → (vs[j]).2.1 ≤ 2000)) (fun i _ => n - (intOf i).toNat)
        case atStart => exact ⟨0, by omega, rfl, HZ0, hidden (fun j _ h => by omega)⟩
        case round =>
          obtain ⟨k, hk, rfl, HB, HJ⟩ := hrel
          by_cases hlt : k < n
          · have hkv : k < vs.length := by rw [EL.out]; exact hlt
            obtain ⟨b, o, rfl, hb1, hc1⟩ := (EV.out.below HB.out (Nat.le_refl _)) k _ (slvs_at vs k hkv)
            obtain ⟨x, hx⟩ : ∃ x, vs[k] = x := ⟨_, rfl⟩
            rw [hx] at hc1
            have HX := hidden hx
            clear hx
            obtain ⟨X, m, d⟩ := x
            by_cases hm : m ≤ 2000
            case neg =>
              have KV : Hid (∀ (W : World) Z, Rd W Z (slvs [(X, m, d)]) → Calls Tryz.prog 15 #[.slice Z 1 1] W fun e w' => e = .returned (.bool false) ∧ W = w') := hidden (fun W Z h => partShort_calls Z 1 1 _ W h rfl (by omega) false (by simp; omega))
              go_wp2_with (first
                | (go_at_call 15; go_must (refine (KV.out _ _ (Rd.new wr _ (slvs [(X, m, d)]) _ rfl)).mono ?_; rintro e w1 ⟨rfl, rfl⟩))
                | (go_at_call 17; go_must (refine (partAwake_calls _).mono ?_; rintro e w2 ⟨rfl, hB2⟩)))
              go_ret
              exact ⟨rfl, below_next (below_next HB.out (below_alloc0 _ _)) hB2⟩
            have KV : Hid (∀ (W : World) Z, Rd W Z (slvs [(X, m, d)]) → Calls Tryz.prog 15 #[.slice Z 1 1] W fun e w' => e = .returned (.bool true) ∧ W = w') := hidden (fun W Z h => partShort_calls Z 1 1 _ W h rfl (by omega) true (by simp; omega))
            have HJ' : Hid (∀ j (hj : j < vs.length), j < k + 1 → (vs[j]).2.1 ≤ 2000) := hidden (fun j hj h => by
              by_cases e : j = k
              · subst e
                rw [HX.out]
                exact hm
              · exact HJ.out j hj (by omega))
            go_wp2_with (first
              | (go_at_call 15; go_must (refine (KV.out _ _ (Rd.new wr _ (slvs [(X, m, d)]) _ rfl)).mono ?_; rintro e w1 ⟨rfl, rfl⟩)))
            exact ⟨⟨k + 1, by omega, by go_num, hidden (below_next HB.out (below_alloc0 _ _)), HJ'⟩, by simp [intOf]; omega⟩
          · obtain rfl : k = n := by omega
            have HS : Hid (∀ j (hj : j < vs.length), (vs[j]).2.1 ≤ 2000) := hidden (fun j hj => HJ.out j hj (by rw [← EL.out]; exact hj))
            obtain ⟨w4, hw4⟩ : ∃ W, W = wr := ⟨_, rfl⟩
            subst hw4
            have HB4 := hidden HB.out
            clear HJ HB HZ0
            have E24 := hidden (E2.out.below HB4.out (Nat.le_refl _))
            go_wp2_with (first
              | (go_at_call 18; go_must (refine (ownB_calls w4 _ _ _ _ E24.out (by omega)).mono ?_; rintro e w5 ⟨hB, At, ct, rfl, ha⟩; have H5 := hidden (below_next HB4.out hB); have HA5 := hidden ha; clear hB ha)))
            go_loopw [62, 9] (fun i v wr => ∃ k' : Nat, k' ≤ k ∧ i = .int .i64 k' ∧ Hid (LayAt w wr (layN hd ls l2 k') v)) (fun i _ _ => k - (intOf i).toNat)
            case atStart => exact ⟨0, by omega, rfl, hidden ⟨H5.out, At, ct, by rw [show layN hd ls l2 0 = l2 from rfl, E2.out.len], by rw [show layN hd ls l2 0 = l2 from rfl, E2.out.len]; exact HA5.out⟩⟩
            case round =>
              clear HA5 H5 E24
              obtain ⟨j, hj, rfl, HM⟩ := hrel
              obtain ⟨hBr, Aj, cj, rfl, haj⟩ := HM.out
              have HBr := hidden hBr
              have HAj := hidden haj
              clear hBr haj HM
              by_cases hlt2 : j < k
              · have hkv : j < vs.length := by rw [EL.out]; exact hlt2
                obtain ⟨b, o, rfl, hb1, hc1⟩ := (EV.out.below HBr.out (Nat.le_refl _)) j _ (slvs_at vs j hkv)
                have hms := HS.out j hkv
                have hmk := ES.out.2 j hkv
                obtain ⟨x, hx⟩ : ∃ x, vs[j] = x := ⟨_, rfl⟩
                rw [hx] at hc1 hms hmk
                clear hx
                obtain ⟨X, m, d⟩ := x
                dsimp only at hc1 hms hmk
                have HK := hidden (hmk.below HBr.out (Nat.le_refl _))
                clear hmk
                obtain ⟨key, hkey⟩ : ∃ key, ls.getD j [] = key := ⟨_, rfl⟩
                rw [hkey] at HK
                obtain ⟨pl, hpl⟩ : ∃ pl, layN hd ls l2 j = pl := ⟨_, rfl⟩
                have hlb := (HL.out j (by omega)).2 (by omega)
                have hlb2 := (HL.out (j + 1) (by omega)).1
                have hnx : layN hd ls l2 (j + 1) = lay1 hd key pl := by rw [← hkey, ← hpl]; rfl
                rw [hnx] at hlb2
                rw [hpl] at HAj hlb ⊢
                obtain ⟨mm, hmm⟩ : ∃ mm, pl.length = mm := ⟨_, rfl⟩
                rw [hmm] at HAj hlb ⊢
                have hSl : (layS hd pl).length ≤ 20000 := by
                  have := layS_len (hd := hd) (pl := pl) (by rw [HD.out.2.2.1]; omega)
                  omega
                obtain ⟨p, hp⟩ : ∃ p, (layS hd pl).length = p := ⟨_, rfl⟩
                obtain ⟨qJ, hqJ⟩ : ∃ q, (lay1 hd key pl).length = q := ⟨_, rfl⟩
                have KJ : Hid (Calls Tryz.prog 19 #[.slice X m d, .string ⟨#[116, 111, 121]⟩, .string kid, .slice Aj mm cj, .bool true] wr (HeadB wr qJ (lay1 hd key pl))) := hidden (joinSigned_calls toyS kid nH hd HD.out.1 HD.out.2.1 (by omega) X m d key Aj mm cj pl (layS hd pl) p rfl hp (layR hd key pl) (layR_sum hd key pl) (lay1 hd key pl) qJ rfl hqJ wr HK.out (by omega) HAj.out (by omega) (by omega))
                have HN := hidden (And.intro hnx hqJ)
                clear hSl hp hqJ hmm hnx hkey hpl hlb2
                go_wp2_with (first
                  | (go_at_call 19; ((with_reducible refine KJ.out.mono ?_); rintro e w6 ⟨hB, AJ, cJ, rfl, ha⟩; have H6 := hidden (below_next HBr.out hB); have HA6 := hidden ha; clear hB ha)))
                go_roundw
                case rel => exact ⟨j + 1, by omega, by go_num, hidden ⟨H6.out, AJ, cJ, by rw [HN.out.1, HN.out.2], by rw [HN.out.1, HN.out.2]; exact HA6.out⟩⟩
                case measure => simp [intOf]; omega
              · obtain rfl : j = k := by omega
                obtain ⟨w6, hw6⟩ : ∃ W, W = wr := ⟨_, rfl⟩
                subst hw6
                have HB6 := hidden HBr.out
                have HA6 := hidden HAj.out
                have hwr : IntKind.i64.wrap ((j : Int) - 1) = (j : Int) - 1 := by rw [IntKind.wrap_i64]; omega
                clear HBr HAj HB4
                go_wp2
                go_loopw [12, 9] (fun i v wr => ∃ (t : Nat) (I : Int), t ≤ j ∧ I = (t : Int) - 1 ∧ i = .int .i64 I ∧ Hid (LayAt w wr (layN hd ls l2 t) v)) (fun i _ _ => (intOf i + 1).toNat)
                case atStart => exact ⟨j, _, Nat.le_refl _, rfl, rfl, hidden ⟨HB6.out, Aj, cj, rfl, HA6.out⟩⟩
                case round =>
                  clear HB6 HA6 hwr
                  obtain ⟨t, I, ht, hI, rfl, HM⟩ := hrel
                  obtain ⟨hBr, At2, ct2, rfl, hat⟩ := HM.out
                  have HBr := hidden hBr
                  have HAt := hidden hat
                  clear hBr hat HM
                  cases t with
                  | succ t =>
                    obtain rfl : I = (t : Int) := by omega
                    clear hI
                    have hI0 : ¬ (t : Int) < 0 := by omega
                    have hwr : IntKind.i64.wrap ((t : Int) - 1) = (t : Int) - 1 := by rw [IntKind.wrap_i64]; omega
                    have hkv : t < vs.length := by rw [EL.out]; exact ht
                    obtain ⟨b, o, rfl, hb1, hc1⟩ := (EV.out.below HBr.out (Nat.le_refl _)) t _ (slvs_at vs t hkv)
                    have hms := HS.out t hkv
                    have hmk := ES.out.2 t hkv
                    obtain ⟨x, hx⟩ : ∃ x, vs[t] = x := ⟨_, rfl⟩
                    rw [hx] at hc1 hms hmk
                    clear hx
                    obtain ⟨X, m, d⟩ := x
                    dsimp only at hc1 hms hmk
                    have HK := hidden (hmk.below HBr.out (Nat.le_refl _))
                    clear hmk
                    obtain ⟨key, hkey⟩ : ∃ key, ls.getD t [] = key := ⟨_, rfl⟩
                    rw [hkey] at HK
                    obtain ⟨pl, hpl⟩ : ∃ pl, layN hd ls l2 t = pl := ⟨_, rfl⟩
                    have hlb := (HL.out t (by omega)).2 (by omega)
                    have hlb2 := (HL.out (t + 1) (by omega)).1
                    have hnx : layN hd ls l2 (t + 1) = lay1 hd key pl := by rw [← hkey, ← hpl]; rfl
                    rw [hnx] at hlb2 HAt ⊢
                    rw [hpl] at hlb
                    have hpb : IsB pl := by rw [← hpl]; exact HIB.out t
                    obtain ⟨mm, hmm⟩ : ∃ mm, pl.length = mm := ⟨_, rfl⟩
                    rw [hmm] at hlb
                    obtain ⟨qJ, hqJ⟩ : ∃ q, (lay1 hd key pl).length = q := ⟨_, rfl⟩
                    rw [hqJ] at HAt hlb2 ⊢
                    have hSl : (layS hd pl).length ≤ 20000 := by
                      have := layS_len (hd := hd) (pl := pl) (by rw [HD.out.2.2.1]; omega)
                      omega
                    have hparts : (encF (alpha true) hd).length ≤ 14000 ∧ (encF (alpha true) pl).length ≤ 14000 ∧ (encF (alpha true) (layR hd key pl)).length ≤ 14000 := by
                      have := hqJ
                      rw [lay_shape] at this
                      simp only [List.length_append, List.length_cons] at this
                      omega
                    have KJ : Hid (Calls Tryz.prog 20 #[.slice X m d, .slice At2 qJ ct2, .bool true] wr (OpenP wr mm pl toyS kid)) := hidden (joinOpened_calls toyS kid nH hd HD.out.1 HD.out.2.2.1 (by omega) tame_toy htk.out X m d key At2 qJ ct2 (lay1 hd key pl) pl (layS hd pl) _ _ _ (layR hd key pl) mm _ _ _ _ rfl rfl rfl rfl rfl rfl hmm hpb (layR_sum hd key pl) (layS_shape hd pl) rfl (lay_shape hd key pl) wr HK.out (by omega) HAt.out (by omega) (by omega) (by omega) (by omega) hSl (by omega))
                    have HN := hidden (And.intro hpl hmm)
                    clear hSl hparts hpb hqJ hmm hnx hkey hpl hlb2
                    go_wp2_with (first
                      | (go_at_call 20; ((with_reducible refine KJ.out.mono ?_); rintro e w7 ⟨hB, AJ, cJ, rfl, ha⟩; have H7 := hidden (below_next HBr.out hB); have HA7 := hidden ha; clear hB ha; dsimp only [toyS])))
                    go_roundw
                    case rel => exact ⟨t, _, by omega, rfl, rfl, hidden ⟨H7.out, AJ, cJ, by rw [HN.out.1, HN.out.2], by rw [HN.out.1, HN.out.2]; exact HA7.out⟩⟩
                    case measure => first | (simp [intOf]; done) | (simp [intOf]; omega)
                  | zero =>
                    obtain rfl : I = -1 := by omega
                    clear hI
                    rw [show layN hd ls l2 0 = l2 from rfl, E2.out.len] at HAt ⊢
                    have E2r := hidden (E2.out.below HBr.out (Nat.le_refl _))
                    go_wp2_with (first
                      | (go_at_call 21; go_must (refine (sameB_calls wr _ _ _ _ _ _ l2 l2 HAt.out E2r.out true (by simp)).mono ?_; rintro e w8 ⟨rfl, rfl⟩))
                      | (go_at_call 17; go_must (refine (partAwake_calls _).mono ?_; rintro e w2 ⟨rfl, hB2⟩)))
                    go_ret
                    exact ⟨rfl, below_next HBr.out hB2⟩
end Go.Proofs.YtbdmdajbdmdknaaGreatDoor
