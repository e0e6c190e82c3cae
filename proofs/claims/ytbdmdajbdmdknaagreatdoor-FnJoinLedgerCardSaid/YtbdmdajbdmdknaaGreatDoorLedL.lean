/- The walk of FnJoinLedger. -/
import Derived.Test.YtbdmdajbdmdknaaGreatDoorM22
namespace Go.Proofs.YtbdmdajbdmdknaaGreatDoor
open Go.RowKit
set_option linter.unusedVariables false
set_option linter.unusedSimpArgs false

/-- What is known at the head of the loop over the entries. -/
structure LnE (w wr : World) (ts e : Nat → List Int) (p : Nat) (vb v : Value) : Prop where
  below : Below w.heap.size w wr
  own : ∃ us : List (Option Addr × Nat × Nat), us.length = p ∧ Own wr w.heap.size 31 v (slvs us) ∧ ∀ j (h : j < us.length), ArgB wr (us[j]).1 (us[j]).2.1 (us[j]).2.2 (ts j) ∧ (us[j]).2.1 ≤ 20000 ∧ ∀ a, (us[j]).1 = some a → a.block < wr.heap.size ∧ v.ownBlock ≠ some a.block
  before : ∃ X m c, vb = .slice X m c ∧ ArgB wr X m c (prevT ts p) ∧ m ≤ 20000
  small : ∀ j, j < p → (e j).length ≤ 200
theorem LnE.step {w wr w1 W w4 : World} {ts e : Nat → List Int} {p : Nat} {v v4 : Value} {us : List (Option Addr × Nat × Nat)} {Y : Option Addr} {my cy : Nat}
    (hB : Below w.heap.size w wr) (hus : us.length = p) (hO : Own wr w.heap.size 31 v (slvs us)) (hf : ∀ j (h : j < us.length), ArgB wr (us[j]).1 (us[j]).2.1 (us[j]).2.2 (ts j) ∧ (us[j]).2.1 ≤ 20000 ∧ ∀ a, (us[j]).1 = some a → a.block < wr.heap.size ∧ v.ownBlock ≠ some a.block)
    (h1 : Below wr.heap.size wr w1) (hW : Below w1.heap.size w1 W) (hY : ArgB w1 Y my cy (ts p)) (hm : my ≤ 20000) (hfr : FreshA wr w1 Y) (hO4 : Own w4 w.heap.size 31 v4 (slvs us ++ slvs [(Y, my, cy)])) (hg : W.grownBy w4 v.ownBlock) (hob : v4.ownBlock = v.ownBlock ∨ v4.ownBlock = some W.heap.size)
    (hsm : ∀ j, j < p → (e j).length ≤ 200) (hp : (e p).length ≤ 200) : LnE w w4 ts e (p + 1) (.slice Y my cy) v4 := by
  have s1 := h1.size
  have s2 := hW.size
  have s3 := hg.size
  have hlt := hO.lt
  have hBW : Below w.heap.size w W := below_next (below_next hB h1) hW
  have hB4 : Below w.heap.size w w4 := hBW.grown hg hBW.size (fun k hk => (hlt k hk).1)
  have hY4 : ArgB w4 Y my cy (ts p) := (hY.below hW (Nat.le_refl _)).kept hg (fun a e e2 => by have := (hlt _ e2).2; have := (hfr a e).1; omega)
  refine ⟨hB4, ⟨us ++ [(Y, my, cy)], by simp [hus], by rw [slvs_app]; exact hO4, fun j h => ?_⟩, ⟨Y, my, cy, rfl, ?_, hm⟩, fun j hj => ?_⟩
  · by_cases hj : j < p
    · have hju : j < us.length := by rw [hus]; exact hj
      obtain ⟨g1, g2, g3⟩ := hf j hju
      simp only [List.getElem_append_left hju]
      refine ⟨((g1.below h1 (Nat.le_refl _)).below hW (Nat.le_refl _)).kept hg (fun a e => (g3 a e).2), g2, fun a e => ⟨by have := (g3 a e).1; omega, ?_⟩⟩
      rcases hob with e2 | e2
      · rw [e2]; exact (g3 a e).2
      · rw [e2]; intro e3; have e4 := Option.some.inj e3; have := (g3 a e).1; omega
    · obtain rfl : j = p := by simp only [List.length_append, List.length_cons, List.length_nil] at h; omega
      have hg2 : (us ++ [(Y, my, cy)])[j] = (Y, my, cy) := by rw [List.getElem_append_right (by omega)]; simp [hus]
      simp only [hg2]
      refine ⟨hY4, hm, fun a e => ⟨by have := (hfr a e).2; omega, ?_⟩⟩
      rcases hob with e2 | e2
      · rw [e2]; intro e3; have := (hlt _ e3).2; have := (hfr a e).1; omega
      · rw [e2]; intro e3; have e4 := Option.some.inj e3; have := (hfr a e).2; omega
  · have : prevT ts (p + 1) = ts p := by simp [prevT]
    rw [this]
    exact hY4
  · by_cases hjp : j < p
    · exact hsm j hjp
    · obtain rfl : j = p := by omega
      exact hp
/-- What is known between the operations of 'a[i], a[j] = b[j], b[i]'. -/
structure GS (w7 : World) (g8 q cc8 : Nat) (us : List (Option Addr × Nat × Nat)) (i jj : Nat) (x y : Option Addr × Nat × Nat) (b : Nat → Bool) (v : Nat → Value) (W : World) : Prop where
  below : Hid (Below w7.heap.size w7 W)
  row0 : b 13 = false → Hid (SlcRow W w7.heap.size g8 q cc8 us)
  row1 : b 13 = true → b 15 = false → Hid (SlcRow W w7.heap.size g8 q cc8 (us.set i x))
  row2 : b 15 = true → Hid (SlcRow W w7.heap.size g8 q cc8 ((us.set i x).set jj y))
theorem GS.pure {w7 : World} {g8 q cc8 : Nat} {us : List (Option Addr × Nat × Nat)} {i jj : Nat} {x y : Option Addr × Nat × Nat} {b : Nat → Bool} {v : Nat → Value} {W : World} (h : GS w7 g8 q cc8 us i jj x y b v W) (k : Nat) (z : Value) (h1 : k ≠ 13) (h2 : k ≠ 15) : GS w7 g8 q cc8 us i jj x y (up b k) (upv v k z) W := by
  refine ⟨h.below, ?_, ?_, ?_⟩ <;> simp only [up_ne (Ne.symm h1), up_ne (Ne.symm h2)]
  · exact h.row0
  · exact h.row1
  · exact h.row2
set_option maxRecDepth 100000 in
set_option maxHeartbeats 8000000 in
theorem ledgerLaw_walk (A : Option Addr) (n c : Nat) (vs : List (Option Addr × Nat × Nat)) (ls : List (List Int)) (A2 : Option Addr) (n2 c2 : Nat) (z2 : List Int) (k0 a0 b0 : Int) (w : World) (sr : Rd w A (slvs vs)) (sl : vs.length = n) (sc : n ≤ c) (sa : A = none → c = 0) (sb : n ≤ 9223372036854775807) (sv : SlcIs w vs ls) (r2 : IsRow .u8 w A2 n2 c2 z2) (y2 : n2 * 1 ≤ 140737488351232) (wk : (Lit.int .u8 k0).wf = true) (wa : (Lit.int .u16 a0).wf = true) (wb : (Lit.int .u8 b0).wf = true) (ae : Addr) (hE : ErrAt w ae) (hSY : SynAt w) :
    Calls Tryz.prog 5 #[.slice A n c, .slice A2 n2 c2, .int .u8 k0, .int .u16 a0, .int .u8 b0] w fun e w' => e = .returned (.bool true) ∧ Below w.heap.size w w' := by
  obtain ⟨kk, rfl, hkk⟩ : ∃ V : Nat, k0 = (V : Int) ∧ V < 256 := by
    simp [Lit.wf, IntKind.min, IntKind.max, IntKind.bits, IntKind.signed] at wk
    exact ⟨k0.toNat, by omega, by omega⟩
  obtain ⟨av, rfl, hav⟩ : ∃ V : Nat, a0 = (V : Int) ∧ V < 65536 := by
    simp [Lit.wf, IntKind.min, IntKind.max, IntKind.bits, IntKind.signed] at wa
    exact ⟨a0.toNat, by omega, by omega⟩
  obtain ⟨bv, rfl, hbv⟩ : ∃ V : Nat, b0 = (V : Int) ∧ V < 256 := by
    simp [Lit.wf, IntKind.min, IntKind.max, IntKind.bits, IntKind.signed] at wb
    exact ⟨b0.toNat, by omega, by omega⟩
  clear wk wa wb
  have HSY := hidden (And.intro hSY (show ∃ ae, ErrAt w ae from ⟨ae, hE⟩))
  clear hSY hE
  have e2 := r2.came.arg
  generalize z2.take n2 = l2 at e2
  have E2 := hidden e2
  have EV := hidden sr
  have EL := hidden sl
  obtain ⟨e, he⟩ : ∃ e : Nat → List Int, (fun j => ls.getD j []) = e := ⟨_, rfl⟩
  have ES : Hid (∀ i (h : i < vs.length), ArgB w (vs[i]).1 (vs[i]).2.1 (vs[i]).2.2 (e i)) := hidden (by rw [← he]; exact sv.2)
  have HIB : Hid (∀ j, IsB (e j)) := hidden (fun j => by
    by_cases hj : j < vs.length
    · exact (ES.out j hj).isB
    · have : ls.getD j [] = [] := by rw [List.getD_eq_getElem?_getD, List.getElem?_eq_none (by rw [sv.1]; omega)]; rfl
      rw [← he]; dsimp only; rw [this]; exact fun x hx => by simp at hx)
  obtain ⟨ts, hts⟩ : ∃ ts, ldT l2 e = ts := ⟨_, rfl⟩
  have HTS : Hid (∀ j, ts j = linkL l2 (prevT ts j) (e j)) := hidden (fun j => by rw [← hts]; exact ldT_eq l2 e j)
  obtain ⟨r6, hr6⟩ : ∃ r : Bool, r = true ↔ n ≤ 2147483647 ∧ ∀ x ∈ vs, x.2.1 ≤ 2147483647 := ⟨decide (n ≤ 2147483647 ∧ ∀ x ∈ vs, x.2.1 ≤ 2147483647), by simp⟩
  have K6 := hidden (fits6_calls A n c vs w sr sl sb r6 hr6)
  clear r2 e2 y2 sr sv sc sa sl he hts
  cases r6 with
  | false =>
    go_enter Tryz.func5, Tryz.ntmps5
    go_wp2_with (first
      | (go_at_call 14; go_must (refine K6.out.mono ?_; rintro e wq ⟨rfl, rfl⟩)))
    go_ret
    exact ⟨rfl, Below.refl _ _⟩
  | true =>
    have HV6 := hidden (hr6.1 rfl).2
    clear hr6
    by_cases hz2 : n2 ≤ 2147483647
    case neg =>
      have hi2 : (2147483647 : Int) < (n2 : Int) := by omega
      go_enter Tryz.func5, Tryz.ntmps5
      go_wp2_with (first
        | (go_at_call 14; go_must (refine K6.out.mono ?_; rintro e wq ⟨rfl, rfl⟩)))
      go_ret
      exact ⟨rfl, Below.refl _ _⟩
    have hi2 : ¬ (2147483647 : Int) < (n2 : Int) := by omega
    by_cases h8 : n ≤ 8
    case neg =>
      have hi8 : (8 : Int) < (n : Int) := by omega
      go_enter Tryz.func5, Tryz.ntmps5
      go_wp2_with (first
        | (go_at_call 14; go_must (refine K6.out.mono ?_; rintro e wq ⟨rfl, rfl⟩))
        | (go_at_call 17; go_must (refine (partAwake_calls _).mono ?_; rintro e w2 ⟨rfl, hB2⟩)))
      go_ret
      exact ⟨rfl, hB2⟩
    have hi8 : ¬ (8 : Int) < (n : Int) := by omega
    obtain ⟨r, hr⟩ : ∃ r : Bool, r = true ↔ ∀ x ∈ [(A2, n2, c2)], x.2.1 ≤ 2000 := ⟨decide (∀ x ∈ [(A2, n2, c2)], x.2.1 ≤ 2000), by simp⟩
    have Hr := hidden hr
    have KR : Hid (∀ (W : World) X, Rd W X (slvs [(A2, n2, c2)]) → Calls Tryz.prog 15 #[.slice X 1 1] W fun e w' => e = .returned (.bool r) ∧ W = w') := hidden (fun W X h => partShort_calls X 1 1 _ W h rfl (by omega) r hr)
    clear hr
    cases r with
    | false =>
      go_enter Tryz.func5, Tryz.ntmps5
      go_wp2_with (first
        | (go_at_call 14; go_must (refine K6.out.mono ?_; rintro e wq ⟨rfl, rfl⟩))
        | (go_at_call 15; go_must (refine (KR.out _ _ (Rd.new w _ (slvs [(A2, n2, c2)]) _ rfl)).mono ?_; rintro e w1 ⟨rfl, rfl⟩))
        | (go_at_call 17; go_must (refine (partAwake_calls _).mono ?_; rintro e w2 ⟨rfl, hB2⟩)))
      go_ret
      exact ⟨rfl, below_next (below_alloc0 _ _) hB2⟩
    | true =>
      have q2 : n2 ≤ 2000 := by have := Hr.out.1 rfl; simpa using this
      have HZ0 := hidden (below_next (below_alloc0 w (.cells (slvs [(A2, n2, c2)]).toArray 31)) (below_alloc0 _ (.cells #[] 5)))
      clear Hr hz2
      go_enter Tryz.func5, Tryz.ntmps5
      go_wp2_with (first
        | (go_at_call 14; go_must (refine K6.out.mono ?_; rintro e wq ⟨rfl, rfl⟩))
        | (go_at_call 15; go_must (refine (KR.out _ _ (Rd.new w _ (slvs [(A2, n2, c2)]) _ rfl)).mono ?_; rintro e w1 ⟨rfl, rfl⟩)))
      clear K6 KR
      go_loopw [50, 12, 11] (fun i vb vl wr => ∃ p : Nat, p ≤ n ∧ i = .int .i64 p ∧ Hid (LnE w wr ts e p vb vl)) (fun i _ _ _ => n - (intOf i).toNat)
      case atStart =>
        refine ⟨0, by omega, rfl, hidden ⟨HZ0.out, ⟨[], rfl, Own.nil _ _ _, fun j h => (by simp at h)⟩, ⟨_, _, _, rfl, ?_, by omega⟩, fun j h => absurd h (by omega)⟩⟩
        exact ⟨Rd.nil _ _, rfl, Nat.le_refl _, fun h => (by cases h), fun x hx => (by simp [prevT] at hx)⟩
      case round =>
        clear HZ0
        obtain ⟨p, hp, rfl, HM⟩ := hrel
        by_cases hlt : p < n
        · have hkv : p < vs.length := by rw [EL.out]; exact hlt
          obtain ⟨us, hus, hOw, hf⟩ := HM.out.own
          obtain ⟨Xb, mb, cb, rfl, hbf, hmb⟩ := HM.out.before
          have HBW := hidden HM.out.below
          have HOW := hidden hOw
          have HF := hidden (And.intro hus (And.intro hf HM.out.small))
          have HBF := hidden hbf
          obtain ⟨bq, oq, rfl, hb1, hc1⟩ := (EV.out.below HM.out.below (Nat.le_refl _)) p _ (slvs_at vs p hkv)
          have hto := (ES.out p hkv).below HM.out.below (Nat.le_refl _)
          have hz1 := HV6.out vs[p] (List.getElem_mem hkv)
          obtain ⟨x, hx⟩ : ∃ x, vs[p] = x := ⟨_, rfl⟩
          rw [hx] at hc1 hto hz1
          clear hx
          obtain ⟨X, m, d⟩ := x
          dsimp only at hc1 hto hz1
          have HTO := hidden hto
          clear hus hOw hf hbf hto HM
          by_cases h200 : m ≤ 200
          case neg =>
            have hi200 : (200 : Int) < (m : Int) := by omega
            go_wp2_with (go_at_call 17; go_must (refine (partAwake_calls _).mono ?_; rintro e w2 ⟨rfl, hB2⟩))
            go_ret
            exact ⟨rfl, below_next HBW.out hB2⟩
          have hi200 : ¬ (200 : Int) < (m : Int) := by omega
          obtain ⟨lp, hlp⟩ : ∃ q, (linkL l2 (prevT ts p) (e p)).length = q := ⟨_, rfl⟩
          have hlp2 : lp ≤ 20000 := by rw [← hlp]; exact linkL_len (by rw [HTO.out.len]; exact h200)
          have HLP := hidden hlp
          clear hlp
          go_wp2_with (first
            | (go_at_call 22; ((with_reducible refine (joinLinkF_calls _ _ _ l2 _ _ _ (prevT ts p) _ _ _ (e p) wr (E2.out.below HBW.out (Nat.le_refl _)) (by omega) HBF.out (by omega) HTO.out (by omega) lp HLP.out).mono ?_); rintro en w1 ⟨hB, Y, cy, rfl, ha, hfr⟩; rw [← HTS.out p] at ha; have HB1 := hidden hB; have HY := hidden (And.intro ha hfr); have HO1 := hidden (HOW.out.below hB); have hb0 : w.heap.size ≤ w1.heap.size := Nat.le_trans HBW.out.size HB1.out.size; clear hB ha hfr))
            | ((with_reducible refine at_dst 65 ?_); go_must (refine walk_app (base := w.heap.size) (vs := slvs us) (ys := slvs [(Y, lp, cy)]) rfl (.tmp 62) (.tmp 64) rfl Tryz.underlying39 info_slc rfl (by decide) rfl rfl (HO1.out.alloc _) (Rd.new w1 31 (slvs [(Y, lp, cy)]) w1.heap.size rfl) rfl (slvs_one _) (by simp; omega) (by rw [slvs_len, slvs_len, HF.out.1]; simp; omega) ?_; intro v4 w4 hO4 hg4 hob4; have H4 := hidden (And.intro hO4 (And.intro hg4 hob4)); clear hO4 hg4 hob4)))
          go_roundw
          case rel => exact ⟨p + 1, by omega, by go_num, hidden (LnE.step HBW.out HF.out.1 HOW.out HF.out.2.1 HB1.out (below_alloc0 _ _) HY.out.1 hlp2 HY.out.2 H4.out.1 H4.out.2.1 H4.out.2.2 HF.out.2.2 (by rw [HTO.out.len]; exact h200))⟩
          case measure => simp [intOf]; omega
        · obtain rfl : p = n := by omega
          obtain ⟨us, hus, hOw, hf⟩ := HM.out.own
          obtain ⟨Xb, mb, cb, rfl, hbf, hmb⟩ := HM.out.before
          obtain ⟨XL, cL, rfl, hcL, hrL, hnL⟩ := hOw.read
          have hl : (slvs us).length = p := by rw [slvs_len, hus]
          rw [hl] at hcL ⊢
          have HBW := hidden HM.out.below
          have HCX : Hid (LkCtx wr A2 n2 c2 l2 ts e p) := hidden ⟨E2.out.below HM.out.below (Nat.le_refl _), q2, HIB.out, HM.out.small, HTS.out, HSY.out.1.next HM.out.below, by obtain ⟨ae, h⟩ := HSY.out.2; exact ⟨ae, h.below HM.out.below⟩⟩
          have HTX : Hid (TxtsAt wr XL us p ts) := hidden ⟨hrL, hus, fun j hj => ⟨(hf j hj).1, (hf j hj).2.1⟩⟩
          clear hus hOw hbf hrL hf hl HM hlt hmb
          go_wp2_with (go_at_call 23; go_must ((with_reducible refine (ledgerGood_calls HCX.out h8 _ _ us HTX.out).mono ?_); rintro en w1 ⟨hB, X3, c3, us3, rfl, hl3, hr3, ha3⟩; have HB1 := hidden hB; have HR3 := hidden hr3; have HL3 := hidden hl3; have HA3 := hidden ha3; clear hB hr3 hl3 ha3; dsimp only))
          go_loopw [84] (fun i wl => ∃ q : Nat, q ≤ p ∧ i = .int .i64 q ∧ Hid (Below w1.heap.size w1 wl)) (fun i _ => p - (intOf i).toNat)
          case atStart => exact ⟨0, by omega, rfl, hidden (Below.refl _ _)⟩
          case round =>
            obtain ⟨q, hq, rfl, HBL⟩ := hrel
            by_cases hlt : q < p
            · have hkv : q < vs.length := by rw [EL.out]; exact hlt
              have hk3 : q < us3.length := by rw [HL3.out]; exact hlt
              have hBB := hidden (below_next (below_next HBW.out HB1.out) HBL.out)
              obtain ⟨bq, oq, rfl, hb1, hc1⟩ := (EV.out.below hBB.out (Nat.le_refl _)) q _ (slvs_at vs q hkv)
              obtain ⟨b3, o3, rfl, hb3, hc3⟩ := (HR3.out.below HBL.out (Nat.le_refl _)) q _ (slvs_at us3 q hk3)
              have hto := (ES.out q hkv).below hBB.out (Nat.le_refl _)
              have ht3 := (HA3.out q hk3).below HBL.out (Nat.le_refl _)
              obtain ⟨x, hx⟩ : ∃ x, vs[q] = x := ⟨_, rfl⟩
              rw [hx] at hc1 hto
              obtain ⟨y, hy⟩ : ∃ x, us3[q] = x := ⟨_, rfl⟩
              rw [hy] at hc3 ht3
              clear hx hy
              obtain ⟨X, m, d⟩ := x
              obtain ⟨Y, my, dy⟩ := y
              dsimp only at hc1 hto hc3 ht3
              have HTO := hidden hto
              have HT3 := hidden ht3
              clear hto ht3
              go_wp2_with (fail)
              go_quiet ((go_at_call 21; refine Calls.quiet_of_same ((sameB_calls _ _ _ _ _ _ _ (e q) (e q) (HT3.out.below (below_drewN0 (Below.refl _ _) _) (Nat.le_refl _)) (HTO.out.below (below_drewN0 (Below.refl _ _) _) (Nat.le_refl _)) true (by simp)).mono (fun _ _ hh => ⟨hh.1, hh.2.symm⟩))))
              go_wp2
              go_roundw
              case rel => exact ⟨q + 1, by omega, by go_num, hidden (below_drewN0 HBL.out _)⟩
              case measure => simp [intOf]; omega
            · obtain rfl : q = p := by omega
              have HBA := hidden (below_next (below_next HBW.out HB1.out) HBL.out)
              have HC2 := hidden ((HCX.out.next HB1.out).next HBL.out)
              have HT2 := hidden ((HTX.out.next HB1.out).next HBL.out)
              clear HBW HB1 HBL HCX HTX HR3 HL3 HA3 HV6 E2 EV HSY ES EL hlt hq hcL hnL
              by_cases hq0 : q = 0
              · have hi0 : ((q : Int) == 0) = true := by rw [beq_iff_eq]; omega
                clear hq0
                go_wp2_with (go_at_call 17; go_must (refine (partAwake_calls _).mono ?_; rintro e w2 ⟨rfl, hB2⟩))
                go_ret
                exact ⟨rfl, below_next HBA.out hB2⟩
              have hi0 : ((q : Int) == 0) = false := by rw [beq_eq_false_iff_ne]; omega
              by_cases hb0 : bv = 0
              · have hib : ((bv : Int) == 0) = true := by rw [beq_iff_eq]; omega
                clear hb0
                go_wp2_with (go_at_call 17; go_must (refine (partAwake_calls _).mono ?_; rintro e w2 ⟨rfl, hB2⟩))
                go_ret
                exact ⟨rfl, below_next HBA.out hB2⟩
              have hib : ((bv : Int) == 0) = false := by rw [beq_eq_false_iff_ne]; omega
              obtain ⟨i, hi⟩ : ∃ i, i = kk % q := ⟨_, rfl⟩
              have hrem : ((kk : Int)).tmod (q : Int) = (i : Int) := rem_of kk q i hi
              have hiq : i < q := by rw [hi]; exact Nat.mod_lt _ (by omega)
              have hki : i < us.length := by rw [HT2.out.2.1]; exact hiq
              clear hi
              obtain ⟨bL, oL, rfl, hbL, hcL⟩ := HT2.out.1 i _ (slvs_at us i hki)
              obtain ⟨hti, htm⟩ := HT2.out.2.2 i hki
              obtain ⟨x, hx⟩ : ∃ x, us[i] = x := ⟨_, rfl⟩
              rw [hx] at hcL hti htm
              obtain ⟨Xi, mi, di⟩ := x
              dsimp only at hcL hti htm
              have HXI := hidden hx
              obtain ⟨S, r0, hS1, hr0, hrb, hs1, hne, h46, hsl⟩ := link_split l2 (prevT ts i) (e i) (HIB.out i)
              rw [← HTS.out i] at hS1 hne h46 hsl
              have hlen := hti.len
              obtain ⟨s, hs⟩ : ∃ s, S.length = s := ⟨_, rfl⟩
              rw [hlen] at hsl
              rw [hs] at hs1 hne h46 hsl
              have HTI := hidden hti
              have HSS := hidden (And.intro hS1 (And.intro hr0 (And.intro hrb hs)))
              have HNE : Hid (∀ z, s < z → z < mi → gi (ts i) z ≠ 46) := hidden (fun z h1 h2 => hne z h1 (by rw [hlen]; exact h2))
              have H46 := hidden h46
              clear hti hS1 hr0 hrb hne h46 hlen hs hx
              go_wp2_with (go_at_call 18; go_must (refine (ownRow_calls _ Xi mi di (ts i) HTI.out (by omega) (by omega)).mono ?_; rintro en w2 ⟨hB, g, cc, rfl, hrow⟩; have HB2 := hidden hB; have HW2 := hidden hrow; clear hB hrow))
              go_loopw [20] (fun v wl => ∃ q1 : Nat, s ≤ q1 ∧ q1 < mi ∧ v = .int .i64 ((q1 : Int) + 1) ∧ w2 = wl) (fun v _ => (intOf v).toNat)
              case atStart => exact ⟨mi - 1, by omega, by omega, congrArg (Value.int .i64) (by omega), rfl⟩
              case round =>
                obtain ⟨q1, hq1, hq2, rfl, rfl⟩ := hrel
                have hpos : (0 : Int) < (q1 : Int) + 1 := by omega
                have hce := HW2.out.cell hq2
                by_cases h46 : gi (ts i) q1 = 46
                case neg =>
                  have hqs : q1 ≠ s := fun e2 => by subst e2; exact h46 H46.out
                  obtain ⟨x, hx⟩ : ∃ x, gi (ts i) q1 = x := ⟨_, rfl⟩
                  rw [hx] at h46 hce
                  have n1 : (x == 46) = false := by rw [beq_eq_false_iff_ne]; exact h46
                  have n2 : (x != 46) = true := by rw [bne, n1]; rfl
                  clear hx h46
                  go_wp2
                  go_roundw
                  case rel => exact ⟨q1 - 1, by omega, by omega, congrArg (Value.int .i64) (by omega), trivial⟩
                  case measure => first | (simp [intOf]; done) | (simp [intOf]; omega)
                obtain rfl : q1 = s := by
                  by_cases e2 : q1 = s
                  · exact e2
                  · exact absurd h46 (HNE.out q1 (by omega) hq2)
                rw [h46] at hce
                clear h46
                obtain ⟨o, ho⟩ : ∃ o, o = av % q1 := ⟨_, rfl⟩
                have hrem2 : ((av : Int)).tmod (q1 : Int) = (o : Int) := rem_of av q1 o ho
                have hos : o < q1 := by rw [ho]; exact Nat.mod_lt _ (by omega)
                have hs0 : ((q1 : Int) == 0) = false := by rw [beq_eq_false_iff_ne]; omega
                clear ho
                have hco := HW2.out.cell (i := o) (by omega)
                have hfo := HW2.out.free o
                obtain ⟨x, hx⟩ : ∃ x, gi (ts i) o = x := ⟨_, rfl⟩
                rw [hx] at hco
                obtain ⟨y, hy⟩ : ∃ y, bits .xor .u8 x (bv : Int) = y := ⟨_, rfl⟩
                have hyb : 0 ≤ y ∧ y < 256 := by rw [← hy]; exact xor8 _ _
                have HW3 := hidden (HW2.out.set (i := o) (by omega) hyb)
                have HB3 := hidden (HB2.out.setCell (p := ⟨g, o, none⟩) HW2.out.base (.int .u8 y))
                have HYB := hidden hyb
                clear hyb hx
                go_upto_region 32 with (fail)
                clear hy hco hfo hce
                obtain ⟨t2, ht2⟩ : ∃ t, (ts i).set o y = t := ⟨_, rfl⟩
                rw [ht2] at HW3
                have HT2S := hidden (And.intro ht2 hos)
                clear ht2
                refine wpAbs (fun W => Hid (TxtRow W wr.heap.size g mi cc t2) ∧ Hid (Below wr.heap.size wr W)) ⟨HW3, HB3⟩ ?_
                clear HW3 HB3 HW2 HB2
                rintro w3 ⟨HW3, HB3⟩
                have HT3 := hidden (HT2.out.next HB3.out)
                have hq1' : 0 < q := by omega
                go_upto_region 33 with ((with_reducible refine at_dst 143 ?_); go_must (refine walk_app (base := w3.heap.size) (vs := []) (ys := slvs us) rfl (.tmp 141) (.tmp 142) rfl Tryz.underlying39 info_slc rfl (by decide) rfl rfl (own_empty w3 _) (HT3.out.1.alloc _) (by rw [slvs_len]; exact HT3.out.2.1) (slvs_one _) (by simp) (by simp only [List.length_nil, slvs_len, HT3.out.2.1]; omega) ?_; intro v4 w4 hO4 hg4 hob4; obtain ⟨g4, cc4, rfl, hr4⟩ := SlcRow.of_own hO4 HT3.out.2.1 hq1'; have HR4 := hidden hr4; have HB4 := hidden (show Below w3.heap.size w3 w4 from (below_alloc0 w3 _).grown hg4 (below_alloc0 w3 _).size (fun k hk => by cases hk; exact Nat.le_refl _)); clear hO4 hg4 hob4 hr4))
                have hc4 := HR4.out.cell hki
                have hf4 := HR4.out.free i
                have HR5 := hidden (HR4.out.set hiq (some ⟨g, 0, none⟩) mi cc)
                have HB5 := hidden (HB4.out.setCell (p := ⟨g4, i, none⟩) HR4.out.base (.slice (some ⟨g, 0, none⟩) mi cc))
                go_upto_region 34 with (fail)
                clear hc4 hf4
                refine wpAbs (fun W => Hid (SlcRow W w3.heap.size g4 q cc4 (us.set i (some ⟨g, 0, none⟩, mi, cc))) ∧ Hid (Below w3.heap.size w3 W)) ⟨HR5, HB5⟩ ?_
                clear HR5 HB5 HR4 HB4
                rintro w5 ⟨HR5, HB5⟩
                have HT5 := hidden (HT3.out.next HB5.out)
                have HW5 := hidden (HW3.out.below HB5.out)
                have HBA5 := hidden (below_next (below_next HBA.out HB3.out) HB5.out)
                have HC5 := hidden ((HC2.out.next HB3.out).next HB5.out)
                have HTB := hidden (txts_set HT5.out HR5.out HW5.out.arg (Nat.le_trans (by omega) htm))
                have HTB2 : Hid (t2 = S.set o y ++ 46 :: encF (alpha true) r0) := hidden (by rw [← HT2S.out.1, HSS.out.1, List.set_append_left _ _ (by rw [HSS.out.2.2.2]; exact HT2S.out.2)])
                go_upto_region 35 with (go_at_call 23; go_must ((with_reducible refine (ledgerBad_calls HC5.out h8 i (fun j => if j = i then t2 else ts j) (S.set o y) r0 HSS.out.2.2.1 ((if_pos rfl).trans HTB2.out) (fun j hj => if_neg hj) hiq _ _ _ HTB.out).mono ?_); rintro en w6 ⟨hB, Xx, mx, cx, one, rfl, hone⟩; have HB6 := hidden hB; have HONE := hidden hone; clear hB hone; dsimp only))
                have HBA6 := hidden (below_next HBA5.out HB6.out)
                have HC6 := hidden (HC5.out.next HB6.out)
                have HT6 := hidden (HT5.out.next HB6.out)
                obtain ⟨S2, hS2⟩ : ∃ l, S.set o y = l := ⟨_, rfl⟩
                rw [hS2] at HTB2 HONE
                have hl2 : S2.length = q1 := by rw [← hS2, List.length_set, HSS.out.2.2.2]
                obtain ⟨r1, hr1⟩ : ∃ r, shaSum (markL l2 S2) = r := ⟨_, rfl⟩
                rw [hr1] at HONE
                have HR1 : Hid (SumIs (markL l2 S2) r1) := hidden ⟨hr1.symm⟩
                have HR0 : Hid (SumIs (markL l2 S) r0) := hidden ⟨HSS.out.2.1⟩
                have KM1 : Hid (∀ W, Below w6.heap.size w6 W → ArgB W (some ⟨g, 0, none⟩) q1 cc S2) := hidden (fun W hB => by
                  have h := ((HW5.out.below HB6.out).below hB).arg
                  rw [HTB2.out] at h
                  have h2 := h.left
                  rwa [hl2] at h2)
                have hcl6 : Hid (∀ W, Below w6.heap.size w6 W → W.cell? ⟨bL, oL + i, none⟩ = some (.slice Xi mi di)) := hidden (fun W hB => cell_next hB (cell_next HB6.out (cell_next HB5.out (cell_next HB3.out hcL))))
                have KM2 : Hid (∀ W, Below w6.heap.size w6 W → ArgB W Xi q1 di S) := hidden (fun W hB => by
                  have h := (((HTI.out.below HB3.out (Nat.le_refl _)).below HB5.out (Nat.le_refl _)).below HB6.out (Nat.le_refl _)).below hB (Nat.le_refl _)
                  rw [HSS.out.1] at h
                  have h2 := h.left
                  rwa [HSS.out.2.2.2] at h2)
                have KK6 : Hid (∀ W, Below w6.heap.size w6 W → ArgB W A2 n2 c2 l2) := hidden (fun W hB => (HC6.out.next hB).arg)
                have hcap : q1 ≤ cc := (KM1.out w6 (Below.refl _ _)).cap
                have hcap2 : q1 ≤ di := (KM2.out w6 (Below.refl _ _)).cap
                clear hS2 hr1 HTB HTB2 HR5 HT5 HW5 HC5 hcL
                have HWQ : Hid (IntKind.i64.wrap (q1 : Int) = (q1 : Int)) := hidden (by rw [IntKind.wrap_i64]; first | omega | (exact wrap64_id _ (by omega) (by omega)) | (unfold wrap64; omega))
                have hD : dOk [(0, 154), (1, 155), (2, 156), (3, 157), (4, 158), (5, 159), (6, 160), (7, 161), (8, 162), (9, 163), (10, 164), (11, 165), (12, 166), (13, 167), (14, 168), (15, 169), (16, 24)] 214 = true := by kernel_rfl
                refine reg_flow [(0, 154), (1, 155), (2, 156), (3, 157), (4, 158), (5, 159), (6, 160), (7, 161), (8, 162), (9, 163), (10, 164), (11, 165), (12, 166), (13, 167), (14, 168), (15, 169), (16, 24)] (by kernel_rfl) (by kernel_rfl) hD (by kernel_rfl) (by kernel_rfl)
                  (fun j y W => match j with
                    | 0 => y = .slice A2 n2 c2
                    | 1 => y = .slice (some ⟨g, 0, none⟩) mi cc
                    | 2 => y = .int .i64 ((q1 : Int) + 1)
                    | 3 => y = .int .i64 (q1 : Int)
                    | 4 => y = .slice (some ⟨g, 0, none⟩) q1 cc
                    | 5 => ∃ A5 c5, y = .slice A5 32 c5 ∧ ArgB W A5 32 c5 r1
                    | 6 => y = .slice A2 n2 c2
                    | 7 => y = .slice (some ⟨bL, oL, none⟩) q cL
                    | 8 => y = .int .i64 (i : Int)
                    | 9 => y = .pointer (some ⟨bL, oL + i, none⟩)
                    | 10 => y = .slice Xi mi di
                    | 11 => y = .int .i64 ((q1 : Int) + 1)
                    | 12 => y = .int .i64 (q1 : Int)
                    | 13 => y = .slice Xi q1 di
                    | 14 => ∃ A5 c5, y = .slice A5 32 c5 ∧ ArgB W A5 32 c5 r0
                    | 15 => y = .bool (decide (r1 = r0))
                    | 16 => y = .bool (decide (r1 = r0))
                    | _ => True)
                  (fun _ _ W => Below w6.heap.size w6 W)
                  (fun w1 w2 => Below w1.heap.size w1 w2) ?_ ?_ ?_ ?_
                · intro j y w1 w2 hR h
                  match j, h with
                  | 0, h | 1, h | 2, h | 3, h | 4, h | 6, h | 7, h | 8, h | 9, h | 10, h | 11, h | 12, h | 13, h | 15, h | 16, h => exact h
                  | 5, ⟨A5, c5, h1, h2⟩ => exact ⟨A5, c5, h1, h2.below hR (Nat.le_refl _)⟩
                  | 14, ⟨A5, c5, h1, h2⟩ => exact ⟨A5, c5, h1, h2.below hR (Nat.le_refl _)⟩
                  | n + 17, _ => trivial
                · intro v
                  exact below_drewN0 (Below.refl _ _) 1
                · intro j hj
                  match j, hj with
                  | 0, _ =>
                    exact flow_pure hD (fun _ => Below.refl _ _) (.move (.tmp 1)) 31 rfl fun b v W ρ h => ⟨_, by
                      have e := h.off 1 (by kernel_rfl)
                      unfold opRun
                      go_simp
                      , rfl, h.glob⟩
                  | 1, _ =>
                    exact flow_pure hD (fun _ => Below.refl _ _) (.move (.tmp 19)) 31 rfl fun b v W ρ h => ⟨_, by
                      have e := h.off 19 (by kernel_rfl)
                      unfold opRun
                      go_simp
                      , rfl, h.glob⟩
                  | 2, _ =>
                    exact flow_pure hD (fun _ => Below.refl _ _) (.move (.tmp 20)) 3 rfl fun b v W ρ h => ⟨_, by
                      have e := h.off 20 (by kernel_rfl)
                      unfold opRun
                      go_simp
                      , rfl, h.glob⟩
                  | 3, _ =>
                    exact flow_pure hD (fun _ => Below.refl _ _) (.binOp .sub 3 (.tmp 156) (.const (.int .i64 1)) 3) 3 rfl fun b v W ρ h => ⟨_, by
                      have d0 := (h.on 2 156 (by kernel_rfl) (h.dep 2 (by kernel_rfl))).trans (h.have_ 2 (by kernel_rfl))
                      have k0 := h.cst (.int .i64 1)
                      unfold opRun
                      go_simp
                      exact HWQ.out
                      , rfl, h.glob⟩
                  | 4, _ =>
                    exact flow_pure hD (fun _ => Below.refl _ _) (.slice 31 (.tmp 155) none (some (.tmp 157)) none) 31 rfl fun b v W ρ h => ⟨_, by
                      have d0 := (h.on 1 155 (by kernel_rfl) (h.dep 1 (by kernel_rfl))).trans (h.have_ 1 (by kernel_rfl))
                      have d1 := (h.on 3 157 (by kernel_rfl) (h.dep 3 (by kernel_rfl))).trans (h.have_ 3 (by kernel_rfl))
                      have q9 := run_upto (P := Tryz.prog) (W := W) Tryz.underlying31 size_u8' (some ⟨g, 0, none⟩) mi cc q1 q1 rfl hcap
                      unfold opRun
                      go_simp
                      , rfl, h.glob⟩
                  | 5, _ =>
                    exact flow_call hD (.call { callee := .value (.func 24), args := #[.tmp 154, .tmp 158], argTypes := #[31, 31] }) 31 rfl 24 fun b v W ρ h => by
                      have d0 := (h.on 0 154 (by kernel_rfl) (h.dep 0 (by kernel_rfl))).trans (h.have_ 0 (by kernel_rfl))
                      have d1 := (h.on 4 158 (by kernel_rfl) (h.dep 4 (by kernel_rfl))).trans (h.have_ 4 (by kernel_rfl))
                      have em : #[Operand.tmp 154, Operand.tmp 158].map ρ = #[.slice A2 n2 c2, .slice (some ⟨g, 0, none⟩) q1 cc] := by simp only [List.map_toArray, List.map_cons, List.map_nil, d0, d1]
                      refine ⟨#[.slice A2 n2 c2, .slice (some ⟨g, 0, none⟩) q1 cc], ?_, ?_⟩
                      · rw [← em]; exact opRun_call (h.fn _) (Tryz.call24 _ _)
                      · refine (joinMark_calls _ _ _ _ _ _ _ _ r1 W (KK6.out W h.glob) (by omega) (KM1.out W h.glob) (by omega) HR1.out).mono ?_
                        rintro e w2 ⟨hB, A5, c5, rfl, ha⟩
                        exact ⟨_, rfl, ⟨A5, c5, rfl, ha⟩, hB, below_next h.glob hB⟩
                  | 6, _ =>
                    exact flow_pure hD (fun _ => Below.refl _ _) (.move (.tmp 1)) 31 rfl fun b v W ρ h => ⟨_, by
                      have e := h.off 1 (by kernel_rfl)
                      unfold opRun
                      go_simp
                      , rfl, h.glob⟩
                  | 7, _ =>
                    exact flow_pure hD (fun _ => Below.refl _ _) (.move (.tmp 11)) 39 rfl fun b v W ρ h => ⟨_, by
                      have e := h.off 11 (by kernel_rfl)
                      unfold opRun
                      go_simp
                      , rfl, h.glob⟩
                  | 8, _ =>
                    exact flow_pure hD (fun _ => Below.refl _ _) (.move (.tmp 18)) 3 rfl fun b v W ρ h => ⟨_, by
                      have e := h.off 18 (by kernel_rfl)
                      unfold opRun
                      go_simp
                      , rfl, h.glob⟩
                  | 9, _ =>
                    exact flow_pure hD (fun _ => Below.refl _ _) (.indexAddr 39 (.tmp 161) (.tmp 162)) 0 rfl fun b v W ρ h => ⟨_, by
                      have d0 := (h.on 7 161 (by kernel_rfl) (h.dep 7 (by kernel_rfl))).trans (h.have_ 7 (by kernel_rfl))
                      have d1 := (h.on 8 162 (by kernel_rfl) (h.dep 8 (by kernel_rfl))).trans (h.have_ 8 (by kernel_rfl))
                      unfold opRun
                      go_simp
                      try (intro h9; omega)
                      , rfl, h.glob⟩
                  | 10, _ =>
                    exact flow_pure hD (fun _ => Below.refl _ _) (.load 31 (.tmp 163)) 31 rfl fun b v W ρ h => ⟨_, by
                      have d0 := (h.on 9 163 (by kernel_rfl) (h.dep 9 (by kernel_rfl))).trans (h.have_ 9 (by kernel_rfl))
                      have hc9 := hcl6.out W h.glob
                      unfold opRun
                      go_simp
                      , rfl, h.glob⟩
                  | 11, _ =>
                    exact flow_pure hD (fun _ => Below.refl _ _) (.move (.tmp 20)) 3 rfl fun b v W ρ h => ⟨_, by
                      have e := h.off 20 (by kernel_rfl)
                      unfold opRun
                      go_simp
                      , rfl, h.glob⟩
                  | 12, _ =>
                    exact flow_pure hD (fun _ => Below.refl _ _) (.binOp .sub 3 (.tmp 165) (.const (.int .i64 1)) 3) 3 rfl fun b v W ρ h => ⟨_, by
                      have d0 := (h.on 11 165 (by kernel_rfl) (h.dep 11 (by kernel_rfl))).trans (h.have_ 11 (by kernel_rfl))
                      have k0 := h.cst (.int .i64 1)
                      unfold opRun
                      go_simp
                      exact HWQ.out
                      , rfl, h.glob⟩
                  | 13, _ =>
                    exact flow_pure hD (fun _ => Below.refl _ _) (.slice 31 (.tmp 164) none (some (.tmp 166)) none) 31 rfl fun b v W ρ h => ⟨_, by
                      have d0 := (h.on 10 164 (by kernel_rfl) (h.dep 10 (by kernel_rfl))).trans (h.have_ 10 (by kernel_rfl))
                      have d1 := (h.on 12 166 (by kernel_rfl) (h.dep 12 (by kernel_rfl))).trans (h.have_ 12 (by kernel_rfl))
                      have q9 := run_upto (P := Tryz.prog) (W := W) Tryz.underlying31 size_u8' Xi mi di q1 q1 rfl hcap2
                      unfold opRun
                      go_simp
                      , rfl, h.glob⟩
                  | 14, _ =>
                    exact flow_call hD (.call { callee := .value (.func 24), args := #[.tmp 160, .tmp 167], argTypes := #[31, 31] }) 31 rfl 24 fun b v W ρ h => by
                      have d0 := (h.on 6 160 (by kernel_rfl) (h.dep 6 (by kernel_rfl))).trans (h.have_ 6 (by kernel_rfl))
                      have d1 := (h.on 13 167 (by kernel_rfl) (h.dep 13 (by kernel_rfl))).trans (h.have_ 13 (by kernel_rfl))
                      have em : #[Operand.tmp 160, Operand.tmp 167].map ρ = #[.slice A2 n2 c2, .slice Xi q1 di] := by simp only [List.map_toArray, List.map_cons, List.map_nil, d0, d1]
                      refine ⟨#[.slice A2 n2 c2, .slice Xi q1 di], ?_, ?_⟩
                      · rw [← em]; exact opRun_call (h.fn _) (Tryz.call24 _ _)
                      · refine (joinMark_calls _ _ _ _ _ _ _ _ r0 W (KK6.out W h.glob) (by omega) (KM2.out W h.glob) (by omega) HR0.out).mono ?_
                        rintro e w2 ⟨hB, A5, c5, rfl, ha⟩
                        exact ⟨_, rfl, ⟨A5, c5, rfl, ha⟩, hB, below_next h.glob hB⟩
                  | 15, _ =>
                    exact flow_call hD (.call { callee := .value (.func 21), args := #[.tmp 159, .tmp 168], argTypes := #[31, 31] }) 4 rfl 21 fun b v W ρ h => by
                      obtain ⟨A5, c5, e1, ha⟩ := h.have_ 5 (by kernel_rfl)
                      obtain ⟨A6, c6, e2, ha2⟩ := h.have_ 14 (by kernel_rfl)
                      have d0 := (h.on 5 159 (by kernel_rfl) (h.dep 5 (by kernel_rfl))).trans e1
                      have d1 := (h.on 14 168 (by kernel_rfl) (h.dep 14 (by kernel_rfl))).trans e2
                      have em : #[Operand.tmp 159, Operand.tmp 168].map ρ = #[.slice A5 32 c5, .slice A6 32 c6] := by simp only [List.map_toArray, List.map_cons, List.map_nil, d0, d1]
                      refine ⟨#[.slice A5 32 c5, .slice A6 32 c6], ?_, ?_⟩
                      · rw [← em]; exact opRun_call (h.fn _) (Tryz.call21 _ _)
                      · refine (sameB_calls W A5 A6 32 c5 32 c6 r1 r0 ha ha2 (decide (r1 = r0)) rfl).mono ?_
                        rintro e w2 ⟨rfl, rfl⟩
                        exact ⟨_, rfl, rfl, Below.refl _ _, h.glob⟩
                  | 16, _ =>
                    exact flow_pure hD (fun _ => Below.refl _ _) (.assign (.tmp 169)) 4 rfl fun b v W ρ h => ⟨_, by
                      have d0 := (h.on 15 169 (by kernel_rfl) (h.dep 15 (by kernel_rfl))).trans (h.have_ 15 (by kernel_rfl))
                      unfold opRun
                      go_simp
                      , rfl, h.glob⟩
                  | n + 17, hn => exact absurd hn (Nat.not_lt.2 (Nat.le_add_left 17 n))
                · intro b v w7 hb hF hG
                  have k16 : v 16 = .bool (decide (r1 = r0)) := hF 16 (by decide)
                  obtain ⟨same, hsame⟩ : ∃ b, decide (r1 = r0) = b := ⟨_, rfl⟩
                  rw [hsame] at k16
                  have HOS : Hid (one = true → same = true) := hidden (fun h => by rw [← hsame]; exact decide_eq_true (HONE.out h))
                  simp only [fr, if_true, k16, Act.put, List.setIfInBounds_toArray, List.set_cons_zero, List.set_cons_succ]
                  generalize v 0 = u0z
                  generalize v 1 = u1z
                  generalize v 2 = u2z
                  generalize v 3 = u3z
                  generalize v 4 = u4z
                  generalize v 5 = u5z
                  generalize v 6 = u6z
                  generalize v 7 = u7z
                  generalize v 8 = u8z
                  generalize v 9 = u9z
                  generalize v 10 = u10z
                  generalize v 11 = u11z
                  generalize v 12 = u12z
                  generalize v 13 = u13z
                  generalize v 14 = u14z
                  generalize v 15 = u15z
                  have HB7 := hidden hG
                  have HBA7 := hidden (below_next HBA6.out hG)
                  have HC7 := hidden (HC6.out.next hG)
                  have HT7 := hidden (HT6.out.next hG)
                  clear hF hG hb hD k16 hsame KM1 KM2 KK6 HR1 HR0 hcl6 HWQ HC6 HT6 HBA6 HONE
                  obtain ⟨jj, hjj⟩ : ∃ j, j = (i + 1) % q := ⟨_, rfl⟩
                  have hrem3 : ((i : Int) + 1).tmod (q : Int) = (jj : Int) := by have h := rem_of (i + 1) q jj hjj; push_cast at h; exact h
                  have hjq : jj < q := by rw [hjj]; exact Nat.mod_lt _ (by omega)
                  clear hjj
                  go_upto_region 37 with ((with_reducible refine at_dst 172 ?_); go_must (refine walk_app (base := w7.heap.size) (vs := []) (ys := slvs us) rfl (.tmp 170) (.tmp 171) rfl Tryz.underlying39 info_slc rfl (by decide) rfl rfl (own_empty w7 _) (HT7.out.1.alloc _) (by rw [slvs_len]; exact HT7.out.2.1) (slvs_one _) (by simp) (by simp only [List.length_nil, slvs_len, HT7.out.2.1]; omega) ?_; intro v8 w8 hO8 hg8 hob8; obtain ⟨g8, cc8, rfl, hr8⟩ := SlcRow.of_own hO8 HT7.out.2.1 hq1'; have HR8 := hidden hr8; have HB8 := hidden (show Below w7.heap.size w7 w8 from (below_alloc0 w7 _).grown hg8 (below_alloc0 w7 _).size (fun k hk => by cases hk; exact Nat.le_refl _)); clear hO8 hg8 hob8 hr8))
                  have HT8 := hidden (HT7.out.next HB8.out)
                  have hkj : jj < us.length := by rw [HT8.out.2.1]; exact hjq
                  obtain ⟨b9, o9, e9, _, hcj⟩ := HT7.out.1 jj _ (slvs_at us jj hkj)
                  cases e9
                  obtain ⟨b9, o9, e9, _, hci⟩ := HT7.out.1 i _ (slvs_at us i hki)
                  cases e9
                  obtain ⟨x, hx⟩ : ∃ x, us[jj] = x := ⟨_, rfl⟩
                  rw [hx] at hcj
                  rw [HXI.out] at hci
                  obtain ⟨Xj, mj, dj⟩ := x
                  dsimp only at hcj hci
                  have HXJ := hidden hx
                  clear hx
                  go_upto_region 38 with (fail)
                  have hD : dOk [(0, 178), (1, 179), (2, 180), (3, 181), (4, 182), (5, 183), (6, 184), (7, 185), (8, 186), (9, 187), (10, 188), (11, 189), (12, 190), (14, 191)] 214 = true := by kernel_rfl
                  have KC : Hid (∀ W, Below w7.heap.size w7 W → W.cell? ⟨bL, oL + jj, none⟩ = some (.slice Xj mj dj) ∧ W.cell? ⟨bL, oL + i, none⟩ = some (.slice Xi mi di)) := hidden (fun W hB => ⟨cell_next hB hcj, cell_next hB hci⟩)
                  clear hcj hci
                  refine reg_flow [(0, 178), (1, 179), (2, 180), (3, 181), (4, 182), (5, 183), (6, 184), (7, 185), (8, 186), (9, 187), (10, 188), (11, 189), (12, 190), (14, 191)] (by kernel_rfl) (by kernel_rfl) hD (by kernel_rfl) (by kernel_rfl)
                    (fun j y W => match j with
                      | 0 => y = .slice (some ⟨g8, 0, none⟩) q cc8
                      | 1 => y = .int .i64 (i : Int)
                      | 2 => y = .slice (some ⟨g8, 0, none⟩) q cc8
                      | 3 => y = .int .i64 (jj : Int)
                      | 4 => y = .slice (some ⟨bL, oL, none⟩) q cL
                      | 5 => y = .int .i64 (jj : Int)
                      | 6 => y = .pointer (some ⟨bL, oL + jj, none⟩)
                      | 7 => y = .slice Xj mj dj
                      | 8 => y = .slice (some ⟨bL, oL, none⟩) q cL
                      | 9 => y = .int .i64 (i : Int)
                      | 10 => y = .pointer (some ⟨bL, oL + i, none⟩)
                      | 11 => y = .slice Xi mi di
                      | 12 => y = .pointer (some ⟨g8, i, none⟩)
                      | 14 => y = .pointer (some ⟨g8, jj, none⟩)
                      | _ => True)
                    (GS w7 g8 q cc8 us i jj (Xj, mj, dj) (Xi, mi, di))
                    (fun w1 w2 => True) ?_ ?_ ?_ ?_
                  · intro j y w1 w2 hR h
                    match j, h with
                    | 0, h | 1, h | 2, h | 3, h | 4, h | 5, h | 6, h | 7, h | 8, h | 9, h | 10, h | 11, h | 12, h | 14, h => exact h
                    | 13, _ | 15, _ => trivial
                    | n + 16, _ => trivial
                  · intro v
                    exact ⟨hidden HB8.out.drew, fun _ => hidden (HR8.out.below (below_drewN0 (Below.refl _ _) 1)), fun h => (by cases h), fun h => (by cases h)⟩
                  · intro j hj
                    match j, hj with
                  | 0, _ =>
                    exact flow_pure hD (fun _ => trivial) (.move (.tmp 25)) 39 rfl fun b v W ρ h => ⟨_, by
                      have e := h.off 25 (by kernel_rfl)
                      unfold opRun
                      go_simp
                      , rfl, GS.pure h.glob 0 _ (by decide) (by decide)⟩
                  | 1, _ =>
                    exact flow_pure hD (fun _ => trivial) (.move (.tmp 18)) 3 rfl fun b v W ρ h => ⟨_, by
                      have e := h.off 18 (by kernel_rfl)
                      unfold opRun
                      go_simp
                      , rfl, GS.pure h.glob 1 _ (by decide) (by decide)⟩
                  | 2, _ =>
                    exact flow_pure hD (fun _ => trivial) (.move (.tmp 25)) 39 rfl fun b v W ρ h => ⟨_, by
                      have e := h.off 25 (by kernel_rfl)
                      unfold opRun
                      go_simp
                      , rfl, GS.pure h.glob 2 _ (by decide) (by decide)⟩
                  | 3, _ =>
                    exact flow_pure hD (fun _ => trivial) (.move (.tmp 26)) 3 rfl fun b v W ρ h => ⟨_, by
                      have e := h.off 26 (by kernel_rfl)
                      unfold opRun
                      go_simp
                      , rfl, GS.pure h.glob 3 _ (by decide) (by decide)⟩
                  | 4, _ =>
                    exact flow_pure hD (fun _ => trivial) (.move (.tmp 11)) 39 rfl fun b v W ρ h => ⟨_, by
                      have e := h.off 11 (by kernel_rfl)
                      unfold opRun
                      go_simp
                      , rfl, GS.pure h.glob 4 _ (by decide) (by decide)⟩
                  | 5, _ =>
                    exact flow_pure hD (fun _ => trivial) (.move (.tmp 26)) 3 rfl fun b v W ρ h => ⟨_, by
                      have e := h.off 26 (by kernel_rfl)
                      unfold opRun
                      go_simp
                      , rfl, GS.pure h.glob 5 _ (by decide) (by decide)⟩
                  | 6, _ =>
                    exact flow_pure hD (fun _ => trivial) (.indexAddr 39 (.tmp 182) (.tmp 183)) 0 rfl fun b v W ρ h => ⟨_, by
                      have d0 := (h.on 4 182 (by kernel_rfl) (h.dep 4 (by kernel_rfl))).trans (h.have_ 4 (by kernel_rfl))
                      have d1 := (h.on 5 183 (by kernel_rfl) (h.dep 5 (by kernel_rfl))).trans (h.have_ 5 (by kernel_rfl))
                      unfold opRun
                      go_simp
                      try (intro h9; omega)
                      , rfl, GS.pure h.glob 6 _ (by decide) (by decide)⟩
                  | 7, _ =>
                    exact flow_pure hD (fun _ => trivial) (.load 31 (.tmp 184)) 31 rfl fun b v W ρ h => ⟨_, by
                      have d0 := (h.on 6 184 (by kernel_rfl) (h.dep 6 (by kernel_rfl))).trans (h.have_ 6 (by kernel_rfl))
                      have hc9 := (KC.out W h.glob.below.out).1
                      unfold opRun
                      go_simp
                      , rfl, GS.pure h.glob 7 _ (by decide) (by decide)⟩
                  | 8, _ =>
                    exact flow_pure hD (fun _ => trivial) (.move (.tmp 11)) 39 rfl fun b v W ρ h => ⟨_, by
                      have e := h.off 11 (by kernel_rfl)
                      unfold opRun
                      go_simp
                      , rfl, GS.pure h.glob 8 _ (by decide) (by decide)⟩
                  | 9, _ =>
                    exact flow_pure hD (fun _ => trivial) (.move (.tmp 18)) 3 rfl fun b v W ρ h => ⟨_, by
                      have e := h.off 18 (by kernel_rfl)
                      unfold opRun
                      go_simp
                      , rfl, GS.pure h.glob 9 _ (by decide) (by decide)⟩
                  | 10, _ =>
                    exact flow_pure hD (fun _ => trivial) (.indexAddr 39 (.tmp 186) (.tmp 187)) 0 rfl fun b v W ρ h => ⟨_, by
                      have d0 := (h.on 8 186 (by kernel_rfl) (h.dep 8 (by kernel_rfl))).trans (h.have_ 8 (by kernel_rfl))
                      have d1 := (h.on 9 187 (by kernel_rfl) (h.dep 9 (by kernel_rfl))).trans (h.have_ 9 (by kernel_rfl))
                      unfold opRun
                      go_simp
                      try (intro h9; omega)
                      , rfl, GS.pure h.glob 10 _ (by decide) (by decide)⟩
                  | 11, _ =>
                    exact flow_pure hD (fun _ => trivial) (.load 31 (.tmp 188)) 31 rfl fun b v W ρ h => ⟨_, by
                      have d0 := (h.on 10 188 (by kernel_rfl) (h.dep 10 (by kernel_rfl))).trans (h.have_ 10 (by kernel_rfl))
                      have hc9 := (KC.out W h.glob.below.out).2
                      unfold opRun
                      go_simp
                      , rfl, GS.pure h.glob 11 _ (by decide) (by decide)⟩
                  | 12, _ =>
                    exact flow_pure hD (fun _ => trivial) (.indexAddr 39 (.tmp 178) (.tmp 179)) 0 rfl fun b v W ρ h => ⟨_, by
                      have d0 := (h.on 0 178 (by kernel_rfl) (h.dep 0 (by kernel_rfl))).trans (h.have_ 0 (by kernel_rfl))
                      have d1 := (h.on 1 179 (by kernel_rfl) (h.dep 1 (by kernel_rfl))).trans (h.have_ 1 (by kernel_rfl))
                      unfold opRun
                      go_simp
                      try (intro h9; omega)
                      , rfl, GS.pure h.glob 12 _ (by decide) (by decide)⟩
                  | 13, _ =>
                    exact flow_skip hD (.store 31 (.tmp 190) (.tmp 185)) 0 rfl fun b v W ρ h => by
                      have d0 := (h.on 12 190 (by kernel_rfl) (h.dep 12 (by kernel_rfl))).trans (h.have_ 12 (by kernel_rfl))
                      have d1 := (h.on 7 185 (by kernel_rfl) (h.dep 7 (by kernel_rfl))).trans (h.have_ 7 (by kernel_rfl))
                      have HR := h.glob.row0 h.self
                      have hc9 := HR.out.cell hki
                      have hf9 := HR.out.free i
                      have b15 : b 15 = false := h.later 15 (by kernel_rfl)
                      refine ⟨W.setCell ⟨g8, i, none⟩ (.slice Xj mj dj), ?_, trivial, trivial, ?_⟩
                      · unfold opRun
                        go_simp
                      · refine ⟨hidden (h.glob.below.out.setCell (p := ⟨g8, i, none⟩) HR.out.base _), fun h13 => ?_, fun _ _ => hidden (HR.out.set hiq Xj mj dj), fun h15 => ?_⟩
                        · rw [up_self] at h13; cases h13
                        · rw [up_ne (by decide), b15] at h15; cases h15
                  | 14, _ =>
                    exact flow_pure hD (fun _ => trivial) (.indexAddr 39 (.tmp 180) (.tmp 181)) 0 rfl fun b v W ρ h => ⟨_, by
                      have d0 := (h.on 2 180 (by kernel_rfl) (h.dep 2 (by kernel_rfl))).trans (h.have_ 2 (by kernel_rfl))
                      have d1 := (h.on 3 181 (by kernel_rfl) (h.dep 3 (by kernel_rfl))).trans (h.have_ 3 (by kernel_rfl))
                      unfold opRun
                      go_simp
                      try (intro h9; omega)
                      , rfl, GS.pure h.glob 14 _ (by decide) (by decide)⟩
                  | 15, _ =>
                    exact flow_skip hD (.store 31 (.tmp 191) (.tmp 189)) 0 rfl fun b v W ρ h => by
                      have d0 := (h.on 14 191 (by kernel_rfl) (h.dep 14 (by kernel_rfl))).trans (h.have_ 14 (by kernel_rfl))
                      have d1 := (h.on 11 189 (by kernel_rfl) (h.dep 11 (by kernel_rfl))).trans (h.have_ 11 (by kernel_rfl))
                      have b13 : b 13 = true := h.dep 13 (by kernel_rfl)
                      have HR := h.glob.row1 b13 h.self
                      have hc9 := HR.out.cell (i := jj) (by rw [List.length_set]; exact hkj)
                      have hf9 := HR.out.free jj
                      refine ⟨W.setCell ⟨g8, jj, none⟩ (.slice Xi mi di), ?_, trivial, trivial, ?_⟩
                      · obtain ⟨z, hz⟩ : ∃ z, (us.set i (Xj, mj, dj))[jj]'(by rw [List.length_set]; exact hkj) = z := ⟨_, rfl⟩
                        rw [hz] at hc9
                        clear hz
                        unfold opRun
                        go_simp
                      · refine ⟨hidden (h.glob.below.out.setCell (p := ⟨g8, jj, none⟩) HR.out.base _), fun h13 => ?_, fun _ h15 => ?_, fun _ => hidden (HR.out.set hjq Xi mi di)⟩
                        · rw [up_ne (by decide), b13] at h13; cases h13
                        · rw [up_self] at h15; cases h15
                  | n + 16, hn => exact absurd hn (Nat.not_lt.2 (Nat.le_add_left 16 n))
                  · intro b v w9 hb hF hG
                    have HR9 := hG.row2 (hb 15 (by decide))
                    have HB9 := hG.below
                    simp only [fr, if_true, Act.put, List.setIfInBounds_toArray, List.set_cons_zero, List.set_cons_succ]
                    generalize v 0 = y0z
                    generalize v 1 = y1z
                    generalize v 2 = y2z
                    generalize v 3 = y3z
                    generalize v 4 = y4z
                    generalize v 5 = y5z
                    generalize v 6 = y6z
                    generalize v 7 = y7z
                    generalize v 8 = y8z
                    generalize v 9 = y9z
                    generalize v 10 = y10z
                    generalize v 11 = y11z
                    generalize v 12 = y12z
                    generalize v 14 = y14z
                    clear hF hG hb hD KC
                    have HT9 := hidden (txts_swap (HT7.out.next HB9.out) hki hkj HXJ.out HXI.out HR9.out)
                    have HTL9 := hidden (HT7.out.next HB9.out)
                    have HC9 := hidden (HC7.out.next HB9.out)
                    have HBA9 := hidden (below_next HBA7.out HB9.out)
                    have HSG : Hid (∀ j, j < q → (if j = jj then i else if j = i then jj else j) < q) := hidden (fun j hj => by
                      split
                      · exact hiq
                      · split
                        · exact hjq
                        · exact hj)
                    go_upto_region 40 with (go_at_call 23; go_must ((with_reducible refine (ledgerSwap_calls HC9.out h8 (fun j => if j = jj then i else if j = i then jj else j) HSG.out _ _ _ HT9.out).mono ?_); rintro en w10 ⟨hB, Xy, my, cy, two, rfl, htwo⟩; have HB10 := hidden hB; have HTWO := hidden htwo; clear hB htwo; dsimp only))
                    have HBA10 := hidden (below_next HBA9.out HB10.out)
                    have KO : Hid (Calls Tryz.prog 25 #[.slice A2 n2 c2, .slice (some ⟨bL, oL, none⟩) q cL, .slice (some ⟨g8, 0, none⟩) q cc8] w10 fun e w' => e = .returned (.bool two) ∧ Below w10.heap.size w10 w') := hidden (by
                      have hc := HC9.out.next HB10.out
                      have ha := HTL9.out.next HB10.out
                      have hb := HT9.out.next HB10.out
                      refine (ordered_calls A2 n2 c2 l2 _ q cL us ts _ q cc8 _ (fun j => ts ((fun j => if j = jj then i else if j = i then jj else j) j)) w10 hc.arg hc.small ha.1 ha.2.1 h8 ha.2.2 hb.1 hb.2.1 h8 hb.2.2).mono ?_
                      rintro en w11 ⟨hB, b, rfl, hb2⟩
                      have e : b = two := by rw [Bool.eq_iff_iff]; exact hb2.trans HTWO.out.symm
                      rw [e]
                      exact ⟨rfl, hB⟩)
                    cases one with
                    | false =>
                      go_wp2_with (first
                        | (go_at_call 25; go_must (refine KO.out.mono ?_; rintro en w11 ⟨rfl, hB11⟩))
                        | (go_at_call 17; go_must (refine (partAwake_calls _).mono ?_; rintro en w12 ⟨rfl, hB12⟩)))
                      go_ret
                      exact ⟨rfl, below_next (below_next HBA10.out hB11) hB12⟩
                    | true =>
                      obtain rfl : same = true := HOS.out rfl
                      go_wp2_with (first
                        | (go_at_call 25; go_must (refine KO.out.mono ?_; rintro en w11 ⟨rfl, hB11⟩))
                        | (go_at_call 17; go_must (refine (partAwake_calls _).mono ?_; rintro en w12 ⟨rfl, hB12⟩)))
                      go_ret
                      exact ⟨rfl, below_next (below_next HBA10.out hB11) hB12⟩
end Go.Proofs.YtbdmdajbdmdknaaGreatDoor
