/- laws.joinLedger: the walk, whatever its texts are. A map of texts that the call has made: what it holds, as a function. Open-order regions: operations under a guard that is known to hold. laws.joinOrdered: the walk. -/
import Derived.Test.YtbdmdajbdmdknaaGreatDoorM19
import Derived.Test.YtbdmdajbdmdknaaGreatDoorM1
import Derived.Test.YtbdmdajbdmdknaaGreatDoorProg
import Derived.Maps.OwnOps
import Derived.Maps.Views
import Derived.StringKeys
import Derived.WideKeyEntry
import Derived.Test.YtbdmdajbdmdknaaGreatDoorM5
namespace Go.Proofs.YtbdmdajbdmdknaaGreatDoor
open Go.RowKit
set_option linter.unusedVariables false
set_option linter.unusedSimpArgs false

theorem info_slc : (Tryz.prog.info? 31).map (fun i => (i.zero, i.size, i.bytes)) = some (some (.slice none 0 0), 1, 24) := by kernel_rfl
theorem slvs_app (a b : List (Option Addr × Nat × Nat)) : slvs (a ++ b) = slvs a ++ slvs b := List.map_append ..
theorem slvs_len (a : List (Option Addr × Nat × Nat)) : (slvs a).length = a.length := List.length_map ..
theorem slvs_one (a : List (Option Addr × Nat × Nat)) : ∀ u ∈ slvs a, u.oneCell' = true := by
  intro u hu
  obtain ⟨x, _, rfl⟩ := List.mem_map.1 hu
  rfl
/-- What joinOpened tells of one text: a condition on what it hands back. -/
def OpenC (C : Bool → ByteArray → ByteArray → List Int → Prop) (w : World) (e : Ending) (w' : World) : Prop := Below w.heap.size w w' ∧ ∃ (X : Option Addr) (m c : Nat) (a k : ByteArray) (b : Bool) (pl : List Int), e = .returned (.tuple #[.slice X m c, .string a, .string k, .bool b]) ∧ ArgB w' X m c pl ∧ m ≤ 20000 ∧ FreshA w w' X ∧ C b a k pl
def prevT (ts : Nat → List Int) (p : Nat) : List Int := if p = 0 then [] else ts (p - 1)
/-- What is known at the loop's head. -/
structure LdE (w wr : World) (key : List Int) (ts : Nat → List Int) (C : Nat → Bool → ByteArray → ByteArray → List Int → Prop) (p : Nat) (v vb : Value) : Prop where
  below : Below w.heap.size w wr
  own : ∃ (us : List (Option Addr × Nat × Nat)) (f : Nat → List Int), us.length = p ∧ Own wr w.heap.size 31 v (slvs us) ∧ ∀ j (h : j < us.length), ArgB wr (us[j]).1 (us[j]).2.1 (us[j]).2.2 (f j) ∧ (∀ a, (us[j]).1 = some a → a.block < wr.heap.size ∧ v.ownBlock ≠ some a.block) ∧ C j true linkS (kidL key (prevT ts j)) (f j)
  before : ∃ X m c, vb = .slice X m c ∧ ArgB wr X m c (prevT ts p) ∧ m ≤ 20000
/-- What joinLedger gives. -/
def LP (w : World) (n : Nat) (key : List Int) (ts : Nat → List Int) (C : Nat → Bool → ByteArray → ByteArray → List Int → Prop) (e : Ending) (w' : World) : Prop := Below w.heap.size w w' ∧ ((∃ (X : Option Addr) (c : Nat) (us : List (Option Addr × Nat × Nat)) (f : Nat → List Int), e = .returned (.tuple #[.slice X n c, .bool true]) ∧ us.length = n ∧ Rd w' X (slvs us) ∧ ∀ j (h : j < us.length), ArgB w' (us[j]).1 (us[j]).2.1 (us[j]).2.2 (f j) ∧ C j true linkS (kidL key (prevT ts j)) (f j)) ∨
  (e = .returned (.tuple #[.slice none 0 0, .bool false]) ∧ ∃ j b a k pl, j < n ∧ C j b a k pl ∧ ¬ (b = true ∧ a = linkS ∧ k = kidL key (prevT ts j))))
theorem str_ne {a b : ByteArray} (h : a ≠ b) : (a.toList == b.toList) = false ∧ (a.toList != b.toList) = true := by
  have : (a.toList == b.toList) = false := by
    rw [beq_eq_false_iff_ne]
    intro e
    apply h
    rw [Lib.toList_data, Lib.toList_data] at e
    rw [← bs_self a, e, bs_self]
  exact ⟨this, by rw [bne, this]; rfl⟩
theorem ArgB.kept {W w1 : World} {A : Option Addr} {n c : Nat} {l : List Int} {row : Option Nat} (h : ArgB W A n c l) (hg : W.grownBy w1 row) (hne : ∀ a, A = some a → row ≠ some a.block) : ArgB w1 A n c l := by
  refine ⟨fun i v hv => ?_, h.len, h.cap, h.nil, h.isB⟩
  obtain ⟨b, o, e, hlt, hc⟩ := h.rd i v hv
  exact ⟨b, o, e, Nat.lt_of_lt_of_le hlt hg.size, hg.cell hc (fun e2 => hne _ e e2.symm)⟩
theorem LdE.step {w wr w1 W w4 : World} {key : List Int} {ts : Nat → List Int} {C : Nat → Bool → ByteArray → ByteArray → List Int → Prop} {p : Nat} {v v4 : Value} {us : List (Option Addr × Nat × Nat)} {f : Nat → List Int} {Y : Option Addr} {my cy : Nat} {pl : List Int} {X : Option Addr} {m d : Nat}
    (hB : Below w.heap.size w wr) (hus : us.length = p) (hO : Own wr w.heap.size 31 v (slvs us)) (hf : ∀ j (h : j < us.length), ArgB wr (us[j]).1 (us[j]).2.1 (us[j]).2.2 (f j) ∧ (∀ a, (us[j]).1 = some a → a.block < wr.heap.size ∧ v.ownBlock ≠ some a.block) ∧ C j true linkS (kidL key (prevT ts j)) (f j))
    (h1 : Below wr.heap.size wr w1) (hW : Below w1.heap.size w1 W) (hY : ArgB w1 Y my cy pl) (hfr : FreshA wr w1 Y) (hC : C p true linkS (kidL key (prevT ts p)) pl) (hO4 : Own w4 w.heap.size 31 v4 (slvs us ++ slvs [(Y, my, cy)])) (hg : W.grownBy w4 v.ownBlock) (hob : v4.ownBlock = v.ownBlock ∨ v4.ownBlock = some W.heap.size)
    (hX : ArgB w X m d (ts p)) (hm : m ≤ 20000) : LdE w w4 key ts C (p + 1) v4 (.slice X m d) := by
  have s1 := h1.size
  have s2 := hW.size
  have s3 := hg.size
  have hlt := hO.lt
  have hBW : Below w.heap.size w W := below_next (below_next hB h1) hW
  have hB4 : Below w.heap.size w w4 := hBW.grown hg hBW.size (fun k hk => (hlt k hk).1)
  refine ⟨hB4, ⟨us ++ [(Y, my, cy)], fun j => if j < p then f j else pl, by simp [hus], by rw [slvs_app]; exact hO4, fun j h => ?_⟩, X, m, d, rfl, ?_, hm⟩
  · by_cases hj : j < p
    · have hju : j < us.length := by rw [hus]; exact hj
      obtain ⟨g1, g2, g3⟩ := hf j hju
      simp only [List.getElem_append_left hju, if_pos hj]
      refine ⟨((g1.below h1 (Nat.le_refl _)).below hW (Nat.le_refl _)).kept hg (fun a e => (g2 a e).2), fun a e => ⟨by have := (g2 a e).1; omega, ?_⟩, g3⟩
      rcases hob with e2 | e2
      · rw [e2]; exact (g2 a e).2
      · rw [e2]; intro e3; have e4 := Option.some.inj e3; have := (g2 a e).1; omega
    · obtain rfl : j = p := by simp only [List.length_append, List.length_cons, List.length_nil] at h; omega
      have hg2 : (us ++ [(Y, my, cy)])[j] = (Y, my, cy) := by rw [List.getElem_append_right (by omega)]; simp [hus]
      simp only [hg2, if_neg hj]
      refine ⟨(hY.below hW (Nat.le_refl _)).kept hg (fun a e e2 => ?_), fun a e => ⟨by have := (hfr a e).2; omega, ?_⟩, hC⟩
      · have := (hlt _ e2).2; have := (hfr a e).1; omega
      · rcases hob with e2 | e2
        · rw [e2]; intro e3; have := (hlt _ e3).2; have := (hfr a e).1; omega
        · rw [e2]; intro e3; have e4 := Option.some.inj e3; have := (hfr a e).2; omega
  · have : prevT ts (p + 1) = ts p := by simp [prevT]
    rw [this]
    exact hX.below hB4 (Nat.le_refl _)
set_option maxRecDepth 100000 in
set_option maxHeartbeats 4000000 in
theorem ledger_calls (A : Option Addr) (n c : Nat) (key : List Int) (B : Option Addr) (q d : Nat) (vs : List (Option Addr × Nat × Nat)) (ts : Nat → List Int) (C : Nat → Bool → ByteArray → ByteArray → List Int → Prop) (w : World) (h1 : ArgB w A n c key) (n1 : n ≤ 2000) (hR : Rd w B (slvs vs)) (hv : vs.length = q) (hq : q ≤ 8)
    (ht : ∀ j (h : j < vs.length), ArgB w (vs[j]).1 (vs[j]).2.1 (vs[j]).2.2 (ts j) ∧ (vs[j]).2.1 ≤ 20000)
    (hO : ∀ j, j < q → ∀ W X m f, Below w.heap.size w W → ArgB W X m f (ts j) → m ≤ 20000 → Calls Tryz.prog 20 #[.slice A n c, .slice X m f, .bool true] W (OpenC (C j) W)) :
    Calls Tryz.prog 23 #[.slice A n c, .slice B q d] w (LP w q key ts C) := by
  have E0 := hidden h1
  have EV := hidden hR
  have EL := hidden hv
  have ET := hidden ht
  have EO := hidden hO
  clear h1 hR hv ht hO
  go_enter Tryz.func23, Tryz.ntmps23
  go_wp2
  go_loopw [17, 6, 7] (fun i v vb wr => ∃ p : Nat, p ≤ q ∧ i = .int .i64 p ∧ Hid (LdE w wr key ts C p v vb)) (fun i _ _ _ => q - (intOf i).toNat)
  case atStart =>
    refine ⟨0, by omega, rfl, hidden ⟨below_alloc0 _ _, ⟨[], fun _ => [], rfl, Own.nil _ _ _, fun j h => (by simp at h)⟩, _, _, _, rfl, ?_, by omega⟩⟩
    exact ⟨Rd.nil _ _, rfl, Nat.le_refl _, fun h => (by cases h), fun x hx => (by simp [prevT] at hx)⟩
  case round =>
    obtain ⟨p, hp, rfl, HM⟩ := hrel
    by_cases hlt : p < q
    · have hkv : p < vs.length := by rw [EL.out]; exact hlt
      obtain ⟨us, f, hus, hOw, hf⟩ := HM.out.own
      obtain ⟨Xb, mb, cb, rfl, hbf, hmb⟩ := HM.out.before
      have HBW := hidden HM.out.below
      have HOW := hidden hOw
      have HF := hidden (And.intro hus hf)
      have HBF := hidden hbf
      obtain ⟨b0, o0, rfl, hb1, hc1⟩ := (EV.out.below HM.out.below (Nat.le_refl _)) p _ (slvs_at vs p hkv)
      obtain ⟨ht1, ht2⟩ := ET.out p hkv
      have htw := ht1
      have hto := ht1.below HM.out.below (Nat.le_refl _)
      obtain ⟨x, hx⟩ : ∃ x, vs[p] = x := ⟨_, rfl⟩
      rw [hx] at hc1 hto ht2 htw
      clear hx ht1
      obtain ⟨X, m, d2⟩ := x
      dsimp only at hc1 hto ht2 htw
      have HTW := hidden htw
      clear htw
      have HTO := hidden hto
      have KO := hidden (EO.out p hlt wr X m d2 HBW.out hto ht2)
      obtain ⟨pv, hpv⟩ : ∃ l, prevT ts p = l := ⟨_, rfl⟩
      rw [hpv] at HBF
      obtain ⟨r, hr⟩ : ∃ r, shaSum (markL key pv) = r := ⟨_, rfl⟩
      have hrs : SumIs (markL key pv) r := ⟨hr.symm⟩
      have HR := hidden hrs
      have HR32 := hidden hrs.len
      obtain ⟨kd, hkd⟩ : ∃ k, kidL key pv = k := ⟨_, rfl⟩
      have hkr : encT r = kd := by rw [← hkd, ← hr]; rfl
      have HKR := hidden hkr
      have HKD : Hid (kidL key (prevT ts p) = kd) := hidden (by rw [hpv]; exact hkd)
      clear hus hOw hf hbf hto hpv hr hrs hkd hkr HM
      go_upto_region 7 with (first
        | (go_at_call 20; ((with_reducible refine KO.out.mono ?_); rintro e w1 ⟨hB, Y, my, cy, a, k, b, pl, rfl, ha, hm, hfr, hC⟩; have HB1 := hidden hB; have HY := hidden (And.intro ha (And.intro hm (And.intro hfr hC))); clear hB ha hm hfr hC; dsimp only)))
      cases b with
      | false =>
        go_wp2
        go_ret2
        exact ⟨below_next HBW.out HB1.out, .inr ⟨rfl, p, false, a, k, pl, hlt, HY.out.2.2.2, fun h => by cases h.1⟩⟩
      | true =>
        by_cases ha : a = ⟨#[108, 105, 110, 107]⟩
        case neg =>
          have n1' : (a.toList == [108, 105, 110, 107]) = false := by
            have := (str_ne ha).1
            rwa [Lib.toList_data (⟨#[108, 105, 110, 107]⟩ : ByteArray)] at this
          have HNA := hidden ha
          clear ha
          go_wp2
          go_ret2
          exact ⟨below_next HBW.out HB1.out, .inr ⟨rfl, p, true, a, k, pl, hlt, HY.out.2.2.2, fun h => HNA.out h.2.1⟩⟩
        subst ha
        have K1 : Hid (Calls Tryz.prog 24 #[.slice A n c, .slice Xb mb cb] w1 (HeadB w1 32 r)) := hidden (joinMark_calls _ _ _ _ _ _ _ _ r w1 ((E0.out.below HBW.out (Nat.le_refl _)).below HB1.out (Nat.le_refl _)) (by omega) (HBF.out.below HB1.out (Nat.le_refl _)) (by omega) HR.out)
        by_cases hk : k = kd
        case neg =>
          have n1' := (str_ne hk).1
          have HNK := hidden hk
          clear hk
          go_wp2_with (first
            | (go_at_call 24; ((with_reducible refine K1.out.mono ?_); rintro e w2 ⟨hB, Am, cm, rfl, ha⟩; have HB2 := hidden (below_next HB1.out hB); have HM2 := hidden ha; clear hB ha))
            | (go_at_call 42; ((with_reducible refine (encodedText_calls _ _ _ r w2 HM2.out (by omega)).mono ?_); rintro e w3 ⟨rfl, hB⟩; have HB3 := hidden (below_next HB2.out hB); rw [HKR.out]; clear hB)))
          go_ret2
          exact ⟨below_next HBW.out HB3.out, .inr ⟨rfl, p, true, _, k, pl, hlt, HY.out.2.2.2, fun h => HNK.out (h.2.2.trans HKD.out)⟩⟩
        subst hk
        have HO1 := hidden (HOW.out.below HB1.out)
        have hb0 : w.heap.size ≤ w1.heap.size := Nat.le_trans HBW.out.size HB1.out.size
        go_wp2_with (first
          | (go_at_call 24; ((with_reducible refine K1.out.mono ?_); rintro e w2 ⟨hB, Am, cm, rfl, ha⟩; have HB2 := hidden hB; have HM2 := hidden ha; clear hB ha))
          | (go_at_call 42; ((with_reducible refine (encodedText_calls _ _ _ r w2 HM2.out (by omega)).mono ?_); rintro e w3 ⟨rfl, hB⟩; have HB3 := hidden (below_next HB2.out hB); have HO3 := hidden (HO1.out.below HB3.out); rw [HKR.out]; clear hB))
          | ((with_reducible refine at_dst 46 ?_); go_must (refine walk_app (base := w.heap.size) (vs := slvs us) (ys := slvs [(Y, my, cy)]) rfl (.tmp 43) (.tmp 45) rfl Tryz.underlying39 info_slc rfl (by decide) rfl rfl (HO3.out.alloc _) (Rd.new w3 31 (slvs [(Y, my, cy)]) w3.heap.size rfl) rfl (slvs_one _) (by have h1 := HB3.out.size; simp; omega) (by rw [slvs_len, slvs_len, HF.out.1]; simp; omega) ?_; intro v4 w4 hO4 hg4 hob4; have H4 := hidden (And.intro hO4 (And.intro hg4 hob4)); clear hO4 hg4 hob4)))
        go_roundw
        case rel => exact ⟨p + 1, by omega, by go_num, hidden (LdE.step HBW.out HF.out.1 HOW.out HF.out.2 HB1.out (below_next HB3.out (below_alloc0 _ _)) HY.out.1 HY.out.2.2.1 (by rw [HKD.out]; exact HY.out.2.2.2) H4.out.1 H4.out.2.1 H4.out.2.2 HTW.out ht2)⟩
        case measure => simp [intOf]; omega
    · obtain rfl : p = q := by omega
      obtain ⟨us, f, hus, hO, hf⟩ := HM.out.own
      have HBW := hidden HM.out.below
      obtain ⟨X, c2, rfl, hc2, hrd, hnil⟩ := hO.read
      have hl : (slvs us).length = p := by rw [slvs_len, hus]
      rw [hl]
      have HF := hidden (And.intro hrd (And.intro hus (show ∀ j (h : j < us.length), ArgB wr (us[j]).1 (us[j]).2.1 (us[j]).2.2 (f j) ∧ C j true linkS (kidL key (prevT ts j)) (f j) from fun j h => ⟨(hf j h).1, (hf j h).2.2⟩)))
      clear hO hus hrd hf hc2 hnil hl HM
      go_wp2
      go_ret2
      exact ⟨HBW.out, .inl ⟨X, c2, us, f, rfl, HF.out.2.1, HF.out.1, HF.out.2.2⟩⟩
end Go.Proofs.YtbdmdajbdmdknaaGreatDoor
namespace Go.Proofs.YtbdmdajbdmdknaaGreatDoor
open Go.RowKit
open Go.Maps (Keyed string_keyed)
open Go.ChangeMaps
open Go.WideMaps (keyOf_string_mk)
set_option linter.unusedVariables false
set_option linter.unusedSimpArgs false

def litS (s : ByteArray) : Lit := .string s.data.toList
theorem litS_ne {s t : ByteArray} (h : s ≠ t) : litS s ≠ litS t := by
  intro e
  unfold litS at e
  simp only [Lit.string.injEq] at e
  apply h
  cases s; cases t
  simpa using e
theorem plainS_inv {P : Program} {e : TypeId} (hu : P.underlying e = some .string) {v : Value} {t : ByteArray} {ps : List MemPlace} (h : plainElem (H := Unit) P e v = some (.lit (.string t.data.toList), ps)) : ∃ x, v = .string x ∧ x = t := by
  cases v with
  | string x =>
    unfold plainElem at h
    rw [hu] at h
    simp only at h
    split at h
    · simp only [Option.some.injEq, Prod.mk.injEq, DataW.lit.injEq, Lit.string.injEq] at h
      refine ⟨x, rfl, ?_⟩
      cases x; cases t
      simpa using h.1
    · cases h
  | _ =>
    unfold plainElem at h
    rw [hu] at h
    simp at h
/-- Block b is a map of at most n texts; M is what it gives. -/
def MapS (w : World) (b n : Nat) (M : ByteArray → ByteArray) : Prop := ∃ D : DataW Unit, w.ownsMap Tryz.prog 9 (plainElem Tryz.prog 9) b n D ∧ Go.Maps.IsMap D ∧ ∀ s, s.size ≤ 1000000 → (M s).size ≤ 1000000 ∧ D.atKey (litS s) (.lit (.string [])) = .lit (.string (M s).data.toList)
theorem MapS.made (w : World) : MapS (w.alloc (.map #[] 0)) w.heap.size 0 (fun _ => ⟨#[]⟩) :=
  ⟨.map [], World.ownsMap_made w _ _ _, Go.Maps.isMap_empty, fun s _ => ⟨(by show (0 : Nat) ≤ 1000000; omega), rfl⟩⟩
section
variable {w w1 : World} {b n : Nat} {M : ByteArray → ByteArray}
theorem MapS.lt (h : MapS w b n M) : b < w.heap.size := by obtain ⟨D, h, _⟩ := h; exact h.lt
theorem MapS.kept (h : MapS w b n M) {row : Option Nat} (hg : w.grownBy w1 row) (hne : some b ≠ row) : MapS w1 b n M := by
  obtain ⟨D, h1, h2⟩ := h
  exact ⟨D, h1.kept hg hne, h2⟩
theorem MapS.below (h : MapS w b n M) (hb : Below w.heap.size w w1) : MapS w1 b n M := h.kept (grown_below (B := 0) hb none) (by simp)
theorem MapS.drew (h : MapS w b n M) : MapS w.drew b n M := h
theorem MapS.mono (h : MapS w b n M) {m : Nat} (hm : n ≤ m) : MapS w b m M := by obtain ⟨D, h1, h2⟩ := h; exact ⟨D, h1.mono hm, h2⟩
/-- Two worlds whose block b is one. -/
theorem MapS.same (h : MapS w b n M) (hb : w1.heap[b]? = w.heap[b]?) : MapS w1 b n M := by
  obtain ⟨D, ⟨es, cl, h1, h3⟩, h2⟩ := h
  exact ⟨D, ⟨es, cl, hb.trans h1, h3⟩, h2⟩
theorem MapS.isMap (h : MapS w b n M) : ∃ es cl, w.heap[b]? = some (.map es cl) := by obtain ⟨D, ⟨es, cl, h1, _⟩, _⟩ := h; exact ⟨es, cl, h1⟩
/-- A look-up. -/
theorem MapS.look (h : MapS w b n M) {t : TypeId} (ht : Tryz.prog.underlying t = some (.map 9 9)) (s : ByteArray) (hs : s.size ≤ 1000000) : (Instr.lookup t (.map (some b)) (.string s) false).run Tryz.prog w = .ok (.string (M s)) w := by
  obtain ⟨D, h1, _, h2⟩ := h
  obtain ⟨hm, hat⟩ := h2 s hs
  have hz : (zeroValue 9).run Tryz.prog w = .ok (.string ⟨#[]⟩) w := Tryz.zeroValue9 w
  obtain ⟨v, ps, hrun, hv⟩ := h1.lookup (string_keyed Tryz.underlying9) ht hz (plainElem_string Tryz.underlying9 (by decide)) (keyOf_string_mk Tryz.underlying9 (by unfold maxLen; omega)) (key := .string s)
  change (Instr.lookup t (.map (some b)) (.string s) false).run Tryz.prog w = .ok v w at hrun
  have hat' : D.atKey (.string s.data.toList) (.lit (.string (⟨#[]⟩ : ByteArray).data.toList)) = .lit (.string (M s).data.toList) := hat
  rw [hat'] at hv
  rw [hrun]
  obtain ⟨x, rfl, hx⟩ := plainS_inv Tryz.underlying9 hv
  rw [hx]
/-- A store, in the two operations of 'a[k], b = v, c'. -/
theorem MapS.two (h : MapS w b n M) {t : TypeId} (ht : Tryz.prog.underlying t = some (.map 9 9)) (hn : n ≤ 1000000) (s x : ByteArray) (hs : s.size ≤ 1000000) (hx : x.size ≤ 1000000) :
    ∃ v0 st es1 cl1, (Instr.mapEntry t (.map (some b)) (.string s)).run Tryz.prog w = .ok (.tuple #[v0, goInt st]) (setBlock w b (.map es1 cl1)) ∧
      ∀ w2, w2.heap[b]? = some (.map es1 cl1) → ∃ es2 cl2, (Instr.entryStore t (.map (some b)) (goInt st) (.string x)).run Tryz.prog w2 = .ok () (setBlock w2 b (.map es2 cl2)) ∧ MapS (setBlock w2 b (.map es2 cl2)) b (n + 1) (fun u => if u = s then x else M u) := by
  obtain ⟨D, h1, hD, h2⟩ := h
  have hkey := keyOf_string_mk (P := Tryz.prog) Tryz.underlying9 (s := s) (by unfold maxLen; omega)
  obtain ⟨es, cl, hb, F, hsz, hDe⟩ := h1
  have K := string_keyed (P := Tryz.prog) Tryz.underlying9
  have hup := World.ownsMap.update (w := w) ⟨es, cl, hb, F, hsz, hDe⟩ K ht (by unfold maxLen; omega) hkey (plainElem_string Tryz.underlying9 (s := x) (by unfold maxLen; omega))
  obtain ⟨w', hrun', hown', hg'⟩ := hup
  obtain ⟨v0, st, es1, cl1, r1, _, r2⟩ := Go.WideElems.entry_then_store (Go.WideMaps.string_law Tryz.underlying9) ht (z := .string ⟨#[]⟩) (fun u => Tryz.zeroValue9 u) hb F hkey
  refine ⟨v0, st, es1, cl1, r1, fun w2 hw2 => ?_⟩
  obtain ⟨es2, cl2, g1, g2⟩ := r2 w2 (.string x) hw2
  refine ⟨es2, cl2, g1, ?_⟩
  have e : w' = setBlock w b (.map es2 cl2) := by
    have := hrun'.symm.trans g2
    simpa using this
  have hlt2 : b < w2.heap.size := (Array.getElem?_eq_some_iff.1 hw2).1
  have hlt : b < w.heap.size := (Array.getElem?_eq_some_iff.1 hb).1
  have hsame : (setBlock w2 b (.map es2 cl2)).heap[b]? = w'.heap[b]? := by
    rw [e]
    simp [setBlock, hlt, hlt2]
  obtain ⟨es3, cl3, k1, k2⟩ := hown'
  refine ⟨_, ⟨es3, cl3, hsame.trans k1, k2⟩, ?_, fun u hu => ?_⟩
  · exact hD.put _ _
  · dsimp only
    by_cases hu2 : u = s
    · subst hu2
      rw [if_pos rfl]
      exact ⟨hx, Go.Maps.atKey_put_same hD (show Go.WideAt.IsKeyLit (.string u.data.toList) from trivial) _ _⟩
    · rw [if_neg hu2]
      exact ⟨(h2 u hu).1, (Go.Maps.atKey_put_other (litS_ne hu2) _ _).trans (h2 u hu).2⟩
end
end Go.Proofs.YtbdmdajbdmdknaaGreatDoor
namespace Go.Proofs.YtbdmdajbdmdknaaGreatDoor
open Go.RowKit
set_option linter.unusedVariables false
set_option linter.unusedSimpArgs false
section
variable {P : Program} {ops : Array Oper} {Q : Exit → Act → World → Prop}
variable {a0 : Act} {D : List (Nat × Nat)} {F : Nat → Value → World → Prop} {G : (Nat → Bool) → (Nat → Value) → World → Prop} {R : World → World → Prop} {i : Nat}
theorem wanted_of (hD : dOk D a0.tmps.size = true) {oi : Oper} {g t : Nat} {bb : Bool} {b : Nat → Bool} {v : Nat → Value} {w : World} (h : Here ops a0 D F G i b v w) (hgd : oi.guard = some (g, bb)) (hm : D.contains (g, t) = true) (hdst : (ops[g]?).bind (·.dst) = some t)
    (hdep : depOn ops i g = true) (hF : ∀ x w, F g x w → x = .bool bb) : Region.wanted oi (yielded ops (fr a0 b v D).tmps) = true := by
  have hm' : (g, t) ∈ D := List.contains_iff_mem.1 hm
  have e := fr_on (a0 := a0) (b := b) (v := v) hm' (fun p hp e => by rw [dOk_1 hD p hp _ hm' e]) (h.dep g hdep) (dOk_3 hD _ hm')
  rw [hF _ _ (h.fact g (h.dep g hdep))] at e
  simp [Region.wanted, hgd, yielded, hdst, e]
/-- The same under a guard that is known to hold. -/
theorem flow_pure_g (hD : dOk D a0.tmps.size = true) (hR : ∀ w, R w w) (op : Op) (ty : TypeId) (g t : Nat) (bb : Bool) (hop : opAt ops i = some (op, ty, some (g, bb))) (hm : D.contains (g, t) = true) (hdst : (ops[g]?).bind (·.dst) = some t)
    (hdep : depOn ops i g = true) (hF : ∀ x w, F g x w → x = .bool bb)
    (h : ∀ b v w ρ, At ops a0 D F G i b v w ρ → ∃ x, opRun P ρ op ty w = .ok (.value x) w ∧ F i x w ∧ G (up b i) (upv v i x) w) : StepF P ops Q a0 D F G R i := by
  obtain ⟨oi, hoi, rfl, rfl, hg⟩ := opAt_some hop
  refine ⟨oi, hoi, fun b v w hh K hK => ?_⟩
  obtain ⟨x, hrun, h1, h3⟩ := h b v w _ (at_of hD hh)
  rw [if_pos (wanted_of hD hh hg hm hdst hdep hF)]
  unfold Oper.wp
  rw [opRun_eq, hrun]
  exact hK x w h1 (hR w) h3
theorem flow_call_g (hD : dOk D a0.tmps.size = true) (op : Op) (ty : TypeId) (g t : Nat) (bb : Bool) (hop : opAt ops i = some (op, ty, some (g, bb))) (hm : D.contains (g, t) = true) (hdst : (ops[g]?).bind (·.dst) = some t)
    (hdep : depOn ops i g = true) (hF : ∀ x w, F g x w → x = .bool bb) (f : FuncId)
    (h : ∀ b v w ρ, At ops a0 D F G i b v w ρ → ∃ args, opRun P ρ op ty w = .ok (.enter f args) w ∧ Calls P f args w fun e w' => ∃ x, e = .returned x ∧ F i x w' ∧ R w w' ∧ G (up b i) (upv v i x) w') : StepF P ops Q a0 D F G R i := by
  obtain ⟨oi, hoi, rfl, rfl, hg⟩ := opAt_some hop
  refine ⟨oi, hoi, fun b v w hh K hK => ?_⟩
  obtain ⟨args, hrun, hc⟩ := h b v w _ (at_of hD hh)
  rw [if_pos (wanted_of hD hh hg hm hdst hdep hF)]
  unfold Oper.wp
  rw [opRun_eq, hrun]
  refine hc.mono ?_
  rintro e w' ⟨x, rfl, h1, h2, h3⟩
  exact hK x w' h1 h2 h3
end
end Go.Proofs.YtbdmdajbdmdknaaGreatDoor
namespace Go.Proofs.YtbdmdajbdmdknaaGreatDoor
open Go.RowKit
open Go.ChangeMaps (setBlock)
set_option linter.unusedVariables false
set_option linter.unusedSimpArgs false

def markS (key before : List Int) : ByteArray := strOfNums (shaSum (markL key before))
/-- What the map holds behind p links. -/
def tellsM (key : List Int) (ts : Nat → List Int) : Nat → ByteArray → ByteArray
  | 0 => fun _ => ⟨#[]⟩
  | p + 1 => fun u => if u = strOfNums (ts p) then markS key (prevT ts p) else tellsM key ts p u
theorem strOf_len (l : List Int) : (strOfNums l).size = l.length := by
  show (strOfNums l).data.toList.length = _
  rw [strOfNums_data, List.length_map]
theorem markS_size (key before : List Int) : (markS key before).size = 32 := by unfold markS; rw [strOf_len, shaSum_len]
theorem ArgB.unmap {W w1 : World} {A : Option Addr} {n c : Nat} {l : List Int} {mb : Nat} {es : Array MapEntry} {cl : Nat} (h : ArgB W A n c l) (hm : W.heap[mb]? = some (.map es cl)) (hg : W.grownBy w1 (some mb)) : ArgB w1 A n c l := by
  refine ⟨fun i v hv => ?_, h.len, h.cap, h.nil, h.isB⟩
  obtain ⟨b, o, e, hlt, hc⟩ := h.rd i v hv
  refine ⟨b, o, e, Nat.lt_of_lt_of_le hlt hg.size, hg.cell hc (fun e2 => ?_)⟩
  cases e2
  simp [World.cell?, hm] at hc
def RM (mb : Nat) (w1 w2 : World) : Prop := (∃ es cl, w1.heap[mb]? = some (.map es cl)) ∧ w1.grownBy w2 (some mb)
theorem ArgB.rm {mb : Nat} {W w1 : World} {A : Option Addr} {n c : Nat} {l : List Int} (h : ArgB W A n c l) (hr : RM mb W w1) : ArgB w1 A n c l := by
  obtain ⟨⟨es, cl, h1⟩, h2⟩ := hr
  exact h.unmap h1 h2
/-- What is known between the operations of 'tells[string(text)], before = string(mark), text'. -/
structure GM (w : World) (mb p : Nat) (M M' : ByteArray → ByteArray) (t : TypeId) (x : ByteArray) (X : Option Addr) (m d : Nat) (tx : List Int) (Xb : Option Addr) (nb cb : Nat) (pv : List Int) (b : Nat → Bool) (v : Nat → Value) (W : World) : Prop where
  below : Below w.heap.size w W
  mlt : w.heap.size ≤ mb
  bef : ArgB W Xb nb cb pv
  txt : ArgB W X m d tx
  map0 : b 8 = false → MapS W mb p M
  map1 : b 8 = true → b 10 = false → ∃ v0 st es1 cl1, v 8 = .tuple #[v0, goInt st] ∧ (b 9 = true → v 9 = goInt st) ∧ W.heap[mb]? = some (.map es1 cl1) ∧ ∀ w2, w2.heap[mb]? = some (.map es1 cl1) → ∃ es2 cl2, (Instr.entryStore t (.map (some mb)) (goInt st) (.string x)).run Tryz.prog w2 = .ok () (setBlock w2 mb (.map es2 cl2)) ∧ MapS (setBlock w2 mb (.map es2 cl2)) mb (p + 1) M'
  map2 : b 10 = true → MapS W mb (p + 1) M'
section
variable {w W W1 : World} {mb p : Nat} {M M' : ByteArray → ByteArray} {t : TypeId} {x : ByteArray} {X : Option Addr} {m d : Nat} {tx : List Int} {Xb : Option Addr} {nb cb : Nat} {pv : List Int} {b : Nat → Bool} {v : Nat → Value}
/-- An operation that leaves the map's state where it is. -/
theorem GM.pure (h : GM w mb p M M' t x X m d tx Xb nb cb pv b v W) (i : Nat) (y : Value) (hi : i ≠ 8) (hi9 : i ≠ 9) (hi10 : i ≠ 10) : GM w mb p M M' t x X m d tx Xb nb cb pv (up b i) (upv v i y) W := by
  refine ⟨h.below, h.mlt, h.bef, h.txt, ?_, ?_, ?_⟩ <;> simp only [up_ne (Ne.symm hi), up_ne (Ne.symm hi9), up_ne (Ne.symm hi10), upv_ne (Ne.symm hi), upv_ne (Ne.symm hi9)]
  · exact h.map0
  · exact h.map1
  · exact h.map2
theorem GM.call (h : GM w mb p M M' t x X m d tx Xb nb cb pv b v W) (i : Nat) (y : Value) (hi : i ≠ 8) (hi9 : i ≠ 9) (hi10 : i ≠ 10) (hB : Below W.heap.size W W1) (b8 : b 8 = false) (b10 : b 10 = false) : GM w mb p M M' t x X m d tx Xb nb cb pv (up b i) (upv v i y) W1 := by
  refine ⟨below_next h.below hB, h.mlt, h.bef.below hB (Nat.le_refl _), h.txt.below hB (Nat.le_refl _), ?_, ?_, ?_⟩ <;> simp only [up_ne (Ne.symm hi), up_ne (Ne.symm hi9), up_ne (Ne.symm hi10), upv_ne (Ne.symm hi), upv_ne (Ne.symm hi9)]
  · exact fun h8 => (h.map0 h8).below hB
  · intro h8; rw [b8] at h8; cases h8
  · intro h8; rw [b10] at h8; cases h8
theorem setBlock_grown (W : World) (b : Nat) (o : Obj) : W.grownBy (setBlock W b o) (some b) :=
  ⟨rfl, rfl, rfl, by simp [setBlock], fun k hk hne => by simp [setBlock]; rw [Array.getElem?_setIfInBounds_ne (fun e => hne (by rw [e]))]⟩
theorem setBlock_new (W : World) (b : Nat) (o : Obj) (h : b < W.heap.size) : (setBlock W b o).heap[b]? = some o := by simp [setBlock, h]
end
end Go.Proofs.YtbdmdajbdmdknaaGreatDoor
