/- laws.FnHeadAsked: the walk. -/
import Derived.Test.YtbdmdajbdmdknaaDoorM16
namespace Go.Proofs.YtbdmdajbdmdknaaDoor
open Go.RowKit
set_option linter.unusedVariables false
set_option linter.unusedSimpArgs false

theorem Head.hc {l : List FM} {R : Option JV} {ps : List Po} (H : Head l R ps) {N : Nat} (hN : 2 < N) : HC unB (ps.map kvO) N := by
  have hl := H.len
  refine ⟨fun p hp => unC_all _ (H.ask.keys p hp), fun p _ h => unB_plain _ h, H.ask.len, fun i j hi hj e => ?_, fun p hp t e => ?_, fun p hp s e => ?_, hN⟩
  · have hi2 : i < ps.length := by simpa using hi
    have hj2 : j < ps.length := by simpa using hj
    have h1 := H.un i hi2 (by omega)
    have h2 := H.un j hj2 (by omega)
    have h3 : unB ps[i].B = unB ps[j].B := by simpa [kvO] using e
    exact (H.uniq (i := i) (j := j) (by omega) (by omega) (bytes_ext (h2.symm.trans (h3.symm.trans h1)))).symm
  · obtain ⟨o, ho, rfl⟩ := List.mem_map.1 hp
    obtain ⟨i, hi, rfl⟩ := List.mem_iff_getElem.1 ho
    rcases (H.ok i hi (by omega)).val.lit t e with rfl | rfl | rfl <;> decide
  · obtain ⟨o, ho, rfl⟩ := List.mem_map.1 hp
    obtain ⟨i, hi, rfl⟩ := List.mem_iff_getElem.1 ho
    have hil : i < l.length := by omega
    have hval := (H.ok i hi hil).val
    have hk : l[i].d.kind = 3 := Classical.byContradiction fun hk => hval.nostr hk s e
    obtain ⟨B, hB, hT⟩ := hval.str hk
    have hx : B = s := by have := hB.symm.trans e; injection this
    subst hx
    refine unC_all _ ?_
    have h1 := hT.len
    have h2 := (H.fit.fit _ (List.getElem_mem hil)).fit.text
    omega
/-- What the reference finds, and what the header tells. -/
def FA (l : List FM) (rs : ByteArray → Option Nat) (ts : ByteArray → Option Bs) (q : ByteArray) (v : Value) (b : Bool) : Prop := askH rs q = b ∧
  ((∃ f ∈ l, v = fV f ∧ b = true ∧ f.d.kind = 3 ∧ askT ts q = f.d.text) ∨ (∃ f ∈ l, v = fV f ∧ b = true ∧ f.d.kind ≠ 3 ∧ askT ts q = ⟨#[]⟩) ∨ (v = zeroF ∧ b = false ∧ askT ts q = ⟨#[]⟩))
theorem head_asks1 {l : List FM} {R : Option JV} {ps : List Po} (H : Head l R ps) (q : ByteArray) : ∃ p : Option Nat × Option Bs, Is unB (ps.map kvO) q.data.toList p.1 ∧ TxtOf unB (ps.map kvO) p.1 p.2 ∧
    ∀ v b, FindIs l q v b → p.1.isSome = b ∧ ((∃ f ∈ l, v = fV f ∧ b = true ∧ f.d.kind = 3 ∧ bs (p.2.getD []) = f.d.text) ∨ (∃ f ∈ l, v = fV f ∧ b = true ∧ f.d.kind ≠ 3 ∧ bs (p.2.getD []) = ⟨#[]⟩) ∨ (v = zeroF ∧ b = false ∧ bs (p.2.getD []) = ⟨#[]⟩)) := by
  have hl := H.len
  by_cases h : ∃ i, ∃ hi : i < l.length, l[i].d.name = q
  · obtain ⟨i, hi, rfl⟩ := h
    have hp : i < ps.length := by omega
    have his : Is unB (ps.map kvO) l[i].d.name.data.toList (some i) := ⟨by simpa using hp, by simpa [kvO] using H.un i hp hi⟩
    have hfind : ∀ v b, FindIs l l[i].d.name v b → v = fV l[i] ∧ b = true := fun v b hf => by
      cases hf with
      | yes j hj hq _ =>
        obtain rfl := H.uniq hi hj hq
        exact ⟨rfl, rfl⟩
      | no hno => exact absurd rfl (hno _ (List.getElem_mem hi))
    have hval := (H.ok i hp hi).val
    by_cases hk : l[i].d.kind = 3
    · obtain ⟨B, hB, hT⟩ := hval.str hk
      have hu := hT.un (H.fit.fit _ (List.getElem_mem hi)).text
      refine ⟨(some i, some (unB B)), his, .inl ⟨i, by simpa using hp, rfl, B, by simpa [kvO] using hB, rfl⟩, fun v b hf => ?_⟩
      obtain ⟨rfl, rfl⟩ := hfind v b hf
      refine ⟨rfl, .inl ⟨_, List.getElem_mem hi, rfl, rfl, hk, ?_⟩⟩
      show bs (unB B) = _
      rw [hu, bs_self]
    · refine ⟨(some i, none), his, .inr (.inl ⟨i, by simpa using hp, rfl, fun s e => hval.nostr hk s (by simpa [kvO] using e), rfl⟩), fun v b hf => ?_⟩
      obtain ⟨rfl, rfl⟩ := hfind v b hf
      exact ⟨rfl, .inr (.inl ⟨_, List.getElem_mem hi, rfl, rfl, hk, rfl⟩)⟩
  · refine ⟨(none, none), fun i hi e => h ?_, .inr (.inr ⟨rfl, rfl⟩), fun v b hf => ?_⟩
    · have hp : i < ps.length := by simpa using hi
      have hil : i < l.length := by omega
      have h2 : unB ps[i].B = q.data.toList := by simpa [kvO] using e
      exact ⟨i, hil, bytes_ext ((H.un i hp hil).symm.trans h2)⟩
    · cases hf with
      | yes j hj hq _ => exact absurd ⟨j, hj, hq⟩ h
      | no hno => exact ⟨rfl, .inr (.inr ⟨rfl, rfl, rfl⟩)⟩
theorem head_asks {l : List FM} {R : Option JV} {ps : List Po} (H : Head l R ps) : ∃ (rs : ByteArray → Option Nat) (ts : ByteArray → Option Bs), (∀ q : ByteArray, Is unB (ps.map kvO) q.data.toList (rs q)) ∧ (∀ q, TxtOf unB (ps.map kvO) (rs q) (ts q)) ∧ ∀ q v b, FindIs l q v b → FA l rs ts q v b :=
  ⟨fun q => (head_asks1 H q).choose.1, fun q => (head_asks1 H q).choose.2, fun q => (head_asks1 H q).choose_spec.1, fun q => (head_asks1 H q).choose_spec.2.1, fun q v b h => (head_asks1 H q).choose_spec.2.2 v b h⟩

set_option maxRecDepth 100000 in
set_option maxHeartbeats 8000000 in
theorem asked_short (A : Option Addr) (n c : Nat) (l : List FM) (st : Int) (A2 : Option Addr) (m c2 : Nat) (pl : List Int) (s : ByteArray) (w : World) (hm : FMs w A l) (hn : l.length = n) (hb : n ≤ 9223372036854775807) (hp : Rd w A2 (nums .u8 pl)) (hpm : pl.length = m) (hs : ¬ (m ≤ 60 ∧ s.size ≤ 200 ∧ Lib.validD s.data.toList = true)) (hz : s.size ≤ 9223372036854775807) (hT : Tabs w) (hSY : SynAt w) :
    Calls Tryd.prog 4 #[.slice A n c, .int .u64 st, .slice A2 m c2, .string s] w (TB w) := by
  have HSY := hidden hSY
  have HT := hidden hT
  have HV := hidden (fun W h => valid_calls s W hz h)
  have K9 := hidden (fits9E A n c l w hm hn hb)
  have KF := hidden (fun W (h : Below w.heap.size w W) => headFitsE A n c l W (hm.below h) hn (hT.next h))
  have hvf : m ≤ 60 → s.size ≤ 200 → Lib.validD s.data.toList = false := fun h1 h2 => by
    cases h : Lib.validD s.data.toList with
    | false => rfl
    | true => exact absurd ⟨h1, h2, h⟩ hs
  clear hs hm hn hb hz hT hSY hp hpm
  by_cases h1 : 2147483647 < m
  · have h1i : (2147483647 : Int) < (m : Int) := by omega
    clear hvf
    go_enter Tryd.func4, Tryd.ntmps4
    go_wp2_with (first
      | (go_at_call 7; go_must (refine K9.out.mono ?_; rintro e w1 ⟨r, rfl, hB⟩; have HB1 := hidden hB; clear hB; cases r))
      | (go_at_call 8; go_must (refine (KF.out w1 HB1.out).mono ?_; rintro e w2 ⟨r, rfl, hf, hB⟩; have HB2 := hidden (below_next HB1.out hB); clear hB hf; cases r))
      | (go_at_call 9; go_must (refine (HV.out w2 (HT.out.next HB2.out)).mono ?_; rintro e w4 ⟨rfl, hB⟩; have HB4 := hidden (below_next HB2.out hB); clear hB))
      | (go_at_call 10; first
        | ((with_reducible refine (headLive_calls w4 (HSY.out.next HB4.out)).mono ?_); (rintro e w3 ⟨rfl, hB⟩; have HB3 := hidden (below_next HB4.out hB); clear hB))
        | ((with_reducible refine (headLive_calls w2 (HSY.out.next HB2.out)).mono ?_); (rintro e w3 ⟨rfl, hB⟩; have HB3 := hidden (below_next HB2.out hB); clear hB))))
    all_goals go_ret
    all_goals first
      | exact ⟨rfl, HB3.out⟩
      | exact ⟨rfl, HB1.out⟩
  have h1i : ¬ (2147483647 : Int) < (m : Int) := by omega
  by_cases h2 : 2147483647 < s.size
  · have h2i : (2147483647 : Int) < (s.size : Int) := by omega
    clear hvf
    go_enter Tryd.func4, Tryd.ntmps4
    go_wp2_with (first
      | (go_at_call 7; go_must (refine K9.out.mono ?_; rintro e w1 ⟨r, rfl, hB⟩; have HB1 := hidden hB; clear hB; cases r))
      | (go_at_call 8; go_must (refine (KF.out w1 HB1.out).mono ?_; rintro e w2 ⟨r, rfl, hf, hB⟩; have HB2 := hidden (below_next HB1.out hB); clear hB hf; cases r))
      | (go_at_call 9; go_must (refine (HV.out w2 (HT.out.next HB2.out)).mono ?_; rintro e w4 ⟨rfl, hB⟩; have HB4 := hidden (below_next HB2.out hB); clear hB))
      | (go_at_call 10; first
        | ((with_reducible refine (headLive_calls w4 (HSY.out.next HB4.out)).mono ?_); (rintro e w3 ⟨rfl, hB⟩; have HB3 := hidden (below_next HB4.out hB); clear hB))
        | ((with_reducible refine (headLive_calls w2 (HSY.out.next HB2.out)).mono ?_); (rintro e w3 ⟨rfl, hB⟩; have HB3 := hidden (below_next HB2.out hB); clear hB))))
    all_goals go_ret
    all_goals first
      | exact ⟨rfl, HB3.out⟩
      | exact ⟨rfl, HB1.out⟩
  have h2i : ¬ (2147483647 : Int) < (s.size : Int) := by omega
  by_cases h3 : 60 < m
  · have h3i : (60 : Int) < (m : Int) := by omega
    clear hvf
    go_enter Tryd.func4, Tryd.ntmps4
    go_wp2_with (first
      | (go_at_call 7; go_must (refine K9.out.mono ?_; rintro e w1 ⟨r, rfl, hB⟩; have HB1 := hidden hB; clear hB; cases r))
      | (go_at_call 8; go_must (refine (KF.out w1 HB1.out).mono ?_; rintro e w2 ⟨r, rfl, hf, hB⟩; have HB2 := hidden (below_next HB1.out hB); clear hB hf; cases r))
      | (go_at_call 9; go_must (refine (HV.out w2 (HT.out.next HB2.out)).mono ?_; rintro e w4 ⟨rfl, hB⟩; have HB4 := hidden (below_next HB2.out hB); clear hB))
      | (go_at_call 10; first
        | ((with_reducible refine (headLive_calls w4 (HSY.out.next HB4.out)).mono ?_); (rintro e w3 ⟨rfl, hB⟩; have HB3 := hidden (below_next HB4.out hB); clear hB))
        | ((with_reducible refine (headLive_calls w2 (HSY.out.next HB2.out)).mono ?_); (rintro e w3 ⟨rfl, hB⟩; have HB3 := hidden (below_next HB2.out hB); clear hB))))
    all_goals go_ret
    all_goals first
      | exact ⟨rfl, HB3.out⟩
      | exact ⟨rfl, HB1.out⟩
  have h3i : ¬ (60 : Int) < (m : Int) := by omega
  by_cases h4 : 200 < s.size
  · have h4i : (200 : Int) < (s.size : Int) := by omega
    clear hvf
    go_enter Tryd.func4, Tryd.ntmps4
    go_wp2_with (first
      | (go_at_call 7; go_must (refine K9.out.mono ?_; rintro e w1 ⟨r, rfl, hB⟩; have HB1 := hidden hB; clear hB; cases r))
      | (go_at_call 8; go_must (refine (KF.out w1 HB1.out).mono ?_; rintro e w2 ⟨r, rfl, hf, hB⟩; have HB2 := hidden (below_next HB1.out hB); clear hB hf; cases r))
      | (go_at_call 9; go_must (refine (HV.out w2 (HT.out.next HB2.out)).mono ?_; rintro e w4 ⟨rfl, hB⟩; have HB4 := hidden (below_next HB2.out hB); clear hB))
      | (go_at_call 10; first
        | ((with_reducible refine (headLive_calls w4 (HSY.out.next HB4.out)).mono ?_); (rintro e w3 ⟨rfl, hB⟩; have HB3 := hidden (below_next HB4.out hB); clear hB))
        | ((with_reducible refine (headLive_calls w2 (HSY.out.next HB2.out)).mono ?_); (rintro e w3 ⟨rfl, hB⟩; have HB3 := hidden (below_next HB2.out hB); clear hB))))
    all_goals go_ret
    all_goals first
      | exact ⟨rfl, HB3.out⟩
      | exact ⟨rfl, HB1.out⟩
  have h4i : ¬ (200 : Int) < (s.size : Int) := by omega
  rw [hvf (by omega) (by omega)] at HV
  clear hvf
  go_enter Tryd.func4, Tryd.ntmps4
  go_wp2_with (first
      | (go_at_call 7; go_must (refine K9.out.mono ?_; rintro e w1 ⟨r, rfl, hB⟩; have HB1 := hidden hB; clear hB; cases r))
      | (go_at_call 8; go_must (refine (KF.out w1 HB1.out).mono ?_; rintro e w2 ⟨r, rfl, hf, hB⟩; have HB2 := hidden (below_next HB1.out hB); clear hB hf; cases r))
      | (go_at_call 9; go_must (refine (HV.out w2 (HT.out.next HB2.out)).mono ?_; rintro e w4 ⟨rfl, hB⟩; have HB4 := hidden (below_next HB2.out hB); clear hB))
      | (go_at_call 10; first
        | ((with_reducible refine (headLive_calls w4 (HSY.out.next HB4.out)).mono ?_); (rintro e w3 ⟨rfl, hB⟩; have HB3 := hidden (below_next HB4.out hB); clear hB))
        | ((with_reducible refine (headLive_calls w2 (HSY.out.next HB2.out)).mono ?_); (rintro e w3 ⟨rfl, hB⟩; have HB3 := hidden (below_next HB2.out hB); clear hB))))
  all_goals go_ret
  all_goals first
    | exact ⟨rfl, HB3.out⟩
    | exact ⟨rfl, HB1.out⟩

/-- The name that a place gives. -/
def pickN (all : List ByteArray) (n : Nat) (k : Int) : ByteArray := si all (k.toNat % (n + 1))
set_option maxRecDepth 100000 in
set_option maxHeartbeats 16000000 in
theorem asked_main (A : Option Addr) (n c : Nat) (l : List FM) (x0 : Nat) (A2 : Option Addr) (m c2 : Nat) (pl : List Int) (s : ByteArray) (w : World) (hm : FMs w A l) (hn : l.length = n) (hb : n ≤ 9223372036854775807) (hp : Rd w A2 (nums .u8 pl)) (hpm : pl.length = m) (hp8 : ∀ x ∈ pl, 0 ≤ x ∧ x ≤ 255) (hm60 : m ≤ 60) (hs : s.size ≤ 200 ∧ Lib.validD s.data.toList = true) (hT : Tabs w) (hSY : SynAt w) :
    Calls Tryd.prog 4 #[.slice A n c, .int .u64 (x0 : Int), .slice A2 m c2, .string s] w (TB w) := by
  have HSY := hidden hSY
  have HT := hidden hT
  have HV := hidden (fun W h => valid_calls s W (by omega) h)
  rw [hs.2] at HV
  have K9 := hidden (fits9E A n c l w hm hn hb)
  have KF := hidden (fun W (h : Below w.heap.size w W) => headFitsE A n c l W (hm.below h) hn (hT.next h))
  have HM := hidden (And.intro hm hn)
  have HP := hidden (And.intro hp (And.intro hpm hp8))
  have h1i : ¬ (2147483647 : Int) < (m : Int) := by omega
  have h2i : ¬ (2147483647 : Int) < (s.size : Int) := by have := hs.1; omega
  have h3i : ¬ (60 : Int) < (m : Int) := by omega
  have h4i : ¬ (200 : Int) < (s.size : Int) := by have := hs.1; omega
  have hcv : ∀ (W : World) (t : ByteArray), (convert 9 32 (.string t)).run Tryd.prog W = .ok (.slice (some ⟨W.heap.size, 0, none⟩) t.size (grownCap W t.size 0 5)) (Go.Lib.bytesWorld W 5 t) := fun W t => Go.Lib.run_convert_string_bytes (P := Tryd.prog) W 9 32 5 t Tryd.underlying9 Tryd.underlying32 Tryd.underlying5
  clear hm hn hb hs hT hSY hp hpm hp8
  go_enter Tryd.func4, Tryd.ntmps4
  go_upto_region 5 with (first
    | (go_at_call 7; go_must (refine K9.out.mono ?_; rintro e w1 ⟨r, rfl, hB⟩; have HB1 := hidden hB; clear hB; cases r))
    | (go_at_call 8; go_must (refine (KF.out w1 HB1.out).mono ?_; rintro e w2 ⟨r, rfl, hf, hB⟩; have HB2 := hidden (below_next HB1.out hB); have HF2 := hidden hf; clear hB hf; cases r))
    | (go_at_call 9; go_must (refine (HV.out w2 (HT.out.next HB2.out)).mono ?_; rintro e w4 ⟨rfl, hB⟩; have HB4 := hidden (below_next HB2.out hB); clear hB))
    | (go_at_call 10; go_must (refine (headLive_calls w2 (HSY.out.next HB2.out)).mono ?_; rintro e w3 ⟨rfl, hB⟩; have HB3 := hidden (below_next HB2.out hB); clear hB)))
  any_goals (first
    | (go_ret; exact ⟨rfl, HB3.out⟩)
    | (go_ret; exact ⟨rfl, HB1.out⟩))
  have HAF : Hid (AllFit l ∧ l.length ≤ 30) := hidden (by simpa using HF2.out)
  have hn30 : n ≤ 30 := by have := HAF.out.2; have := HM.out.2; omega
  clear HF2 K9 KF HV
  have KN := hidden (headNamesE A n c l s w4 (HM.out.1.below HB4.out) HM.out.2 (by omega))
  have HNL : Hid ((strs (s :: namesF l)).length = n + 1) := hidden (by rw [strs_len, List.length_cons, namesF, List.length_map, HM.out.2])
  go_upto_region 7 with (go_at_call 16; go_must (refine KN.out.mono ?_; rintro e W5 ⟨v9, rfl, hO, hB⟩; obtain ⟨A9, c9, rfl, hc9, hr9, hA9⟩ := hO.read; rw [HNL.out]; have HR9 := hidden hr9; have HB5 := hidden (below_next HB4.out hB); clear hO hB hc9 hr9 hA9))
  clear KN HB1 HB2 HB4
  have HNA0 : Hid (NA W5 [] (.slice none 0 0) W5) := hidden ⟨Own.nil _ _ _, Below.refl _ _⟩
  go_wp2
  go_loopw [57, 10] (fun v57 v10 wr => ∃ j : Nat, v57 = .int .i64 j ∧ j ≤ m ∧ Hid (NA W5 ((pl.take j).map (pickN (s :: namesF l) n)) v10 wr)) (fun v _ _ => m - (intOf v).toNat)
  case atStart => exact ⟨0, rfl, by omega, HNA0⟩
  case round =>
    obtain ⟨j, rfl, hjm, HN⟩ := hrel
    by_cases hlt : j < m
    · have hjl : j < pl.length := by rw [HP.out.2.1]; exact hlt
      obtain ⟨b2, o2, rfl, _, d2⟩ := (HP.out.1.below (below_next HB5.out HN.out.below) (Nat.le_refl _)).at j hjl
      have hg := HP.out.2.2 (gi pl j) (by unfold gi; rw [List.getD_eq_getElem?_getD, List.getElem?_eq_getElem hjl, Option.getD_some]; exact List.getElem_mem hjl)
      obtain ⟨kk, hkk⟩ : ∃ kk : Nat, gi pl j = kk := ⟨(gi pl j).toNat, by omega⟩
      have hr : kk % (n + 1) < (s :: namesF l).length := by
        have := HNL.out; rw [strs_len] at this; rw [this]; exact Nat.mod_lt _ (by omega)
      obtain ⟨b9, o9, rfl, _, d9⟩ := (HR9.out.below HN.out.below (Nat.le_refl _)).atS (kk % (n + 1)) hr
      obtain ⟨q, hq⟩ : ∃ q, si (s :: namesF l) (kk % (n + 1)) = q := ⟨_, rfl⟩
      have HX : Hid ((pl.take (j + 1)).map (pickN (s :: namesF l) n) = (pl.take j).map (pickN (s :: namesF l) n) ++ [q]) := hidden (by
        rw [List.take_succ_eq_append_getElem hjl, List.map_append]
        have e : pl[j] = gi pl j := by unfold gi; rw [List.getD_eq_getElem?_getD, List.getElem?_eq_getElem hjl, Option.getD_some]
        rw [List.map_singleton, e, hkk, pickN, Int.toNat_natCast, hq])
      have HZ : Hid ((strs ((pl.take j).map (pickN (s :: namesF l) n))).length ≤ 60) := hidden (by rw [strs_len, List.length_map, List.length_take]; omega)
      rw [hkk] at d2
      rw [hq] at d9
      have hk255 : kk ≤ 255 := by omega
      have HN1 := hidden (HN.out.alloc (.cells #[.string q] 9))
      have HR1 := hidden (Rd.new wr 9 [.string q] _ rfl)
      have hmod : Int.tmod (kk : Int) ((n : Int) + 1) = ((kk % (n + 1) : Nat) : Int) := by rw [Int.tmod_eq_emod_of_nonneg (by omega)]; first | (rw [Int.natCast_emod]; rfl) | (rw [Int.ofNat_emod]; rfl) | (push_cast; rfl)
      have hri : ((kk % (n + 1) : Nat) : Int) < (n : Int) + 1 := by have := Nat.mod_lt kk (show 0 < n + 1 by omega); omega
      have hn0 : ¬ ((n : Int) + 1 = 0) := by omega
      obtain ⟨r, hrr⟩ : ∃ r, kk % (n + 1) = r := ⟨_, rfl⟩
      rw [hrr] at hmod hri d9
      clear hr hq hkk hg hjl hrr
      go_wp2_with ((with_reducible refine at_dst 71 ?_); go_must (refine walk_app (base := W5.heap.size) (ys := strs [q]) rfl (.tmp 61) (.tmp 70) rfl Tryd.underlying27 info_str rfl (by decide) rfl rfl HN1.out.own HR1.out rfl (strs_one _) HN1.out.below.size (by have := HZ.out; simp only [strs, List.length_map, List.length_cons, List.length_nil] at this ⊢; omega) ?_; intro v1 w5 hO5 hg5 _; have HN5 := hidden (HN1.out.put hO5 hg5); clear hO5 hg5))
      exact ⟨⟨j + 1, by go_num, by omega, hidden (by rw [HX.out]; exact HN5.out)⟩, by simp [intOf]; omega⟩
    · obtain rfl : j = m := by omega
      have HF := HN.out
      rw [List.take_of_length_le (by have := HP.out.2.1; omega)] at HF
      have HF := hidden HF
      clear HN
      have HB6 : Hid (Below w.heap.size w wr) := hidden (below_next HB5.out HF.out.below)
      obtain ⟨A10, c10, rfl, hc10, hr10, hA10⟩ := HF.out.own.read
      obtain ⟨qs, hqs⟩ : ∃ qs, pl.map (pickN (s :: namesF l) n) = qs := ⟨_, rfl⟩
      have HQ : Hid ((strs qs).length = j ∧ qs.length = j ∧ Rd wr A10 (strs qs)) := hidden ⟨by rw [← hqs, strs_len, List.length_map]; exact HP.out.2.1, by rw [← hqs, List.length_map]; exact HP.out.2.1, by rw [← hqs]; exact hr10⟩
      rw [hqs, HQ.out.1]
      clear hc10 hr10 hA10 HF hqs hlt hjm HNA0
      have KT := hidden (headText_calls A n c l x0 wr (HM.out.1.below HB6.out) HM.out.2 (by omega) (fun f hf => (HAF.out.1.fit f hf).fit))
      go_upto_region 13 with (first
        | (go_at_call 12; go_must (refine KT.out.mono ?_; rintro e w6 ⟨T, rfl, hTx, hB⟩; obtain ⟨ps, hp1, hp2, hp3⟩ := hTx.ps; have HH : Hid (Head l (pText T) ps) := hidden ⟨hp1, hp2, hp3, HAF.out.1⟩; have HTL : Hid (T.length ≤ 200000000) := hidden (by have := hTx.len; omega); have HB7 : Hid (Below w.heap.size w (Go.Lib.bytesWorld w6 5 (bs T))) := hidden (below_next (below_next HB6.out hB) (below_bytes0 w6 5 (bs T))); have HQ7 : Hid (Rd (Go.Lib.bytesWorld w6 5 (bs T)) A10 (strs qs)) := hidden ((HQ.out.2.2.below hB (Nat.le_refl _)).below (below_bytes0 w6 5 (bs T)) (Nat.le_refl _)); clear hTx hB hp1 hp2 hp3))
        | (go_at_call 17; go_must (obtain ⟨rs, ts, hrs, hts, hfa⟩ := head_asks HH.out; refine (headAsked_calls _ (bs T) _ _ _ (rd_bI w6 5 (bs T)) rfl (grownCap_ge _ _ _ _) (by simp) (by rw [size_bs]; exact HTL.out) unB (ps.map kvO) (by rw [toL_bs]; exact HH.out.eq) (HH.out.hc (HSY.out.next HB7.out).lt) (HSY.out.next HB7.out) A10 j c10 qs HQ7.out HQ.out.2.1 (by omega) rs hrs ts hts).mono ?_; rintro e W8 ⟨v13, v14, rfl, h13, h14, hB⟩; have HFA := hidden hfa; have HB8 := hidden (below_next HB7.out hB); have HQ8 : Hid (Rd W8 A10 (strs qs)) := hidden (HQ7.out.below hB (Nat.le_refl _)); obtain ⟨A13, c13, rfl, _, r13, _⟩ := h13.read; obtain ⟨A14, c14, rfl, _, r14, _⟩ := h14.read; have hl13 : (strs (qs.map (askT ts))).length = j := (by rw [strs_len, List.length_map]; exact HQ.out.2.1); have hl14 : ((qs.map (askH rs)).map Value.bool).length = j := (by rw [List.length_map, List.length_map]; exact HQ.out.2.1); rw [hl13, hl14]; have HR13 := hidden r13; have HR14 := hidden r14; clear hrs hts hfa h13 h14 hB r13 r14 hl13 hl14)))
      clear KT HTL HQ7 HB7 hcv HP HR9
      go_wp2
      go_loopw [96] (fun v96 wr2 => ∃ i : Nat, v96 = .int .i64 i ∧ i ≤ j ∧ Hid (Below W8.heap.size W8 wr2)) (fun v _ => j - (intOf v).toNat)
      case atStart => exact ⟨0, rfl, by omega, hidden (Below.refl _ _)⟩
      case round =>
        obtain ⟨i, rfl, hij, HB⟩ := hrel
        have HBW : Hid (Below w.heap.size w wr) := hidden (below_next HB8.out HB.out)
        by_cases hlt : i < j
        · have hiq : i < qs.length := by rw [HQ.out.2.1]; exact hlt
          obtain ⟨b10, o10, rfl, _, d10⟩ := (HQ8.out.below HB.out (Nat.le_refl _)).atS i hiq
          obtain ⟨b13, o13, rfl, _, d13⟩ := (HR13.out.below HB.out (Nat.le_refl _)).atS i (by rw [List.length_map]; exact hiq)
          obtain ⟨b14, o14, rfl, _, d14⟩ := (HR14.out.below HB.out (Nat.le_refl _)) i (.bool (askH rs (si qs i))) (by simp [si, List.getD_eq_getElem?_getD, hiq])
          have e13 : si (qs.map (askT ts)) i = askT ts (si qs i) := by simp [si, List.getD_eq_getElem?_getD, hiq]
          rw [e13] at d13
          obtain ⟨q, hq⟩ : ∃ q, si qs i = q := ⟨_, rfl⟩
          rw [hq] at d10 d13 d14
          have hlti : (i : Int) < (j : Int) := by omega
          have KFI := hidden (headFindE A n c l q wr (HM.out.1.below HBW.out) HM.out.2 (by omega))
          clear hq e13 hiq
          go_wp2_with (go_at_call 11; go_must (refine KFI.out.mono ?_; rintro e w7 ⟨v, b, rfl, hF, hB⟩; have HBF := hidden (below_next HB.out hB); obtain ⟨hb1, hb2⟩ := HFA.out q v b hF; rw [hb1] at d14; have f13 := cell_next hB d13; have f14 := cell_next hB d14; rcases hb2 with ⟨f, hfm, rfl, rfl, hk, ht⟩ | ⟨f, hfm, rfl, rfl, hk, ht⟩ | ⟨rfl, rfl, ht⟩ <;> (rw [ht] at f13; have g13 := (fun o => cell_next (below_alloc0 w7 o) f13); have g14 := (fun o => cell_next (below_alloc0 w7 o) f14); clear hB hF hb1 ht d10 d13 d14 f13 f14) <;> (first
            | (have hk3 : ((f.d.kind : Int) == 3) = true := (by rw [beq_iff_eq]; omega); clear hk hfm; have q1 : (w7.alloc (.cells #[.string f.d.name, .int .u8 f.d.kind, .bool f.d.is_, .bool f.d.minus, .int .u64 f.d.num, .string f.d.text, .slice f.A f.d.list.length f.c] 29)).cell? ⟨w7.heap.size, 1, none⟩ = some (.int .u8 f.d.kind) := (Row.new w7 29 [.string f.d.name, .int .u8 f.d.kind, .bool f.d.is_, .bool f.d.minus, .int .u64 f.d.num, .string f.d.text, .slice f.A f.d.list.length f.c]).cell 1; have q5 : (w7.alloc (.cells #[.string f.d.name, .int .u8 f.d.kind, .bool f.d.is_, .bool f.d.minus, .int .u64 f.d.num, .string f.d.text, .slice f.A f.d.list.length f.c] 29)).cell? ⟨w7.heap.size, 5, none⟩ = some (.string f.d.text) := (Row.new w7 29 [.string f.d.name, .int .u8 f.d.kind, .bool f.d.is_, .bool f.d.minus, .int .u64 f.d.num, .string f.d.text, .slice f.A f.d.list.length f.c]).cell 5; unfold fV)
            | (have hk3 : ((f.d.kind : Int) == 3) = false := (by rw [beq_eq_false_iff_ne]; omega); clear hk hfm; have q1 : (w7.alloc (.cells #[.string f.d.name, .int .u8 f.d.kind, .bool f.d.is_, .bool f.d.minus, .int .u64 f.d.num, .string f.d.text, .slice f.A f.d.list.length f.c] 29)).cell? ⟨w7.heap.size, 1, none⟩ = some (.int .u8 f.d.kind) := (Row.new w7 29 [.string f.d.name, .int .u8 f.d.kind, .bool f.d.is_, .bool f.d.minus, .int .u64 f.d.num, .string f.d.text, .slice f.A f.d.list.length f.c]).cell 1; unfold fV)
            | (unfold zeroF)) <;> dsimp only))
          all_goals exact ⟨⟨i + 1, by go_num, by omega, hidden (below_next HBF.out (below_alloc0 w7 _))⟩, by simp [intOf]; omega⟩
        · have hnlt : ¬ ((i : Int) < (j : Int)) := by omega
          go_wp2_with (go_at_call 10; go_must (refine (headLive_calls wr (HSY.out.next HBW.out)).mono ?_; rintro e w3 ⟨rfl, hB⟩; have HBL := hidden (below_next HBW.out hB); clear hB))
          go_ret
          exact ⟨rfl, HBL.out⟩
theorem headAsked_walk (A : Option Addr) (n c : Nat) (l : List FM) (st : Int) (A2 : Option Addr) (m c2 : Nat) (pl : List Int) (s : ByteArray) (w : World) (hm : FMs w A l) (hn : l.length = n) (hb : n ≤ 9223372036854775807) (hp : Rd w A2 (nums .u8 pl)) (hpm : pl.length = m) (hp8 : ∀ x ∈ pl, 0 ≤ x ∧ x ≤ 255) (hst : (Lit.int .u64 st).wf = true) (hz : s.size ≤ 9223372036854775807) (hT : Tabs w) (hSY : SynAt w) :
    Calls Tryd.prog 4 #[.slice A n c, .int .u64 st, .slice A2 m c2, .string s] w (TB w) := by
  by_cases hs : m ≤ 60 ∧ s.size ≤ 200 ∧ Lib.validD s.data.toList = true
  · simp [Lit.wf, IntKind.min, IntKind.max, IntKind.bits, IntKind.signed] at hst
    obtain ⟨k, rfl⟩ : ∃ k : Nat, st = k := ⟨st.toNat, by omega⟩
    exact asked_main A n c l k A2 m c2 pl s w hm hn hb hp hpm hp8 hs.1 hs.2 hT hSY
  · exact asked_short A n c l st A2 m c2 pl s w hm hn hb hp hpm hs hz hT hSY

end Go.Proofs.YtbdmdajbdmdknaaDoor
