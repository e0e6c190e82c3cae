/- What a head of fields tells of a name; HeaderGetStringBytes, impl.HeadBytes. What a slice of whole numbers that comes in reads as; its weight bounds its length. laws.FnHeadTexts: the walk. A head of fields, asked: the contracts in the form of the laws' loops. -/
import Derived.Test.YtbdmdajbdmdknaaDoorM14
import Derived.Test.YtbdmdajbdmdknaaDoorProg
import Derived.Test.YtbdmdajbdmdknaaDoorM1
import Derived.WalkKit
import Derived.ProofKit
import Derived.OpenShut
import Derived.ShutString
import Derived.ChangeOld
import Derived.Below
import Derived.SizedLaws
import Derived.ChangeSlices
namespace Go.Proofs.YtbdmdajbdmdknaaDoor
open Go.RowKit
set_option linter.unusedVariables false
set_option linter.unusedSimpArgs false

theorem getJ_one {l : List (Bs × JV)} {q : Bs} {i : Nat} (hi : i < l.length) (h : unB l[i].1 = q) (hu : ∀ j (hj : j < l.length), unB l[j].1 = q → j = i) : getJ unB l q = some l[i].2 := by
  have h2 : (l.find? fun p => unB p.1 == q).map (·.2) = some l[i].2 := by
    have : l.find? (fun p => unB p.1 == q) = some l[i] := by
      rw [List.find?_eq_some_iff_getElem]
      refine ⟨by simp [h], i, hi, rfl, fun j hj => ?_⟩
      simp only [Bool.not_eq_true', beq_eq_false_iff_ne]
      intro e
      have := hu j (by omega) e
      omega
    rw [this]; rfl
  unfold getJ
  by_cases h92 : (92 : UInt8) ∈ q
  · rw [if_pos h92]; exact h2
  · rw [if_neg h92]
    cases hf : l.find? fun p => p.1 == q with
    | none => exact h2
    | some p =>
      obtain ⟨he, j, hj, hjp, _⟩ := List.find?_eq_some_iff_getElem.1 hf
      have he2 : p.1 = q := by simpa using he
      have : unB l[j].1 = q := by rw [hjp, he2]; exact unB_plain q h92
      have hji := hu j hj this
      subst hji
      show some p.2 = _
      rw [hjp]
theorem getJ_not {l : List (Bs × JV)} {q : Bs} (h : ∀ j (hj : j < l.length), unB l[j].1 ≠ q) : getJ unB l q = none := by
  have h2 : (l.find? fun p => unB p.1 == q).map (·.2) = none := by
    rw [Option.map_eq_none_iff, List.find?_eq_none]
    intro p hp
    obtain ⟨j, hj, rfl⟩ := List.mem_iff_getElem.1 hp
    simpa using h j hj
  unfold getJ
  by_cases h92 : (92 : UInt8) ∈ q
  · rw [if_pos h92]; exact h2
  · rw [if_neg h92]
    cases hf : l.find? fun p => p.1 == q with
    | none => exact h2
    | some p =>
      obtain ⟨he, j, hj, hjp, _⟩ := List.find?_eq_some_iff_getElem.1 hf
      have he2 : p.1 = q := by simpa using he
      exact absurd (show unB l[j].1 = q by rw [hjp, he2]; exact unB_plain q h92) (h j hj)
theorem bytes_ext {a b : ByteArray} (h : a.data.toList = b.data.toList) : a = b := by rw [← bs_self a, h, bs_self]
/-- A text of fields, parsed. -/
structure Head (l : List FM) (R : Option JV) (ps : List Po) : Prop where
  eq : R = some (.obj (ps.map kvO))
  len : ps.length = l.length
  ok : ∀ j (h : j < ps.length) (h2 : j < l.length), FOk l[j].d ps[j]
  fit : AllFit l
section
variable {l : List FM} {R : Option JV} {ps : List Po}
theorem Head.un (h : Head l R ps) (j : Nat) (hj : j < ps.length) (hl : j < l.length) : unB ps[j].B = l[j].d.name.data.toList :=
  (h.ok j hj hl).tx.un (h.fit.fit _ (List.getElem_mem hl)).name
theorem Head.ask (h : Head l R ps) : AskObj R (ps.map kvO) where
  eq := h.eq
  keys := fun p hp => by
    obtain ⟨q, hq, rfl⟩ := List.mem_map.1 hp
    obtain ⟨j, hj, rfl⟩ := List.mem_iff_getElem.1 hq
    have hl : j < l.length := by rw [← h.len]; exact hj
    have h1 := (h.ok j hj hl).tx.len
    have h2 := (h.fit.fit _ (List.getElem_mem hl)).fit.name
    show ps[j].B.length ≤ _
    omega
  len := by rw [List.length_map, h.len]; have := h.fit.len; omega
theorem Head.uniq (h : Head l R ps) {i j : Nat} (hi : i < l.length) (hj : j < l.length) (e : l[j].d.name = l[i].d.name) : j = i := by
  have hnd := List.pairwise_iff_getElem.1 h.fit.nd
  rcases Nat.lt_trichotomy j i with h1 | h1 | h1
  · exact absurd (by simpa [namesF] using e) (hnd j i (by simpa [namesF] using hj) (by simpa [namesF] using hi) h1)
  · exact h1
  · exact absurd (by simpa [namesF] using e.symm) (hnd i j (by simpa [namesF] using hi) (by simpa [namesF] using hj) h1)
theorem Head.yes (h : Head l R ps) (i : Nat) (hi : i < l.length) : headV unB R l[i].d.name.data.toList = some (ps[i]'(by rw [h.len]; exact hi)).J := by
  have hp : i < ps.length := by rw [h.len]; exact hi
  rw [h.ask.head, getJ_one (i := i) (by simpa using hp)]
  · simp [kvO]
  · simpa [kvO] using h.un i hp hi
  · intro j hj e
    have hjp : j < ps.length := by simpa using hj
    have hjl : j < l.length := by rw [← h.len]; exact hjp
    have h2 := h.un j hjp hjl
    have h3 : unB ps[j].B = l[i].d.name.data.toList := by simpa [kvO] using e
    exact h.uniq hi hjl (bytes_ext (h2.symm.trans h3))
theorem Head.no (h : Head l R ps) (s : ByteArray) (hs : ∀ f ∈ l, f.d.name ≠ s) : headV unB R s.data.toList = none := by
  rw [h.ask.head]
  refine getJ_not (fun j hj e => ?_)
  have hjp : j < ps.length := by simpa using hj
  have hjl : j < l.length := by rw [← h.len]; exact hjp
  have h2 := h.un j hjp hjl
  have h3 : unB ps[j].B = s.data.toList := by simpa [kvO] using e
  exact hs _ (List.getElem_mem hjl) (bytes_ext (h2.symm.trans h3))
/-- The text behind a name. -/
theorem Head.str (h : Head l R ps) (i : Nat) (hi : i < l.length) (hk : l[i].d.kind = 3) : headT unB R l[i].d.name.data.toList = some l[i].d.text.data.toList := by
  have hp : i < ps.length := by rw [h.len]; exact hi
  have hv := (h.ok i hp hi).val
  obtain ⟨B, hB, hT⟩ := hv.str hk
  unfold headT
  rw [h.yes i hi, hB]
  dsimp only
  rw [hT.un (h.fit.fit _ (List.getElem_mem hi)).text]
theorem Head.nostr (h : Head l R ps) (i : Nat) (hi : i < l.length) (hk : l[i].d.kind ≠ 3) : headT unB R l[i].d.name.data.toList = none := by
  have hp : i < ps.length := by rw [h.len]; exact hi
  have hv := (h.ok i hp hi).val.nostr hk
  unfold headT
  rw [h.yes i hi]
  cases hJ : ps[i].J with
  | str s => exact absurd hJ (hv s)
  | _ => rfl
theorem Head.none (h : Head l R ps) (s : ByteArray) (hs : ∀ f ∈ l, f.d.name ≠ s) : headT unB R s.data.toList = none := by
  unfold headT
  rw [h.no s hs]
/-- What a text's reader asks. -/
theorem Head.vals (h : Head l R ps) (s : ByteArray) : ∀ v, headV unB R s.data.toList = some v → (∀ t, v = .lit t → t ≠ 7 ∧ t ≠ 3) ∧ ∀ x, v = .str x → UnC x (unB x) := by
  intro v hv
  have hin : ∃ i, ∃ hi : i < l.length, l[i].d.name = s := by
    apply Classical.byContradiction
    intro hno
    rw [h.no s (fun f hf e => by
      obtain ⟨j, hj, rfl⟩ := List.mem_iff_getElem.1 hf
      exact hno ⟨j, hj, e⟩)] at hv
    cases hv
  obtain ⟨i, hi, rfl⟩ := hin
  have hp : i < ps.length := by rw [h.len]; exact hi
  rw [h.yes i hi] at hv
  have hJ := Option.some.inj hv
  have hval := (h.ok i hp hi).val
  refine ⟨fun t e => ?_, fun x e => ?_⟩
  · rcases hval.lit t (hJ.trans e) with rfl | rfl | rfl <;> decide
  · have hk : l[i].d.kind = 3 := Classical.byContradiction fun hk => hval.nostr hk x (hJ.trans e)
    obtain ⟨B, hB, hT⟩ := hval.str hk
    have hx : B = x := by have := hB.symm.trans (hJ.trans e); injection this
    subst hx
    refine unC_all _ ?_
    have h1 := hT.len
    have h2 := (h.fit.fit _ (List.getElem_mem hi)).fit.text
    omega
end
/-! HeaderGetStringBytes. -/
set_option maxRecDepth 100000 in
set_option maxHeartbeats 1000000 in
theorem strBytes2 (w : World) (F : Nat → Nat → Prop) (s s' : Bs) (b o : Nat) (h : Rep w F (.str s) b o) (hU : UnC s s') (hS : SynAt w) :
    Calls Tryd.prog 43 #[.pointer (some ⟨b, o, none⟩)] w fun e w' => ∃ a n c, e = .returned (.tuple #[.slice (some a) n c, .nilIface]) ∧ n = s'.length ∧ n ≤ c ∧ Rd w' (some a) (nums .u8 (bI (bs s'))) ∧ AltC w w' (fun x _ => x = b) := by
  have HT := hidden (type_str w F s s' b o h hU hS)
  have hsz : (bs s').size = s'.length := by rw [size_toL, toL_bs]
  have HZ := hidden hsz
  clear h hU hsz hS
  go_enter Tryd.func43, Tryd.ntmps43
  go_wp2_with (first
    | (go_at_call 47; go_must (refine HT.out.mono ?_; rintro e w1 ⟨rfl, hA, hS⟩; have c3 := hS.1; have HA := hidden hA; clear hA hS))
    | (go_at_call 49; go_must (refine (s2b_calls (bs s') _).mono ?_; rintro e w2 ⟨c, rfl, hle, hR, hB⟩; have HR := hidden hR; have HB := hidden hB; have HLE := hidden hle; clear hR hB hle)))
  go_ret2
  exact ⟨_, _, _, rfl, HZ.out, HLE.out, HR.out, HA.out.trans (AltC.of_below HB.out (fun _ _ => False)) (fun _ _ _ e => e.elim)⟩
/-- What HeaderGetStringBytes leaves. -/
def HBy (w : World) (N : Nat) (r : Option Bs) (e : Ending) (w' : World) : Prop := Below N w w' ∧ (match r with
  | some s => ∃ a n c, e = .returned (.tuple #[.slice (some a) n c, .nilIface]) ∧ n = s.length ∧ n ≤ c ∧ Rd w' (some a) (nums .u8 (bI (bs s)))
  | none => ∃ T u, e = .returned (.tuple #[.slice none 0 0, .iface T u]))
set_option maxRecDepth 100000 in
set_option maxHeartbeats 2000000 in
theorem headBytes_calls (w : World) (B N : Nat) (R : Option JV) (un : Bs → Bs) (q : Bs) (h : HeadAt w B R N) (hR : ∀ v, R = some v → Reads un v q ∧ ∀ t, v = .lit t → t ≠ 1 ∧ t ≠ 2) (hV : ∀ v, headV un R q = some v → (∀ t, v = .lit t → t ≠ 7 ∧ t ≠ 3) ∧ ∀ s, v = .str s → UnC s (un s)) (hN : N ≤ w.heap.size) (hS : SynAt w) (hNg : 2 < N) (r : Option Bs) (hr : headT un R q = r) :
    Calls Tryd.prog 32 #[.iface 94 (.pointer (some ⟨B, 0, none⟩)), .string (bs q)] w (HBy w N r) := by
  obtain ⟨V, hVV⟩ : ∃ V, headV un R q = V := ⟨_, rfl⟩
  have HG1 := hidden (headGet_calls w B N R un q h hR hN hS hNg V hVV)
  unfold headT at hr
  rw [hVV] at hr hV
  have low : Hid (∀ {w w' : World}, N ≤ w.heap.size → Below w.heap.size w w' → Below N w w') := hidden (fun hN h => ⟨h.os, h.tape, h.output, h.size, fun b hb => h.block b (Nat.lt_of_lt_of_le hb hN)⟩)
  have HN := hidden hN
  have HSY := hidden (And.intro hS hNg)
  clear h hR hVV hN hS hNg
  cases V with
  | none =>
    obtain rfl : r = none := hr.symm
    clear hV hr
    go_enter Tryd.func32, Tryd.ntmps32
    go_wp2_with (go_at_call 41; go_must (refine HG1.out.mono ?_; rintro e w1 ⟨hB, T, u, rfl⟩; have HB := hidden hB; clear hB))
    go_ret2
    exact ⟨HB.out, _, _, rfl⟩
  | some v =>
    have hv := hV v rfl
    clear hV
    by_cases hs : ∃ s, v = .str s
    · obtain ⟨s, rfl⟩ := hs
      obtain rfl : r = some (un s) := hr.symm
      have HU := hidden (hv.2 s rfl)
      clear hv hr
      go_enter Tryd.func32, Tryd.ntmps32
      go_wp2_with (first
        | (go_at_call 41; go_must (refine HG1.out.mono ?_; rintro e w1 ⟨hB, G, b, o, rfl, hRep, hGN⟩; have HB := hidden hB; have HR := hidden hRep; have HGN := hidden hGN; clear hB hRep hGN; unfold ptr))
        | (go_at_call 43; go_must (refine (strBytes2 _ G s (un s) b o HR.out HU.out (HSY.out.1.below HB.out HSY.out.2)).mono ?_; rintro e w2 ⟨A, n, c, rfl, hn, hc, hRd, hA⟩; have HRd := hidden hRd; have HN2 := hidden (And.intro hn hc); have HA := hidden hA; clear hRd hn hA hc)))
      go_ret2
      refine ⟨HB.out.trans (HA.out.below (Nat.le_trans HN.out HB.out.size) (fun x y hx e => ?_)), _, _, _, rfl, HN2.out.1, HN2.out.2, HRd.out⟩
      have := HGN.out b (o + 4) HR.out.ty.1
      omega
    · have hrn : r = none := by
        cases v with
        | str s => exact absurd ⟨s, rfl⟩ hs
        | _ => exact hr.symm
      subst hrn
      have hty : tyOf v ≠ 7 ∧ tyOf v ≠ 3 := by
        cases v with
        | str s => exact absurd ⟨s, rfl⟩ hs
        | lit t => exact hv.1 t rfl
        | _ => simp [tyOf]
      have HTY := hidden hty
      clear hv hr hs hty
      go_enter Tryd.func32, Tryd.ntmps32
      go_wp2_with (first
        | (go_at_call 41; go_must (refine HG1.out.mono ?_; rintro e w1 ⟨hB, G, b, o, rfl, hRep, hGN⟩; have HB := hidden hB; have HR := hidden hRep; have HGN := hidden hGN; clear hB hRep hGN; unfold ptr))
        | (go_at_call 43; go_must (refine (strBytes_no _ G v b o HR.out HTY.out.1 HTY.out.2).mono ?_; rintro e w2 ⟨T, a, rfl, hB2⟩; have HB2 := hidden hB2; clear hB2)))
      go_ret2
      exact ⟨HB.out.trans (low.out (Nat.le_trans HN.out HB.out.size) HB2.out), _, _, rfl⟩
/-- What HeadBytes gives. -/
def HByt (w : World) (r : Option Bs) (e : Ending) (w' : World) : Prop := Below w.heap.size w w' ∧ ∃ A n c, e = .returned (.tuple #[.slice A n c, .bool r.isSome]) ∧ n = (r.getD []).length ∧ Rd w' A (nums .u8 (bI (bs (r.getD []))))
set_option maxRecDepth 100000 in
set_option maxHeartbeats 2000000 in
theorem implHeadBytes_calls (w : World) (s : ByteArray) (A : Option Addr) (n c : Nat) (un : Bs → Bs) (q : Bs) (hr : Rd w A (nums .u8 (bI s))) (hn : s.size = n) (hc : n ≤ c) (hA : A = none → c = 0) (hN : s.size ≤ 200000000) (R : Option JV) (hR : pText s.data.toList = R)
    (h1 : ∀ v, R = some v → Reads un v q ∧ ∀ t, v = .lit t → t ≠ 1 ∧ t ≠ 2) (h2 : ∀ v, headV un R q = some v → (∀ t, v = .lit t → t ≠ 7 ∧ t ≠ 3) ∧ ∀ s, v = .str s → UnC s (un s)) (hS : SynAt w) (r : Option Bs) (hrr : headT un R q = r) (hrl : (r.getD []).length ≤ 1000000) :
    Calls Tryd.prog 19 #[.slice A n c, .string (bs q)] w (HByt w r) := by
  have HH := hidden (head_calls w s A n c hr hn hc hA hN R hR)
  have HS1 := hidden (fun (W : World) (B : Nat) (hB : HeadAt W B R w.heap.size) (hW : w.heap.size ≤ W.heap.size) (hSW : SynAt W) => headBytes_calls W B w.heap.size R un q hB h1 h2 hW hSW hS.lt r hrr)
  have HSY := hidden hS
  have HRL := hidden hrl
  clear hr hn hc hA hR h1 h2 hrr hS hrl
  go_enter Tryd.func19, Tryd.ntmps19
  cases r with
  | none =>
    go_upto_region 2 with (first
      | (go_at_call 30; go_must (refine HH.out.mono ?_; rintro e w1 ⟨B, rfl, hH, hB⟩; have HH1 := hidden hH; have HB := hidden hB; clear hH hB))
      | (go_at_call 32; go_must (refine (HS1.out w1 B HH1.out HB.out.size (HSY.out.next HB.out)).mono ?_; rintro e w2 ⟨hB2, T, u, rfl⟩; have HB2 := hidden hB2; clear hB2)))
    have KC := hidden (fun W => clone_calls none 0 0 [] W (Rd.nil _ _) rfl (Nat.le_refl _) (fun _ => rfl) (by omega))
    go_region_with (go_at_call 15; go_must (refine (KC.out _).mono ?_; rintro e w3 ⟨v3, rfl, hO, hB⟩; obtain ⟨A3, c3, rfl, hc3, hr3, hA3⟩ := hO.read; have HR3 := hidden hr3; have HB3 := hidden hB; clear hO hB hc3 hr3 hA3))
    all_goals go_wp2
    all_goals go_ret2
    all_goals exact ⟨(HB.out.trans HB2.out).trans (Below.trans (below_drewN0 (Below.refl _ _) 1) (below_to (N := w.heap.size) HB3.out (by have := HB.out.size; have := HB2.out.size; simp; omega))), _, _, _, rfl, rfl, HR3.out⟩
  | some s' =>
    go_upto_region 2 with (first
      | (go_at_call 30; go_must (refine HH.out.mono ?_; rintro e w1 ⟨B, rfl, hH, hB⟩; have HH1 := hidden hH; have HB := hidden hB; clear hH hB))
      | (go_at_call 32; go_must (refine (HS1.out w1 B HH1.out HB.out.size (HSY.out.next HB.out)).mono ?_; rintro e w2 ⟨hB2, a2, n2, c2, rfl, hn2, hc2, hr2⟩; have HB2 := hidden hB2; have H2 := hidden (And.intro hn2 (And.intro hc2 hr2)); clear hB2 hn2 hc2 hr2)))
    have KC := hidden (fun W (h : Rd W (some a2) (nums .u8 (bI (bs s')))) => clone_calls (some a2) n2 c2 (bI (bs s')) W h (by rw [bI_len, size_bs]; exact H2.out.1.symm) H2.out.2.1 (fun h => by cases h) (by have := HRL.out; have h3 := H2.out.1; simp only [Option.getD_some] at this; omega))
    have HL3 : Hid ((nums .u8 (bI (bs s'))).length = s'.length) := hidden (by rw [nums_len, bI_len, size_bs])
    go_region_with (go_at_call 15; go_must (refine (KC.out _ H2.out.2.2.drewOne).mono ?_; rintro e w3 ⟨v3, rfl, hO, hB⟩; obtain ⟨A3, c3, rfl, hc3, hr3, hA3⟩ := hO.read; have HR3 := hidden hr3; have HB3 := hidden hB; clear hO hB hc3 hr3 hA3))
    all_goals go_wp2
    all_goals go_ret2
    all_goals exact ⟨(HB.out.trans HB2.out).trans (Below.trans (below_drewN0 (Below.refl _ _) 1) (below_to (N := w.heap.size) HB3.out (by have := HB.out.size; have := HB2.out.size; simp; omega))), _, _, _, rfl, HL3.out, HR3.out⟩
end Go.Proofs.YtbdmdajbdmdknaaDoor
namespace Go.Proofs.YtbdmdajbdmdknaaDoor
open Go.ChangeShapes Go.WideShapes Go.ChangeAt Go.RowKit
set_option linter.unusedVariables false
set_option linter.unusedSimpArgs false

theorem noKnob : ownKnob Tryd.prog.godebug = none := by kernel_rfl
theorem laidOut : laidOutB Tryd.prog = true := by kernel_rfl
def IsRow (k : IntKind) (w : World) (a : Option Addr) (len cap : Nat) (zs : List Int) : Prop :=
  (a = none ∧ len = 0 ∧ cap = 0 ∧ zs = []) ∨
  ∃ x, a = some x ∧ len ≤ cap ∧ cap ≤ maxLen ∧ zs.length = cap ∧ (∀ i, i < zs.length → w.cell? (x.add i) = some (.int k (zs.getD i 0))) ∧ ∀ n ∈ zs, (Lit.int k n).wf = true
/-- A slice that came in: what it reads as, and how long it is. -/
structure Came (k : IntKind) (w : World) (a : Option Addr) (len cap : Nat) (l : List Int) : Prop where
  hlen : l.length = len
  hcap : len ≤ cap
  nil : a = none → cap = 0
  rd : Rd w a (nums k l)
  wf : ∀ x ∈ l, (Lit.int k x).wf = true
theorem IsRow.came {k : IntKind} {w : World} {a : Option Addr} {len cap : Nat} {zs : List Int} (h : IsRow k w a len cap zs) : Came k w a len cap (zs.take len) := by
  rcases h with ⟨rfl, rfl, rfl, rfl⟩ | ⟨x, rfl, hl, hm, hz, hc, hw⟩
  · exact ⟨rfl, Nat.le_refl _, fun _ => rfl, by simpa [nums] using Rd.nil w none, by simp⟩
  · refine ⟨by rw [List.length_take]; omega, hl, (fun h => by cases h), ?_, fun n hn => hw n (List.mem_of_mem_take hn)⟩
    intro i v hv
    have hi : i < (nums k (zs.take len)).length := (List.getElem?_eq_some_iff.1 hv).1
    rw [nums_len, List.length_take] at hi
    have h0 := hc 0 (by omega)
    have hi' := hc i (by omega)
    obtain ⟨b, o, sp⟩ := x
    have hsp : sp = none := by
      cases sp with
      | none => rfl
      | some s =>
        simp only [Addr.add, if_pos] at h0
        unfold World.cell? at h0
        split at h0 <;> simp at h0
    subst hsp
    rw [addr_add] at hi'
    refine ⟨b, o, rfl, World.block_lt_of_cell? w ⟨b, o + i, none⟩ hi', ?_⟩
    rw [hi', ← hv, nums_at _ _ _ (by rw [List.length_take]; omega), gi_take _ (by omega)]
    rfl
theorem Came.isB {w : World} {a : Option Addr} {len cap : Nat} {l : List Int} (h : Came .u8 w a len cap l) : IsB l := by
  intro x hx
  have := h.wf x hx
  simp [Lit.wf, IntKind.min, IntKind.max, IntKind.wrap, IntKind.bits, IntKind.signed] at this
  omega
theorem sizedInts {H : Type} {enc : TypeId × Value → H} {P : Program} {W : World} {base : Nat} {spare : Nat → Bool} {held : Bool} {t e : TypeId} {k : IntKind} {a : Option Addr} {len cap : Nat} {d : DataW H} {ps : List MemPlace} {ts : List TypeId} {ds : List (DataW H)} {j : Nat}
    (hsz : (DataW.weightsEach P ts ds).all (· ≤ reachBytes) = true) (ht : ts[j]? = some t) (hd : ds[j]? = some d) (hu : P.underlying t = some (.slice e)) (he : P.underlying e = some (.int k)) (hc : P.cellsOf e = 1) {B : Nat} (hB : P.bytesOf e = B)
    (h : DataW.Trod enc P W base spare held t (.slice a len cap) d ps) : len * B ≤ 140737488351232 := by
  obtain ⟨fuel, hf⟩ := h
  rcases open_ints hu he hc hf with ⟨hcs, _⟩ | ⟨x, l, c, zs, hcs, _, hl, _, hz, hx, _, _⟩
  · simp [Value.cells] at hcs
    obtain ⟨rfl, rfl, rfl⟩ := hcs
    simp
  · simp [Value.cells] at hcs
    obtain ⟨rfl, rfl, rfl⟩ := hcs
    obtain ⟨hx, _⟩ := Prod.mk.inj hx
    subst hx
    have z := sized_slice hsz ht hd hu
    rw [hB] at z
    have hl2 : len ≤ zs.length := by
      rw [hz]
      split
      · exact hl
      · exact Nat.le_refl _
    have h1 : (lits (H := H) k (zs.take len)).length + (lits (H := H) k (zs.drop len)).length = zs.length := by
      simp [lits]
      omega
    rw [h1] at z
    exact Nat.le_trans (Nat.mul_le_mul_right _ hl2) z
end Go.Proofs.YtbdmdajbdmdknaaDoor
namespace Go.Proofs.YtbdmdajbdmdknaaDoor
open Go.RowKit
set_option linter.unusedVariables false
set_option linter.unusedSimpArgs false

def TB (w : World) (e : Ending) (w' : World) : Prop := e = .returned (.bool true) ∧ Below w.heap.size w w'

set_option maxRecDepth 100000 in
set_option maxHeartbeats 4000000 in
theorem texts_short (A : Option Addr) (n c : Nat) (l : List FM) (st : Int) (s : ByteArray) (w : World) (hm : FMs w A l) (hn : l.length = n) (hb : n ≤ 9223372036854775807) (hs : ¬ (s.size ≤ 200 ∧ Lib.validD s.data.toList = true)) (hz : s.size ≤ 9223372036854775807) (hT : Tabs w) (hSY : SynAt w) :
    Calls Tryd.prog 5 #[.slice A n c, .int .u64 st, .string s] w (TB w) := by
  have HSY := hidden hSY
  have HT := hidden hT
  have HV := hidden (fun W h => valid_calls s W hz h)
  have K9 := hidden (fits9E A n c l w hm hn hb)
  have KF := hidden (fun W (h : Below w.heap.size w W) => headFitsE A n c l W (hm.below h) hn (hT.next h))
  have hvf : s.size ≤ 200 → Lib.validD s.data.toList = false := fun h2 => by
    cases h : Lib.validD s.data.toList with
    | false => rfl
    | true => exact absurd ⟨h2, h⟩ hs
  clear hs hm hn hb hz hT hSY
  by_cases h1 : 2147483647 < s.size
  · have h1i : (2147483647 : Int) < (s.size : Int) := by omega
    clear hvf
    go_enter Tryd.func5, Tryd.ntmps5
    go_wp2_with (go_at_call 7; go_must (refine K9.out.mono ?_; rintro e w1 ⟨r, rfl, hB⟩; have HB1 := hidden hB; clear hB; cases r))
    all_goals go_ret
    all_goals exact ⟨rfl, HB1.out⟩
  have h1i : ¬ (2147483647 : Int) < (s.size : Int) := by omega
  by_cases h2 : 200 < s.size
  · have h2i : (200 : Int) < (s.size : Int) := by omega
    clear hvf
    go_enter Tryd.func5, Tryd.ntmps5
    go_wp2_with (first
      | (go_at_call 7; go_must (refine K9.out.mono ?_; rintro e w1 ⟨r, rfl, hB⟩; have HB1 := hidden hB; clear hB; cases r))
      | (go_at_call 8; go_must (refine (KF.out w1 HB1.out).mono ?_; rintro e w2 ⟨r, rfl, hf, hB⟩; have HB2 := hidden (below_next HB1.out hB); clear hB hf; cases r))
      | (go_at_call 10; go_must (refine (headLive_calls w2 (HSY.out.next HB2.out)).mono ?_; rintro e w3 ⟨rfl, hB⟩; have HB3 := hidden (below_next HB2.out hB); clear hB)))
    all_goals go_ret
    all_goals first
      | exact ⟨rfl, HB3.out⟩
      | exact ⟨rfl, HB1.out⟩
  have h2i : ¬ (200 : Int) < (s.size : Int) := by omega
  rw [hvf (by omega)] at HV
  clear hvf
  go_enter Tryd.func5, Tryd.ntmps5
  go_wp2_with (first
    | (go_at_call 7; go_must (refine K9.out.mono ?_; rintro e w1 ⟨r, rfl, hB⟩; have HB1 := hidden hB; clear hB; cases r))
    | (go_at_call 8; go_must (refine (KF.out w1 HB1.out).mono ?_; rintro e w2 ⟨r, rfl, hf, hB⟩; have HB2 := hidden (below_next HB1.out hB); clear hB hf; cases r))
    | (go_at_call 9; go_must (refine (HV.out w2 (HT.out.next HB2.out)).mono ?_; rintro e w4 ⟨rfl, hB⟩; have HB4 := hidden (below_next HB2.out hB); clear hB))
    | (go_at_call 10; first
      | ((with_reducible refine (headLive_calls w4 (HSY.out.next HB4.out)).mono ?_); (rintro e w3 ⟨rfl, hB⟩; have HB3 := hidden (below_next HB4.out hB); clear hB))
      | ((with_reducible refine (headLive_calls w2 (HSY.out.next HB2.out)).mono ?_); (rintro e w3 ⟨rfl, hB⟩; have HB3 := hidden (below_next HB2.out hB); clear hB))))
  all_goals go_ret
  all_goals first
    | exact ⟨rfl, HB3.out⟩
    | exact ⟨rfl, HB1.out⟩
end Go.Proofs.YtbdmdajbdmdknaaDoor
namespace Go.Proofs.YtbdmdajbdmdknaaDoor
open Go.RowKit
set_option linter.unusedVariables false
set_option linter.unusedSimpArgs false

/-- The text's bytes lie at A (n, c). -/
structure TxtAt (T : Bs) (A : Option Addr) (c : Nat) (W : World) : Prop where
  rd : Rd W A (nums .u8 (bI (bs T)))
  le : (bs T).size ≤ c
  nn : A = none → c = 0
theorem TxtAt.next {T : Bs} {A : Option Addr} {c : Nat} {W W2 : World} (h : TxtAt T A c W) (hB : Below W.heap.size W W2) : TxtAt T A c W2 := ⟨h.rd.below hB (Nat.le_refl _), h.le, h.nn⟩
def CloP (T : Bs) (w : World) (e : Ending) (w' : World) : Prop := ∃ A c, e = .returned (.slice A (bs T).size c) ∧ TxtAt T A c w' ∧ Below w.heap.size w w'
theorem txt_clone {T : Bs} (hT : T.length ≤ 200000000) {A : Option Addr} {c : Nat} {W : World} (h : TxtAt T A c W) : Calls Tryd.prog 15 #[.slice A (bs T).size c] W (CloP T W) := by
  refine (clone_calls A _ c (bI (bs T)) W h.rd (by rw [bI_len]) h.le h.nn (by rw [size_bs]; omega)).mono ?_
  rintro e w' ⟨v, rfl, hO, hB⟩
  obtain ⟨A1, c1, rfl, hc1, hr1, hA1⟩ := hO.read
  have hl : (nums .u8 (bI (bs T))).length = (bs T).size := by rw [nums_len, bI_len]
  rw [hl] at hc1 ⊢
  exact ⟨A1, c1, rfl, ⟨hr1, hc1, hA1⟩, hB⟩
/-- The text behind a name, as the law has it. -/
def TxR (o : Option ByteArray) : Option Bs := o.map fun t => t.data.toList
theorem head_string {l : List FM} {T : Bs} {ps : List Po} (H : Head l (pText T) ps) (hT : T.length ≤ 200000000) (s : ByteArray) (o : Option ByteArray) (hr : headT unB (pText T) s.data.toList = TxR o) {A : Option Addr} {c : Nat} {W : World} (h : TxtAt T A c W) (hS : SynAt W) :
    Calls Tryd.prog 18 #[.slice A (bs T).size c, .string s] W fun e w' => e = .returned (.tuple #[.string (o.getD ⟨#[]⟩), .bool o.isSome]) ∧ Below W.heap.size W w' := by
  have := implHeadString_calls W (bs T) A _ c unB s.data.toList h.rd rfl h.le h.nn (by rw [size_bs]; exact hT) (pText T) rfl (H.ask.reads _) (H.vals s) hS _ hr
  rw [bs_self] at this
  refine this.mono ?_
  rintro e w' ⟨hB, rfl⟩
  refine ⟨?_, hB⟩
  cases o with
  | none => rfl
  | some t =>
    show Ending.returned (.tuple #[.string (bs t.data.toList), .bool true]) = _
    rw [bs_self]; rfl
def ByP (w : World) (o : Option ByteArray) (e : Ending) (w' : World) : Prop := ∃ A n c, e = .returned (.tuple #[.slice A n c, .bool o.isSome]) ∧ (convert 32 9 (.slice A n c)).run Tryd.prog w' = .ok (.string (o.getD ⟨#[]⟩)) w' ∧ Below w.heap.size w w'
theorem head_bytes {l : List FM} {T : Bs} {ps : List Po} (H : Head l (pText T) ps) (hT : T.length ≤ 200000000) (s : ByteArray) (o : Option ByteArray) (ho : ∀ t, o = some t → t.size ≤ 1000000) (hr : headT unB (pText T) s.data.toList = TxR o) {A : Option Addr} {c : Nat} {W : World} (h : TxtAt T A c W) (hS : SynAt W) :
    Calls Tryd.prog 19 #[.slice A (bs T).size c, .string s] W (ByP W o) := by
  have := implHeadBytes_calls W (bs T) A _ c unB s.data.toList h.rd rfl h.le h.nn (by rw [size_bs]; exact hT) (pText T) rfl (H.ask.reads _) (H.vals s) hS _ hr (by
    cases o with
    | none => simp [TxR]
    | some t => exact ho t rfl)
  rw [bs_self] at this
  refine this.mono ?_
  rintro e w' ⟨hB, A1, n1, c1, rfl, hn1, hr1⟩
  have hcv := run_string (P := Tryd.prog) (W := w') (c := c1) Tryd.underlying32 Tryd.underlying5 Tryd.underlying9 hr1 (n := n1) (by rw [bI_len, size_bs]; exact hn1.symm)
  rw [str_bI] at hcv
  refine ⟨A1, n1, c1, ?_, ?_, hB⟩
  · cases o <;> rfl
  · rw [hcv]
    cases o with
    | none => rfl
    | some t =>
      show Result.ok (Value.string (bs t.data.toList)) w' = _
      rw [bs_self]; rfl
theorem head_has {l : List FM} {T : Bs} {ps : List Po} (H : Head l (pText T) ps) (hT : T.length ≤ 200000000) (s : ByteArray) (b : Bool) (hr : (headV unB (pText T) s.data.toList).isSome = b) {A : Option Addr} {c : Nat} {W : World} (h : TxtAt T A c W) (hS : SynAt W) :
    Calls Tryd.prog 14 #[.slice A (bs T).size c, .string s] W fun e w' => e = .returned (.bool b) ∧ Below W.heap.size W w' := by
  have := implHeadHas_calls W (bs T) A _ c unB s.data.toList h.rd rfl h.le h.nn (by rw [size_bs]; exact hT) (pText T) rfl (H.ask.reads _) _ rfl hS
  rw [bs_self, hr] at this
  exact this
/-- What the reference finds, and what the head tells. -/
theorem find_tells {l : List FM} {T : Bs} {ps : List Po} (H : Head l (pText T) ps) {s : ByteArray} {v : Value} {b : Bool} (h : FindIs l s v b) :
    (∃ f ∈ l, v = fV f ∧ b = true ∧ f.d.kind = 3 ∧ headT unB (pText T) s.data.toList = TxR (some f.d.text) ∧ (headV unB (pText T) s.data.toList).isSome = true) ∨
    (∃ f ∈ l, v = fV f ∧ b = true ∧ f.d.kind ≠ 3 ∧ headT unB (pText T) s.data.toList = TxR none ∧ (headV unB (pText T) s.data.toList).isSome = true) ∨
    (v = zeroF ∧ b = false ∧ headT unB (pText T) s.data.toList = TxR none ∧ (headV unB (pText T) s.data.toList).isSome = false) := by
  cases h with
  | yes i hi hq hj =>
    subst hq
    by_cases hk : l[i].d.kind = 3
    · exact .inl ⟨l[i], List.getElem_mem hi, rfl, rfl, hk, H.str i hi hk, by rw [H.yes i hi]; rfl⟩
    · exact .inr (.inl ⟨l[i], List.getElem_mem hi, rfl, rfl, hk, H.nostr i hi hk, by rw [H.yes i hi]; rfl⟩)
  | no hno => exact .inr (.inr ⟨rfl, rfl, H.none s hno, by rw [H.no s hno]; rfl⟩)
end Go.Proofs.YtbdmdajbdmdknaaDoor
