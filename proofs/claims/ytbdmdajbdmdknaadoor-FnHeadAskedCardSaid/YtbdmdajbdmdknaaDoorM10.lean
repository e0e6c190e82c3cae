/- headerGet, HeaderGetString. impl.HeadString. fastfloat.ParseInt64 of digits; HeaderGetInt64, impl.HeadInt64 of them; HeaderHas, impl.HeadHas. HeaderGetInt64, impl.HeadInt64 of digits; HeaderHas, impl.HeadHas; laws.headLive. -/
import Derived.Test.YtbdmdajbdmdknaaDoorM8
import Derived.Test.YtbdmdajbdmdknaaDoorM1
import Derived.Test.YtbdmdajbdmdknaaDoorHdG
import Derived.Test.YtbdmdajbdmdknaaDoorM3
import Derived.Test.YtbdmdajbdmdknaaDoorUnescD
namespace Go.Proofs.YtbdmdajbdmdknaaDoor
open Go.RowKit
set_option linter.unusedVariables false
set_option linter.unusedSimpArgs false

/-- A head in memory, as HeaderParse leaves it. -/
def HeadAt (w : World) (B : Nat) (R : Option JV) (N : Nat) : Prop := N ≤ B ∧ (match R with
  | some v => ∃ F b o, Slot w B 0 (ptr (b, o)) ∧ Slot w B 1 .nilIface ∧ Rep w F v b o ∧ ∀ x y, F x y → N ≤ x
  | none => ∃ T a, Slot w B 0 (.pointer none) ∧ Slot w B 1 (.iface T (.pointer (some a))))
/-- What a value has behind a name. -/
def getV (un : Bs → Bs) (v : JV) (q : Bs) : Option JV := match v with
  | .obj l => getJ un l q
  | _ => none
/-- Whatever a name's texts are made of can be read. -/
structure Reads (un : Bs → Bs) (v : JV) (q : Bs) : Prop where
  keys : ∀ l, v = .obj l → (∀ p ∈ l, UnC p.1 (un p.1)) ∧ l.length ≤ 1000000000
  arr : ∀ l, v = .arr l → AtoiNo q
/-- Value.Get of one name. -/
theorem valGet_calls (w : World) (F : Nat → Nat → Prop) (v : JV) (b o g c : Nat) (un : Bs → Bs) (q : Bs) (h : Rep w F v b o) (hR : Reads un v q) (hv : ∀ t, v = .lit t → t ≠ 1 ∧ t ≠ 2) (hg : Slot w g 0 (.string (bs q))) (N : Nat) (hF : ∀ x y, F x y → N ≤ x) (hN : N ≤ w.heap.size) (hS : SynAt w) (hNg : 2 < N) (R : Option JV) (hRR : getV un v q = R) :
    Calls Tryd.prog 45 #[.pointer (some ⟨b, o, none⟩), .slice (some ⟨g, 0, none⟩) 1 c] w fun e w' => Below N w w' ∧ (match R with
      | some v => ∃ G b o, e = .returned (ptr (b, o)) ∧ Rep w' G v b o ∧ ∀ x y, G x y → N ≤ x
      | none => e = .returned (.pointer none)) := by
  have low : ∀ {w w' : World}, N ≤ w.heap.size → Below w.heap.size w w' → Below N w w' := fun hN h => ⟨h.os, h.tape, h.output, h.size, fun b hb => h.block b (Nat.lt_of_lt_of_le hb hN)⟩
  cases v with
  | obj l =>
    have hk := hR.keys l rfl
    refine (valGet_obj w F l b o g c un q h hk.1 hk.2 hS (fun x y e => Nat.lt_of_lt_of_le hNg (hF x y e)) hg R hRR).mono ?_
    rintro e w' ⟨hA, hE⟩
    refine ⟨hA.below hN (fun x y hx ⟨y', hy⟩ => by have := hF x y' hy; omega), ?_⟩
    cases R with
    | none => exact hE
    | some v =>
      obtain ⟨G, b1, o1, rfl, hr, hs⟩ := hE
      exact ⟨G, b1, o1, rfl, hr, fun x y hx => hF x y (hs x y hx)⟩
  | arr l =>
    cases hRR
    refine (valGet_arr w F l b o g c q h (hR.arr l rfl) hS hg).mono ?_
    rintro e w' ⟨rfl, hB⟩
    exact ⟨low hN hB, rfl⟩
  | lit t =>
    cases hRR
    refine (valGet_leaf w F _ b o g c q h (hv t rfl).1 (hv t rfl).2 hg).mono ?_
    rintro e w' ⟨rfl, rfl⟩
    exact ⟨low hN (Below.refl _ _), rfl⟩
  | num s =>
    cases hRR
    refine (valGet_leaf w F _ b o g c q h (by simp [tyOf]) (by simp [tyOf]) hg).mono ?_
    rintro e w' ⟨rfl, rfl⟩
    exact ⟨low hN (Below.refl _ _), rfl⟩
  | str s =>
    cases hRR
    refine (valGet_leaf w F _ b o g c q h (by simp [tyOf]) (by simp [tyOf]) hg).mono ?_
    rintro e w' ⟨rfl, rfl⟩
    exact ⟨low hN (Below.refl _ _), rfl⟩
theorem ta_head (v : Value) (W : World) : (Instr.typeAssert (.iface 94 v) 73 94 false).run Tryd.prog W = .ok v W := by kernel_rfl
def headV (un : Bs → Bs) (R : Option JV) (q : Bs) : Option JV := match R with
  | some v => getV un v q
  | none => none
/-- What headerGet leaves. -/
def HG (w : World) (N : Nat) (R : Option JV) (e : Ending) (w' : World) : Prop := Below N w w' ∧ (match R with
  | some v => ∃ G b o, e = .returned (.tuple #[ptr (b, o), .nilIface]) ∧ Rep w' G v b o ∧ ∀ x y, G x y → N ≤ x
  | none => ∃ T u, e = .returned (.tuple #[.pointer none, .iface T u]))
set_option maxRecDepth 100000 in
set_option maxHeartbeats 2000000 in
theorem headGet_calls (w : World) (B N : Nat) (R : Option JV) (un : Bs → Bs) (q : Bs) (h : HeadAt w B R N) (hR : ∀ v, R = some v → Reads un v q ∧ ∀ t, v = .lit t → t ≠ 1 ∧ t ≠ 2) (hN : N ≤ w.heap.size) (hS : SynAt w) (hNg : 2 < N) (r : Option JV) (hr : headV un R q = r) :
    Calls Tryd.prog 41 #[.iface 94 (.pointer (some ⟨B, 0, none⟩)), .string (bs q)] w (HG w N r) := by
  obtain ⟨hNB, h⟩ := h
  have low : ∀ {w w' : World}, N ≤ w.heap.size → Below w.heap.size w w' → Below N w w' := fun hN h => ⟨h.os, h.tape, h.output, h.size, fun b hb => h.block b (Nat.lt_of_lt_of_le hb hN)⟩
  cases R with
  | none =>
    obtain ⟨T, a, h0, h1⟩ := h
    have c0 := h0.1
    have c1 := h1.1
    obtain rfl : r = none := hr.symm
    have LOW := hidden (low hN (below_drewN0 (Below.refl w.heap.size w) 1))
    have hta := ta_head (.pointer (some ⟨B, 0, none⟩)) w
    clear h0 h1 hR low hS hNg
    go_enter Tryd.func41, Tryd.ntmps41
    go_upto_region 3 with (fail)
    go_region
    go_wp2
    go_ret2
    exact ⟨LOW.out, _, _, rfl⟩
  | some v =>
    obtain ⟨F, b, o, h0, h1, hRep, hF⟩ := h
    have c0 := h0.1
    have c1 := h1.1
    have hRv := hR v rfl
    have row : ∀ W : World, Row (W.alloc (.cells #[.string (bs q)] 9)) W.heap.size 9 [.string (bs q)] := fun W => Row.new W 9 [.string (bs q)]
    have hVG := valGet_calls (w.alloc (.cells #[.string (bs q)] 9)) F v b o w.heap.size 1 un q (hRep.alt (AltC.alloc w _ (fun _ _ => False)) (fun _ _ _ e => e)) hRv.1 hRv.2 (Slot.of_row (row w) 0 rfl) N hF (by simp; omega) (hS.next (below_alloc0 w _)) hNg r hr
    have HVG := hidden hVG
    have HL := hidden (low hN (below_alloc0 w (.cells #[.string (bs q)] 9)))
    clear hR hRv hRep hVG h0 h1 row hS hNg
    unfold ptr at c0
    have hta := ta_head (.pointer (some ⟨B, 0, none⟩)) w
    go_enter Tryd.func41, Tryd.ntmps41
    cases r with
    | none =>
      go_wp2_with (go_at_call 45; go_must (refine HVG.out.mono ?_; rintro e w1 ⟨hB, rfl⟩; have HB := hidden hB; clear hB))
      go_ret2
      exact ⟨HL.out.trans HB.out, _, _, rfl⟩
    | some u =>
      go_wp2_with (go_at_call 45; go_must (refine HVG.out.mono ?_; rintro e w1 ⟨hB, G, b1, o1, rfl, hE, hGN⟩; have HB := hidden hB; have HE := hidden hE; have HGN := hidden hGN; clear hB hE hGN; unfold ptr))
      go_ret2
      exact ⟨HL.out.trans HB.out, G, b1, o1, rfl, HE.out, HGN.out⟩
/-- The text behind a name. -/
def headT (un : Bs → Bs) (R : Option JV) (q : Bs) : Option Bs := match headV un R q with
  | some (.str s) => some (un s)
  | _ => none
/-- What HeaderGetString leaves. -/
def HS (w : World) (N : Nat) (r : Option Bs) (e : Ending) (w' : World) : Prop := Below N w w' ∧ (match r with
  | some s => e = .returned (.tuple #[.string (bs s), .nilIface])
  | none => ∃ T u, e = .returned (.tuple #[.string ⟨#[]⟩, .iface T u]))
set_option maxRecDepth 100000 in
set_option maxHeartbeats 2000000 in
theorem headString_calls (w : World) (B N : Nat) (R : Option JV) (un : Bs → Bs) (q : Bs) (h : HeadAt w B R N) (hR : ∀ v, R = some v → Reads un v q ∧ ∀ t, v = .lit t → t ≠ 1 ∧ t ≠ 2) (hV : ∀ v, headV un R q = some v → (∀ t, v = .lit t → t ≠ 7 ∧ t ≠ 3) ∧ ∀ s, v = .str s → UnC s (un s)) (hN : N ≤ w.heap.size) (hS : SynAt w) (hNg : 2 < N) (r : Option Bs) (hr : headT un R q = r) :
    Calls Tryd.prog 31 #[.iface 94 (.pointer (some ⟨B, 0, none⟩)), .string (bs q)] w (HS w N r) := by
  obtain ⟨V, hVV⟩ : ∃ V, headV un R q = V := ⟨_, rfl⟩
  have HG1 := hidden (headGet_calls w B N R un q h hR hN hS hNg V hVV)
  unfold headT at hr
  rw [hVV] at hr hV
  have low : Hid (∀ {w w' : World}, N ≤ w.heap.size → Below w.heap.size w w' → Below N w w') := hidden (fun hN h => ⟨h.os, h.tape, h.output, h.size, fun b hb => h.block b (Nat.lt_of_lt_of_le hb hN)⟩)
  have HN := hidden hN
  have HSY := hidden (And.intro hS hNg)
  clear h hR hVV hN hS hNg
  cases V with
  | none =>
    obtain rfl : r = none := hr.symm
    clear hV hr
    go_enter Tryd.func31, Tryd.ntmps31
    go_wp2_with (go_at_call 41; go_must (refine HG1.out.mono ?_; rintro e w1 ⟨hB, T, u, rfl⟩; have HB := hidden hB; clear hB))
    go_ret2
    exact ⟨HB.out, _, _, rfl⟩
  | some v =>
    have hv := hV v rfl
    clear hV
    by_cases hs : ∃ s, v = .str s
    · obtain ⟨s, rfl⟩ := hs
      obtain rfl : r = some (un s) := hr.symm
      have HU := hidden (hv.2 s rfl)
      have hsz : (bs (un s)).size = (un s).length := by rw [size_toL, toL_bs]
      have HZ := hidden hsz
      clear hv hr hsz
      go_enter Tryd.func31, Tryd.ntmps31
      go_upto_region 7 with (first
        | (go_at_call 41; go_must (refine HG1.out.mono ?_; rintro e w1 ⟨hB, G, b, o, rfl, hRep, hGN⟩; have HB := hidden hB; have HR := hidden hRep; have HGN := hidden hGN; clear hB hRep hGN; unfold ptr))
        | (go_at_call 43; go_must (refine (strBytes_str _ G s (un s) b o HR.out HU.out (HSY.out.1.below HB.out HSY.out.2)).mono ?_; rintro e w2 ⟨A, n, c, rfl, hn, hRd, hA⟩; have HRd := hidden hRd; have HN2 := hidden hn; have HA := hidden hA; clear hRd hn hA)))
      have hcv : (convert 32 9 (.slice A n c)).run Tryd.prog w2 = .ok (.string (bs (un s))) w2 := by
        have := run_string (P := Tryd.prog) (W := w2) (c := c) Tryd.underlying32 Tryd.underlying5 Tryd.underlying9 HRd.out (n := n) (by rw [bI_len, HZ.out]; exact HN2.out.symm)
        rwa [str_bI] at this
      go_wp2
      go_ret2
      refine ⟨HB.out.trans (HA.out.below (Nat.le_trans HN.out HB.out.size) (fun x y hx e => ?_)), rfl⟩
      have := HGN.out b (o + 4) HR.out.ty.1
      omega
    · have hrn : r = none := by
        cases v with
        | str s => exact absurd ⟨s, rfl⟩ hs
        | _ => exact hr.symm
      subst hrn
      have hty : tyOf v ≠ 7 ∧ tyOf v ≠ 3 := by
        cases v with
        | str s => exact absurd ⟨s, rfl⟩ hs
        | lit t => exact hv.1 t rfl
        | _ => simp [tyOf]
      have HTY := hidden hty
      clear hv hr hs hty
      go_enter Tryd.func31, Tryd.ntmps31
      go_wp2_with (first
        | (go_at_call 41; go_must (refine HG1.out.mono ?_; rintro e w1 ⟨hB, G, b, o, rfl, hRep, hGN⟩; have HB := hidden hB; have HR := hidden hRep; have HGN := hidden hGN; clear hB hRep hGN; unfold ptr))
        | (go_at_call 43; go_must (refine (strBytes_no _ G v b o HR.out HTY.out.1 HTY.out.2).mono ?_; rintro e w2 ⟨T, a, rfl, hB2⟩; have HB2 := hidden hB2; clear hB2)))
      go_ret2
      exact ⟨HB.out.trans (low.out (Nat.le_trans HN.out HB.out.size) HB2.out), _, _, rfl⟩
end Go.Proofs.YtbdmdajbdmdknaaDoor
namespace Go.Proofs.YtbdmdajbdmdknaaDoor
open Go.RowKit
set_option linter.unusedVariables false
set_option linter.unusedSimpArgs false

theorem HP.at {w w' : World} {R : Option JV} {e : Ending} (h : HP w R e w') : ∃ B, e = .returned (.iface 94 (.pointer (some ⟨B, 0, none⟩))) ∧ HeadAt w' B R w.heap.size ∧ Below w.heap.size w w' := by
  obtain ⟨hB, B, hlt, rfl, hR⟩ := h
  exact ⟨B, rfl, ⟨hlt, hR⟩, hB⟩
/-- impl.head. -/
def HI (w : World) (R : Option JV) (e : Ending) (w' : World) : Prop := ∃ B, e = .returned (.iface 94 (.pointer (some ⟨B, 0, none⟩))) ∧ HeadAt w' B R w.heap.size ∧ Below w.heap.size w w'
set_option maxRecDepth 100000 in
set_option maxHeartbeats 1000000 in
theorem head_calls (w : World) (s : ByteArray) (A : Option Addr) (n c : Nat) (hr : Rd w A (nums .u8 (bI s))) (hn : s.size = n) (hc : n ≤ c) (hA : A = none → c = 0) (hN : s.size ≤ 200000000) (R : Option JV) (hR : pText s.data.toList = R) :
    Calls Tryd.prog 30 #[.slice A n c] w (HI w R) := by
  subst hn
  have HC := hidden (clone_calls A s.size c (bI s) w hr (by rw [bI_len]) hc hA (by omega))
  have HX := hidden hR
  have Hn : Hid ((nums .u8 (bI s)).length = s.size) := hidden (by rw [nums_len, bI_len])
  clear hr hR hc hA
  go_enter Tryd.func30, Tryd.ntmps30
  go_wp2_with (first
    | (go_at_call 15; go_must (refine HC.out.mono ?_; rintro e w1 ⟨v1, rfl, hO1, hB1⟩; obtain ⟨A1, c1, rfl, hc1, hr1, hA1⟩ := hO1.read; rw [Hn.out]; have HR1 := hidden hr1; have HB1 := hidden hB1; clear hr1 hB1 hA1 hO1 hc1))
    | (go_at_call 42; go_must (refine (headParse_calls w1 s A1 s.size c1 HR1.out rfl hN R HX.out).mono ?_; intro e w2 h; obtain ⟨B, rfl, hH, hB⟩ := h.at; have HH := hidden hH; have HB := hidden hB; clear h hH hB)))
  go_ret
  have low : ∀ {N : Nat} {a b : World}, N ≤ a.heap.size → Below a.heap.size a b → Below N a b := fun hN h => ⟨h.os, h.tape, h.output, h.size, fun b hb => h.block b (Nat.lt_of_lt_of_le hb hN)⟩
  refine ⟨B, rfl, ?_, HB1.out.trans (low HB1.out.size HB.out)⟩
  obtain ⟨h1, h2⟩ := HH.out
  refine ⟨Nat.le_trans HB1.out.size h1, ?_⟩
  cases R with
  | none => exact h2
  | some v =>
    obtain ⟨F, b, o, g1, g2, g3, g4⟩ := h2
    exact ⟨F, b, o, g1, g2, g3, fun x y h => Nat.le_trans HB1.out.size (g4 x y h)⟩
/-- What HeadString gives. -/
def HStr (w : World) (r : Option Bs) (e : Ending) (w' : World) : Prop := Below w.heap.size w w' ∧ e = .returned (.tuple #[.string (bs (r.getD [])), .bool r.isSome])
set_option maxRecDepth 100000 in
set_option maxHeartbeats 1000000 in
theorem implHeadString_calls (w : World) (s : ByteArray) (A : Option Addr) (n c : Nat) (un : Bs → Bs) (q : Bs) (hr : Rd w A (nums .u8 (bI s))) (hn : s.size = n) (hc : n ≤ c) (hA : A = none → c = 0) (hN : s.size ≤ 200000000) (R : Option JV) (hR : pText s.data.toList = R)
    (h1 : ∀ v, R = some v → Reads un v q ∧ ∀ t, v = .lit t → t ≠ 1 ∧ t ≠ 2) (h2 : ∀ v, headV un R q = some v → (∀ t, v = .lit t → t ≠ 7 ∧ t ≠ 3) ∧ ∀ s, v = .str s → UnC s (un s)) (hS : SynAt w) (r : Option Bs) (hrr : headT un R q = r) :
    Calls Tryd.prog 18 #[.slice A n c, .string (bs q)] w (HStr w r) := by
  have HH := hidden (head_calls w s A n c hr hn hc hA hN R hR)
  have HS1 := hidden (fun (W : World) (B : Nat) (hB : HeadAt W B R w.heap.size) (hW : w.heap.size ≤ W.heap.size) (hSW : SynAt W) => headString_calls W B w.heap.size R un q hB h1 h2 hW hSW hS.lt r hrr)
  have HSY := hidden hS
  clear hr hn hc hA hR h1 h2 hrr hS
  go_enter Tryd.func18, Tryd.ntmps18
  cases r with
  | none =>
    go_upto_region 2 with (first
      | (go_at_call 30; go_must (refine HH.out.mono ?_; rintro e w1 ⟨B, rfl, hH, hB⟩; have HH1 := hidden hH; have HB := hidden hB; clear hH hB))
      | (go_at_call 31; go_must (refine (HS1.out w1 B HH1.out HB.out.size (HSY.out.next HB.out)).mono ?_; rintro e w2 ⟨hB2, T, u, rfl⟩; have HB2 := hidden hB2; clear hB2)))
    go_region
    go_wp2
    go_ret2
    exact ⟨(HB.out.trans HB2.out).trans (below_drewN0 (Below.refl _ _) 1), rfl⟩
  | some s' =>
    go_upto_region 2 with (first
      | (go_at_call 30; go_must (refine HH.out.mono ?_; rintro e w1 ⟨B, rfl, hH, hB⟩; have HH1 := hidden hH; have HB := hidden hB; clear hH hB))
      | (go_at_call 31; go_must (refine (HS1.out w1 B HH1.out HB.out.size (HSY.out.next HB.out)).mono ?_; rintro e w2 ⟨hB2, rfl⟩; have HB2 := hidden hB2; clear hB2)))
    go_region
    go_wp2
    go_ret2
    exact ⟨(HB.out.trans HB2.out).trans (below_drewN0 (Below.refl _ _) 1), rfl⟩
end Go.Proofs.YtbdmdajbdmdknaaDoor
namespace Go.Proofs.YtbdmdajbdmdknaaDoor
open Go.RowKit
set_option linter.unusedVariables false
set_option linter.unusedSimpArgs false

/-- The number that digits tell. -/
def dv (l : Bs) : Nat := l.foldl (fun a c => a * 10 + (c.toNat - 48)) 0
theorem dv_snoc (l : Bs) (c : UInt8) : dv (l ++ [c]) = dv l * 10 + (c.toNat - 48) := by simp [dv, List.foldl_append]
def isDig (c : UInt8) : Prop := 48 ≤ c.toNat ∧ c.toNat ≤ 57
theorem dv_lt : ∀ (l : Bs) (a : Nat), (∀ c ∈ l, isDig c) → l.foldl (fun a c => a * 10 + (c.toNat - 48)) a < (a + 1) * 10 ^ l.length
  | [], a, _ => by simp
  | c :: l, a, h => by
    have h1 := dv_lt l (a * 10 + (c.toNat - 48)) (fun x hx => h x (by simp [hx]))
    have h2 := (h c (by simp)).2
    simp only [List.foldl_cons, List.length_cons, Nat.pow_succ]
    refine Nat.lt_of_lt_of_le h1 ?_
    have : a * 10 + (c.toNat - 48) + 1 ≤ (a + 1) * 10 := by omega
    calc (a * 10 + (c.toNat - 48) + 1) * 10 ^ l.length ≤ ((a + 1) * 10) * 10 ^ l.length := Nat.mul_le_mul_right _ this
      _ = (a + 1) * (10 ^ l.length * 10) := by rw [Nat.mul_assoc, Nat.mul_comm 10]
theorem digD_nat (d : Nat) (h : d < 10) : (digD d).toNat = 48 + d := by
  unfold digD
  rw [UInt8.toNat_ofNat']
  omega
theorem decB_digs : ∀ (k n : Nat), n < k → (∀ c ∈ decB n, isDig c) ∧ dv (decB n) = n
  | 0, n, h => by omega
  | k + 1, n, h => by
    by_cases h1 : n < 10
    · rw [decB_small h1]
      have := digD_nat n h1
      refine ⟨fun c hc => ?_, ?_⟩
      · simp only [List.mem_cons, List.not_mem_nil, or_false] at hc
        subst hc
        unfold isDig; omega
      · simp [dv, this]
    · rw [decB_great h1]
      obtain ⟨h2, h3⟩ := decB_digs k (n / 10) (by omega)
      have := digD_nat (n % 10) (by omega)
      refine ⟨fun c hc => ?_, ?_⟩
      · rcases List.mem_append.1 hc with hc | hc
        · exact h2 c hc
        · simp only [List.mem_cons, List.not_mem_nil, or_false] at hc
          subst hc
          unfold isDig; omega
      · rw [dv_snoc, h3, this]; omega
theorem ne_empty {s : ByteArray} (h : 0 < s.size) : ¬ s = ByteArray.empty := by
  rintro rfl
  exact absurd h (by decide)
theorem decB_ne (n : Nat) : decB n ≠ [] := by
  by_cases h1 : n < 10
  · rw [decB_small h1]; simp
  · rw [decB_great h1]; simp
set_option maxRecDepth 100000 in
set_option maxHeartbeats 4000000 in
theorem parseInt_calls (l : Bs) (hd : ∀ c ∈ l, isDig c) (hne : l ≠ []) (hl : l.length ≤ 17) (w : World) :
    Calls Tryd.prog 50 #[.string (bs l)] w fun e w' => e = .returned (.tuple #[.int .i64 (dv l : Int), .nilIface]) ∧ w = w' := by
  have hpos : 0 < l.length := List.length_pos_iff.2 hne
  obtain ⟨s, hs⟩ : ∃ s, bs l = s := ⟨_, rfl⟩
  have hsz : s.size = l.length := by rw [← hs, size_bs]
  have hat : ∀ (k : Nat) (h : k < s.size) (h2 : k < l.length), s[k]'h = l[k]'h2 := by
    subst hs; intro k h h2; rfl
  have h0s : 0 < s.size := by omega
  have hat0 := hat 0 h0s hpos
  have hd0 := hd _ (List.getElem_mem hpos)
  rw [← hat0] at hd0
  obtain ⟨c0, hc0⟩ : ∃ c, s[0]'h0s = c := ⟨_, rfl⟩
  rw [hc0] at hd0
  obtain ⟨a0, ha0⟩ : ∃ a : Nat, c0.toNat = a := ⟨_, rfl⟩
  have h45 : ((a0 : Int) == 45) = false := beq_eq_false_iff_ne.2 (by unfold isDig at hd0; omega)
  have HAT := hidden (And.intro hat (And.intro hd hsz))
  have HLL := hidden hl
  have hs17 : s.size ≤ 17 := by omega
  rw [hs]
  have hnz : ((s.size : Int) == 0) = false := beq_eq_false_iff_ne.2 (by omega)
  clear hat0 hd0 hat hd hl hne hpos hsz hs
  go_enter Tryd.func50, Tryd.ntmps50
  go_wp2
  go_loop [4, 6] (fun i d => ∃ (k m : Nat) (M : Int), M = (m : Int) ∧ k ≤ s.size ∧ i = .int .u64 k ∧ d = .int .i64 M ∧ Hid (dv (l.take k) = m)) (fun i _ => s.size - (intOf i).toNat)
  case atStart => exact ⟨0, 0, 0, rfl, by omega, rfl, rfl, hidden rfl⟩
  case round =>
    obtain ⟨k, m, M, hM, hk, rfl, rfl, HM⟩ := hrel
    by_cases hlt : k < s.size
    · have hkl : k < l.length := by rw [← HAT.out.2.2]; exact hlt
      have hdig := HAT.out.2.1 _ (List.getElem_mem hkl)
      have hnx : dv (l.take (k + 1)) = m * 10 + ((l[k]'hkl).toNat - 48) := by rw [List.take_succ_eq_append_getElem hkl, dv_snoc, HM.out]
      have hml : m < 10 ^ 16 := by
        have h1 := dv_lt (l.take k) 0 (fun c hc => HAT.out.2.1 c (List.mem_of_mem_take hc))
        have h2 := HM.out
        unfold dv at h2
        rw [h2, List.length_take, Nat.min_eq_left (by omega)] at h1
        have h3 := HLL.out
        have h4 : 10 ^ k ≤ 10 ^ 16 := Nat.pow_le_pow_right (by omega) (by omega)
        omega
      rw [← HAT.out.1 k hlt hkl] at hdig hnx
      obtain ⟨c, hc⟩ : ∃ c, s[k]'hlt = c := ⟨_, rfl⟩
      rw [hc] at hdig hnx
      obtain ⟨a, ha⟩ : ∃ a : Nat, c.toNat = a := ⟨_, rfl⟩
      unfold isDig at hdig
      rw [ha] at hdig hnx
      have hMb : M < 10000000000000000 := by omega
      have hM0 : 0 ≤ M := by omega
      have w1 : IntKind.u8.wrap ((a : Int) - 48) = (a : Int) - 48 := by rw [IntKind.wrap_u8]; omega
      have w2 : wrap64 (M * 10) = M * 10 := by unfold wrap64; omega
      have w3 : wrap64 ((a : Int) - 48) = (a : Int) - 48 := by unfold wrap64; omega
      have w4 : wrap64 (M * 10 + ((a : Int) - 48)) = M * 10 + ((a : Int) - 48) := by unfold wrap64; omega
      have w5 : IntKind.u64.wrap ((k : Int) + 1) = (k : Int) + 1 := by rw [IntKind.wrap_u64]; omega
      have w6 : IntKind.u64.wrap (s.size : Int) = (s.size : Int) := by rw [IntKind.wrap_u64]; omega
      have g1 : (48 : Int) ≤ (a : Int) := by omega
      have g2 : (a : Int) ≤ 57 := by omega
      have g3 : ¬ (18 : Int) < (k : Int) + 1 := by omega
      have hlti : (k : Int) < (s.size : Int) := by omega
      have HN := hidden (And.intro hnx (And.intro hM hdig))
      clear hnx hM hml hdig hMb
      go_wp2
      rw [w4]
      refine ⟨⟨k + 1, m * 10 + (a - 48), _, ?_, by omega, by go_num, rfl, hidden HN.out.1⟩, by clear w6 w5; simp [intOf]; omega⟩
      have := HN.out.2
      omega
    · obtain rfl : k = s.size := by omega
      have hfin : dv l = m := by have := HM.out; rwa [HAT.out.2.2, List.take_length] at this
      have w6 : IntKind.u64.wrap (s.size : Int) = (s.size : Int) := by rw [IntKind.wrap_u64]; omega
      have HF := hidden (And.intro hfin hM)
      have g1 : ¬ (s = ByteArray.empty) := ne_empty h0s
      clear hfin hM
      go_wp2
      go_ret2
      exact ⟨by rw [HF.out.1, ← HF.out.2]; rfl, rfl⟩
/-- What Int64 leaves of a number of digits. -/
theorem int64_num (w : World) (F : Nat → Nat → Prop) (l : Bs) (b o : Nat) (h : Rep w F (.num l) b o) (hd : ∀ c ∈ l, isDig c) (hne : l ≠ []) (hl : l.length ≤ 17) :
    Calls Tryd.prog 44 #[.pointer (some ⟨b, o, none⟩)] w fun e w' => e = .returned (.tuple #[.int .i64 (dv l : Int), .nilIface]) ∧ w = w' := by
  have hT := hidden (type_no w F _ b o h 4 rfl (by decide))
  have hcs : Slot w b (o + 3) (.string (bs l)) := by cases h with | num h1 h2 => exact h1.2
  have hc3 := hcs.1
  have KP := hidden (parseInt_calls l hd hne hl w)
  obtain ⟨x, hx⟩ : ∃ x : Nat, dv l = x := ⟨_, rfl⟩
  rw [hx] at KP ⊢
  obtain ⟨s, hs⟩ : ∃ s, bs l = s := ⟨_, rfl⟩
  rw [hs] at KP hc3
  clear hcs hs hx hd hne hl h
  go_enter Tryd.func44, Tryd.ntmps44
  go_wp2_with (first
    | (go_at_call 47; go_must (refine hT.out.mono ?_; rintro e w1 ⟨rfl, rfl⟩))
    | (go_at_call 50; go_must (refine KP.out.mono ?_; rintro e w1 ⟨rfl, rfl⟩)))
  go_ret2
  exact ⟨rfl, rfl⟩
end Go.Proofs.YtbdmdajbdmdknaaDoor
namespace Go.Proofs.YtbdmdajbdmdknaaDoor
open Go.RowKit
set_option linter.unusedVariables false
set_option linter.unusedSimpArgs false

theorem reads_obj (l : List (Bs × JV)) (q : Bs) (h : ∀ p ∈ l, p.1.length ≤ 200000000) (hn : l.length ≤ 1000000000) : Reads unB (.obj l) q where
  keys := fun l' e => by cases e; exact ⟨fun p hp => unC_all _ (h p hp), hn⟩
  arr := fun l' e => by cases e
/-- Of an object the name q is asked. -/
structure AskObj (R : Option JV) (l : List (Bs × JV)) : Prop where
  eq : R = some (.obj l)
  keys : ∀ p ∈ l, p.1.length ≤ 200000000
  len : l.length ≤ 1000000000
theorem AskObj.reads {R : Option JV} {l : List (Bs × JV)} (h : AskObj R l) (q : Bs) : ∀ v, R = some v → Reads unB v q ∧ ∀ t, v = .lit t → t ≠ 1 ∧ t ≠ 2 := by
  intro v hv
  rw [h.eq] at hv
  cases hv
  exact ⟨reads_obj l q h.keys h.len, fun t e => by cases e⟩
theorem AskObj.head {R : Option JV} {l : List (Bs × JV)} (h : AskObj R l) (q : Bs) : headV unB R q = getJ unB l q := by rw [h.eq]; rfl
set_option maxRecDepth 100000 in
set_option maxHeartbeats 2000000 in
theorem headInt64_calls (w : World) (B N : Nat) (R : Option JV) (un : Bs → Bs) (q : Bs) (h : HeadAt w B R N) (hR : ∀ v, R = some v → Reads un v q ∧ ∀ t, v = .lit t → t ≠ 1 ∧ t ≠ 2) (l : Bs) (hV : headV un R q = some (.num l)) (hd : ∀ c ∈ l, isDig c) (hne : l ≠ []) (hl : l.length ≤ 17) (hN : N ≤ w.heap.size) (hS : SynAt w) (hNg : 2 < N) :
    Calls Tryd.prog 34 #[.iface 94 (.pointer (some ⟨B, 0, none⟩)), .string (bs q)] w fun e w' => e = .returned (.tuple #[.int .i64 (dv l : Int), .nilIface]) ∧ Below N w w' := by
  have HG1 := hidden (headGet_calls w B N R un q h hR hN hS hNg _ hV)
  have HI := hidden (fun W F b o (h : Rep W F (.num l) b o) => int64_num W F l b o h hd hne hl)
  clear h hR hV hN hS hNg hd hne hl
  go_enter Tryd.func34, Tryd.ntmps34
  go_wp2_with (first
    | (go_at_call 41; go_must (refine HG1.out.mono ?_; rintro e w1 ⟨hB, G, b, o, rfl, hRep, hGN⟩; have HB := hidden hB; have HR := hidden hRep; have HGN := hidden hGN; clear hB hRep hGN; unfold ptr))
    | (go_at_call 44; go_must (refine (HI.out _ G b o HR.out).mono ?_; rintro e w2 ⟨rfl, rfl⟩)))
  go_ret2
  exact ⟨rfl, HB.out⟩
set_option maxRecDepth 100000 in
set_option maxHeartbeats 1000000 in
theorem implHeadInt64_calls (w : World) (s : ByteArray) (A : Option Addr) (n c : Nat) (un : Bs → Bs) (q : Bs) (hr : Rd w A (nums .u8 (bI s))) (hn : s.size = n) (hc : n ≤ c) (hA : A = none → c = 0) (hN : s.size ≤ 200000000) (R : Option JV) (hR : pText s.data.toList = R)
    (h1 : ∀ v, R = some v → Reads un v q ∧ ∀ t, v = .lit t → t ≠ 1 ∧ t ≠ 2) (l : Bs) (hV : headV un R q = some (.num l)) (hd : ∀ c ∈ l, isDig c) (hne : l ≠ []) (hl : l.length ≤ 17) (hS : SynAt w) :
    Calls Tryd.prog 22 #[.slice A n c, .string (bs q)] w fun e w' => e = .returned (.tuple #[.int .i64 (dv l : Int), .bool true]) ∧ Below w.heap.size w w' := by
  have HH := hidden (head_calls w s A n c hr hn hc hA hN R hR)
  have HS1 := hidden (fun (W : World) (B : Nat) (hB : HeadAt W B R w.heap.size) (hW : w.heap.size ≤ W.heap.size) (hSW : SynAt W) => headInt64_calls W B w.heap.size R un q hB h1 l hV hd hne hl hW hSW hS.lt)
  have HSY := hidden hS
  clear hr hn hc hA hR h1 hV hd hne hl hS
  go_enter Tryd.func22, Tryd.ntmps22
  go_upto_region 2 with (first
    | (go_at_call 30; go_must (refine HH.out.mono ?_; rintro e w1 ⟨B, rfl, hH, hB⟩; have HH1 := hidden hH; have HB := hidden hB; clear hH hB))
    | (go_at_call 34; go_must (refine (HS1.out w1 B HH1.out HB.out.size (HSY.out.next HB.out)).mono ?_; rintro e w2 ⟨rfl, hB2⟩; have HB2 := hidden hB2; clear hB2)))
  go_region
  go_wp2
  go_ret2
  exact ⟨rfl, (HB.out.trans HB2.out).trans (below_drewN0 (Below.refl _ _) 1)⟩
set_option maxRecDepth 100000 in
set_option maxHeartbeats 2000000 in
theorem headHas_calls (w : World) (B N : Nat) (R : Option JV) (un : Bs → Bs) (q : Bs) (h : HeadAt w B R N) (hR : ∀ v, R = some v → Reads un v q ∧ ∀ t, v = .lit t → t ≠ 1 ∧ t ≠ 2) (V : Option JV) (hV : headV un R q = V) (hN : N ≤ w.heap.size) (hS : SynAt w) (hNg : 2 < N) :
    Calls Tryd.prog 29 #[.iface 94 (.pointer (some ⟨B, 0, none⟩)), .string (bs q)] w fun e w' => e = .returned (.bool V.isSome) ∧ Below N w w' := by
  have HG1 := hidden (headGet_calls w B N R un q h hR hN hS hNg _ hV)
  clear h hR hV hN hS hNg
  go_enter Tryd.func29, Tryd.ntmps29
  cases V with
  | none =>
    go_wp2_with (go_at_call 41; go_must (refine HG1.out.mono ?_; rintro e w1 ⟨hB, T, u, rfl⟩; have HB := hidden hB; clear hB))
    go_ret
    exact ⟨rfl, HB.out⟩
  | some v =>
    go_wp2_with (go_at_call 41; go_must (refine HG1.out.mono ?_; rintro e w1 ⟨hB, G, b, o, rfl, hRep, hGN⟩; have HB := hidden hB; clear hB hRep hGN; unfold ptr))
    go_ret
    exact ⟨rfl, HB.out⟩
set_option maxRecDepth 100000 in
set_option maxHeartbeats 1000000 in
theorem implHeadHas_calls (w : World) (s : ByteArray) (A : Option Addr) (n c : Nat) (un : Bs → Bs) (q : Bs) (hr : Rd w A (nums .u8 (bI s))) (hn : s.size = n) (hc : n ≤ c) (hA : A = none → c = 0) (hN : s.size ≤ 200000000) (R : Option JV) (hR : pText s.data.toList = R)
    (h1 : ∀ v, R = some v → Reads un v q ∧ ∀ t, v = .lit t → t ≠ 1 ∧ t ≠ 2) (V : Option JV) (hV : headV un R q = V) (hS : SynAt w) :
    Calls Tryd.prog 14 #[.slice A n c, .string (bs q)] w fun e w' => e = .returned (.bool V.isSome) ∧ Below w.heap.size w w' := by
  have HH := hidden (head_calls w s A n c hr hn hc hA hN R hR)
  have HS1 := hidden (fun (W : World) (B : Nat) (hB : HeadAt W B R w.heap.size) (hW : w.heap.size ≤ W.heap.size) (hSW : SynAt W) => headHas_calls W B w.heap.size R un q hB h1 V hV hW hSW hS.lt)
  have HSY := hidden hS
  clear hr hn hc hA hR h1 hV hS
  go_enter Tryd.func14, Tryd.ntmps14
  go_wp2_with (first
    | (go_at_call 30; go_must (refine HH.out.mono ?_; rintro e w1 ⟨B, rfl, hH, hB⟩; have HH1 := hidden hH; have HB := hidden hB; clear hH hB))
    | (go_at_call 29; go_must (refine (HS1.out w1 B HH1.out HB.out.size (HSY.out.next HB.out)).mono ?_; rintro e w2 ⟨rfl, hB2⟩; have HB2 := hidden hB2; clear hB2)))
  go_ret
  exact ⟨rfl, HB.out.trans HB2.out⟩
def live1 : Bs := [123, 34, 97, 108, 103, 34, 58, 34, 110, 111, 110, 101, 34, 125]
def live2 : Bs := [123, 34, 97, 34, 58, 110, 117, 108, 108, 125]
theorem live1_text : pText live1 = some (.obj [([97, 108, 103], .str [110, 111, 110, 101])]) := by kernel_rfl
theorem live2_text : pText live2 = some (.obj [([97], .lit 0)]) := by kernel_rfl
theorem live1_ask : AskObj (some (.obj [([97, 108, 103], .str [110, 111, 110, 101])])) [([97, 108, 103], .str [110, 111, 110, 101])] := ⟨rfl, by simp, by simp⟩
theorem live2_ask : AskObj (some (.obj [([97], .lit 0)])) [([97], .lit 0)] := ⟨rfl, by simp, by simp⟩
theorem live1_un : unB [110, 111, 110, 101] = [110, 111, 110, 101] := unB_plain _ (by decide)
theorem live1_r : headT unB (some (.obj [([97, 108, 103], .str [110, 111, 110, 101])])) [97, 108, 103] = some [110, 111, 110, 101] := by kernel_rfl
theorem live2_r : headV unB (some (.obj [([97], .lit 0)])) [97] = some (.lit 0) := by kernel_rfl
end Go.Proofs.YtbdmdajbdmdknaaDoor
