/- headerGet, HeaderGetString. impl.HeadString. The walks of laws.joinSigned and laws.joinOpened. Layers of compact forms: how long they are. Nothing here speaks of the program. -/
import Derived.Test.YtbdmdajbdmdknaaGreatDoorM17
import Derived.Test.YtbdmdajbdmdknaaGreatDoorM1
import Derived.Test.YtbdmdajbdmdknaaGreatDoorM11
import Derived.Test.YtbdmdajbdmdknaaGreatDoorM15
namespace Go.Proofs.YtbdmdajbdmdknaaGreatDoor
open Go.RowKit
set_option linter.unusedVariables false
set_option linter.unusedSimpArgs false

/-- A head in memory, as HeaderParse leaves it. -/
def HeadAt (w : World) (B : Nat) (R : Option JV) (N : Nat) : Prop := N ≤ B ∧ (match R with
  | some v => ∃ F b o, Slot w B 0 (ptr (b, o)) ∧ Slot w B 1 .nilIface ∧ Rep w F v b o ∧ ∀ x y, F x y → N ≤ x
  | none => ∃ T a, Slot w B 0 (.pointer none) ∧ Slot w B 1 (.iface T (.pointer (some a))))
/-- What a value has behind a name. -/
def getV (un : Bs → Bs) (v : JV) (q : Bs) : Option JV := match v with
  | .obj l => getJ un l q
  | _ => none
/-- Whatever a name's texts are made of can be read. -/
structure Reads (un : Bs → Bs) (v : JV) (q : Bs) : Prop where
  keys : ∀ l, v = .obj l → (∀ p ∈ l, UnC p.1 (un p.1)) ∧ l.length ≤ 1000000000
  arr : ∀ l, v = .arr l → AtoiNo q
/-- Value.Get of one name. -/
theorem valGet_calls (w : World) (F : Nat → Nat → Prop) (v : JV) (b o g c : Nat) (un : Bs → Bs) (q : Bs) (h : Rep w F v b o) (hR : Reads un v q) (hv : ∀ t, v = .lit t → t ≠ 1 ∧ t ≠ 2) (hg : Slot w g 0 (.string (bs q))) (N : Nat) (hF : ∀ x y, F x y → N ≤ x) (hN : N ≤ w.heap.size) (R : Option JV) (hRR : getV un v q = R) :
    Calls Tryz.prog 67 #[.pointer (some ⟨b, o, none⟩), .slice (some ⟨g, 0, none⟩) 1 c] w fun e w' => Below N w w' ∧ (match R with
      | some v => ∃ G b o, e = .returned (ptr (b, o)) ∧ Rep w' G v b o ∧ ∀ x y, G x y → N ≤ x
      | none => e = .returned (.pointer none)) := by
  have low : ∀ {w w' : World}, N ≤ w.heap.size → Below w.heap.size w w' → Below N w w' := fun hN h => ⟨h.os, h.tape, h.output, h.size, fun b hb => h.block b (Nat.lt_of_lt_of_le hb hN)⟩
  cases v with
  | obj l =>
    have hk := hR.keys l rfl
    refine (valGet_obj w F l b o g c un q h hk.1 hk.2 hg R hRR).mono ?_
    rintro e w' ⟨hA, hE⟩
    refine ⟨hA.below hN (fun x y hx ⟨y', hy⟩ => by have := hF x y' hy; omega), ?_⟩
    cases R with
    | none => exact hE
    | some v =>
      obtain ⟨G, b1, o1, rfl, hr, hs⟩ := hE
      exact ⟨G, b1, o1, rfl, hr, fun x y hx => hF x y (hs x y hx)⟩
  | arr l =>
    cases hRR
    refine (valGet_arr w F l b o g c q h (hR.arr l rfl) hg).mono ?_
    rintro e w' ⟨rfl, hB⟩
    exact ⟨low hN hB, rfl⟩
  | lit t =>
    cases hRR
    refine (valGet_leaf w F _ b o g c q h (hv t rfl).1 (hv t rfl).2 hg).mono ?_
    rintro e w' ⟨rfl, rfl⟩
    exact ⟨low hN (Below.refl _ _), rfl⟩
  | num s =>
    cases hRR
    refine (valGet_leaf w F _ b o g c q h (by simp [tyOf]) (by simp [tyOf]) hg).mono ?_
    rintro e w' ⟨rfl, rfl⟩
    exact ⟨low hN (Below.refl _ _), rfl⟩
  | str s =>
    cases hRR
    refine (valGet_leaf w F _ b o g c q h (by simp [tyOf]) (by simp [tyOf]) hg).mono ?_
    rintro e w' ⟨rfl, rfl⟩
    exact ⟨low hN (Below.refl _ _), rfl⟩
theorem ta_head (v : Value) (W : World) : (Instr.typeAssert (.iface 101 v) 68 101 false).run Tryz.prog W = .ok v W := by kernel_rfl
def headV (un : Bs → Bs) (R : Option JV) (q : Bs) : Option JV := match R with
  | some v => getV un v q
  | none => none
/-- What headerGet leaves. -/
def HG (w : World) (N : Nat) (R : Option JV) (e : Ending) (w' : World) : Prop := Below N w w' ∧ (match R with
  | some v => ∃ G b o, e = .returned (.tuple #[ptr (b, o), .nilIface]) ∧ Rep w' G v b o ∧ ∀ x y, G x y → N ≤ x
  | none => ∃ T u, e = .returned (.tuple #[.pointer none, .iface T u]))
set_option maxRecDepth 100000 in
set_option maxHeartbeats 2000000 in
theorem headGet_calls (w : World) (B N : Nat) (R : Option JV) (un : Bs → Bs) (q : Bs) (h : HeadAt w B R N) (hR : ∀ v, R = some v → Reads un v q ∧ ∀ t, v = .lit t → t ≠ 1 ∧ t ≠ 2) (hN : N ≤ w.heap.size) (r : Option JV) (hr : headV un R q = r) :
    Calls Tryz.prog 51 #[.iface 101 (.pointer (some ⟨B, 0, none⟩)), .string (bs q)] w (HG w N r) := by
  obtain ⟨hNB, h⟩ := h
  have low : ∀ {w w' : World}, N ≤ w.heap.size → Below w.heap.size w w' → Below N w w' := fun hN h => ⟨h.os, h.tape, h.output, h.size, fun b hb => h.block b (Nat.lt_of_lt_of_le hb hN)⟩
  cases R with
  | none =>
    obtain ⟨T, a, h0, h1⟩ := h
    have c0 := h0.1
    have c1 := h1.1
    obtain rfl : r = none := hr.symm
    have LOW := hidden (low hN (below_drewN0 (Below.refl w.heap.size w) 1))
    have hta := ta_head (.pointer (some ⟨B, 0, none⟩)) w
    clear h0 h1 hR low
    go_enter Tryz.func51, Tryz.ntmps51
    go_upto_region 3 with (fail)
    go_region
    go_wp2
    go_ret2
    exact ⟨LOW.out, _, _, rfl⟩
  | some v =>
    obtain ⟨F, b, o, h0, h1, hRep, hF⟩ := h
    have c0 := h0.1
    have c1 := h1.1
    have hRv := hR v rfl
    have row : ∀ W : World, Row (W.alloc (.cells #[.string (bs q)] 9)) W.heap.size 9 [.string (bs q)] := fun W => Row.new W 9 [.string (bs q)]
    have hVG := valGet_calls (w.alloc (.cells #[.string (bs q)] 9)) F v b o w.heap.size 1 un q (hRep.alt (AltC.alloc w _ (fun _ _ => False)) (fun _ _ _ e => e)) hRv.1 hRv.2 (Slot.of_row (row w) 0 rfl) N hF (by simp; omega) r hr
    have HVG := hidden hVG
    have HL := hidden (low hN (below_alloc0 w (.cells #[.string (bs q)] 9)))
    clear hR hRv hRep hVG h0 h1 row
    unfold ptr at c0
    have hta := ta_head (.pointer (some ⟨B, 0, none⟩)) w
    go_enter Tryz.func51, Tryz.ntmps51
    cases r with
    | none =>
      go_wp2_with (go_at_call 67; go_must (refine HVG.out.mono ?_; rintro e w1 ⟨hB, rfl⟩; have HB := hidden hB; clear hB))
      go_ret2
      exact ⟨HL.out.trans HB.out, _, _, rfl⟩
    | some u =>
      go_wp2_with (go_at_call 67; go_must (refine HVG.out.mono ?_; rintro e w1 ⟨hB, G, b1, o1, rfl, hE, hGN⟩; have HB := hidden hB; have HE := hidden hE; have HGN := hidden hGN; clear hB hE hGN; unfold ptr))
      go_ret2
      exact ⟨HL.out.trans HB.out, G, b1, o1, rfl, HE.out, HGN.out⟩
/-- The text behind a name. -/
def headT (un : Bs → Bs) (R : Option JV) (q : Bs) : Option Bs := match headV un R q with
  | some (.str s) => some (un s)
  | _ => none
/-- What HeaderGetString leaves. -/
def HS (w : World) (N : Nat) (r : Option Bs) (e : Ending) (w' : World) : Prop := Below N w w' ∧ (match r with
  | some s => e = .returned (.tuple #[.string (bs s), .nilIface])
  | none => ∃ T u, e = .returned (.tuple #[.string ⟨#[]⟩, .iface T u]))
set_option maxRecDepth 100000 in
set_option maxHeartbeats 2000000 in
theorem headString_calls (w : World) (B N : Nat) (R : Option JV) (un : Bs → Bs) (q : Bs) (h : HeadAt w B R N) (hR : ∀ v, R = some v → Reads un v q ∧ ∀ t, v = .lit t → t ≠ 1 ∧ t ≠ 2) (hV : ∀ v, headV un R q = some v → (∀ t, v = .lit t → t ≠ 7 ∧ t ≠ 3) ∧ ∀ s, v = .str s → UnC s (un s)) (hN : N ≤ w.heap.size) (r : Option Bs) (hr : headT un R q = r) :
    Calls Tryz.prog 33 #[.iface 101 (.pointer (some ⟨B, 0, none⟩)), .string (bs q)] w (HS w N r) := by
  obtain ⟨V, hVV⟩ : ∃ V, headV un R q = V := ⟨_, rfl⟩
  have HG1 := hidden (headGet_calls w B N R un q h hR hN V hVV)
  unfold headT at hr
  rw [hVV] at hr hV
  have low : Hid (∀ {w w' : World}, N ≤ w.heap.size → Below w.heap.size w w' → Below N w w') := hidden (fun hN h => ⟨h.os, h.tape, h.output, h.size, fun b hb => h.block b (Nat.lt_of_lt_of_le hb hN)⟩)
  have HN := hidden hN
  clear h hR hVV hN
  cases V with
  | none =>
    obtain rfl : r = none := hr.symm
    clear hV hr
    go_enter Tryz.func33, Tryz.ntmps33
    go_wp2_with (go_at_call 51; go_must (refine HG1.out.mono ?_; rintro e w1 ⟨hB, T, u, rfl⟩; have HB := hidden hB; clear hB))
    go_ret2
    exact ⟨HB.out, _, _, rfl⟩
  | some v =>
    have hv := hV v rfl
    clear hV
    by_cases hs : ∃ s, v = .str s
    · obtain ⟨s, rfl⟩ := hs
      obtain rfl : r = some (un s) := hr.symm
      have HU := hidden (hv.2 s rfl)
      have hsz : (bs (un s)).size = (un s).length := by rw [size_toL, toL_bs]
      have HZ := hidden hsz
      clear hv hr hsz
      go_enter Tryz.func33, Tryz.ntmps33
      go_upto_region 7 with (first
        | (go_at_call 51; go_must (refine HG1.out.mono ?_; rintro e w1 ⟨hB, G, b, o, rfl, hRep, hGN⟩; have HB := hidden hB; have HR := hidden hRep; have HGN := hidden hGN; clear hB hRep hGN; unfold ptr))
        | (go_at_call 52; go_must (refine (strBytes_str _ G s (un s) b o HR.out HU.out).mono ?_; rintro e w2 ⟨A, n, c, rfl, hn, hRd, hA⟩; have HRd := hidden hRd; have HN2 := hidden hn; have HA := hidden hA; clear hRd hn hA)))
      have hcv : (convert 31 9 (.slice A n c)).run Tryz.prog w2 = .ok (.string (bs (un s))) w2 := by
        have := run_string (P := Tryz.prog) (W := w2) (c := c) Tryz.underlying31 Tryz.underlying5 Tryz.underlying9 HRd.out (n := n) (by rw [bI_len, HZ.out]; exact HN2.out.symm)
        rwa [str_bI] at this
      go_wp2
      go_ret2
      refine ⟨HB.out.trans (HA.out.below (Nat.le_trans HN.out HB.out.size) (fun x y hx e => ?_)), rfl⟩
      have := HGN.out b (o + 4) HR.out.ty.1
      omega
    · have hrn : r = none := by
        cases v with
        | str s => exact absurd ⟨s, rfl⟩ hs
        | _ => exact hr.symm
      subst hrn
      have hty : tyOf v ≠ 7 ∧ tyOf v ≠ 3 := by
        cases v with
        | str s => exact absurd ⟨s, rfl⟩ hs
        | lit t => exact hv.1 t rfl
        | _ => simp [tyOf]
      have HTY := hidden hty
      clear hv hr hs hty
      go_enter Tryz.func33, Tryz.ntmps33
      go_wp2_with (first
        | (go_at_call 51; go_must (refine HG1.out.mono ?_; rintro e w1 ⟨hB, G, b, o, rfl, hRep, hGN⟩; have HB := hidden hB; have HR := hidden hRep; have HGN := hidden hGN; clear hB hRep hGN; unfold ptr))
        | (go_at_call 52; go_must (refine (strBytes_no _ G v b o HR.out HTY.out.1 HTY.out.2).mono ?_; rintro e w2 ⟨T, a, rfl, hB2⟩; have HB2 := hidden hB2; clear hB2)))
      go_ret2
      exact ⟨HB.out.trans (low.out (Nat.le_trans HN.out HB.out.size) HB2.out), _, _, rfl⟩
end Go.Proofs.YtbdmdajbdmdknaaGreatDoor
namespace Go.Proofs.YtbdmdajbdmdknaaGreatDoor
open Go.RowKit
set_option linter.unusedVariables false
set_option linter.unusedSimpArgs false

theorem HP.at {w w' : World} {R : Option JV} {e : Ending} (h : HP w R e w') : ∃ B, e = .returned (.iface 101 (.pointer (some ⟨B, 0, none⟩))) ∧ HeadAt w' B R w.heap.size ∧ Below w.heap.size w w' := by
  obtain ⟨hB, B, hlt, rfl, hR⟩ := h
  exact ⟨B, rfl, ⟨hlt, hR⟩, hB⟩
/-- impl.head. -/
def HI (w : World) (R : Option JV) (e : Ending) (w' : World) : Prop := ∃ B, e = .returned (.iface 101 (.pointer (some ⟨B, 0, none⟩))) ∧ HeadAt w' B R w.heap.size ∧ Below w.heap.size w w'
set_option maxRecDepth 100000 in
set_option maxHeartbeats 1000000 in
theorem head_calls (w : World) (s : ByteArray) (A : Option Addr) (n c : Nat) (hr : Rd w A (nums .u8 (bI s))) (hn : s.size = n) (hc : n ≤ c) (hA : A = none → c = 0) (hN : s.size ≤ 100000000) (R : Option JV) (hR : pText s.data.toList = R) :
    Calls Tryz.prog 46 #[.slice A n c] w (HI w R) := by
  subst hn
  have HC := hidden (clone_calls A s.size c (bI s) w hr (by rw [bI_len]) hc hA (by omega))
  have HX := hidden hR
  have Hn : Hid ((nums .u8 (bI s)).length = s.size) := hidden (by rw [nums_len, bI_len])
  clear hr hR hc hA
  go_enter Tryz.func46, Tryz.ntmps46
  go_wp2_with (first
    | (go_at_call 12; go_must (refine HC.out.mono ?_; rintro e w1 ⟨v1, rfl, hO1, hB1⟩; obtain ⟨A1, c1, rfl, hc1, hr1, hA1⟩ := hO1.read; rw [Hn.out]; have HR1 := hidden hr1; have HB1 := hidden hB1; clear hr1 hB1 hA1 hO1 hc1))
    | (go_at_call 54; go_must (refine (headParse_calls w1 s A1 s.size c1 HR1.out rfl hN R HX.out).mono ?_; intro e w2 h; obtain ⟨B, rfl, hH, hB⟩ := h.at; have HH := hidden hH; have HB := hidden hB; clear h hH hB)))
  go_ret
  have low : ∀ {N : Nat} {a b : World}, N ≤ a.heap.size → Below a.heap.size a b → Below N a b := fun hN h => ⟨h.os, h.tape, h.output, h.size, fun b hb => h.block b (Nat.lt_of_lt_of_le hb hN)⟩
  refine ⟨B, rfl, ?_, HB1.out.trans (low HB1.out.size HB.out)⟩
  obtain ⟨h1, h2⟩ := HH.out
  refine ⟨Nat.le_trans HB1.out.size h1, ?_⟩
  cases R with
  | none => exact h2
  | some v =>
    obtain ⟨F, b, o, g1, g2, g3, g4⟩ := h2
    exact ⟨F, b, o, g1, g2, g3, fun x y h => Nat.le_trans HB1.out.size (g4 x y h)⟩
/-- What HeadString gives. -/
def HStr (w : World) (r : Option Bs) (e : Ending) (w' : World) : Prop := Below w.heap.size w w' ∧ e = .returned (.tuple #[.string (bs (r.getD [])), .bool r.isSome])
set_option maxRecDepth 100000 in
set_option maxHeartbeats 1000000 in
theorem implHeadString_calls (w : World) (s : ByteArray) (A : Option Addr) (n c : Nat) (un : Bs → Bs) (q : Bs) (hr : Rd w A (nums .u8 (bI s))) (hn : s.size = n) (hc : n ≤ c) (hA : A = none → c = 0) (hN : s.size ≤ 100000000) (R : Option JV) (hR : pText s.data.toList = R)
    (h1 : ∀ v, R = some v → Reads un v q ∧ ∀ t, v = .lit t → t ≠ 1 ∧ t ≠ 2) (h2 : ∀ v, headV un R q = some v → (∀ t, v = .lit t → t ≠ 7 ∧ t ≠ 3) ∧ ∀ s, v = .str s → UnC s (un s)) (r : Option Bs) (hrr : headT un R q = r) :
    Calls Tryz.prog 29 #[.slice A n c, .string (bs q)] w (HStr w r) := by
  have HH := hidden (head_calls w s A n c hr hn hc hA hN R hR)
  have HS1 := hidden (fun (W : World) (B : Nat) (hB : HeadAt W B R w.heap.size) (hW : w.heap.size ≤ W.heap.size) => headString_calls W B w.heap.size R un q hB h1 h2 hW r hrr)
  clear hr hn hc hA hR h1 h2 hrr
  go_enter Tryz.func29, Tryz.ntmps29
  cases r with
  | none =>
    go_upto_region 2 with (first
      | (go_at_call 46; go_must (refine HH.out.mono ?_; rintro e w1 ⟨B, rfl, hH, hB⟩; have HH1 := hidden hH; have HB := hidden hB; clear hH hB))
      | (go_at_call 33; go_must (refine (HS1.out w1 B HH1.out HB.out.size).mono ?_; rintro e w2 ⟨hB2, T, u, rfl⟩; have HB2 := hidden hB2; clear hB2)))
    go_region
    go_wp2
    go_ret2
    exact ⟨(HB.out.trans HB2.out).trans (below_drewN0 (Below.refl _ _) 1), rfl⟩
  | some s' =>
    go_upto_region 2 with (first
      | (go_at_call 46; go_must (refine HH.out.mono ?_; rintro e w1 ⟨B, rfl, hH, hB⟩; have HH1 := hidden hH; have HB := hidden hB; clear hH hB))
      | (go_at_call 33; go_must (refine (HS1.out w1 B HH1.out HB.out.size).mono ?_; rintro e w2 ⟨hB2, rfl⟩; have HB2 := hidden hB2; clear hB2)))
    go_region
    go_wp2
    go_ret2
    exact ⟨(HB.out.trans HB2.out).trans (below_drewN0 (Below.refl _ _) 1), rfl⟩
end Go.Proofs.YtbdmdajbdmdknaaGreatDoor
namespace Go.Proofs.YtbdmdajbdmdknaaGreatDoor
open Go.RowKit
set_option linter.unusedVariables false
set_option linter.unusedSimpArgs false

theorem withSigB_calls (W : World) (A : Option Addr) (n c : Nat) (S : List Int) (B : Option Addr) (m d : Nat) (r J : List Int) (q : Nat) (hJ : J = S ++ [46] ++ encF (alpha true) r) (hq : J.length = q) (h1 : ArgB W A n c S) (n1 : n ≤ 100000) (h2 : ArgB W B m d r) (n2 : m ≤ 20000) :
    Calls Tryz.prog 40 #[.slice A n c, .slice B m d] W (HeadB W q J) :=
  (withSig_calls W A n c S B m d r h1 n1 h2 n2).mono fun e w' k => HeadB.of (by rw [hJ]; exact k) (by rw [hJ]; exact isB_app (isB_app h1.isB isB_46) (encF_isB true h2.isB)) hq
set_option maxRecDepth 100000 in
set_option maxHeartbeats 4000000 in
theorem joinSigned_calls (a k : ByteArray) (nH : Nat) (hd : List Int) (hhd : hd = bts (headS a k)) (hnH : nH = a.size + k.size + 19) (hnb : nH ≤ 200) (A : Option Addr) (n c : Nat) (key : List Int) (B : Option Addr) (m d : Nat) (pl S : List Int) (p : Nat) (hS : S = signF true hd pl) (hp : S.length = p) (r : List Int) (hm : SumIs (markL key S) r) (J : List Int) (q : Nat) (hJ : J = S ++ [46] ++ encF (alpha true) r) (hq : J.length = q) (w : World) (h1 : ArgB w A n c key) (n1 : n ≤ 2000) (h2 : ArgB w B m d pl) (n2 : m ≤ 14000) (bp : p ≤ 20000) :
    Calls Tryz.prog 19 #[.slice A n c, .string a, .string k, .slice B m d, .bool true] w (HeadB w q J) := by
  have KH : Hid (∀ W, Calls Tryz.prog 39 #[.string a, .string k] W (HeadB W nH hd)) := hidden (fun W => joinHead_calls a k nH hd hhd hnH W (by omega) (by omega))
  have HX := hidden (And.intro hS (And.intro hp (And.intro hJ hq)))
  have HM := hidden hm
  have E0 := hidden h1
  have E1 := hidden h2
  have Hr := hidden hm.len
  clear hhd hnH hS hp hm hJ hq h1 h2
  go_enter Tryz.func19, Tryz.ntmps19
  go_wp2_with (first
    | (go_at_call 39; ((with_reducible refine (KH.out w).mono ?_); rintro e w1x ⟨hB, Ah, ch, rfl, ha⟩; have HB1 := hidden (below_next (Below.refl _ w) hB); have Hk_1 := hidden (E0.out.below hB (Nat.le_refl _)); have Hp_1 := hidden (E1.out.below hB (Nat.le_refl _)); have Hh_1 := hidden ha; clear hB ha))
    | (go_at_call 18; first
      | ((with_reducible refine (ownB_calls w1x _ _ _ _ Hp_1.out (by omega)).mono ?_); rintro e w2x ⟨hB, Ap1, cp1, rfl, ha⟩; have HB2 := hidden (below_next HB1.out hB); have Hk_2 := hidden (Hk_1.out.below hB (Nat.le_refl _)); have Hp_2 := hidden (Hp_1.out.below hB (Nat.le_refl _)); have Hh_2 := hidden (Hh_1.out.below hB (Nat.le_refl _)); have Hp1_2 := hidden ha; clear hB ha)
      | ((with_reducible refine (ownB_calls w3x _ _ _ _ Hs1_3.out (by omega)).mono ?_); rintro e w4x ⟨hB, As2, cs2, rfl, ha⟩; have HB4 := hidden (below_next HB3.out hB); have Hk_4 := hidden (Hk_3.out.below hB (Nat.le_refl _)); have Hs1_4 := hidden (Hs1_3.out.below hB (Nat.le_refl _)); have Hs2_4 := hidden ha; clear hB ha))
    | (go_at_call 38; ((with_reducible refine (signB_calls w2x _ _ _ _ _ _ _ _ true S p HX.out.1 HX.out.2.1 Hh_2.out (by omega) Hp1_2.out (by omega)).mono ?_); rintro e w3x ⟨hB, As1, cs1, rfl, ha⟩; have HB3 := hidden (below_next HB2.out hB); have Hk_3 := hidden (Hk_2.out.below hB (Nat.le_refl _)); have Hh_3 := hidden (Hh_2.out.below hB (Nat.le_refl _)); have Hp1_3 := hidden (Hp1_2.out.below hB (Nat.le_refl _)); have Hs1_3 := hidden ha; clear hB ha))
    | (go_at_call 24; ((with_reducible refine (joinMark_calls _ _ _ _ _ _ _ _ r w4x Hk_4.out (by omega) Hs1_4.out (by omega) HM.out).mono ?_); rintro e w5x ⟨hB, Am, cm, rfl, ha⟩; have HB5 := hidden (below_next HB4.out hB); have Hk_5 := hidden (Hk_4.out.below hB (Nat.le_refl _)); have Hs1_5 := hidden (Hs1_4.out.below hB (Nat.le_refl _)); have Hs2_5 := hidden (Hs2_4.out.below hB (Nat.le_refl _)); have Hm_5 := hidden ha; clear hB ha))
    | (go_at_call 40; ((with_reducible refine (withSigB_calls w5x _ _ _ S _ _ _ r J q HX.out.2.2.1 HX.out.2.2.2 Hs2_5.out (by omega) Hm_5.out (by omega)).mono ?_); rintro e w6x ⟨hB, AJ, cJ, rfl, ha⟩; have HB6 := hidden (below_next HB5.out hB); have Hs2_6 := hidden (Hs2_5.out.below hB (Nat.le_refl _)); have Hm_6 := hidden (Hm_5.out.below hB (Nat.le_refl _)); have HJ_6 := hidden ha; clear hB ha)))
  go_ret
  exact ⟨HB6.out, _, _, rfl, HJ_6.out⟩
theorem bts_bI (s : ByteArray) : bts s = bI s := rfl
theorem headS_L (a k : ByteArray) : (headS a k).data.toList = headL a.data.toList k.data.toList := by
  unfold headS headL
  simp only [ByteArray.data_append, Array.toList_append]
  simp
/-- Nothing in a text that a JSON text would write otherwise. -/
structure Tame (a : ByteArray) : Prop where
  no34 : (34 : UInt8) ∉ a.data.toList
  no92 : (92 : UInt8) ∉ a.data.toList
theorem headStrAt (W : World) (A : Option Addr) (n c : Nat) (hd : List Int) (a k : ByteArray) (hhd : hd = bts (headS a k)) (h : ArgB W A n c hd) (hn : n ≤ 1000) (ha : Tame a) (hk : Tame k) (q : Bs) (v : ByteArray) (hq : (q = [97, 108, 103] ∧ v = a) ∨ (q = [107, 105, 100] ∧ v = k)) :
    Calls Tryz.prog 29 #[.slice A n c, .string (bs q)] W fun e w' => e = .returned (.tuple #[.string v, .bool true]) ∧ Below W.heap.size W w' := by
  have hsz : (headS a k).size = n := by rw [← bts_len, ← hhd]; exact h.len
  have hp := pText_headL a.data.toList k.data.toList ha.no34 ha.no92 hk.no34 hk.no92
  have hT : headT (fun x => x) (some (.obj [([97, 108, 103], .str a.data.toList), ([107, 105, 100], .str k.data.toList)])) q = some v.data.toList := by
    rcases hq with ⟨rfl, rfl⟩ | ⟨rfl, rfl⟩ <;> rfl
  refine (implHeadString_calls W (headS a k) A n c (fun x => x) q (by rw [← bts_bI, ← hhd]; exact h.rd) hsz h.cap h.nil (by omega) _ (by rw [headS_L]; exact hp) ?_ ?_ _ hT).mono ?_
  · rintro u hu
    cases hu
    refine ⟨⟨fun l hl => ?_, fun l hl => (by cases hl)⟩, fun t ht => (by cases ht)⟩
    cases hl
    refine ⟨fun p hp => ?_, by simp⟩
    rcases List.mem_cons.1 hp with rfl | hp
    · exact unC_plain [97, 108, 103] (by decide)
    · rcases List.mem_singleton.1 hp with rfl
      exact unC_plain [107, 105, 100] (by decide)
  · intro u hu
    have hu2 : u = .str a.data.toList ∨ u = .str k.data.toList := by
      rcases hq with ⟨rfl, rfl⟩ | ⟨rfl, rfl⟩
      · left; exact (Option.some.inj hu).symm
      · right; exact (Option.some.inj hu).symm
    rcases hu2 with rfl | rfl
    · exact ⟨fun t ht => (by cases ht), fun s hs => (by cases hs; exact unC_plain _ ha.no92)⟩
    · exact ⟨fun t ht => (by cases ht), fun s hs => (by cases hs; exact unC_plain _ hk.no92)⟩
  · rintro e w' ⟨hB, rfl⟩
    exact ⟨by rw [Option.getD_some, bs_self]; rfl, hB⟩
theorem ret4_run {P : Program} {fn : Func} {t u v s : Tmp} (h : fn.results = #[.tmp t, .tmp u, .tmp v, .tmp s]) (tmps : Array Value) (w : World) :
    (results fn tmps).run P w = .ok (.tuple #[tmps.getD t undef, tmps.getD u undef, tmps.getD v undef, tmps.getD s undef]) w := by
  simp [results, h]
/-- What joinOpened hands back. -/
structure OpenP (w : World) (m : Nat) (pl : List Int) (a k : ByteArray) (e : Ending) (w' : World) : Prop where
  below : Below w.heap.size w w'
  res : ∃ A c, e = .returned (.tuple #[.slice A m c, .string a, .string k, .bool true]) ∧ ArgB w' A m c pl
set_option maxRecDepth 100000 in
set_option maxHeartbeats 8000000 in
theorem joinOpened_calls (a k : ByteArray) (nH : Nat) (hd : List Int) (hhd : hd = bts (headS a k)) (hnH : hd.length = nH) (hnb : nH ≤ 200) (ha : Tame a) (hk : Tame k) (A : Option Addr) (n c : Nat) (key : List Int) (B : Option Addr) (q d : Nat) (J pl S P T M r : List Int) (m p pP pT pM : Nat) (hP : P = encF (alpha true) hd) (hT : T = encF (alpha true) pl) (hM : M = encF (alpha true) r) (lP : P.length = pP) (lT : T.length = pT) (lM : M.length = pM) (lp : pl.length = m) (bpl : IsB pl) (hm : SumIs (markL key S) r) (hS : S = P ++ [46] ++ T) (lS : S.length = p) (hJ : J = P ++ 46 :: (T ++ 46 :: M)) (w : World) (h1 : ArgB w A n c key) (n1 : n ≤ 2000) (h2 : ArgB w B q d J) (bP : pP ≤ 20000) (bT : pT ≤ 20000) (bM : pM ≤ 20000) (bm : m ≤ 20000) (bp : p ≤ 20000) (bq : q ≤ 100000) :
    Calls Tryz.prog 20 #[.slice A n c, .slice B q d, .bool true] w (OpenP w m pl a k) := by
  have bhd : IsB hd := by rw [hhd]; exact bts_isB _
  have nP : (46 : Int) ∉ P := by rw [hP]; exact encF_no46 bhd
  have nT : (46 : Int) ∉ T := by rw [hT]; exact encF_no46 bpl
  have nM : (46 : Int) ∉ M := by rw [hM]; exact encF_no46 hm.isB
  have bPb : IsB P := by rw [hP]; exact encF_isB true bhd
  have bSb : IsB S := by rw [hS, hP, hT]; exact isB_app (isB_app (encF_isB true bhd) isB_46) (encF_isB true bpl)
  have KA : Hid (∀ W A c, ArgB W A nH c hd → Calls Tryz.prog 29 #[.slice A nH c, .string ⟨#[97, 108, 103]⟩] W fun e w' => e = .returned (.tuple #[.string a, .bool true]) ∧ Below W.heap.size W w') := hidden (fun W A c h => headStrAt W A nH c hd a k hhd h (by omega) ha hk [97, 108, 103] a (.inl ⟨rfl, rfl⟩))
  have KK : Hid (∀ W A c, ArgB W A nH c hd → Calls Tryz.prog 29 #[.slice A nH c, .string ⟨#[107, 105, 100]⟩] W fun e w' => e = .returned (.tuple #[.string k, .bool true]) ∧ Below W.heap.size W w') := hidden (fun W A c h => headStrAt W A nH c hd a k hhd h (by omega) ha hk [107, 105, 100] k (.inr ⟨rfl, rfl⟩))
  have KS : Hid (∀ W A c B c', ArgB W A 32 c r → ArgB W B 32 c' r → Calls Tryz.prog 21 #[.slice A 32 c, .slice B 32 c'] W fun e w' => e = .returned (.bool true) ∧ W = w') := hidden (fun W A c B c' a b => sameB_calls W A B 32 c 32 c' r r a b true (by simp))
  have HX := hidden (And.intro lP (And.intro lT (And.intro lM (And.intro hJ (And.intro nP (And.intro nT nM))))))
  have HD := hidden (And.intro bhd (And.intro hnH hP))
  have HT := hidden (And.intro bpl (And.intro lp hT))
  have HM := hidden (And.intro hm.isB (And.intro hm.len hM))
  have HR := hidden hm
  have HS := hidden (And.intro hS (And.intro lS (And.intro bSb bPb)))
  have lP2 : P.length ≤ 20000 := by omega
  have lT2 : T.length ≤ 20000 := by omega
  have E0 := hidden h1
  have E1 := hidden h2
  clear bhd nP nT nM bPb bSb hhd hnH ha hk hP hT hM lP lT lM lp bpl hm hS lS hJ h1 h2
  go_enter Tryz.func20, Tryz.ntmps20
  go_wp2_with (first
    | (go_at_call 18; first
      | ((with_reducible refine (ownB_calls w _ _ _ _ E1.out (by omega)).mono ?_); rintro e w1x ⟨hB, At1, ct1, rfl, ha⟩; have HB1 := hidden (below_next (Below.refl _ w) hB); have Hk_1 := hidden (E0.out.below hB (Nat.le_refl _)); have Ht_1 := hidden (E1.out.below hB (Nat.le_refl _)); have Ht1_1 := hidden ha; clear hB ha)
      | ((with_reducible refine (ownB_calls w2x _ _ _ _ Ha_2.out (by omega)).mono ?_); rintro e w3x ⟨hB, Aa1, ca1, rfl, ha⟩; have HB3 := hidden (below_next HB2.out hB); have Hk_3 := hidden (Hk_2.out.below hB (Nat.le_refl _)); have Ha_3 := hidden (Ha_2.out.below hB (Nat.le_refl _)); have Hb_3 := hidden (Hb_2.out.below hB (Nat.le_refl _)); have Hc_3 := hidden (Hc_2.out.below hB (Nat.le_refl _)); have Ha1_3 := hidden ha; clear hB ha)
      | ((with_reducible refine (ownB_calls w4x _ _ _ _ Hc_4.out (by omega)).mono ?_); rintro e w5x ⟨hB, Ac1, cc1, rfl, ha⟩; have HB5 := hidden (below_next HB4.out hB); have Hk_5 := hidden (Hk_4.out.below hB (Nat.le_refl _)); have Ha_5 := hidden (Ha_4.out.below hB (Nat.le_refl _)); have Hb_5 := hidden (Hb_4.out.below hB (Nat.le_refl _)); have Hc_5 := hidden (Hc_4.out.below hB (Nat.le_refl _)); have Hdh_5 := hidden (Hdh_4.out.below hB (Nat.le_refl _)); have Hc1_5 := hidden ha; clear hB ha)
      | ((with_reducible refine (partOwn_calls _ _ _ _ w6x Ha_6.out.rd Ha_6.out.len (by omega)).mono ?_); rintro e v1x ⟨vA, rfl, hO, hB⟩; have HP1 : Hid (OB w6x v1x vA P) := hidden ⟨hO, hB⟩; clear hO hB)
      | ((with_reducible refine (ownB_calls w8x _ _ _ _ Hdh_8.out (by omega)).mono ?_); rintro e w9x ⟨hB, Ah3, ch3, rfl, ha⟩; have HB9 := hidden (below_next HB8.out hB); have Hb_9 := hidden (Hb_8.out.below hB (Nat.le_refl _)); have Hdh_9 := hidden (Hdh_8.out.below hB (Nat.le_refl _)); have Hh3_9 := hidden ha; clear hB ha)
      | ((with_reducible refine (ownB_calls w10x _ _ _ _ Hdh_10.out (by omega)).mono ?_); rintro e w11x ⟨hB, Ah4, ch4, rfl, ha⟩; have HB11 := hidden (below_next HB10.out hB); have Hb_11 := hidden (Hb_10.out.below hB (Nat.le_refl _)); have Hdh_11 := hidden (Hdh_10.out.below hB (Nat.le_refl _)); have Hh4_11 := hidden ha; clear hB ha)
      | ((with_reducible refine (ownB_calls w12x _ _ _ _ Hb_12.out (by omega)).mono ?_); rintro e w13x ⟨hB, Ab2, cb2, rfl, ha⟩; have HB13 := hidden (below_next HB12.out hB); have Hb_13 := hidden (Hb_12.out.below hB (Nat.le_refl _)); have Hb2_13 := hidden ha; clear hB ha)
      | ((with_reducible refine (ownB_calls w13x _ _ _ _ Hb_13.out (by omega)).mono ?_); rintro e w14x ⟨hB, Ab3, cb3, rfl, ha⟩; have HB14 := hidden (below_next HB13.out hB); have Hb_14 := hidden (Hb_13.out.below hB (Nat.le_refl _)); have Hb3_14 := hidden ha; clear hB ha))
    | (go_at_call 41; ((with_reducible refine (splitB_calls w1x _ _ _ J P T M pP pT pM HX.out.1 HX.out.2.1 HX.out.2.2.1 HX.out.2.2.2.1 HX.out.2.2.2.2.1 HX.out.2.2.2.2.2.1 HX.out.2.2.2.2.2.2 Ht1_1.out (by omega)).mono ?_); rintro e w2x ⟨hB, Aa, ca, Ab, cb, Ac, cc, rfl, ha, hb, hc⟩; have HB2 := hidden (below_next HB1.out hB); have Hk_2 := hidden (Hk_1.out.below hB (Nat.le_refl _)); have Ht1_2 := hidden (Ht1_1.out.below hB (Nat.le_refl _)); have Ha_2 := hidden ha; have Hb_2 := hidden hb; have Hc_2 := hidden hc; clear hB ha hb hc; dsimp only))
    | (go_at_call 36; first
      | ((with_reducible refine (decodeB_back w3x _ _ _ P hd nH HD.out.1 HD.out.2.1 HD.out.2.2 Ha1_3.out (by omega)).mono ?_); rintro e w4x ⟨hB, Adh, cdh, rfl, ha⟩; have HB4 := hidden (below_next HB3.out hB); have Hk_4 := hidden (Hk_3.out.below hB (Nat.le_refl _)); have Ha_4 := hidden (Ha_3.out.below hB (Nat.le_refl _)); have Hb_4 := hidden (Hb_3.out.below hB (Nat.le_refl _)); have Hc_4 := hidden (Hc_3.out.below hB (Nat.le_refl _)); have Ha1_4 := hidden (Ha1_3.out.below hB (Nat.le_refl _)); have Hdh_4 := hidden ha; clear hB ha; dsimp only)
      | ((with_reducible refine (decodeB_back w5x _ _ _ M r 32 HM.out.1 HM.out.2.1 HM.out.2.2 Hc1_5.out (by omega)).mono ?_); rintro e w6x ⟨hB, Adm, cdm, rfl, ha⟩; have HB6 := hidden (below_next HB5.out hB); have Hk_6 := hidden (Hk_5.out.below hB (Nat.le_refl _)); have Ha_6 := hidden (Ha_5.out.below hB (Nat.le_refl _)); have Hb_6 := hidden (Hb_5.out.below hB (Nat.le_refl _)); have Hdh_6 := hidden (Hdh_5.out.below hB (Nat.le_refl _)); have Hc1_6 := hidden (Hc1_5.out.below hB (Nat.le_refl _)); have Hdm_6 := hidden ha; clear hB ha; dsimp only)
      | ((with_reducible refine (decodeB_back w14x _ _ _ T pl m HT.out.1 HT.out.2.1 HT.out.2.2 Hb3_14.out (by omega)).mono ?_); rintro e w15x ⟨hB, Ax, cx, rfl, ha⟩; have HB15 := hidden (below_next HB14.out hB); have Hb3_15 := hidden (Hb3_14.out.below hB (Nat.le_refl _)); have Hx_15 := hidden ha; clear hB ha; dsimp only))
    | ((with_reducible refine at_dst 46 ?_); refine walk_app (base := w6x.heap.size) rfl (.tmp 44) (.tmp 45) rfl Tryz.underlying31 info_u8 rfl (by decide) rfl rfl (HP1.out.own.alloc _) (Rd.new v1x 5 (nums .u8 [46]) _ rfl) rfl (nums_one _ _) (Nat.le_trans HP1.out.below.size (below_alloc0 v1x _).size) (by simp only [List.length_append, nums_len, List.length_cons, List.length_nil]; omega) ?_; intro v2 v2x hO2 hg2 _; have HP2 := hidden (HP1.out.put (below_alloc0 v1x _) hO2 hg2); clear hO2 hg2)
    | ((with_reducible refine at_dst 48 ?_); refine walk_app (base := w6x.heap.size) rfl (.tmp 46) (.tmp 47) rfl Tryz.underlying31 info_u8 rfl (by decide) rfl rfl HP2.out.own (Hb_6.out.rd.below HP2.out.below (Nat.le_refl _)) (by rw [nums_len]; exact Hb_6.out.len) (nums_one _ _) HP2.out.below.size (by simp only [List.length_append, nums_len, List.length_cons, List.length_nil]; omega) ?_; intro v4 w7x hO4 hg4 _; have HP4 := hidden (HP2.out.put (Below.refl _ _) hO4 hg4); clear hO4 hg4; have hPP := HP4.out; rw [← HS.out.1] at hPP; obtain ⟨As, cs, hv4, has⟩ := own_arg hPP.own HS.out.2.2.1; rw [HS.out.2.1] at hv4 has; subst hv4; have hB := hPP.below; have HB7 := hidden (below_next HB6.out hB); have Hk_7 := hidden (Hk_6.out.below hB (Nat.le_refl _)); have Ha_7 := hidden (Ha_6.out.below hB (Nat.le_refl _)); have Hb_7 := hidden (Hb_6.out.below hB (Nat.le_refl _)); have Hdh_7 := hidden (Hdh_6.out.below hB (Nat.le_refl _)); have Hdm_7 := hidden (Hdm_6.out.below hB (Nat.le_refl _)); have Hs_7 := hidden has; clear hB has hPP)
    | (go_at_call 24; ((with_reducible refine (joinMark_calls _ _ _ _ _ _ _ _ r w7x Hk_7.out (by omega) Hs_7.out (by omega) HR.out).mono ?_); rintro e w8x ⟨hB, Am, cm, rfl, ha⟩; have HB8 := hidden (below_next HB7.out hB); have Hk_8 := hidden (Hk_7.out.below hB (Nat.le_refl _)); have Hb_8 := hidden (Hb_7.out.below hB (Nat.le_refl _)); have Hdh_8 := hidden (Hdh_7.out.below hB (Nat.le_refl _)); have Hdm_8 := hidden (Hdm_7.out.below hB (Nat.le_refl _)); have Hs_8 := hidden (Hs_7.out.below hB (Nat.le_refl _)); have Hm_8 := hidden ha; clear hB ha))
    | (go_at_call 21; ((with_reducible refine (KS.out w8x _ _ _ _ Hdm_8.out Hm_8.out).mono ?_); rintro e w' ⟨rfl, rfl⟩))
    | (go_at_call 29; first
      | ((with_reducible refine (KA.out w9x _ _ Hh3_9.out).mono ?_); rintro e w10x ⟨rfl, hB⟩; have HB10 := hidden (below_next HB9.out hB); have Hb_10 := hidden (Hb_9.out.below hB (Nat.le_refl _)); have Hdh_10 := hidden (Hdh_9.out.below hB (Nat.le_refl _)); have Hh3_10 := hidden (Hh3_9.out.below hB (Nat.le_refl _)); clear hB ; dsimp only)
      | ((with_reducible refine (KK.out w11x _ _ Hh4_11.out).mono ?_); rintro e w12x ⟨rfl, hB⟩; have HB12 := hidden (below_next HB11.out hB); have Hb_12 := hidden (Hb_11.out.below hB (Nat.le_refl _)); have Hh4_12 := hidden (Hh4_11.out.below hB (Nat.le_refl _)); clear hB ; dsimp only)))
  try simp only [Exit.inBlock, Exit.then]
  refine bodyPost_ret (ret4_run rfl _ _) rfl ?_
  exact ⟨HB15.out, _, _, rfl, Hx_15.out⟩
end Go.Proofs.YtbdmdajbdmdknaaGreatDoor
namespace Go.Proofs.YtbdmdajbdmdknaaGreatDoor
open Go.RowKit
set_option linter.unusedVariables false
set_option linter.unusedSimpArgs false

/-- One layer around a text. -/
def layS (hd pl : List Int) : List Int := signF true hd pl
def layR (hd key pl : List Int) : List Int := shaSum (markL key (layS hd pl))
def lay1 (hd key pl : List Int) : List Int := layS hd pl ++ [46] ++ encF (alpha true) (layR hd key pl)
/-- The first i layers. -/
def layN (hd : List Int) (keys : List (List Int)) (pl : List Int) : Nat → List Int
  | 0 => pl
  | i + 1 => lay1 hd (keys.getD i []) (layN hd keys pl i)
theorem layR_sum (hd key pl : List Int) : SumIs (markL key (layS hd pl)) (layR hd key pl) := ⟨rfl⟩
theorem layR_len (hd key pl : List Int) : (layR hd key pl).length = 32 := (layR_sum hd key pl).len
theorem layS_len {hd pl : List Int} (h : hd.length ≤ 82) : (layS hd pl).length ≤ 113 + (4 * pl.length + 5) / 3 := by
  unfold layS signF tailF
  rw [if_pos rfl, List.length_append, List.length_append, encF_len, encF_len]
  simp only [List.length_cons, List.length_nil]
  omega
theorem lay1_len {hd key pl : List Int} (h : hd.length ≤ 82) : (lay1 hd key pl).length ≤ 160 + (4 * pl.length + 5) / 3 := by
  unfold lay1
  have := layS_len (pl := pl) h
  rw [List.length_append, List.length_append, encF_len (alpha true) (layR hd key pl), layR_len]
  simp only [List.length_cons, List.length_nil]
  omega
theorem layN_len {hd : List Int} {keys : List (List Int)} {pl : List Int} (h : hd.length ≤ 82) (hp : pl.length ≤ 2000) (i : Nat) (hi : i ≤ 6) : (layN hd keys pl i).length ≤ 14000 ∧ (i ≤ 5 → (layN hd keys pl i).length ≤ 10200) := by
  have h1 : (layN hd keys pl 1).length ≤ 160 + (4 * (layN hd keys pl 0).length + 5) / 3 := lay1_len h
  have h2 : (layN hd keys pl 2).length ≤ 160 + (4 * (layN hd keys pl 1).length + 5) / 3 := lay1_len h
  have h3 : (layN hd keys pl 3).length ≤ 160 + (4 * (layN hd keys pl 2).length + 5) / 3 := lay1_len h
  have h4 : (layN hd keys pl 4).length ≤ 160 + (4 * (layN hd keys pl 3).length + 5) / 3 := lay1_len h
  have h5 : (layN hd keys pl 5).length ≤ 160 + (4 * (layN hd keys pl 4).length + 5) / 3 := lay1_len h
  have h6 : (layN hd keys pl 6).length ≤ 160 + (4 * (layN hd keys pl 5).length + 5) / 3 := lay1_len h
  have h0 : (layN hd keys pl 0).length ≤ 2000 := hp
  match i, hi with
  | 0, _ | 1, _ | 2, _ | 3, _ | 4, _ | 5, _ | 6, _ => constructor <;> omega
theorem layN_isB {hd : List Int} {keys : List (List Int)} {pl : List Int} (h : IsB hd) (hp : IsB pl) : ∀ i, IsB (layN hd keys pl i)
  | 0 => hp
  | i + 1 => isB_app (isB_app (signF_isB h (layN_isB h hp i)) isB_46) (encF_isB true (layR_sum _ _ _).isB)
end Go.Proofs.YtbdmdajbdmdknaaGreatDoor
