/- headerGet, HeaderGetString. Bytes that are copied, compared, and read as a number. impl.HeadString. What unescapeStringBestEffort makes of a text, on lists of bytes. Nothing here speaks of the program. -/
import Derived.Test.YtbdmdajbdmdknaaGreatDoorM6
import Derived.Test.YtbdmdajbdmdknaaGreatDoorProg
import Derived.Test.YtbdmdajbdmdknaaGreatDoorM1
import Derived.Lib.Bytes
import Derived.Laws.Runes
namespace Go.Proofs.YtbdmdajbdmdknaaGreatDoor
open Go.RowKit
set_option linter.unusedVariables false
set_option linter.unusedSimpArgs false

/-- A head in memory, as HeaderParse leaves it. -/
def HeadAt (w : World) (B : Nat) (R : Option JV) (N : Nat) : Prop := N ≤ B ∧ (match R with
  | some v => ∃ F b o, Slot w B 0 (ptr (b, o)) ∧ Slot w B 1 .nilIface ∧ Rep w F v b o ∧ ∀ x y, F x y → N ≤ x
  | none => ∃ T a, Slot w B 0 (.pointer none) ∧ Slot w B 1 (.iface T (.pointer (some a))))
/-- What a value has behind a name. -/
def getV (un : Bs → Bs) (v : JV) (q : Bs) : Option JV := match v with
  | .obj l => getJ un l q
  | _ => none
/-- Whatever a name's texts are made of can be read. -/
structure Reads (un : Bs → Bs) (v : JV) (q : Bs) : Prop where
  keys : ∀ l, v = .obj l → (∀ p ∈ l, UnC p.1 (un p.1)) ∧ l.length ≤ 1000000000
  arr : ∀ l, v = .arr l → AtoiNo q
/-- Value.Get of one name. -/
theorem valGet_calls (w : World) (F : Nat → Nat → Prop) (v : JV) (b o g c : Nat) (un : Bs → Bs) (q : Bs) (h : Rep w F v b o) (hR : Reads un v q) (hv : ∀ t, v = .lit t → t ≠ 1 ∧ t ≠ 2) (hg : Slot w g 0 (.string (bs q))) (N : Nat) (hF : ∀ x y, F x y → N ≤ x) (hN : N ≤ w.heap.size) (hS : SynAt w) (hNg : 3 < N) (R : Option JV) (hRR : getV un v q = R) :
    Calls Tryz.prog 67 #[.pointer (some ⟨b, o, none⟩), .slice (some ⟨g, 0, none⟩) 1 c] w fun e w' => Below N w w' ∧ (match R with
      | some v => ∃ G b o, e = .returned (ptr (b, o)) ∧ Rep w' G v b o ∧ ∀ x y, G x y → N ≤ x
      | none => e = .returned (.pointer none)) := by
  have low : ∀ {w w' : World}, N ≤ w.heap.size → Below w.heap.size w w' → Below N w w' := fun hN h => ⟨h.os, h.tape, h.output, h.size, fun b hb => h.block b (Nat.lt_of_lt_of_le hb hN)⟩
  cases v with
  | obj l =>
    have hk := hR.keys l rfl
    refine (valGet_obj w F l b o g c un q h hk.1 hk.2 hS (fun x y e => Nat.lt_of_lt_of_le hNg (hF x y e)) hg R hRR).mono ?_
    rintro e w' ⟨hA, hE⟩
    refine ⟨hA.below hN (fun x y hx ⟨y', hy⟩ => by have := hF x y' hy; omega), ?_⟩
    cases R with
    | none => exact hE
    | some v =>
      obtain ⟨G, b1, o1, rfl, hr, hs⟩ := hE
      exact ⟨G, b1, o1, rfl, hr, fun x y hx => hF x y (hs x y hx)⟩
  | arr l =>
    cases hRR
    refine (valGet_arr w F l b o g c q h (hR.arr l rfl) hS hg).mono ?_
    rintro e w' ⟨rfl, hB⟩
    exact ⟨low hN hB, rfl⟩
  | lit t =>
    cases hRR
    refine (valGet_leaf w F _ b o g c q h (hv t rfl).1 (hv t rfl).2 hg).mono ?_
    rintro e w' ⟨rfl, rfl⟩
    exact ⟨low hN (Below.refl _ _), rfl⟩
  | num s =>
    cases hRR
    refine (valGet_leaf w F _ b o g c q h (by simp [tyOf]) (by simp [tyOf]) hg).mono ?_
    rintro e w' ⟨rfl, rfl⟩
    exact ⟨low hN (Below.refl _ _), rfl⟩
  | str s =>
    cases hRR
    refine (valGet_leaf w F _ b o g c q h (by simp [tyOf]) (by simp [tyOf]) hg).mono ?_
    rintro e w' ⟨rfl, rfl⟩
    exact ⟨low hN (Below.refl _ _), rfl⟩
theorem ta_head (v : Value) (W : World) : (Instr.typeAssert (.iface 101 v) 68 101 false).run Tryz.prog W = .ok v W := by kernel_rfl
def headV (un : Bs → Bs) (R : Option JV) (q : Bs) : Option JV := match R with
  | some v => getV un v q
  | none => none
/-- What headerGet leaves. -/
def HG (w : World) (N : Nat) (R : Option JV) (e : Ending) (w' : World) : Prop := Below N w w' ∧ (match R with
  | some v => ∃ G b o, e = .returned (.tuple #[ptr (b, o), .nilIface]) ∧ Rep w' G v b o ∧ ∀ x y, G x y → N ≤ x
  | none => ∃ T u, e = .returned (.tuple #[.pointer none, .iface T u]))
set_option maxRecDepth 100000 in
set_option maxHeartbeats 2000000 in
theorem headGet_calls (w : World) (B N : Nat) (R : Option JV) (un : Bs → Bs) (q : Bs) (h : HeadAt w B R N) (hR : ∀ v, R = some v → Reads un v q ∧ ∀ t, v = .lit t → t ≠ 1 ∧ t ≠ 2) (hN : N ≤ w.heap.size) (hS : SynAt w) (hNg : 3 < N) (r : Option JV) (hr : headV un R q = r) :
    Calls Tryz.prog 51 #[.iface 101 (.pointer (some ⟨B, 0, none⟩)), .string (bs q)] w (HG w N r) := by
  obtain ⟨hNB, h⟩ := h
  have low : ∀ {w w' : World}, N ≤ w.heap.size → Below w.heap.size w w' → Below N w w' := fun hN h => ⟨h.os, h.tape, h.output, h.size, fun b hb => h.block b (Nat.lt_of_lt_of_le hb hN)⟩
  cases R with
  | none =>
    obtain ⟨T, a, h0, h1⟩ := h
    have c0 := h0.1
    have c1 := h1.1
    obtain rfl : r = none := hr.symm
    have LOW := hidden (low hN (below_drewN0 (Below.refl w.heap.size w) 1))
    have hta := ta_head (.pointer (some ⟨B, 0, none⟩)) w
    clear h0 h1 hR low hS hNg
    go_enter Tryz.func51, Tryz.ntmps51
    go_upto_region 3 with (fail)
    go_region
    go_wp2
    go_ret2
    exact ⟨LOW.out, _, _, rfl⟩
  | some v =>
    obtain ⟨F, b, o, h0, h1, hRep, hF⟩ := h
    have c0 := h0.1
    have c1 := h1.1
    have hRv := hR v rfl
    have row : ∀ W : World, Row (W.alloc (.cells #[.string (bs q)] 9)) W.heap.size 9 [.string (bs q)] := fun W => Row.new W 9 [.string (bs q)]
    have hVG := valGet_calls (w.alloc (.cells #[.string (bs q)] 9)) F v b o w.heap.size 1 un q (hRep.alt (AltC.alloc w _ (fun _ _ => False)) (fun _ _ _ e => e)) hRv.1 hRv.2 (Slot.of_row (row w) 0 rfl) N hF (by simp; omega) (hS.next (below_alloc0 w _)) hNg r hr
    have HVG := hidden hVG
    have HL := hidden (low hN (below_alloc0 w (.cells #[.string (bs q)] 9)))
    clear hR hRv hRep hVG h0 h1 row hS hNg
    unfold ptr at c0
    have hta := ta_head (.pointer (some ⟨B, 0, none⟩)) w
    go_enter Tryz.func51, Tryz.ntmps51
    cases r with
    | none =>
      go_wp2_with (go_at_call 67; go_must (refine HVG.out.mono ?_; rintro e w1 ⟨hB, rfl⟩; have HB := hidden hB; clear hB))
      go_ret2
      exact ⟨HL.out.trans HB.out, _, _, rfl⟩
    | some u =>
      go_wp2_with (go_at_call 67; go_must (refine HVG.out.mono ?_; rintro e w1 ⟨hB, G, b1, o1, rfl, hE, hGN⟩; have HB := hidden hB; have HE := hidden hE; have HGN := hidden hGN; clear hB hE hGN; unfold ptr))
      go_ret2
      exact ⟨HL.out.trans HB.out, G, b1, o1, rfl, HE.out, HGN.out⟩
/-- The text behind a name. -/
def headT (un : Bs → Bs) (R : Option JV) (q : Bs) : Option Bs := match headV un R q with
  | some (.str s) => some (un s)
  | _ => none
/-- What HeaderGetString leaves. -/
def HS (w : World) (N : Nat) (r : Option Bs) (e : Ending) (w' : World) : Prop := Below N w w' ∧ (match r with
  | some s => e = .returned (.tuple #[.string (bs s), .nilIface])
  | none => ∃ T u, e = .returned (.tuple #[.string ⟨#[]⟩, .iface T u]))
set_option maxRecDepth 100000 in
set_option maxHeartbeats 2000000 in
theorem headString_calls (w : World) (B N : Nat) (R : Option JV) (un : Bs → Bs) (q : Bs) (h : HeadAt w B R N) (hR : ∀ v, R = some v → Reads un v q ∧ ∀ t, v = .lit t → t ≠ 1 ∧ t ≠ 2) (hV : ∀ v, headV un R q = some v → (∀ t, v = .lit t → t ≠ 7 ∧ t ≠ 3) ∧ ∀ s, v = .str s → UnC s (un s)) (hN : N ≤ w.heap.size) (hS : SynAt w) (hNg : 3 < N) (r : Option Bs) (hr : headT un R q = r) :
    Calls Tryz.prog 33 #[.iface 101 (.pointer (some ⟨B, 0, none⟩)), .string (bs q)] w (HS w N r) := by
  obtain ⟨V, hVV⟩ : ∃ V, headV un R q = V := ⟨_, rfl⟩
  have HG1 := hidden (headGet_calls w B N R un q h hR hN hS hNg V hVV)
  unfold headT at hr
  rw [hVV] at hr hV
  have low : Hid (∀ {w w' : World}, N ≤ w.heap.size → Below w.heap.size w w' → Below N w w') := hidden (fun hN h => ⟨h.os, h.tape, h.output, h.size, fun b hb => h.block b (Nat.lt_of_lt_of_le hb hN)⟩)
  have HN := hidden hN
  have HSY := hidden (And.intro hS hNg)
  clear h hR hVV hN hS hNg
  cases V with
  | none =>
    obtain rfl : r = none := hr.symm
    clear hV hr
    go_enter Tryz.func33, Tryz.ntmps33
    go_wp2_with (go_at_call 51; go_must (refine HG1.out.mono ?_; rintro e w1 ⟨hB, T, u, rfl⟩; have HB := hidden hB; clear hB))
    go_ret2
    exact ⟨HB.out, _, _, rfl⟩
  | some v =>
    have hv := hV v rfl
    clear hV
    by_cases hs : ∃ s, v = .str s
    · obtain ⟨s, rfl⟩ := hs
      obtain rfl : r = some (un s) := hr.symm
      have HU := hidden (hv.2 s rfl)
      have hsz : (bs (un s)).size = (un s).length := by rw [size_toL, toL_bs]
      have HZ := hidden hsz
      clear hv hr hsz
      go_enter Tryz.func33, Tryz.ntmps33
      go_upto_region 7 with (first
        | (go_at_call 51; go_must (refine HG1.out.mono ?_; rintro e w1 ⟨hB, G, b, o, rfl, hRep, hGN⟩; have HB := hidden hB; have HR := hidden hRep; have HGN := hidden hGN; clear hB hRep hGN; unfold ptr))
        | (go_at_call 52; go_must (refine (strBytes_str _ G s (un s) b o HR.out HU.out (HSY.out.1.below HB.out HSY.out.2)).mono ?_; rintro e w2 ⟨A, n, c, rfl, hn, hRd, hA⟩; have HRd := hidden hRd; have HN2 := hidden hn; have HA := hidden hA; clear hRd hn hA)))
      have hcv : (convert 31 9 (.slice A n c)).run Tryz.prog w2 = .ok (.string (bs (un s))) w2 := by
        have := run_string (P := Tryz.prog) (W := w2) (c := c) Tryz.underlying31 Tryz.underlying5 Tryz.underlying9 HRd.out (n := n) (by rw [bI_len, HZ.out]; exact HN2.out.symm)
        rwa [str_bI] at this
      go_wp2
      go_ret2
      refine ⟨HB.out.trans (HA.out.below (Nat.le_trans HN.out HB.out.size) (fun x y hx e => ?_)), rfl⟩
      have := HGN.out b (o + 4) HR.out.ty.1
      omega
    · have hrn : r = none := by
        cases v with
        | str s => exact absurd ⟨s, rfl⟩ hs
        | _ => exact hr.symm
      subst hrn
      have hty : tyOf v ≠ 7 ∧ tyOf v ≠ 3 := by
        cases v with
        | str s => exact absurd ⟨s, rfl⟩ hs
        | lit t => exact hv.1 t rfl
        | _ => simp [tyOf]
      have HTY := hidden hty
      clear hv hr hs hty
      go_enter Tryz.func33, Tryz.ntmps33
      go_wp2_with (first
        | (go_at_call 51; go_must (refine HG1.out.mono ?_; rintro e w1 ⟨hB, G, b, o, rfl, hRep, hGN⟩; have HB := hidden hB; have HR := hidden hRep; have HGN := hidden hGN; clear hB hRep hGN; unfold ptr))
        | (go_at_call 52; go_must (refine (strBytes_no _ G v b o HR.out HTY.out.1 HTY.out.2).mono ?_; rintro e w2 ⟨T, a, rfl, hB2⟩; have HB2 := hidden hB2; clear hB2)))
      go_ret2
      exact ⟨HB.out.trans (low.out (Nat.le_trans HN.out HB.out.size) HB2.out), _, _, rfl⟩
end Go.Proofs.YtbdmdajbdmdknaaGreatDoor
namespace Go.Proofs.YtbdmdajbdmdknaaGreatDoor
open Go.RowKit
set_option linter.unusedVariables false
set_option linter.unusedSimpArgs false

theorem info_u8 : (Tryz.prog.info? 5).map (fun i => (i.zero, i.size, i.bytes)) = some (some (.int .u8 0), 1, 1) := by kernel_rfl

/-- A new slice of bytes. -/
def NewB (w : World) (l : List Int) (e : Ending) (w' : World) : Prop := ∃ v, e = .returned v ∧ Own w' w.heap.size 5 v (nums .u8 l) ∧ Below w.heap.size w w'

theorem same_str {a b : List Int} (ha : IsB a) (hb : IsB b) : ((strOfNums a).toList == (strOfNums b).toList) = decide (a = b) := by
  rw [Bool.eq_iff_iff, beq_iff_eq, decide_eq_true_iff]
  constructor
  · intro h
    refine bytes_inj ha hb ?_
    rw [Lib.strOfNums_toList, Lib.strOfNums_toList] at h
    have h2 : (strOfNums a).data.toList = (strOfNums b).data.toList := h
    cases hx : strOfNums a; cases hy : strOfNums b
    rw [hx, hy] at h2
    congr 1
    exact Array.toList_inj.1 h2
  · rintro rfl; rfl
theorem own_empty (w : World) (e : Nat) : Own (w.alloc (.cells #[] e)) w.heap.size e (.slice (some ⟨w.heap.size, 0, none⟩) 0 0) [] :=
  Own.of_row (vs := []) (rest := []) (Row.new w e []) (Nat.le_refl _) rfl (by simp [maxLen])

set_option maxHeartbeats 400000 in
theorem partOwn_calls (A : Option Addr) (n c : Nat) (l : List Int) (w : World) (h : Rd w A (nums .u8 l)) (hn : l.length = n) (hb : n ≤ 140737488355328) :
    Calls Tryz.prog 18 #[.slice A n c] w (NewB w l) := by
  subst hn
  go_enter Tryz.func18, Tryz.ntmps18
  go_wp2_with (at_builtin; refine walk_app (base := w.heap.size) rfl (.tmp 3) (.tmp 4) rfl Tryz.underlying31 info_u8 rfl (by decide) rfl rfl (own_empty w _) (h.alloc _) (nums_len _ _) (nums_one _ _) (by simp) (by simpa [nums_len] using hb) ?_; intro v1 w1 HO1 hg1 _)
  go_ret
  exact ⟨v1, rfl, by simpa using HO1, below_app (below_alloc0 w _) hg1 (own_empty w _) (Nat.le_refl _) (by simp)⟩

set_option maxHeartbeats 400000 in
theorem clone_calls (A : Option Addr) (n c : Nat) (l : List Int) (w : World) (h : Rd w A (nums .u8 l)) (hn : l.length = n) (hc : n ≤ c) (hA : A = none → c = 0) (hb : n ≤ 140737488355328) :
    Calls Tryz.prog 12 #[.slice A n c] w (NewB w l) := by
  subst hn
  cases A with
  | none =>
    have hc0 := hA rfl
    subst hc0
    have hl : l = [] := List.eq_nil_of_length_eq_zero (by omega)
    subst hl
    clear hA hc hb h
    have heq : ∀ W : World, (binOp .eql 31 (.slice none 0 0) (.slice none 0 0)).run Tryz.prog W = .ok (.bool true) W := fun W => Lib.run_eql_slice_nil W _ _ _ _ _ _ _ Tryz.underlying31
    simp only [List.length_nil]
    go_enter Tryz.func12, Tryz.ntmps12
    go_wp2
    go_ret
    exact ⟨.slice none 0 0, rfl, Own.nil _ _ _, Below.refl _ _⟩
  | some ad =>
    clear hA
    have heq : ∀ W : World, (binOp .eql 31 (.slice (some ad) l.length c) (.slice none 0 0)).run Tryz.prog W = .ok (.bool false) W := fun W => Lib.run_eql_slice_nil W _ _ _ _ _ _ _ Tryz.underlying31
    go_enter Tryz.func12, Tryz.ntmps12
    go_wp2_with (at_builtin; refine walk_app (base := w.heap.size) rfl (.tmp 5) (.tmp 6) rfl Tryz.underlying31 info_u8 rfl (by decide) rfl rfl (own_empty w _) (h.alloc _) (nums_len _ _) (nums_one _ _) (by simp) (by simpa [nums_len] using hb) ?_; intro v1 w1 HO1 hg1 _)
    go_ret
    exact ⟨v1, rfl, by simpa using HO1, below_app (below_alloc0 w _) hg1 (own_empty w _) (Nat.le_refl _) (by simp)⟩

set_option maxHeartbeats 400000 in
theorem partSame_calls (A B : Option Addr) (n c n' c' : Nat) (l l' : List Int) (w : World) (h : Rd w A (nums .u8 l)) (hn : l.length = n) (h' : Rd w B (nums .u8 l')) (hn' : l'.length = n') (hb : IsB l) (hb' : IsB l') :
    Calls Tryz.prog 21 #[.slice A n c, .slice B n' c'] w fun e w' => e = .returned (.bool (decide (l = l'))) ∧ w = w' := by
  have k1 := run_string (P := Tryz.prog) (c := c) Tryz.underlying31 Tryz.underlying5 Tryz.underlying9 h hn
  have k2 := run_string (P := Tryz.prog) (c := c') Tryz.underlying31 Tryz.underlying5 Tryz.underlying9 h' hn'
  clear h h' hn hn'
  go_enter Tryz.func21, Tryz.ntmps21
  have k3 := hidden (same_str hb hb')
  go_wp2
  go_ret
  exact ⟨congrArg (fun b => Ending.returned (.bool b)) k3.out, rfl⟩
end Go.Proofs.YtbdmdajbdmdknaaGreatDoor
namespace Go.Proofs.YtbdmdajbdmdknaaGreatDoor
open Go.RowKit
set_option linter.unusedVariables false
set_option linter.unusedSimpArgs false

theorem HP.at {w w' : World} {R : Option JV} {e : Ending} (h : HP w R e w') : ∃ B, e = .returned (.iface 101 (.pointer (some ⟨B, 0, none⟩))) ∧ HeadAt w' B R w.heap.size ∧ Below w.heap.size w w' := by
  obtain ⟨hB, B, hlt, rfl, hR⟩ := h
  exact ⟨B, rfl, ⟨hlt, hR⟩, hB⟩
/-- impl.head. -/
def HI (w : World) (R : Option JV) (e : Ending) (w' : World) : Prop := ∃ B, e = .returned (.iface 101 (.pointer (some ⟨B, 0, none⟩))) ∧ HeadAt w' B R w.heap.size ∧ Below w.heap.size w w'
set_option maxRecDepth 100000 in
set_option maxHeartbeats 1000000 in
theorem head_calls (w : World) (s : ByteArray) (A : Option Addr) (n c : Nat) (hr : Rd w A (nums .u8 (bI s))) (hn : s.size = n) (hc : n ≤ c) (hA : A = none → c = 0) (hN : s.size ≤ 100000000) (R : Option JV) (hR : pText s.data.toList = R) :
    Calls Tryz.prog 46 #[.slice A n c] w (HI w R) := by
  subst hn
  have HC := hidden (clone_calls A s.size c (bI s) w hr (by rw [bI_len]) hc hA (by omega))
  have HX := hidden hR
  have Hn : Hid ((nums .u8 (bI s)).length = s.size) := hidden (by rw [nums_len, bI_len])
  clear hr hR hc hA
  go_enter Tryz.func46, Tryz.ntmps46
  go_wp2_with (first
    | (go_at_call 12; go_must (refine HC.out.mono ?_; rintro e w1 ⟨v1, rfl, hO1, hB1⟩; obtain ⟨A1, c1, rfl, hc1, hr1, hA1⟩ := hO1.read; rw [Hn.out]; have HR1 := hidden hr1; have HB1 := hidden hB1; clear hr1 hB1 hA1 hO1 hc1))
    | (go_at_call 54; go_must (refine (headParse_calls w1 s A1 s.size c1 HR1.out rfl hN R HX.out).mono ?_; intro e w2 h; obtain ⟨B, rfl, hH, hB⟩ := h.at; have HH := hidden hH; have HB := hidden hB; clear h hH hB)))
  go_ret
  have low : ∀ {N : Nat} {a b : World}, N ≤ a.heap.size → Below a.heap.size a b → Below N a b := fun hN h => ⟨h.os, h.tape, h.output, h.size, fun b hb => h.block b (Nat.lt_of_lt_of_le hb hN)⟩
  refine ⟨B, rfl, ?_, HB1.out.trans (low HB1.out.size HB.out)⟩
  obtain ⟨h1, h2⟩ := HH.out
  refine ⟨Nat.le_trans HB1.out.size h1, ?_⟩
  cases R with
  | none => exact h2
  | some v =>
    obtain ⟨F, b, o, g1, g2, g3, g4⟩ := h2
    exact ⟨F, b, o, g1, g2, g3, fun x y h => Nat.le_trans HB1.out.size (g4 x y h)⟩
/-- What HeadString gives. -/
def HStr (w : World) (r : Option Bs) (e : Ending) (w' : World) : Prop := Below w.heap.size w w' ∧ e = .returned (.tuple #[.string (bs (r.getD [])), .bool r.isSome])
set_option maxRecDepth 100000 in
set_option maxHeartbeats 1000000 in
theorem implHeadString_calls (w : World) (s : ByteArray) (A : Option Addr) (n c : Nat) (un : Bs → Bs) (q : Bs) (hr : Rd w A (nums .u8 (bI s))) (hn : s.size = n) (hc : n ≤ c) (hA : A = none → c = 0) (hN : s.size ≤ 100000000) (R : Option JV) (hR : pText s.data.toList = R)
    (h1 : ∀ v, R = some v → Reads un v q ∧ ∀ t, v = .lit t → t ≠ 1 ∧ t ≠ 2) (h2 : ∀ v, headV un R q = some v → (∀ t, v = .lit t → t ≠ 7 ∧ t ≠ 3) ∧ ∀ s, v = .str s → UnC s (un s)) (hS : SynAt w) (r : Option Bs) (hrr : headT un R q = r) :
    Calls Tryz.prog 29 #[.slice A n c, .string (bs q)] w (HStr w r) := by
  have HH := hidden (head_calls w s A n c hr hn hc hA hN R hR)
  have HS1 := hidden (fun (W : World) (B : Nat) (hB : HeadAt W B R w.heap.size) (hW : w.heap.size ≤ W.heap.size) (hSW : SynAt W) => headString_calls W B w.heap.size R un q hB h1 h2 hW hSW hS.lt r hrr)
  have HSY := hidden hS
  clear hr hn hc hA hR h1 h2 hrr hS
  go_enter Tryz.func29, Tryz.ntmps29
  cases r with
  | none =>
    go_upto_region 2 with (first
      | (go_at_call 46; go_must (refine HH.out.mono ?_; rintro e w1 ⟨B, rfl, hH, hB⟩; have HH1 := hidden hH; have HB := hidden hB; clear hH hB))
      | (go_at_call 33; go_must (refine (HS1.out w1 B HH1.out HB.out.size (HSY.out.next HB.out)).mono ?_; rintro e w2 ⟨hB2, T, u, rfl⟩; have HB2 := hidden hB2; clear hB2)))
    go_region
    go_wp2
    go_ret2
    exact ⟨(HB.out.trans HB2.out).trans (below_drewN0 (Below.refl _ _) 1), rfl⟩
  | some s' =>
    go_upto_region 2 with (first
      | (go_at_call 46; go_must (refine HH.out.mono ?_; rintro e w1 ⟨B, rfl, hH, hB⟩; have HH1 := hidden hH; have HB := hidden hB; clear hH hB))
      | (go_at_call 33; go_must (refine (HS1.out w1 B HH1.out HB.out.size (HSY.out.next HB.out)).mono ?_; rintro e w2 ⟨hB2, rfl⟩; have HB2 := hidden hB2; clear hB2)))
    go_region
    go_wp2
    go_ret2
    exact ⟨(HB.out.trans HB2.out).trans (below_drewN0 (Below.refl _ _) 1), rfl⟩
end Go.Proofs.YtbdmdajbdmdknaaGreatDoor
namespace Go.Proofs.YtbdmdajbdmdknaaGreatDoor
set_option linter.unusedVariables false
set_option linter.unusedSimpArgs false

/-- The digit of a hexadecimal letter. -/
def hexD (c : UInt8) : Option Nat :=
  if 48 ≤ c ∧ c ≤ 57 then some (c.toNat - 48)
  else if 97 ≤ c ∧ c ≤ 102 then some (c.toNat - 87)
  else if 65 ≤ c ∧ c ≤ 70 then some (c.toNat - 55)
  else none
def hexL : Nat → Bs → Option Nat
  | n, [] => some n
  | n, c :: l => match hexD c with
    | none => none
    | some d => hexL (n * 16 + d) l
def hex4 (l : Bs) : Option Nat := hexL 0 l
def utf (r : Int) : Bs := (Utf8.encode r).data.toList
def sur (x : Nat) : Bool := decide (55296 ≤ x ∧ x < 57344)
def decR (x y : Nat) : Int := if 55296 ≤ x ∧ x < 56320 ∧ 56320 ≤ y ∧ y < 57344 then ((x : Int) - 55296) * 1024 + ((y : Int) - 56320) + 65536 else 65533
/-- What stands for the escape of a letter, and what is left of the text behind it. -/
def escU (s : Bs) : Bs × Bs :=
  if s.length < 4 then ([92, 117], s)
  else match hex4 (s.take 4) with
    | none => ([92, 117], s)
    | some x =>
      if sur x = false then (utf x, s.drop 4)
      else if (s.drop 4).length < 6 ∨ (s.drop 4).getD 0 0 ≠ 92 ∨ (s.drop 4).getD 1 0 ≠ 117 then ([92, 117] ++ s.take 4, s.drop 4)
      else match hex4 ((s.drop 6).take 4) with
        | none => ([92, 117] ++ s.take 4, s.drop 4)
        | some y => (utf (decR x y), s.drop 10)
def esc1 (c : UInt8) : Bs :=
  if c = 34 ∨ c = 92 ∨ c = 47 then [c] else if c = 98 then [8] else if c = 102 then [12] else if c = 110 then [10] else if c = 114 then [13] else if c = 116 then [9] else [92, c]
def escB (c : UInt8) (s : Bs) : Bs × Bs := if c = 117 then escU s else (esc1 c, s)
/-- The text ahead of its first backslash, and what stands behind that. -/
def unA (s : Bs) : Bs := s.takeWhile (· != 92)
def unZ (s : Bs) : Bs := (s.dropWhile (· != 92)).drop 1
/-- What is made of the text behind a backslash. -/
def unT : Nat → Bs → Bs
  | 0, _ => []
  | _ + 1, [] => []
  | n + 1, c :: s => (escB c s).1 ++ (unA (escB c s).2 ++ unT n (unZ (escB c s).2))
def unB (s : Bs) : Bs := unA s ++ unT s.length (unZ s)

theorem escU_len (s : Bs) : (escU s).2.length ≤ s.length := by
  unfold escU
  split
  · simp
  · split
    · simp
    · split
      · simp
      · split
        · simp
        · split <;> simp
theorem escB_len (c : UInt8) (s : Bs) : (escB c s).2.length ≤ s.length := by
  unfold escB
  split
  · exact escU_len s
  · simp
theorem unZ_len (s : Bs) : (unZ s).length ≤ s.length := by
  have := List.Sublist.length_le (List.dropWhile_sublist (· != (92 : UInt8)) (l := s))
  unfold unZ
  rw [List.length_drop]; omega
theorem unT_fuel : ∀ (n m : Nat) (s : Bs), s.length ≤ n → s.length ≤ m → unT n s = unT m s
  | 0, m, s, h, _ => by
    obtain rfl : s = [] := List.eq_nil_of_length_eq_zero (by omega)
    cases m <;> rfl
  | n + 1, 0, s, _, h => by
    obtain rfl : s = [] := List.eq_nil_of_length_eq_zero (by omega)
    rfl
  | n + 1, m + 1, [], _, _ => rfl
  | n + 1, m + 1, c :: s, h1, h2 => by
    have h3 := unZ_len (escB c s).2
    have h4 := escB_len c s
    simp only [List.length_cons] at h1 h2
    unfold unT
    rw [unT_fuel n m (unZ (escB c s).2) (by omega) (by omega)]
theorem unA_nil : unA [] = [] := rfl
theorem unZ_nil : unZ [] = [] := rfl
theorem unA_cons {c : UInt8} (h : c ≠ 92) (s : Bs) : unA (c :: s) = c :: unA s := by simp [unA, h]
theorem unZ_cons {c : UInt8} (h : c ≠ 92) (s : Bs) : unZ (c :: s) = unZ s := by simp [unZ, h]
theorem unA_esc (s : Bs) : unA (92 :: s) = [] := by simp [unA]
theorem unZ_esc (s : Bs) : unZ (92 :: s) = s := by simp [unZ]
theorem unB_nil : unB [] = [] := rfl
theorem unB_eq (s : Bs) (n : Nat) (h : s.length ≤ n) : unB s = unA s ++ unT n (unZ s) := by
  unfold unB
  rw [unT_fuel s.length n _ (unZ_len s) (Nat.le_trans (unZ_len s) h)]
theorem unB_cons {c : UInt8} (h : c ≠ 92) (s : Bs) : unB (c :: s) = c :: unB s := by
  rw [unB_eq (c :: s) (s.length + 1) (by simp), unB_eq s (s.length + 1) (by omega), unA_cons h, unZ_cons h]; rfl
theorem unB_esc (c : UInt8) (s : Bs) : unB (92 :: c :: s) = (escB c s).1 ++ unB (escB c s).2 := by
  have h4 := escB_len c s
  rw [unB_eq (92 :: c :: s) (s.length + 1 + 1) (by simp), unA_esc, unZ_esc, unB_eq (escB c s).2 (s.length + 1) (by omega)]
  rfl
theorem unB_raw : ∀ (a s : Bs), (92 : UInt8) ∉ a → unB (a ++ s) = a ++ unB s
  | [], s, _ => rfl
  | c :: a, s, h => by
    have h1 : c ≠ 92 := fun e => h (by rw [e]; exact List.mem_cons_self)
    rw [List.cons_append, unB_cons h1, unB_raw a s (fun e => h (List.mem_cons_of_mem _ e))]; rfl
theorem unB_plain (s : Bs) (h : (92 : UInt8) ∉ s) : unB s = s := by
  have := unB_raw s [] h
  simpa [unB_nil] using this
theorem unB_one (s : Bs) (c : UInt8) (h : c ≠ 117) : unB (92 :: c :: s) = esc1 c ++ unB s := by
  rw [unB_esc]; simp [escB, h]
end Go.Proofs.YtbdmdajbdmdknaaGreatDoor
