/- ParseBytes, HeaderParse. The names of an object, and what stands behind a name: unescapeKeys, Object.Get, Value.Get. What stands behind a name: Value.Get. Texts of values: Value.Type, StringBytes, headerGet, HeaderGetString. -/
import Derived.Test.YtbdmdajbdmdknaaDoorJsonAA
import Derived.Lib.ConvBytes
namespace Go.Proofs.YtbdmdajbdmdknaaDoor
open Go.RowKit
set_option linter.unusedVariables false
set_option linter.unusedSimpArgs false

set_option maxRecDepth 100000 in
set_option maxHeartbeats 1000000 in
theorem parseBytes_calls (w : World) (P : Nat) (s : ByteArray) (A : Option Addr) (n c : Nat) (h0 : Slot w P 0 (.slice none 0 0)) (h1 : Slot w P 1 (.slice none 0 0)) (hr : Rd w A (nums .u8 (bI s))) (hn : s.size = n) (hN : s.size ≤ 200000000) (R : Option JV) (hR : pText s.data.toList = R) :
    Calls Tryd.prog 46 #[.pointer (some ⟨P, 0, none⟩), .slice A n c] w (PT w P R) := by
  have HB := hidden (b2s_calls A n c s w hr hn)
  have HP := hidden (parse_calls w P s h0 h1 hN R hR)
  clear h0 h1 hr hR
  go_enter Tryd.func46, Tryd.ntmps46
  cases R with
  | none =>
    go_wp2_with (first
      | (go_at_call 54; go_must (refine HB.out.mono ?_; rintro e wq ⟨rfl, rfl⟩))
      | (go_at_call 53; go_must (refine HP.out.mono ?_; rintro e w1 ⟨hA, T, a, rfl⟩; have HA := hidden hA; clear hA)))
    go_ret2
    exact ⟨HA.out, _, _, rfl⟩
  | some v =>
    go_wp2_with (first
      | (go_at_call 54; go_must (refine HB.out.mono ?_; rintro e wq ⟨rfl, rfl⟩))
      | (go_at_call 53; go_must (refine HP.out.mono ?_; rintro e w1 ⟨hA, F, b, o, rfl, hB⟩; have HA := hidden hA; have HR := hidden hB; clear hA hB; unfold ptr)))
    go_ret2
    exact ⟨HA.out, F, b, o, rfl, HR.out⟩
/-- A head that was parsed: a box of a value and an error. -/
def HP (w : World) (R : Option JV) (e : Ending) (w' : World) : Prop := Below w.heap.size w w' ∧ ∃ B, w.heap.size ≤ B ∧ e = .returned (.iface 94 (.pointer (some ⟨B, 0, none⟩))) ∧ (match R with
  | some v => ∃ F b o, Slot w' B 0 (ptr (b, o)) ∧ Slot w' B 1 .nilIface ∧ Rep w' F v b o ∧ ∀ x y, F x y → w.heap.size ≤ x
  | none => ∃ T a, Slot w' B 0 (.pointer none) ∧ Slot w' B 1 (.iface T (.pointer (some a))))
set_option maxRecDepth 100000 in
set_option maxHeartbeats 1000000 in
theorem headParse_calls (w : World) (s : ByteArray) (A : Option Addr) (n c : Nat) (hr : Rd w A (nums .u8 (bI s))) (hn : s.size = n) (hN : s.size ≤ 200000000) (R : Option JV) (hR : pText s.data.toList = R) :
    Calls Tryd.prog 42 #[.slice A n c] w (HP w R) := by
  have HR := hidden hr
  have HX := hidden hR
  clear hr hR
  go_enter Tryd.func42, Tryd.ntmps42
  have hrow : Row (w.alloc (.cells #[.slice none 0 0, .slice none 0 0] 104)) w.heap.size 104 [.slice none 0 0, .slice none 0 0] := Row.new w 104 [.slice none 0 0, .slice none 0 0]
  have HPB := hidden (parseBytes_calls (w.alloc (.cells #[.slice none 0 0, .slice none 0 0] 104)) w.heap.size s A n c (Slot.of_row hrow 0 rfl) (Slot.of_row hrow 1 rfl) (HR.out.alloc _) hn hN R HX.out)
  clear hrow HR HX
  have fin : ∀ (w1 : World) (x y : Value), AltC (w.alloc (.cells #[.slice none 0 0, .slice none 0 0] 104)) w1 (fun x _ => x = w.heap.size) → Below w.heap.size w (w1.alloc (.cells #[x, y] 96)) ∧ w.heap.size ≤ w1.heap.size ∧ Slot (w1.alloc (.cells #[x, y] 96)) w1.heap.size 0 x ∧ Slot (w1.alloc (.cells #[x, y] 96)) w1.heap.size 1 y := by
    intro w1 x y hA
    have hsz : w.heap.size ≤ w1.heap.size := by have := hA.size; simp at this; omega
    have hrow := Row.new w1 96 [x, y]
    refine ⟨?_, hsz, Slot.of_row hrow 0 rfl, Slot.of_row hrow 1 rfl⟩
    exact ((below_alloc0 w _).trans (hA.below (by simp) (fun b o hb e => by omega))).alloc hsz _
  cases R with
  | none =>
    go_wp2_with (go_at_call 46; go_must (refine HPB.out.mono ?_; rintro e w1 ⟨hA, T, a, rfl⟩; have HA := hidden hA; clear hA))
    go_ret
    obtain ⟨f1, f2, f3, f4⟩ := fin w1 (.pointer none) (.iface T (.pointer (some a))) HA.out
    exact ⟨f1, w1.heap.size, f2, rfl, T, a, f3, f4⟩
  | some v =>
    go_wp2_with (go_at_call 46; go_must (refine HPB.out.mono ?_; rintro e w1 ⟨hA, F, b, o, rfl, hB, hF⟩; have HA := hidden hA; have HR := hidden hB; have HF := hidden hF; clear hA hB hF; unfold ptr))
    go_ret
    obtain ⟨f1, f2, f3, f4⟩ := fin w1 (ptr (b, o)) .nilIface HA.out
    exact ⟨f1, w1.heap.size, f2, rfl, F, b, o, f3, f4, HR.out.alt (AltC.alloc _ _ (fun _ _ => False)) (fun _ _ _ h => h), fun x y h => by have := HF.out x y h; simp at this; omega⟩
end Go.Proofs.YtbdmdajbdmdknaaDoor
namespace Go.Proofs.YtbdmdajbdmdknaaDoor
open Go.RowKit
set_option linter.unusedVariables false
set_option linter.unusedSimpArgs false

/-- The variable strconv.ErrSyntax is there. -/
def SynAt (w : World) : Prop := ∃ T a, w.cell? ⟨2, 0, none⟩ = some (.iface T (.pointer (some a)))
theorem SynAt.lt {w : World} (h : SynAt w) : 2 < w.heap.size := by obtain ⟨T, a, h⟩ := h; exact World.block_lt_of_cell? w _ h
theorem SynAt.below {w w1 : World} {B : Nat} (h : SynAt w) (hb : Below B w w1) (hB : 2 < B) : SynAt w1 := by
  obtain ⟨T, a, h⟩ := h
  exact ⟨T, a, (hb.cell (p := ⟨2, 0, none⟩) hB).trans h⟩
theorem SynAt.next {w w1 : World} (h : SynAt w) (hb : Below w.heap.size w w1) : SynAt w1 := h.below hb h.lt
theorem SynAt.alt {w w1 : World} {S : Nat → Nat → Prop} (h : SynAt w) (hb : AltC w w1 S) (hn : ¬ S 2 0) : SynAt w1 := by
  have hl := h.lt
  obtain ⟨T, a, h⟩ := h
  exact ⟨T, a, (hb.cell _ 0 hl hn).1.trans h⟩
/-- What unescapeStringBestEffort makes of a text. -/
def UnC (s s' : Bs) : Prop := ∀ w, SynAt w → Calls Tryd.prog 55 #[.string (bs s)] w fun e w' => e = .returned (.string (bs s')) ∧ Below w.heap.size w w'
theorem indexByte_no (c : UInt8) : ∀ l : Bs, c ∉ l → Go.Lib.indexByte l c = -1
  | [], _ => rfl
  | x :: l, h => by
    have h1 := indexByte_no c l (fun e => h (List.mem_cons_of_mem _ e))
    have h2 : ¬ (x = c) := fun e => h (by rw [e]; exact List.mem_cons_self)
    unfold Go.Lib.indexByte
    simp [h1, h2]
set_option maxRecDepth 100000 in
set_option maxHeartbeats 1000000 in
theorem unC_plain (s : Bs) (h : (92 : UInt8) ∉ s) : UnC s s := by
  intro w _
  have HI : Hid (Go.Lib.indexByte (bs s).data.toList (92 : Int).toNat.toUInt8 = -1) := hidden (indexByte_no 92 s h)
  clear h
  go_enter Tryd.func55, Tryd.ntmps55
  go_wp2_with (go_at_call 57; go_must (refine (idx_calls _ _ _).mono ?_; rintro e wq ⟨rfl, rfl⟩; rw [HI.out]))
  go_ret
  exact ⟨rfl, Below.refl _ _⟩
def SKey (B o k : Nat) (x y : Nat) : Prop := (x = B ∧ y = o + 1) ∨ (x = k ∧ ∃ i, y = i * 2)
structure KInv (w wr : World) (k n i : Nat) (key key' : Nat → Bs) : Prop where
  alt : AltC w wr (fun x y => x = k ∧ ∃ i, y = i * 2)
  done : ∀ j, j < i → j < n → Slot wr k (j * 2) (.string (bs (key' j)))
  todo : ∀ j, i ≤ j → j < n → Slot wr k (j * 2) (.string (bs (key j)))
theorem KInv.step {w wr w1 : World} {k n i : Nat} {key key' : Nat → Bs} (h : KInv w wr k n i key key') (hi : i < n) (hB : Below wr.heap.size wr w1) : KInv w (w1.setCell ⟨k, i * 2, none⟩ (.string (bs (key' i)))) k n (i + 1) key key' := by
  have h1 : AltC wr w1 (fun _ _ => False) := AltC.of_below hB _
  have h2 := AltC.set w1 k (i * 2) (.string (bs (key' i)))
  refine ⟨(h.alt.trans h1 (fun _ _ _ e => e.elim)).trans h2 (fun x y _ e => ⟨e.1, i, e.2⟩), fun j hj hn => ?_, fun j hj hn => ?_⟩
  · by_cases e : j = i
    · subst e
      exact ((h.todo j (Nat.le_refl _) hn).alt h1 (fun e => e)).set _
    · exact ((h.done j (by omega) hn).alt h1 (fun e => e)).alt h2 (fun e => by omega)
  · exact ((h.todo j (by omega) hn).alt h1 (fun e => e)).alt h2 (fun e => by omega)
set_option maxRecDepth 100000 in
set_option maxHeartbeats 2000000 in
theorem unKeys_some (w : World) (B o k n c : Nat) (key key' : Nat → Bs) (h0 : Slot w B o (.slice (some ⟨k, 0, none⟩) n c)) (h1 : Slot w B (o + 1) (.bool false)) (hkB : k ≠ B)
    (hk : ∀ i, i < n → Slot w k (i * 2) (.string (bs (key i)))) (hU : ∀ i, i < n → UnC (key i) (key' i)) (hn : n ≤ 1000000000) (hS : SynAt w) (hkg : 2 < k) :
    Calls Tryd.prog 58 #[.pointer (some ⟨B, o, none⟩)] w fun e w' => e = .returned (.tuple #[]) ∧ AltC w w' (SKey B o k) ∧ ∀ j, j < n → Slot w' k (j * 2) (.string (bs (key' j))) := by
  have HI : Hid (KInv w w k n 0 key key') := hidden ⟨AltC.refl _ _, fun j hj => by omega, fun j _ => hk j⟩
  have HU := hidden hU
  have HSY := hidden (And.intro hS hkg)
  have H1 := hidden h1
  have c0 := h0.1
  have c1 := h1.1
  clear hk hU h0 h1 hS hkg
  go_enter Tryd.func58, Tryd.ntmps58
  go_wp2
  clear c0 c1
  go_loopw [15] (fun i wr => ∃ m : Nat, m ≤ n ∧ i = .int .i64 m ∧ Hid (KInv w wr k n m key key')) (fun i _ => n - (intOf i).toNat)
  case atStart => exact ⟨0, by omega, rfl, HI⟩
  case round =>
    obtain ⟨m, hm, rfl, HM⟩ := hrel
    by_cases hlt : m < n
    · have hc := HM.out.todo m (Nat.le_refl _) hlt
      have c3 := hc.1
      have f3 := hc.2
      have hUm := hidden (HU.out m hlt wr (HSY.out.1.alt HM.out.alt (fun e => by have := HSY.out.2; omega)))
      clear hc
      go_wp2_with (go_at_call 55; go_must (refine hUm.out.mono ?_; rintro e w1 ⟨rfl, hB⟩; have HS := hidden (HM.out.step hlt hB); have c4 := hB.cell (p := ⟨k, m * 2, none⟩) (World.block_lt_of_cell? _ _ c3); have f4 := hB.frozen (p := ⟨k, m * 2, none⟩) (World.block_lt_of_cell? _ _ c3); rw [c3] at c4; rw [f3] at f4; clear hB))
      go_roundw
      case rel => exact ⟨m + 1, by omega, by go_num, HS⟩
      case measure => simp [intOf]; omega
    · obtain rfl : m = n := by omega
      have hs1 := H1.out.alt HM.out.alt (fun e => hkB e.1.symm)
      have c5 := hs1.1
      have f5 := hs1.2
      have HF := hidden hs1
      clear hs1
      go_wp2
      go_end0
      have h2 := AltC.set wr B (o + 1) (.bool true)
      exact ⟨rfl, (HM.out.alt.mono (fun x y _ e => .inr e)).trans h2 (fun x y _ e => .inl e), fun j hj => (HM.out.done j hj hj).alt h2 (fun e => hkB e.1)⟩
set_option maxRecDepth 100000 in
set_option maxHeartbeats 2000000 in
theorem unKeys_none (w : World) (B o : Nat) (A : Option Addr) (c : Nat) (h0 : Slot w B o (.slice A 0 c)) (h1 : Slot w B (o + 1) (.bool false)) :
    Calls Tryd.prog 58 #[.pointer (some ⟨B, o, none⟩)] w fun e w' => e = .returned (.tuple #[]) ∧ AltC w w' (fun x y => x = B ∧ y = o + 1) := by
  have c0 := h0.1
  have c1 := h1.1
  have f1 := h1.2
  clear h0 h1
  go_enter Tryd.func58, Tryd.ntmps58
  go_wp2
  go_loop [15] (fun i => i = .int .i64 0) (fun i => 0)
  case atStart => rfl
  case round =>
    subst hrel
    go_wp2
    go_end0
    exact ⟨rfl, AltC.set w B (o + 1) _⟩
theorem bs_eqb (a b : Bs) : ((bs a).toList == (bs b).toList) = decide (a = b) := by
  rw [Lib.toList_data, Lib.toList_data, toL_bs, toL_bs]
  by_cases h : a = b <;> simp [h]
theorem indexByte_yes (c : UInt8) : ∀ l : Bs, c ∈ l → 0 ≤ Go.Lib.indexByte l c
  | [], h => by cases h
  | x :: l, h => by
    unfold Go.Lib.indexByte
    by_cases hx : x = c
    · simp [hx]
    · have h1 := indexByte_yes c l (by rcases List.mem_cons.1 h with e | e; exact absurd e.symm hx; exact e)
      simp [hx]
      split <;> omega
/-- The value of a name: raw names are looked at first, if the name has no backslash. -/
def Fst (key : Nat → Bs) (q : Bs) (i : Nat) : Prop := key i = q ∧ ∀ j, j < i → key j ≠ q
def OG (w : World) (B o k n : Nat) (key key' : Nat → Bs) (ad : Nat → Nat × Nat) (q : Bs) (e : Ending) (w' : World) : Prop := AltC w w' (SKey B o k) ∧
  ((∃ i, i < n ∧ (((92 : UInt8) ∉ q ∧ Fst key q i) ∨ (((92 : UInt8) ∈ q ∨ ∀ j, j < n → key j ≠ q) ∧ Fst key' q i)) ∧ e = .returned (ptr (ad i))) ∨ (((92 : UInt8) ∈ q ∨ ∀ j, j < n → key j ≠ q) ∧ (∀ j, j < n → key' j ≠ q) ∧ e = .returned (.pointer none)))
set_option maxRecDepth 100000 in
set_option maxHeartbeats 4000000 in
theorem objGet_some (w : World) (B o k n c : Nat) (key key' : Nat → Bs) (ad : Nat → Nat × Nat) (q : Bs) (h0 : Slot w B o (.slice (some ⟨k, 0, none⟩) n c)) (h1 : Slot w B (o + 1) (.bool false)) (hkB : k ≠ B)
    (hk : ∀ i, i < n → Slot w k (i * 2) (.string (bs (key i)))) (hp : ∀ i, i < n → Slot w k (i * 2 + 1) (ptr (ad i))) (hU : ∀ i, i < n → UnC (key i) (key' i)) (hn : n ≤ 1000000000) (hS : SynAt w) (hkg : 2 < k) :
    Calls Tryd.prog 51 #[.pointer (some ⟨B, o, none⟩), .string (bs q)] w (OG w B o k n key key' ad q) := by
  have HUK := hidden (unKeys_some w B o k n c key key' h0 h1 hkB hk hU hn hS hkg)
  have H0 := hidden h0
  have HP : Hid (∀ i, i < n → Slot w k (i * 2 + 1) (.pointer (some ⟨(ad i).1, (ad i).2, none⟩))) := hidden hp
  have HK := hidden hk
  have c0 := h0.1
  have c1 := h1.1
  clear h0 h1 hk hp hU hS hkg
  by_cases hq : (92 : UInt8) ∈ q
  · have HI : Hid (0 ≤ Go.Lib.indexByte (bs q).data.toList (92 : Int).toNat.toUInt8) := hidden (indexByte_yes 92 q hq)
    have HF : Hid ((92 : UInt8) ∈ q ∨ ∀ j, j < n → key j ≠ q) := hidden (.inl hq)
    obtain ⟨iv, hiv⟩ : ∃ iv, Go.Lib.indexByte (bs q).data.toList (92 : Int).toNat.toUInt8 = iv := ⟨_, rfl⟩
    have hiv0 : ¬ iv < 0 := by have := HI.out; rw [hiv] at this; omega
    have HIV := hidden hiv
    clear hq hiv HI
    go_enter Tryd.func51, Tryd.ntmps51
    go_upto_region 10 with (go_at_call 57; go_must (refine (idx_calls _ _ _).mono ?_; rintro e wq ⟨rfl, rfl⟩; rw [HIV.out]))
    go_upto_region 11 with (go_at_call 58; go_must (refine HUK.out.mono ?_; rintro e w1 ⟨rfl, hA1, hS1⟩; have HA1 := hidden hA1; have HS1 := hidden hS1; clear hA1 hS1))
    have hb1 := H0.out.alt HA1.out (fun e => by rcases e with e | e <;> omega)
    have c5 := hb1.1
    have HP1 : Hid (∀ i, i < n → Slot w1 k (i * 2 + 1) (.pointer (some ⟨(ad i).1, (ad i).2, none⟩))) := hidden (fun i hi => (HP.out i hi).alt HA1.out (fun e => by rcases e with e | ⟨_, j, e⟩ <;> omega))
    clear hb1
    go_wp2
    clear c5
    go_loopw [52] (fun i wr => ∃ m : Nat, m ≤ n ∧ i = .int .i64 m ∧ wr = w1 ∧ Hid (∀ j, j < m → key' j ≠ q)) (fun i _ => n - (intOf i).toNat)
    case atStart => exact ⟨0, by omega, rfl, rfl, hidden (fun j hj => by omega)⟩
    case round =>
      obtain ⟨m, hm, rfl, rfl, HM⟩ := hrel
      by_cases hlt : m < n
      · have c3 := (HS1.out m hlt).1
        have c4 := (HP1.out m hlt).1
        have hb := bs_eqb (key' m) q
        by_cases he : key' m = q
        · rw [decide_eq_true he] at hb
          go_wp2
          go_ret
          exact ⟨HA1.out, .inl ⟨m, hlt, .inr ⟨HF.out, he, HM.out⟩, rfl⟩⟩
        · rw [decide_eq_false he] at hb
          have HM' : Hid (∀ j, j < m + 1 → key' j ≠ q) := hidden (fun j hj e => by
            by_cases h : j = m
            · subst h; exact he e
            · exact HM.out j (by omega) e)
          go_wp2
          exact ⟨⟨m + 1, by omega, by go_num, trivial, HM'⟩, by simp [intOf]; omega⟩
      · obtain rfl : m = n := by omega
        go_wp2
        go_ret
        exact ⟨HA1.out, .inr ⟨HF.out, HM.out, rfl⟩⟩
  · have HI : Hid (Go.Lib.indexByte (bs q).data.toList (92 : Int).toNat.toUInt8 = -1) := hidden (indexByte_no 92 q hq)
    have HQ := hidden hq
    clear hq
    go_enter Tryd.func51, Tryd.ntmps51
    go_wp2_with (go_at_call 57; go_must (refine (idx_calls _ _ _).mono ?_; rintro e wq ⟨rfl, rfl⟩; rw [HI.out]))
    clear c0 c1
    go_loopw [27] (fun i wr => ∃ m : Nat, m ≤ n ∧ i = .int .i64 m ∧ wr = w ∧ Hid (∀ j, j < m → key j ≠ q)) (fun i _ => n - (intOf i).toNat)
    case atStart => exact ⟨0, by omega, rfl, rfl, hidden (fun j hj => by omega)⟩
    case round =>
      obtain ⟨m, hm, rfl, rfl, HM⟩ := hrel
      by_cases hlt : m < n
      · have c3 := (HK.out m hlt).1
        have c4 := (HP.out m hlt).1
        have hb := bs_eqb (key m) q
        by_cases he : key m = q
        · rw [decide_eq_true he] at hb
          go_wp2
          go_ret
          exact ⟨AltC.refl _ _, .inl ⟨m, hlt, .inl ⟨HQ.out, he, HM.out⟩, rfl⟩⟩
        · rw [decide_eq_false he] at hb
          have HM' : Hid (∀ j, j < m + 1 → key j ≠ q) := hidden (fun j hj e => by
            by_cases h : j = m
            · subst h; exact he e
            · exact HM.out j (by omega) e)
          go_wp2
          exact ⟨⟨m + 1, by omega, by go_num, trivial, HM'⟩, by simp [intOf]; omega⟩
      · obtain rfl : m = n := by omega
        have HF : Hid ((92 : UInt8) ∈ q ∨ ∀ j, j < m → key j ≠ q) := hidden (.inr HM.out)
        clear HM hlt
        go_upto_region 11 with (go_at_call 58; go_must (refine HUK.out.mono ?_; rintro e w1 ⟨rfl, hA1, hS1⟩; have HA1 := hidden hA1; have HS1 := hidden hS1; clear hA1 hS1))
        have hb1 := H0.out.alt HA1.out (fun e => by rcases e with e | e <;> omega)
        have c5 := hb1.1
        have HP1 : Hid (∀ i, i < m → Slot w1 k (i * 2 + 1) (.pointer (some ⟨(ad i).1, (ad i).2, none⟩))) := hidden (fun i hi => (HP.out i hi).alt HA1.out (fun e => by rcases e with e | ⟨_, j, e⟩ <;> omega))
        clear hb1
        go_wp2
        clear c5
        go_loopw [52] (fun i wr => ∃ r : Nat, r ≤ m ∧ i = .int .i64 r ∧ wr = w1 ∧ Hid (∀ j, j < r → key' j ≠ q)) (fun i _ => m - (intOf i).toNat)
        case atStart => exact ⟨0, by omega, rfl, rfl, hidden (fun j hj => by omega)⟩
        case round =>
          obtain ⟨r, hm, rfl, rfl, HM⟩ := hrel
          by_cases hlt : r < m
          · have c3 := (HS1.out r hlt).1
            have c4 := (HP1.out r hlt).1
            have hb := bs_eqb (key' r) q
            by_cases he : key' r = q
            · rw [decide_eq_true he] at hb
              go_wp2
              go_ret
              exact ⟨HA1.out, .inl ⟨r, hlt, .inr ⟨HF.out, he, HM.out⟩, rfl⟩⟩
            · rw [decide_eq_false he] at hb
              have HM' : Hid (∀ j, j < r + 1 → key' j ≠ q) := hidden (fun j hj e => by
                by_cases h : j = r
                · subst h; exact he e
                · exact HM.out j (by omega) e)
              go_wp2
              exact ⟨⟨r + 1, by omega, by go_num, trivial, HM'⟩, by simp [intOf]; omega⟩
          · obtain rfl : r = m := by omega
            go_wp2
            go_ret
            exact ⟨HA1.out, .inr ⟨HF.out, HM.out, rfl⟩⟩
end Go.Proofs.YtbdmdajbdmdknaaDoor
namespace Go.Proofs.YtbdmdajbdmdknaaDoor
open Go.RowKit
set_option linter.unusedVariables false
set_option linter.unusedSimpArgs false

set_option maxRecDepth 100000 in
set_option maxHeartbeats 4000000 in
theorem objGet_none (w : World) (B o : Nat) (A : Option Addr) (c : Nat) (q : Bs) (h0 : Slot w B o (.slice A 0 c)) (h1 : Slot w B (o + 1) (.bool false)) :
    Calls Tryd.prog 51 #[.pointer (some ⟨B, o, none⟩), .string (bs q)] w fun e w' => e = .returned (.pointer none) ∧ AltC w w' (fun x y => x = B ∧ y = o + 1) := by
  have HUK := hidden (unKeys_none w B o A c h0 h1)
  have H0 := hidden h0
  have c0 := h0.1
  have c1 := h1.1
  clear h0 h1
  by_cases hq : (92 : UInt8) ∈ q
  · have HI : Hid (0 ≤ Go.Lib.indexByte (bs q).data.toList (92 : Int).toNat.toUInt8) := hidden (indexByte_yes 92 q hq)
    obtain ⟨iv, hiv⟩ : ∃ iv, Go.Lib.indexByte (bs q).data.toList (92 : Int).toNat.toUInt8 = iv := ⟨_, rfl⟩
    have hiv0 : ¬ iv < 0 := by have := HI.out; rw [hiv] at this; omega
    have HIV := hidden hiv
    clear hq hiv HI
    go_enter Tryd.func51, Tryd.ntmps51
    go_upto_region 10 with (go_at_call 57; go_must (refine (idx_calls _ _ _).mono ?_; rintro e wq ⟨rfl, rfl⟩; rw [HIV.out]))
    go_upto_region 11 with (go_at_call 58; go_must (refine HUK.out.mono ?_; rintro e w1 ⟨rfl, hA1⟩; have HA1 := hidden hA1; clear hA1))
    have hb1 := H0.out.alt HA1.out (fun e => by omega)
    have c5 := hb1.1
    clear hb1
    go_wp2
    clear c5
    go_loopw [52] (fun i wr => i = .int .i64 0 ∧ wr = w1) (fun i _ => 0)
    case atStart => exact ⟨rfl, rfl⟩
    case round =>
      obtain ⟨rfl, rfl⟩ := hrel
      go_wp2
      go_ret
      exact ⟨rfl, HA1.out⟩
  · have HI : Hid (Go.Lib.indexByte (bs q).data.toList (92 : Int).toNat.toUInt8 = -1) := hidden (indexByte_no 92 q hq)
    clear hq
    go_enter Tryd.func51, Tryd.ntmps51
    go_wp2_with (go_at_call 57; go_must (refine (idx_calls _ _ _).mono ?_; rintro e wq ⟨rfl, rfl⟩; rw [HI.out]))
    clear c0 c1
    go_loopw [27] (fun i wr => i = .int .i64 0 ∧ wr = w) (fun i _ => 0)
    case atStart => exact ⟨rfl, rfl⟩
    case round =>
      obtain ⟨rfl, rfl⟩ := hrel
      go_upto_region 11 with (go_at_call 58; go_must (refine HUK.out.mono ?_; rintro e w1 ⟨rfl, hA1⟩; have HA1 := hidden hA1; clear hA1))
      have hb1 := H0.out.alt HA1.out (fun e => by omega)
      have c5 := hb1.1
      clear hb1
      go_wp2
      clear c5
      go_loopw [52] (fun i wr => i = .int .i64 0 ∧ wr = w1) (fun i _ => 0)
      case atStart => exact ⟨rfl, rfl⟩
      case round =>
        obtain ⟨rfl, rfl⟩ := hrel
        go_wp2
        go_ret
        exact ⟨rfl, HA1.out⟩
/-- The value behind a name. -/
def getJ (un : Bs → Bs) (l : List (Bs × JV)) (q : Bs) : Option JV :=
  match (if (92 : UInt8) ∈ q then none else l.find? fun p => p.1 == q) with
  | some p => some p.2
  | none => (l.find? fun p => un p.1 == q).map (·.2)
def GP (w : World) (F : Nat → Nat → Prop) (r : Option JV) (e : Ending) (w' : World) : Prop := AltC w w' (fun x _ => ∃ y, F x y) ∧ (match r with
  | some v => ∃ G b o, e = .returned (ptr (b, o)) ∧ Rep w' G v b o ∧ ∀ x y, G x y → F x y
  | none => e = .returned (.pointer none))
theorem getJ_fst {un : Bs → Bs} {l : List (Bs × JV)} {q : Bs} {f : Bs → Bs} {i : Nat} (hi : i < l.length) (h : Fst (fun j => f (l.getD j ([], .lit 0)).1) q i) : l.find? (fun p => f p.1 == q) = some l[i] := by
  rw [List.find?_eq_some_iff_getElem]
  obtain ⟨h1, h2⟩ := h
  dsimp only at h1
  rw [List.getD_eq_getElem?_getD, List.getElem?_eq_getElem hi, Option.getD_some] at h1
  refine ⟨by simpa using h1, i, hi, rfl, fun j hj => ?_⟩
  have := h2 j hj
  dsimp only at this
  rw [List.getD_eq_getElem?_getD, List.getElem?_eq_getElem (by omega), Option.getD_some] at this
  simpa using this
theorem getJ_no {l : List (Bs × JV)} {q : Bs} {f : Bs → Bs} (h : ∀ j, j < l.length → f (l.getD j ([], .lit 0)).1 ≠ q) : l.find? (fun p => f p.1 == q) = none := by
  rw [List.find?_eq_none]
  intro p hp
  obtain ⟨j, hj, rfl⟩ := List.getElem_of_mem hp
  have := h j hj
  rw [List.getD_eq_getElem?_getD, List.getElem?_eq_getElem hj, Option.getD_some] at this
  simpa using this
/-- Object.Get at an object that was parsed. -/
theorem objGet_calls (w : World) (F : Nat → Nat → Prop) (l : List (Bs × JV)) (b o : Nat) (un : Bs → Bs) (q : Bs) (h : Rep w F (.obj l) b o) (hU : ∀ p ∈ l, UnC p.1 (un p.1)) (hn : l.length ≤ 1000000000) (hS : SynAt w) (hFg : ∀ x y, F x y → 2 < x) :
    Calls Tryd.prog 51 #[.pointer (some ⟨b, o, none⟩), .string (bs q)] w (GP w F (getJ un l q)) := by
  cases h with
  | obj K c ad G g1 g2 g3 g4 g5 g6 g7 g8 g9 =>
    rcases Nat.eq_zero_or_pos l.length with h0 | h0
    · have : l = [] := List.eq_nil_of_length_eq_zero h0
      subst this
      refine (objGet_none w b o _ c q g1.2 g3.2).mono ?_
      rintro e w' ⟨rfl, hA⟩
      refine ⟨hA.mono (fun x y _ e => ⟨_, e.1 ▸ e.2 ▸ g3.1⟩), ?_⟩
      simp [getJ]
    · obtain ⟨k, rfl, _⟩ := g6 0 h0
      have hk : ∀ i, i < l.length → Slot w k (i * 2) (.string (bs (l.getD i ([], .lit 0)).1)) ∧ Slot w k (i * 2 + 1) (ptr (ad i)) ∧ F k (i * 2) := by
        intro i hi
        obtain ⟨k', e, h1, h2⟩ := g6 i hi
        cases e
        rw [List.getD_eq_getElem?_getD, List.getElem?_eq_getElem hi, Option.getD_some, Nat.mul_comm i]
        exact ⟨h1.2, h2.2, h1.1⟩
      refine (objGet_some w b o k l.length c (fun i => (l.getD i ([], .lit 0)).1) (fun i => un (l.getD i ([], .lit 0)).1) ad q g1.2 g3.2 (g5 k rfl) (fun i hi => (hk i hi).1) (fun i hi => (hk i hi).2.1) (fun i hi => ?_) hn hS (hFg _ _ (hk 0 h0).2.2)).mono ?_
      · rw [List.getD_eq_getElem?_getD, List.getElem?_eq_getElem hi, Option.getD_some]
        exact hU _ (List.getElem_mem hi)
      · rintro e w' ⟨hA, hR⟩
        refine ⟨hA.mono (fun x y _ e => ?_), ?_⟩
        · rcases e with e | ⟨rfl, _⟩
          · exact ⟨_, e.1 ▸ g3.1⟩
          · exact ⟨_, (hk 0 h0).2.2⟩
        · have hRep : ∀ i (hi : i < l.length), Rep w' (G i) l[i].2 (ad i).1 (ad i).2 := fun i hi => (g9 i hi).alt hA (fun x y hg e => by
            obtain ⟨_, h2, h3⟩ := g7 i x y hi hg
            rcases e with ⟨rfl, rfl⟩ | ⟨rfl, _⟩
            · exact h3 ⟨rfl, by omega, by omega⟩
            · exact h2 rfl)
          rcases hR with ⟨i, hi, h, rfl⟩ | ⟨hf, hs, rfl⟩
          · have hg : getJ un l q = some l[i].2 := by
              unfold getJ
              rcases h with ⟨h1, h2⟩ | ⟨h1, h2⟩
              · rw [if_neg h1, getJ_fst (un := un) (f := fun x => x) hi h2]
              · have hno : (if (92 : UInt8) ∈ q then none else l.find? fun p => p.1 == q) = none := by
                  split
                  · rfl
                  · rename_i h3
                    exact getJ_no (f := fun x => x) (h1.resolve_left h3)
                rw [hno, getJ_fst (un := un) (f := un) hi h2]
                rfl
            rw [hg]
            exact ⟨G i, _, _, rfl, hRep i hi, fun x y hg => (g7 i x y hi hg).1⟩
          · have hg : getJ un l q = none := by
              unfold getJ
              have hno : (if (92 : UInt8) ∈ q then none else l.find? fun p => p.1 == q) = none := by
                split
                · rfl
                · rename_i h3
                  exact getJ_no (f := fun x => x) (hf.resolve_left h3)
              rw [hno, getJ_no (f := un) hs]
              rfl
            rw [hg]
set_option maxRecDepth 100000 in
set_option maxHeartbeats 4000000 in
/-- Value.Get of one name at an object. -/
theorem valGet_obj (w : World) (F : Nat → Nat → Prop) (l : List (Bs × JV)) (b o g c : Nat) (un : Bs → Bs) (q : Bs) (h : Rep w F (.obj l) b o) (hU : ∀ p ∈ l, UnC p.1 (un p.1)) (hn : l.length ≤ 1000000000) (hS : SynAt w) (hFg : ∀ x y, F x y → 2 < x) (hg : Slot w g 0 (.string (bs q))) (R : Option JV) (hR : getJ un l q = R) :
    Calls Tryd.prog 45 #[.pointer (some ⟨b, o, none⟩), .slice (some ⟨g, 0, none⟩) 1 c] w (GP w F R) := by
  have hG := objGet_calls w F l b o un q h hU hn hS hFg
  rw [hR] at hG
  have HG := hidden hG
  clear hG
  have ht : Slot w b (o + 4) (.int .i64 1) := by cases h with | obj K c ad G g1 g2 g3 g4 g5 g6 g7 g8 g9 => exact g4.2
  have c0 := ht.1
  have c1 := hg.1
  clear h hU hg ht hR hS hFg
  go_enter Tryd.func45, Tryd.ntmps45
  cases R with
  | none =>
    go_wp2
    go_loopw [0, 13] (fun p i wr => p = .pointer (some ⟨b, o, none⟩) ∧ i = .int .i64 0 ∧ wr = w) (fun p i _ => 0)
    case atStart => exact ⟨rfl, rfl, rfl⟩
    case round =>
      obtain ⟨rfl, rfl, rfl⟩ := hrel
      go_wp2_with (go_at_call 51; go_must (refine HG.out.mono ?_; rintro e w1 ⟨hA, hE⟩; dsimp only at hE; subst hE; have HA := hidden hA; clear hA))
      go_ret
      exact ⟨HA.out, rfl⟩
  | some v =>
    go_wp2
    go_loopw [0, 13] (fun p i wr => (p = .pointer (some ⟨b, o, none⟩) ∧ i = .int .i64 0 ∧ wr = w) ∨ (i = .int .i64 1 ∧ GP w F (some v) (.returned p) wr)) (fun p i _ => 1 - (intOf i).toNat)
    case atStart => exact .inl ⟨rfl, rfl, rfl⟩
    case round =>
      rcases hrel with ⟨rfl, rfl, rfl⟩ | ⟨rfl, hP⟩
      · go_wp2_with (go_at_call 51; go_must (refine HG.out.mono ?_; rintro e w1 ⟨hA, G, b1, o1, rfl, hE⟩; have HA := hidden hA; have HE := hidden hE; clear hA hE; unfold ptr))
        go_roundw
        case rel => exact .inr ⟨rfl, HA.out, G, b1, o1, rfl, HE.out⟩
        case measure => simp [intOf]
      · have HP := hidden hP
        clear hP c0 c1
        go_wp2
        go_ret
        exact HP.out
end Go.Proofs.YtbdmdajbdmdknaaDoor
namespace Go.Proofs.YtbdmdajbdmdknaaDoor
open Go.RowKit
set_option linter.unusedVariables false
set_option linter.unusedSimpArgs false

theorem below_bytes0 (w : World) (e : Nat) (s : ByteArray) : Below w.heap.size w (Go.Lib.bytesWorld w e s) :=
  ⟨rfl, rfl, rfl, by rw [Go.Lib.bytesWorld_size]; omega, fun k hk => Go.Lib.bytesWorld_at_old w e s k hk⟩
theorem rd_bI (w : World) (e : Nat) (s : ByteArray) : Rd (Go.Lib.bytesWorld w e s) (some ⟨w.heap.size, 0, none⟩) (nums .u8 (bI s)) := by
  intro i v hv
  have hi : i < s.size := by rw [← bI_len s, ← nums_len .u8]; exact (List.getElem?_eq_some_iff.1 hv).1
  rw [nums_at _ _ _ (by rw [bI_len]; exact hi)] at hv
  cases hv
  refine ⟨_, _, rfl, by rw [Go.Lib.bytesWorld_size]; omega, ?_⟩
  rw [Nat.zero_add, Go.Lib.bytesWorld_cell _ _ _ _ hi]
  have hi' : i < s.data.toList.length := hi
  simp only [gi, bI, List.getD_eq_getElem?_getD, List.getElem?_map, List.getElem?_eq_getElem hi', Option.map_some, Option.getD_some]
def S2B (w : World) (s : ByteArray) (e : Ending) (w' : World) : Prop := ∃ c, e = .returned (.slice (some ⟨w.heap.size, 0, none⟩) s.size c) ∧ s.size ≤ c ∧ Rd w' (some ⟨w.heap.size, 0, none⟩) (nums .u8 (bI s)) ∧ Below w.heap.size w w'
set_option maxRecDepth 100000 in
set_option maxHeartbeats 1000000 in
theorem s2b_calls (s : ByteArray) (w : World) : Calls Tryd.prog 49 #[.string s] w (S2B w s) := by
  have hcv : (convert 9 32 (.string s)).run Tryd.prog w = .ok (.slice (some ⟨w.heap.size, 0, none⟩) s.size (grownCap w s.size 0 5)) (Go.Lib.bytesWorld w 5 s) := Go.Lib.run_convert_string_bytes (P := Tryd.prog) w 9 32 5 s Tryd.underlying9 Tryd.underlying32 Tryd.underlying5
  have HR := hidden (rd_bI w 5 s)
  have HB := hidden (below_bytes0 w 5 s)
  have Hge := hidden (grownCap_ge w s.size 0 5)
  go_enter Tryd.func49, Tryd.ntmps49
  go_wp2
  go_ret
  exact ⟨_, rfl, Hge.out, HR.out, HB.out⟩
def tyOf : JV → Nat
  | .lit t => t
  | .num _ => 4
  | .str _ => 7
  | .arr _ => 2
  | .obj _ => 1
theorem Rep.ty {w : World} {F : Nat → Nat → Prop} {v : JV} {b o : Nat} (h : Rep w F v b o) : Cel w F b (o + 4) (.int .i64 (tyOf v)) := by
  cases h with
  | lit h => exact h
  | num _ h => exact h
  | str _ h => exact h
  | arr _ _ _ _ _ h => exact h
  | obj _ _ _ _ _ _ _ h => exact h
set_option maxRecDepth 100000 in
set_option maxHeartbeats 1000000 in
theorem type_no (w : World) (F : Nat → Nat → Prop) (v : JV) (b o : Nat) (h : Rep w F v b o) (t : Nat) (ht : tyOf v = t) (h7 : t ≠ 7) :
    Calls Tryd.prog 47 #[.pointer (some ⟨b, o, none⟩)] w fun e w' => e = .returned (.int .i64 t) ∧ w = w' := by
  have c0 := h.ty.2.1
  rw [ht] at c0
  have h7' : ¬ ((t : Int) = 7) := by omega
  clear h ht
  go_enter Tryd.func47, Tryd.ntmps47
  go_wp2
  go_ret
  exact ⟨rfl, rfl⟩
set_option maxRecDepth 100000 in
set_option maxHeartbeats 1000000 in
theorem type_str (w : World) (F : Nat → Nat → Prop) (s s' : Bs) (b o : Nat) (h : Rep w F (.str s) b o) (hU : UnC s s') (hS : SynAt w) :
    Calls Tryd.prog 47 #[.pointer (some ⟨b, o, none⟩)] w fun e w' => e = .returned (.int .i64 3) ∧ AltC w w' (fun x _ => x = b) ∧ Slot w' b (o + 3) (.string (bs s')) := by
  have hh : Slot w b (o + 3) (.string (bs s)) ∧ Slot w b (o + 4) (.int .i64 7) := by cases h with | str h1 h2 => exact ⟨h1.2, h2.2⟩
  obtain ⟨h3, h4⟩ := hh
  have c3 := h3.1
  have c4 := h4.1
  have f3 := h3.2
  have f4 := h4.2
  have H3 := hidden h3
  have H4 := hidden h4
  have HU := hidden (hU w hS)
  clear h h3 h4 hU hS
  go_enter Tryd.func47, Tryd.ntmps47
  go_wp2_with (go_at_call 55; go_must (refine HU.out.mono ?_; rintro e w1 ⟨rfl, hB⟩; have d3 := (H3.out.below hB).1; have g3 := (H3.out.below hB).2; have d4 := (H4.out.below hB).1; have g4 := (H4.out.below hB).2; have HB := hidden hB; clear hB))
  go_ret
  have hA1 : AltC w w1 (fun x _ => x = b) := AltC.of_below HB.out _
  have h2 := AltC.set w1 b (o + 3) (.string (bs s'))
  have h3 := AltC.set (w1.setCell ⟨b, o + 3, none⟩ (.string (bs s'))) b (o + 4) (.int .i64 3)
  exact ⟨rfl, (hA1.trans h2 (fun x y _ e => e.1)).trans h3 (fun x y _ e => e.1), (Slot.set ⟨d3, g3⟩ _).alt h3 (fun e => by omega)⟩
set_option maxRecDepth 100000 in
set_option maxHeartbeats 1000000 in
theorem strBytes_str (w : World) (F : Nat → Nat → Prop) (s s' : Bs) (b o : Nat) (h : Rep w F (.str s) b o) (hU : UnC s s') (hS : SynAt w) :
    Calls Tryd.prog 43 #[.pointer (some ⟨b, o, none⟩)] w fun e w' => ∃ A n c, e = .returned (.tuple #[.slice A n c, .nilIface]) ∧ n = s'.length ∧ Rd w' A (nums .u8 (bI (bs s'))) ∧ AltC w w' (fun x _ => x = b) := by
  have HT := hidden (type_str w F s s' b o h hU hS)
  have hsz : (bs s').size = s'.length := by rw [size_toL, toL_bs]
  have HZ := hidden hsz
  clear h hU hsz hS
  go_enter Tryd.func43, Tryd.ntmps43
  go_wp2_with (first
    | (go_at_call 47; go_must (refine HT.out.mono ?_; rintro e w1 ⟨rfl, hA, hS⟩; have c3 := hS.1; have HA := hidden hA; clear hA hS))
    | (go_at_call 49; go_must (refine (s2b_calls (bs s') _).mono ?_; rintro e w2 ⟨c, rfl, hle, hR, hB⟩; have HR := hidden hR; have HB := hidden hB; clear hR hB)))
  go_ret2
  exact ⟨_, _, _, rfl, HZ.out, HR.out, HA.out.trans (AltC.of_below HB.out (fun _ _ => False)) (fun _ _ _ e => e.elim)⟩
set_option maxRecDepth 100000 in
set_option maxHeartbeats 1000000 in
theorem strBytes_no (w : World) (F : Nat → Nat → Prop) (v : JV) (b o : Nat) (h : Rep w F v b o) (h7 : tyOf v ≠ 7) (h3 : tyOf v ≠ 3) :
    Calls Tryd.prog 43 #[.pointer (some ⟨b, o, none⟩)] w fun e w' => ∃ T a, e = .returned (.tuple #[.slice none 0 0, .iface T (.pointer (some a))]) ∧ Below w.heap.size w w' := by
  have HT := hidden (type_no w F v b o h (tyOf v) rfl h7)
  have h3' : ¬ ((tyOf v : Int) = 3) := by omega
  clear h h7 h3
  generalize tyOf v = t at *
  go_enter Tryd.func43, Tryd.ntmps43
  go_wp2_with (first
    | (go_at_call 47; go_must (refine HT.out.mono ?_; rintro e w1 ⟨rfl, rfl⟩))
    | (go_at_call 48; go_must (refine (newErr_calls _ _).mono ?_; rintro e w7 ⟨T2, a2, rfl, hB⟩; have HB := hidden hB; clear hB)))
  go_ret2
  exact ⟨_, _, rfl, HB.out⟩
set_option maxRecDepth 100000 in
set_option maxHeartbeats 1000000 in
/-- Value.Get of one name at what is neither an object nor a row. -/
theorem valGet_leaf (w : World) (F : Nat → Nat → Prop) (v : JV) (b o g c : Nat) (q : Bs) (h : Rep w F v b o) (h1 : tyOf v ≠ 1) (h2 : tyOf v ≠ 2) (hg : Slot w g 0 (.string (bs q))) :
    Calls Tryd.prog 45 #[.pointer (some ⟨b, o, none⟩), .slice (some ⟨g, 0, none⟩) 1 c] w fun e w' => e = .returned (.pointer none) ∧ w = w' := by
  have c0 := h.ty.2.1
  have c1 := hg.1
  have n1 : ¬ ((tyOf v : Int) = 1) := by omega
  have n2 : ¬ ((tyOf v : Int) = 2) := by omega
  clear h hg h1 h2
  generalize tyOf v = t at *
  go_enter Tryd.func45, Tryd.ntmps45
  go_wp2
  go_loopw [0, 13] (fun p i wr => p = .pointer (some ⟨b, o, none⟩) ∧ i = .int .i64 0 ∧ wr = w) (fun p i _ => 0)
  case atStart => exact ⟨rfl, rfl, rfl⟩
  case round =>
    obtain ⟨rfl, rfl, rfl⟩ := hrel
    go_wp2
    go_ret
    exact ⟨rfl, rfl⟩
/-- strconv.Atoi says no to a text. -/
def AtoiNo (q : Bs) : Prop := ∀ w, SynAt w → Calls Tryd.prog 52 #[.string (bs q)] w fun e w' => ∃ n T a, e = .returned (.tuple #[n, .iface T (.pointer (some a))]) ∧ Below w.heap.size w w'
set_option maxRecDepth 100000 in
set_option maxHeartbeats 1000000 in
theorem valGet_arr (w : World) (F : Nat → Nat → Prop) (l : List JV) (b o g c : Nat) (q : Bs) (h : Rep w F (.arr l) b o) (hq : AtoiNo q) (hS : SynAt w) (hg : Slot w g 0 (.string (bs q))) :
    Calls Tryd.prog 45 #[.pointer (some ⟨b, o, none⟩), .slice (some ⟨g, 0, none⟩) 1 c] w fun e w' => e = .returned (.pointer none) ∧ Below w.heap.size w w' := by
  have c0 := h.ty.2.1
  have c1 := hg.1
  have HQ := hidden (hq w hS)
  clear h hg hq hS
  unfold tyOf at c0
  go_enter Tryd.func45, Tryd.ntmps45
  go_wp2
  go_loopw [0, 13] (fun p i wr => p = .pointer (some ⟨b, o, none⟩) ∧ i = .int .i64 0 ∧ wr = w) (fun p i _ => 0)
  case atStart => exact ⟨rfl, rfl, rfl⟩
  case round =>
    obtain ⟨rfl, rfl, rfl⟩ := hrel
    go_wp2_with (go_at_call 52; go_must (refine HQ.out.mono ?_; rintro e w1 ⟨n, T, a, rfl, hB⟩; have HB := hidden hB; clear hB))
    go_ret
    exact ⟨rfl, HB.out⟩
end Go.Proofs.YtbdmdajbdmdknaaDoor
