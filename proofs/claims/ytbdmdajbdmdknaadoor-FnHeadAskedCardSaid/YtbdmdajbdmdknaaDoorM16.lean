/- Object.Get, asked again and again: what the object is afterwards. An object of a head that is asked again and again: its state. Texts and names of an object that is asked again and again. impl.HeadAsked: one header, asked again and again. -/
import Derived.Test.YtbdmdajbdmdknaaDoorHeC
namespace Go.Proofs.YtbdmdajbdmdknaaDoor
open Go.RowKit
set_option linter.unusedVariables false
set_option linter.unusedSimpArgs false

set_option maxRecDepth 100000 in
set_option maxHeartbeats 4000000 in
theorem unKeys_some2 (w : World) (B o k n c : Nat) (key key' : Nat → Bs) (h0 : Slot w B o (.slice (some ⟨k, 0, none⟩) n c)) (h1 : Slot w B (o + 1) (.bool false)) (hkB : k ≠ B)
    (hk : ∀ i, i < n → Slot w k (i * 2) (.string (bs (key i)))) (hU : ∀ i, i < n → UnC (key i) (key' i)) (hn : n ≤ 1000000000) (hS : SynAt w) (hkg : 2 < k) :
    Calls Tryd.prog 58 #[.pointer (some ⟨B, o, none⟩)] w fun e w' => e = .returned (.tuple #[]) ∧ AltC w w' (SKey B o k) ∧ (∀ j, j < n → Slot w' k (j * 2) (.string (bs (key' j)))) ∧ Slot w' B (o + 1) (.bool true) := by
  have HI : Hid (KInv w w k n 0 key key') := hidden ⟨AltC.refl _ _, fun j hj => by omega, fun j _ => hk j⟩
  have HU := hidden hU
  have HSY := hidden (And.intro hS hkg)
  have H1 := hidden h1
  have c0 := h0.1
  have c1 := h1.1
  clear hk hU h0 h1 hS hkg
  go_enter Tryd.func58, Tryd.ntmps58
  go_wp2
  clear c0 c1
  go_loopw [15] (fun i wr => ∃ m : Nat, m ≤ n ∧ i = .int .i64 m ∧ Hid (KInv w wr k n m key key')) (fun i _ => n - (intOf i).toNat)
  case atStart => exact ⟨0, by omega, rfl, HI⟩
  case round =>
    obtain ⟨m, hm, rfl, HM⟩ := hrel
    by_cases hlt : m < n
    · have hc := HM.out.todo m (Nat.le_refl _) hlt
      have c3 := hc.1
      have f3 := hc.2
      have hUm := hidden (HU.out m hlt wr (HSY.out.1.alt HM.out.alt (fun e => by have := HSY.out.2; omega)))
      clear hc
      go_wp2_with (go_at_call 55; go_must (refine hUm.out.mono ?_; rintro e w1 ⟨rfl, hB⟩; have HS := hidden (HM.out.step hlt hB); have c4 := hB.cell (p := ⟨k, m * 2, none⟩) (World.block_lt_of_cell? _ _ c3); have f4 := hB.frozen (p := ⟨k, m * 2, none⟩) (World.block_lt_of_cell? _ _ c3); rw [c3] at c4; rw [f3] at f4; clear hB))
      go_roundw
      case rel => exact ⟨m + 1, by omega, by go_num, HS⟩
      case measure => simp [intOf]; omega
    · obtain rfl : m = n := by omega
      have hs1 := H1.out.alt HM.out.alt (fun e => hkB e.1.symm)
      have c5 := hs1.1
      have f5 := hs1.2
      have HF := hidden hs1
      clear hs1
      go_wp2
      go_end0
      have h2 := AltC.set wr B (o + 1) (.bool true)
      exact ⟨rfl, (HM.out.alt.mono (fun x y _ e => .inr e)).trans h2 (fun x y _ e => .inl e), fun j hj => (HM.out.done j hj hj).alt h2 (fun e => hkB e.1), HF.out.set _⟩

set_option maxRecDepth 100000 in
set_option maxHeartbeats 4000000 in
theorem unKeys_none2 (w : World) (B o : Nat) (A : Option Addr) (c : Nat) (h0 : Slot w B o (.slice A 0 c)) (h1 : Slot w B (o + 1) (.bool false)) :
    Calls Tryd.prog 58 #[.pointer (some ⟨B, o, none⟩)] w fun e w' => e = .returned (.tuple #[]) ∧ AltC w w' (fun x y => x = B ∧ y = o + 1) ∧ Slot w' B (o + 1) (.bool true) := by
  have H1 := hidden h1
  have c0 := h0.1
  have c1 := h1.1
  have f1 := h1.2
  clear h0 h1
  go_enter Tryd.func58, Tryd.ntmps58
  go_wp2
  go_loop [15] (fun i => i = .int .i64 0) (fun i => 0)
  case atStart => rfl
  case round =>
    subst hrel
    go_wp2
    go_end0
    exact ⟨rfl, AltC.set w B (o + 1) _, H1.out.set _⟩

theorem unKeys_yes (w : World) (B o : Nat) (h1 : Slot w B (o + 1) (.bool true)) : Calls Tryd.prog 58 #[.pointer (some ⟨B, o, none⟩)] w fun e w' => e = .returned (.tuple #[]) ∧ w = w' := by
  have c1 := h1.1
  clear h1
  go_enter Tryd.func58, Tryd.ntmps58
  go_wp2
  refine bodyPost_ret (results_none rfl _ _ _) rfl ?_
  exact ⟨rfl, rfl⟩

/-- What Object.Get leaves. -/
def OG2 (w : World) (B o k n : Nat) (key key' : Nat → Bs) (ad : Nat → Nat × Nat) (q : Bs) (e : Ending) (w' : World) : Prop := AltC w w' (SKey B o k) ∧
  ((∃ i, i < n ∧ (((92 : UInt8) ∉ q ∧ key i = q) ∨ key' i = q) ∧ e = .returned (ptr (ad i))) ∨ ((∀ j, j < n → key' j ≠ q) ∧ e = .returned (.pointer none))) ∧ (w' = w ∨ (Slot w' B (o + 1) (.bool true) ∧ ∀ j, j < n → Slot w' k (j * 2) (.string (bs (key' j)))))

set_option maxRecDepth 100000 in
set_option maxHeartbeats 4000000 in
theorem objGet_some2 (w : World) (B o k n c : Nat) (key key' : Nat → Bs) (ad : Nat → Nat × Nat) (q : Bs) (h0 : Slot w B o (.slice (some ⟨k, 0, none⟩) n c)) (h1 : Slot w B (o + 1) (.bool false)) (hkB : k ≠ B)
    (hk : ∀ i, i < n → Slot w k (i * 2) (.string (bs (key i)))) (hp : ∀ i, i < n → Slot w k (i * 2 + 1) (ptr (ad i))) (hU : ∀ i, i < n → UnC (key i) (key' i)) (hn : n ≤ 1000000000) (hS : SynAt w) (hkg : 2 < k) :
    Calls Tryd.prog 51 #[.pointer (some ⟨B, o, none⟩), .string (bs q)] w (OG2 w B o k n key key' ad q) := by
  have HUK := hidden (unKeys_some2 w B o k n c key key' h0 h1 hkB hk hU hn hS hkg)
  have H0 := hidden h0
  have HP : Hid (∀ i, i < n → Slot w k (i * 2 + 1) (.pointer (some ⟨(ad i).1, (ad i).2, none⟩))) := hidden hp
  have HK := hidden hk
  have c0 := h0.1
  have c1 := h1.1
  clear h0 h1 hk hp hU hS hkg
  by_cases hq : (92 : UInt8) ∈ q
  · have HI : Hid (0 ≤ Go.Lib.indexByte (bs q).data.toList (92 : Int).toNat.toUInt8) := hidden (indexByte_yes 92 q hq)
    have HF : Hid ((92 : UInt8) ∈ q ∨ ∀ j, j < n → key j ≠ q) := hidden (.inl hq)
    obtain ⟨iv, hiv⟩ : ∃ iv, Go.Lib.indexByte (bs q).data.toList (92 : Int).toNat.toUInt8 = iv := ⟨_, rfl⟩
    have hiv0 : ¬ iv < 0 := by have := HI.out; rw [hiv] at this; omega
    have HIV := hidden hiv
    clear hq hiv HI
    go_enter Tryd.func51, Tryd.ntmps51
    go_upto_region 10 with (go_at_call 57; go_must (refine (idx_calls _ _ _).mono ?_; rintro e wq ⟨rfl, rfl⟩; rw [HIV.out]))
    go_upto_region 11 with (go_at_call 58; go_must (refine HUK.out.mono ?_; rintro e w1 ⟨rfl, hA1, hS1, hT1⟩; have HA1 := hidden hA1; have HS1 := hidden hS1; have HT1 := hidden hT1; clear hA1 hS1 hT1))
    have hb1 := H0.out.alt HA1.out (fun e => by rcases e with e | e <;> omega)
    have c5 := hb1.1
    have HP1 : Hid (∀ i, i < n → Slot w1 k (i * 2 + 1) (.pointer (some ⟨(ad i).1, (ad i).2, none⟩))) := hidden (fun i hi => (HP.out i hi).alt HA1.out (fun e => by rcases e with e | ⟨_, j, e⟩ <;> omega))
    clear hb1
    go_wp2
    clear c5
    go_loopw [52] (fun i wr => ∃ m : Nat, m ≤ n ∧ i = .int .i64 m ∧ wr = w1 ∧ Hid (∀ j, j < m → key' j ≠ q)) (fun i _ => n - (intOf i).toNat)
    case atStart => exact ⟨0, by omega, rfl, rfl, hidden (fun j hj => by omega)⟩
    case round =>
      obtain ⟨m, hm, rfl, rfl, HM⟩ := hrel
      by_cases hlt : m < n
      · have c3 := (HS1.out m hlt).1
        have c4 := (HP1.out m hlt).1
        have hb := bs_eqb (key' m) q
        by_cases he : key' m = q
        · rw [decide_eq_true he] at hb
          go_wp2
          go_ret
          exact ⟨HA1.out, .inl ⟨m, hlt, .inr he, rfl⟩, .inr ⟨HT1.out, HS1.out⟩⟩
        · rw [decide_eq_false he] at hb
          have HM' : Hid (∀ j, j < m + 1 → key' j ≠ q) := hidden (fun j hj e => by
            by_cases h : j = m
            · subst h; exact he e
            · exact HM.out j (by omega) e)
          go_wp2
          exact ⟨⟨m + 1, by omega, by go_num, trivial, HM'⟩, by simp [intOf]; omega⟩
      · obtain rfl : m = n := by omega
        go_wp2
        go_ret
        exact ⟨HA1.out, .inr ⟨HM.out, rfl⟩, .inr ⟨HT1.out, HS1.out⟩⟩
  · have HI : Hid (Go.Lib.indexByte (bs q).data.toList (92 : Int).toNat.toUInt8 = -1) := hidden (indexByte_no 92 q hq)
    have HQ := hidden hq
    clear hq
    go_enter Tryd.func51, Tryd.ntmps51
    go_wp2_with (go_at_call 57; go_must (refine (idx_calls _ _ _).mono ?_; rintro e wq ⟨rfl, rfl⟩; rw [HI.out]))
    clear c0 c1
    go_loopw [27] (fun i wr => ∃ m : Nat, m ≤ n ∧ i = .int .i64 m ∧ wr = w ∧ Hid (∀ j, j < m → key j ≠ q)) (fun i _ => n - (intOf i).toNat)
    case atStart => exact ⟨0, by omega, rfl, rfl, hidden (fun j hj => by omega)⟩
    case round =>
      obtain ⟨m, hm, rfl, rfl, HM⟩ := hrel
      by_cases hlt : m < n
      · have c3 := (HK.out m hlt).1
        have c4 := (HP.out m hlt).1
        have hb := bs_eqb (key m) q
        by_cases he : key m = q
        · rw [decide_eq_true he] at hb
          go_wp2
          go_ret
          exact ⟨AltC.refl _ _, .inl ⟨m, hlt, .inl ⟨HQ.out, he⟩, rfl⟩, .inl rfl⟩
        · rw [decide_eq_false he] at hb
          have HM' : Hid (∀ j, j < m + 1 → key j ≠ q) := hidden (fun j hj e => by
            by_cases h : j = m
            · subst h; exact he e
            · exact HM.out j (by omega) e)
          go_wp2
          exact ⟨⟨m + 1, by omega, by go_num, trivial, HM'⟩, by simp [intOf]; omega⟩
      · obtain rfl : m = n := by omega
        have HF : Hid ((92 : UInt8) ∈ q ∨ ∀ j, j < m → key j ≠ q) := hidden (.inr HM.out)
        clear HM hlt
        go_upto_region 11 with (go_at_call 58; go_must (refine HUK.out.mono ?_; rintro e w1 ⟨rfl, hA1, hS1, hT1⟩; have HA1 := hidden hA1; have HS1 := hidden hS1; have HT1 := hidden hT1; clear hA1 hS1 hT1))
        have hb1 := H0.out.alt HA1.out (fun e => by rcases e with e | e <;> omega)
        have c5 := hb1.1
        have HP1 : Hid (∀ i, i < m → Slot w1 k (i * 2 + 1) (.pointer (some ⟨(ad i).1, (ad i).2, none⟩))) := hidden (fun i hi => (HP.out i hi).alt HA1.out (fun e => by rcases e with e | ⟨_, j, e⟩ <;> omega))
        clear hb1
        go_wp2
        clear c5
        go_loopw [52] (fun i wr => ∃ r : Nat, r ≤ m ∧ i = .int .i64 r ∧ wr = w1 ∧ Hid (∀ j, j < r → key' j ≠ q)) (fun i _ => m - (intOf i).toNat)
        case atStart => exact ⟨0, by omega, rfl, rfl, hidden (fun j hj => by omega)⟩
        case round =>
          obtain ⟨r, hm, rfl, rfl, HM⟩ := hrel
          by_cases hlt : r < m
          · have c3 := (HS1.out r hlt).1
            have c4 := (HP1.out r hlt).1
            have hb := bs_eqb (key' r) q
            by_cases he : key' r = q
            · rw [decide_eq_true he] at hb
              go_wp2
              go_ret
              exact ⟨HA1.out, .inl ⟨r, hlt, .inr he, rfl⟩, .inr ⟨HT1.out, HS1.out⟩⟩
            · rw [decide_eq_false he] at hb
              have HM' : Hid (∀ j, j < r + 1 → key' j ≠ q) := hidden (fun j hj e => by
                by_cases h : j = r
                · subst h; exact he e
                · exact HM.out j (by omega) e)
              go_wp2
              exact ⟨⟨r + 1, by omega, by go_num, trivial, HM'⟩, by simp [intOf]; omega⟩
          · obtain rfl : r = m := by omega
            go_wp2
            go_ret
            exact ⟨HA1.out, .inr ⟨HM.out, rfl⟩, .inr ⟨HT1.out, HS1.out⟩⟩

set_option maxRecDepth 100000 in
set_option maxHeartbeats 4000000 in
theorem objGet_none2 (w : World) (B o : Nat) (A : Option Addr) (c : Nat) (q : Bs) (h0 : Slot w B o (.slice A 0 c)) (h1 : Slot w B (o + 1) (.bool false)) :
    Calls Tryd.prog 51 #[.pointer (some ⟨B, o, none⟩), .string (bs q)] w fun e w' => e = .returned (.pointer none) ∧ AltC w w' (fun x y => x = B ∧ y = o + 1) ∧ Slot w' B (o + 1) (.bool true) := by
  have HUK := hidden (unKeys_none2 w B o A c h0 h1)
  have H0 := hidden h0
  have c0 := h0.1
  have c1 := h1.1
  clear h0 h1
  by_cases hq : (92 : UInt8) ∈ q
  · have HI : Hid (0 ≤ Go.Lib.indexByte (bs q).data.toList (92 : Int).toNat.toUInt8) := hidden (indexByte_yes 92 q hq)
    obtain ⟨iv, hiv⟩ : ∃ iv, Go.Lib.indexByte (bs q).data.toList (92 : Int).toNat.toUInt8 = iv := ⟨_, rfl⟩
    have hiv0 : ¬ iv < 0 := by have := HI.out; rw [hiv] at this; omega
    have HIV := hidden hiv
    clear hq hiv HI
    go_enter Tryd.func51, Tryd.ntmps51
    go_upto_region 10 with (go_at_call 57; go_must (refine (idx_calls _ _ _).mono ?_; rintro e wq ⟨rfl, rfl⟩; rw [HIV.out]))
    go_upto_region 11 with (go_at_call 58; go_must (refine HUK.out.mono ?_; rintro e w1 ⟨rfl, hA1, hT1⟩; have HA1 := hidden hA1; have HT1 := hidden hT1; clear hA1 hT1))
    have hb1 := H0.out.alt HA1.out (fun e => by omega)
    have c5 := hb1.1
    clear hb1
    go_wp2
    clear c5
    go_loopw [52] (fun i wr => i = .int .i64 0 ∧ wr = w1) (fun i _ => 0)
    case atStart => exact ⟨rfl, rfl⟩
    case round =>
      obtain ⟨rfl, rfl⟩ := hrel
      go_wp2
      go_ret
      exact ⟨rfl, HA1.out, HT1.out⟩
  · have HI : Hid (Go.Lib.indexByte (bs q).data.toList (92 : Int).toNat.toUInt8 = -1) := hidden (indexByte_no 92 q hq)
    clear hq
    go_enter Tryd.func51, Tryd.ntmps51
    go_wp2_with (go_at_call 57; go_must (refine (idx_calls _ _ _).mono ?_; rintro e wq ⟨rfl, rfl⟩; rw [HI.out]))
    clear c0 c1
    go_loopw [27] (fun i wr => i = .int .i64 0 ∧ wr = w) (fun i _ => 0)
    case atStart => exact ⟨rfl, rfl⟩
    case round =>
      obtain ⟨rfl, rfl⟩ := hrel
      go_upto_region 11 with (go_at_call 58; go_must (refine HUK.out.mono ?_; rintro e w1 ⟨rfl, hA1, hT1⟩; have HA1 := hidden hA1; have HT1 := hidden hT1; clear hA1 hT1))
      have hb1 := H0.out.alt HA1.out (fun e => by omega)
      have c5 := hb1.1
      clear hb1
      go_wp2
      clear c5
      go_loopw [52] (fun i wr => i = .int .i64 0 ∧ wr = w1) (fun i _ => 0)
      case atStart => exact ⟨rfl, rfl⟩
      case round =>
        obtain ⟨rfl, rfl⟩ := hrel
        go_wp2
        go_ret
        exact ⟨rfl, HA1.out, HT1.out⟩

set_option maxRecDepth 100000 in
set_option maxHeartbeats 4000000 in
theorem objGet_yes (w : World) (B o : Nat) (A : Option Addr) (n c : Nat) (key' : Nat → Bs) (ad : Nat → Nat × Nat) (q : Bs) (h0 : Slot w B o (.slice A n c)) (h1 : Slot w B (o + 1) (.bool true)) (hn : n ≤ 1000000000)
    (hk : ∀ i, i < n → ∃ k, A = some ⟨k, 0, none⟩ ∧ Slot w k (i * 2) (.string (bs (key' i))) ∧ Slot w k (i * 2 + 1) (ptr (ad i))) :
    Calls Tryd.prog 51 #[.pointer (some ⟨B, o, none⟩), .string (bs q)] w fun e w' => w = w' ∧ ((∃ i, i < n ∧ key' i = q ∧ e = .returned (ptr (ad i))) ∨ ((∀ j, j < n → key' j ≠ q) ∧ e = .returned (.pointer none))) := by
  have HUK := hidden (unKeys_yes w B o h1)
  have HK : Hid (∀ i, i < n → ∃ k, A = some ⟨k, 0, none⟩ ∧ Slot w k (i * 2) (.string (bs (key' i))) ∧ Slot w k (i * 2 + 1) (.pointer (some ⟨(ad i).1, (ad i).2, none⟩))) := hidden hk
  have c0 := h0.1
  have c1 := h1.1
  clear h0 h1 hk
  go_enter Tryd.func51, Tryd.ntmps51
  go_wp2_with (go_at_call 58; go_must (refine HUK.out.mono ?_; rintro e w1 ⟨rfl, rfl⟩))
  clear c0 c1
  go_loopw [52] (fun i wr => ∃ m : Nat, m ≤ n ∧ i = .int .i64 m ∧ wr = w ∧ Hid (∀ j, j < m → key' j ≠ q)) (fun i _ => n - (intOf i).toNat)
  case atStart => exact ⟨0, by omega, rfl, rfl, hidden (fun j hj => by omega)⟩
  case round =>
    obtain ⟨m, hm, rfl, rfl, HM⟩ := hrel
    by_cases hlt : m < n
    · obtain ⟨k, rfl, k3, k4⟩ := HK.out m hlt
      have c3 := k3.1
      have c4 := k4.1
      have hb := bs_eqb (key' m) q
      clear k3 k4
      by_cases he : key' m = q
      · rw [decide_eq_true he] at hb
        go_wp2
        go_ret
        exact ⟨rfl, .inl ⟨m, hlt, he, rfl⟩⟩
      · rw [decide_eq_false he] at hb
        have HM' : Hid (∀ j, j < m + 1 → key' j ≠ q) := hidden (fun j hj e => by
          by_cases h : j = m
          · subst h; exact he e
          · exact HM.out j (by omega) e)
        go_wp2
        exact ⟨⟨m + 1, by omega, by go_num, trivial, HM'⟩, by simp [intOf]; omega⟩
    · obtain rfl : m = n := by omega
      go_wp2
      go_ret
      exact ⟨rfl, .inr ⟨HM.out, rfl⟩⟩
end Go.Proofs.YtbdmdajbdmdknaaDoor
namespace Go.Proofs.YtbdmdajbdmdknaaDoor
open Go.RowKit
set_option linter.unusedVariables false
set_option linter.unusedSimpArgs false

/-- A value: as it was parsed, or a text that was read. -/
def VAt (w : World) (F : Nat → Nat → Prop) (un : Bs → Bs) (v : JV) (p : Nat × Nat) : Prop := Rep w F v p.1 p.2 ∨ ∃ s, v = .str s ∧ Cel w F p.1 (p.2 + 3) (.string (bs (un s))) ∧ Cel w F p.1 (p.2 + 4) (.int .i64 3)
theorem VAt.alt {w w1 : World} {F S : Nat → Nat → Prop} {un : Bs → Bs} {v : JV} {p : Nat × Nat} (h : VAt w F un v p) (k : AltC w w1 S) (hn : ∀ x y, F x y → ¬ S x y) : VAt w1 F un v p := by
  rcases h with h | ⟨s, rfl, h1, h2⟩
  · exact .inl (h.alt k hn)
  · exact .inr ⟨s, rfl, h1.alt k hn, h2.alt k hn⟩
/-- The cells that a head's calls may write to. -/
def RM (N M x y : Nat) : Prop := N ≤ x ∧ x < M
theorem AltC.of_belowM {w w1 : World} {M : Nat} (h : Below M w w1) : AltC w w1 (fun x _ => M ≤ x) :=
  ⟨h.os, h.tape, h.output, h.size, fun b hb hn => h.block b (by have := hn 0; omega), fun b o hb hn =>
    ⟨World.cell?_of_block (a := ⟨b, o, none⟩) (h.block b (by omega)), World.frozen?_of_block (a := ⟨b, o, none⟩) (h.block b (by omega))⟩⟩
theorem Rep.lt {w : World} {F : Nat → Nat → Prop} {v : JV} {b o : Nat} (h : Rep w F v b o) : Rep w (fun x y => F x y ∧ x < w.heap.size) v b o := by
  induction h with
  | lit h1 => exact .lit ⟨⟨h1.1, h1.2.lt⟩, h1.2⟩
  | num h1 h2 => exact .num ⟨⟨h1.1, h1.2.lt⟩, h1.2⟩ ⟨⟨h2.1, h2.2.lt⟩, h2.2⟩
  | str h1 h2 => exact .str ⟨⟨h1.1, h1.2.lt⟩, h1.2⟩ ⟨⟨h2.1, h2.2.lt⟩, h2.2⟩
  | arr A c ad h1 h2 h3 h4 _ ih =>
    refine .arr A c ad ⟨⟨h1.1, h1.2.lt⟩, h1.2⟩ h2 ⟨⟨h3.1, h3.2.lt⟩, h3.2⟩ (fun i v hv => ?_) (fun i hi => ih i hi)
    obtain ⟨b1, o1, e, hc⟩ := h4 i v hv
    exact ⟨b1, o1, e, ⟨hc.1, hc.2.lt⟩, hc.2⟩
  | obj K c ad G h1 h2 h3 h4 h5 h6 h7 h8 _ ih =>
    refine .obj K c ad (fun i x y => G i x y ∧ x < w.heap.size) ⟨⟨h1.1, h1.2.lt⟩, h1.2⟩ h2 ⟨⟨h3.1, h3.2.lt⟩, h3.2⟩ ⟨⟨h4.1, h4.2.lt⟩, h4.2⟩ h5 (fun i hi => ?_) (fun i x y hi hg => ?_) (fun i j x y hi hj h1 h2 => h8 i j x y hi hj h1.1 h2.1) (fun i hi => ih i hi)
    · obtain ⟨k, e, q1, q2⟩ := h6 i hi
      exact ⟨k, e, ⟨⟨q1.1, q1.2.lt⟩, q1.2⟩, ⟨⟨q2.1, q2.2.lt⟩, q2.2⟩⟩
    · have := h7 i x y hi hg.1
      exact ⟨⟨this.1, hg.2⟩, this.2⟩
structure HO (w : World) (un : Bs → Bs) (l : List (Bs × JV)) (N M B b o c : Nat) (K : Option Nat) (ad : Nat → Nat × Nat) (G : Nat → Nat → Nat → Prop) (fl : Bool) : Prop where
  b0 : Slot w B 0 (ptr (b, o))
  b1 : Slot w B 1 .nilIface
  g1 : Slot w b o (.slice (K.map fun k => ⟨k, 0, none⟩) l.length c)
  g3 : Slot w b (o + 1) (.bool fl)
  g4 : Slot w b (o + 4) (.int .i64 1)
  kb : ∀ k, K = some k → k ≠ b
  key : ∀ i (h : i < l.length), ∃ k, K = some k ∧ Slot w k (i * 2) (.string (bs (if fl then un l[i].1 else l[i].1))) ∧ Slot w k (i * 2 + 1) (ptr (ad i)) ∧ RM N M k 0
  sep : ∀ i x y, i < l.length → G i x y → RM N M x 0 ∧ K ≠ some x ∧ ¬ (x = b ∧ o ≤ y ∧ y < o + 5)
  one : ∀ i j x y, i < l.length → j < l.length → G i x y → G j x y → i = j
  val : ∀ i (h : i < l.length), VAt w (G i) un l[i].2 (ad i)
  ge : RM N M b 0
  lt : B < M
theorem HO.of_head {w : World} {l : List (Bs × JV)} {B N : Nat} (un : Bs → Bs) (h : HeadAt w B (some (.obj l)) N) : ∃ b o c K ad G, HO w un l N w.heap.size B b o c K ad G false := by
  obtain ⟨_, F, b, o, h0, h1, hR, hF⟩ := h
  have hR2 := hR.lt
  cases hR2 with
  | obj K c ad G g1 g2 g3 g4 g5 g6 g7 g8 g9 =>
    refine ⟨b, o, c, K, ad, G, h0, h1, g1.2, g3.2, g4.2, g5, fun i hi => ?_, fun i x y hi hg => ⟨⟨hF _ _ (g7 i x y hi hg).1.1, (g7 i x y hi hg).1.2⟩, (g7 i x y hi hg).2⟩, g8, fun i hi => .inl (g9 i hi), ⟨hF _ _ g3.1.1, g3.1.2⟩, h0.lt⟩
    obtain ⟨k, e, q1, q2⟩ := g6 i hi
    rw [Nat.mul_comm i]
    exact ⟨k, e, q1.2, q2.2, hF _ _ q1.1.1, q1.1.2⟩
section
variable {w w1 : World} {un : Bs → Bs} {l : List (Bs × JV)} {N M B b o c : Nat} {K : Option Nat} {ad : Nat → Nat × Nat} {G : Nat → Nat → Nat → Prop} {fl : Bool}
theorem HO.below (h : HO w un l N M B b o c K ad G fl) (k : Below w.heap.size w w1) : HO w1 un l N M B b o c K ad G fl where
  b0 := h.b0.below k
  b1 := h.b1.below k
  g1 := h.g1.below k
  g3 := h.g3.below k
  g4 := h.g4.below k
  kb := h.kb
  key := fun i hi => by
    obtain ⟨q, e, h1, h2, h3⟩ := h.key i hi
    exact ⟨q, e, h1.below k, h2.below k, h3⟩
  sep := h.sep
  one := h.one
  val := fun i hi => (h.val i hi).alt (AltC.of_below k (fun _ _ => False)) (fun _ _ _ e => e)
  ge := h.ge
  lt := h.lt
/-- Cells of other blocks were written. -/
theorem HO.above (h : HO w un l N M B b o c K ad G fl) (k : Below M w w1) : HO w1 un l N M B b o c K ad G fl where
  b0 := h.b0.alt (AltC.of_belowM k) (by have := h.lt; omega)
  b1 := h.b1.alt (AltC.of_belowM k) (by have := h.lt; omega)
  g1 := h.g1.alt (AltC.of_belowM k) (by have := h.ge.2; omega)
  g3 := h.g3.alt (AltC.of_belowM k) (by have := h.ge.2; omega)
  g4 := h.g4.alt (AltC.of_belowM k) (by have := h.ge.2; omega)
  kb := h.kb
  key := fun i hi => by
    obtain ⟨q, e, h1, h2, h3⟩ := h.key i hi
    exact ⟨q, e, h1.alt (AltC.of_belowM k) (by have := h3.2; omega), h2.alt (AltC.of_belowM k) (by have := h3.2; omega), h3⟩
  sep := h.sep
  one := h.one
  val := fun i hi => (h.val i hi).alt (AltC.of_belowM k) (fun x y hg e => by have := (h.sep i x y hi hg).1.2; omega)
  ge := h.ge
  lt := h.lt
theorem not_sk (h : HO w un l N M B b o c K ad G false) {k : Nat} (hk : ∀ q, K = some q → q = k) (hn : 0 < l.length) : ¬ SKey b o k B 0 ∧ ¬ SKey b o k B 1 := by
  constructor
  · rintro (e | ⟨rfl, i, e⟩)
    · omega
    · obtain ⟨q, e2, h1, _⟩ := h.key 0 hn
      obtain rfl := hk q e2
      rw [Nat.zero_mul] at h1
      exact absurd (h.b0.eq h1) (by unfold ptr; simp)
  · rintro (⟨rfl, e⟩ | ⟨_, i, e⟩)
    · have h2 := h.g3
      rw [← e] at h2
      exact absurd (h.b1.eq h2) (by simp)
    · omega
/-- The names are unescaped. -/
theorem HO.names (h : HO w un l N M B b o c K ad G false) {k : Nat} (hK : K = some k) (hn : 0 < l.length) (hA : AltC w w1 (SKey b o k)) (hf : Slot w1 b (o + 1) (.bool true)) (hk : ∀ i (hi : i < l.length), Slot w1 k (i * 2) (.string (bs (un l[i].1)))) : HO w1 un l N M B b o c K ad G true := by
  subst hK
  have hs := not_sk h (k := k) (fun q e => by cases e; rfl) hn
  have hkb := h.kb k rfl
  refine ⟨h.b0.alt hA hs.1, h.b1.alt hA hs.2, h.g1.alt hA ?_, hf, h.g4.alt hA ?_, h.kb, fun i hi => ?_, h.sep, h.one, fun i hi => (h.val i hi).alt hA (fun x y hg e => ?_), h.ge, h.lt⟩
  · rintro (e | e)
    · omega
    · exact hkb e.1.symm
  · rintro (e | e)
    · omega
    · exact hkb e.1.symm
  · obtain ⟨q, e, h1, h2, h3⟩ := h.key i hi
    cases e
    refine ⟨k, rfl, hk i hi, h2.alt hA ?_, h3⟩
    rintro (e | ⟨_, j, e⟩)
    · exact hkb e.1
    · omega
  · have := h.sep i x y hi hg
    rcases e with ⟨rfl, rfl⟩ | ⟨rfl, _⟩
    · exact this.2.2 ⟨rfl, by omega, by omega⟩
    · exact this.2.1 rfl
theorem HO.names0 (h : HO w un l N M B b o c K ad G false) (hn : l.length = 0) (hA : AltC w w1 (fun x y => x = b ∧ y = o + 1)) (hf : Slot w1 b (o + 1) (.bool true)) : HO w1 un l N M B b o c K ad G true := by
  refine ⟨h.b0.alt hA (by omega), h.b1.alt hA ?_, h.g1.alt hA (by omega), hf, h.g4.alt hA (by omega), h.kb, fun i hi => by omega, h.sep, h.one, fun i hi => by omega, h.ge, h.lt⟩
  rintro ⟨rfl, e⟩
  have h2 := h.g3
  rw [← e] at h2
  exact absurd (h.b1.eq h2) (by simp)
/-- A text is read. -/
theorem HO.read (h : HO w un l N M B b o c K ad G fl) {i : Nat} (hi : i < l.length) {s : Bs} (hv : l[i].2 = .str s) (hr : Rep w (G i) (.str s) (ad i).1 (ad i).2) (hA : AltC w w1 (fun x y => x = (ad i).1 ∧ (y = (ad i).2 + 3 ∨ y = (ad i).2 + 4)))
    (h3 : Slot w1 (ad i).1 ((ad i).2 + 3) (.string (bs (un s)))) (h4 : Slot w1 (ad i).1 ((ad i).2 + 4) (.int .i64 3)) : HO w1 un l N M B b o c K ad G fl := by
  have hc : Cel w (G i) (ad i).1 ((ad i).2 + 3) (.string (bs s)) ∧ Cel w (G i) (ad i).1 ((ad i).2 + 4) (.int .i64 7) := by cases hr with | str h1 h2 => exact ⟨h1, h2⟩
  obtain ⟨c3, c4⟩ := hc
  have s3 := h.sep i _ _ hi c3.1
  have s4 := h.sep i _ _ hi c4.1
  have own : ∀ y, o ≤ y → y < o + 5 → ¬ (b = (ad i).1 ∧ (y = (ad i).2 + 3 ∨ y = (ad i).2 + 4)) := by
    rintro y h1 h2 ⟨e, rfl | rfl⟩
    · exact s3.2.2 ⟨e.symm, h1, h2⟩
    · exact s4.2.2 ⟨e.symm, h1, h2⟩
  refine ⟨h.b0.alt hA ?_, h.b1.alt hA ?_, h.g1.alt hA (own _ (by omega) (by omega)), h.g3.alt hA (own _ (by omega) (by omega)), h.g4.alt hA (own _ (by omega) (by omega)), h.kb, fun j hj => ?_, h.sep, h.one, fun j hj => ?_, h.ge, h.lt⟩
  · rintro ⟨rfl, e | e⟩
    · have := c3.2; rw [← e] at this; exact absurd (h.b0.eq this) (by unfold ptr; simp)
    · have := c4.2; rw [← e] at this; exact absurd (h.b0.eq this) (by unfold ptr; simp)
  · rintro ⟨rfl, e | e⟩
    · have := c3.2; rw [← e] at this; exact absurd (h.b1.eq this) (by simp)
    · have := c4.2; rw [← e] at this; exact absurd (h.b1.eq this) (by simp)
  · obtain ⟨q, e, h1, h2, h5⟩ := h.key j hj
    have hne : ∀ y, ¬ (q = (ad i).1 ∧ (y = (ad i).2 + 3 ∨ y = (ad i).2 + 4)) := fun y e2 => s3.2.1 (by rw [e, e2.1])
    exact ⟨q, e, h1.alt hA (hne _), h2.alt hA (hne _), h5⟩
  · by_cases e : j = i
    · subst e
      exact .inr ⟨s, hv, ⟨c3.1, h3⟩, ⟨c4.1, h4⟩⟩
    · refine (h.val j hj).alt hA (fun x y hg e2 => e ?_)
      obtain ⟨rfl, rfl | rfl⟩ := e2
      · exact h.one j i _ _ hj hi hg c3.1
      · exact h.one j i _ _ hj hi hg c4.1
end
/-- What an object's names and values are. -/
structure HC (un : Bs → Bs) (l : List (Bs × JV)) (N : Nat) : Prop where
  uc : ∀ p ∈ l, UnC p.1 (un p.1)
  pl : ∀ p ∈ l, (92 : UInt8) ∉ p.1 → un p.1 = p.1
  len : l.length ≤ 1000000000
  nd : ∀ i j (hi : i < l.length) (hj : j < l.length), un l[i].1 = un l[j].1 → i = j
  lit : ∀ p ∈ l, ∀ t, p.2 = .lit t → t ≠ 7 ∧ t ≠ 3
  str : ∀ p ∈ l, ∀ s, p.2 = .str s → UnC s (un s)
  ng : 2 < N
/-- The place of a name. -/
def Is (un : Bs → Bs) (l : List (Bs × JV)) (q : Bs) : Option Nat → Prop
  | some i => ∃ h : i < l.length, un l[i].1 = q
  | none => ∀ i (h : i < l.length), un l[i].1 ≠ q
def resP (ad : Nat → Nat × Nat) : Option Nat → Value
  | some i => ptr (ad i)
  | none => .pointer none
def OGS (w : World) (un : Bs → Bs) (l : List (Bs × JV)) (N M B b o c : Nat) (K : Option Nat) (ad : Nat → Nat × Nat) (G : Nat → Nat → Nat → Prop) (p : Value) (e : Ending) (w' : World) : Prop := e = .returned p ∧ ∃ fl, HO w' un l N M B b o c K ad G fl ∧ AltC w w' (RM N M)
theorem objGetS_calls {w : World} {un : Bs → Bs} {l : List (Bs × JV)} {N M B b o c : Nat} {K : Option Nat} {ad : Nat → Nat × Nat} {G : Nat → Nat → Nat → Prop} {fl : Bool} (h : HO w un l N M B b o c K ad G fl) (hC : HC un l N) (q : Bs) (r : Option Nat) (hr : Is un l q r) (hS : SynAt w) :
    Calls Tryd.prog 51 #[.pointer (some ⟨b, o, none⟩), .string (bs q)] w (OGS w un l N M B b o c K ad G (resP ad r)) := by
  have hun : ∀ i, i < l.length → un (l.getD i ([], .lit 0)).1 = q → r = some i := fun i hi e => by
    rw [List.getD_eq_getElem?_getD, List.getElem?_eq_getElem hi, Option.getD_some] at e
    cases r with
    | none => exact absurd e (hr i hi)
    | some j =>
      obtain ⟨hj, e2⟩ := hr
      rw [hC.nd j i hj hi (e2.trans e.symm)]
  have hno : (∀ i, i < l.length → un (l.getD i ([], .lit 0)).1 ≠ q) → r = none := fun hh => by
    cases r with
    | none => rfl
    | some j =>
      obtain ⟨hj, e2⟩ := hr
      have := hh j hj
      rw [List.getD_eq_getElem?_getD, List.getElem?_eq_getElem hj, Option.getD_some] at this
      exact absurd e2 this
  cases fl with
  | true =>
    refine (objGet_yes w b o _ l.length c (fun i => un (l.getD i ([], .lit 0)).1) ad q h.g1 h.g3 hC.len (fun i hi => ?_)).mono ?_
    · obtain ⟨k, rfl, h1, h2, _⟩ := h.key i hi
      refine ⟨k, rfl, ?_, h2⟩
      rw [List.getD_eq_getElem?_getD, List.getElem?_eq_getElem hi, Option.getD_some]
      exact h1
    · rintro e w' ⟨rfl, hR⟩
      refine ⟨?_, true, h, AltC.refl _ _⟩
      rcases hR with ⟨i, hi, e1, rfl⟩ | ⟨e1, rfl⟩
      · rw [hun i hi e1]; rfl
      · rw [hno e1]; rfl
  | false =>
    rcases Nat.eq_zero_or_pos l.length with h0 | h0
    · have h1 := h.g1
      rw [h0] at h1
      refine (objGet_none2 w b o _ c q h1 h.g3).mono ?_
      rintro e w' ⟨rfl, hA, hf⟩
      refine ⟨?_, true, h.names0 h0 hA hf, hA.mono (fun x y _ e => e.1 ▸ h.ge)⟩
      rw [hno (fun i hi => by omega)]; rfl
    · obtain ⟨k, hK, _, _, hNk⟩ := h.key 0 h0
      have hk : ∀ i, i < l.length → Slot w k (i * 2) (.string (bs (l.getD i ([], .lit 0)).1)) ∧ Slot w k (i * 2 + 1) (ptr (ad i)) := by
        intro i hi
        obtain ⟨k', e, h1, h2, _⟩ := h.key i hi
        obtain rfl : k' = k := by rw [hK] at e; cases e; rfl
        rw [List.getD_eq_getElem?_getD, List.getElem?_eq_getElem hi, Option.getD_some]
        exact ⟨h1, h2⟩
      have g1 := h.g1
      rw [hK] at g1
      refine (objGet_some2 w b o k l.length c (fun i => (l.getD i ([], .lit 0)).1) (fun i => un (l.getD i ([], .lit 0)).1) ad q g1 h.g3 (h.kb k hK) (fun i hi => (hk i hi).1) (fun i hi => (hk i hi).2) (fun i hi => ?_) hC.len hS (Nat.lt_of_lt_of_le hC.ng hNk.1)).mono ?_
      · rw [List.getD_eq_getElem?_getD, List.getElem?_eq_getElem hi, Option.getD_some]
        exact hC.uc _ (List.getElem_mem hi)
      · rintro e w' ⟨hA, hR, hW⟩
        refine ⟨?_, ?_⟩
        · rcases hR with ⟨i, hi, e1, rfl⟩ | ⟨e1, rfl⟩
          · have e2 : un (l.getD i ([], .lit 0)).1 = q := by
              rcases e1 with ⟨h92, e1⟩ | e1
              · dsimp only at e1
                rw [hC.pl _ (by rw [List.getD_eq_getElem?_getD, List.getElem?_eq_getElem hi, Option.getD_some]; exact List.getElem_mem hi) (by rw [e1]; exact h92), e1]
              · exact e1
            rw [hun i hi e2]; rfl
          · rw [hno e1]; rfl
        · have hB : AltC w w' (RM N M) := hA.mono (fun x y _ e => by
            rcases e with e | e
            · exact e.1 ▸ h.ge
            · exact e.1 ▸ hNk)
          rcases hW with rfl | ⟨hf, hks⟩
          · exact ⟨false, h, hB⟩
          · refine ⟨true, h.names hK h0 hA hf (fun i hi => ?_), hB⟩
            have := hks i hi
            dsimp only at this
            rw [List.getD_eq_getElem?_getD, List.getElem?_eq_getElem hi, Option.getD_some] at this
            exact this
set_option maxRecDepth 100000 in
set_option maxHeartbeats 4000000 in
theorem valGetS_calls {w : World} {un : Bs → Bs} {l : List (Bs × JV)} {N M B b o c : Nat} {K : Option Nat} {ad : Nat → Nat × Nat} {G : Nat → Nat → Nat → Prop} {fl : Bool} (h : HO w un l N M B b o c K ad G fl) (hC : HC un l N) (q : Bs) (r : Option Nat) (hr : Is un l q r) (hS : SynAt w) (g cg : Nat) (hg : Slot w g 0 (.string (bs q))) :
    Calls Tryd.prog 45 #[.pointer (some ⟨b, o, none⟩), .slice (some ⟨g, 0, none⟩) 1 cg] w (OGS w un l N M B b o c K ad G (resP ad r)) := by
  have HG := hidden (objGetS_calls h hC q r hr hS)
  have c0 := h.g4.1
  have c1 := hg.1
  clear h hC hr hS hg
  go_enter Tryd.func45, Tryd.ntmps45
  cases r with
  | none =>
    go_wp2
    go_loopw [0, 13] (fun p i wr => p = .pointer (some ⟨b, o, none⟩) ∧ i = .int .i64 0 ∧ wr = w) (fun p i _ => 0)
    case atStart => exact ⟨rfl, rfl, rfl⟩
    case round =>
      obtain ⟨rfl, rfl, rfl⟩ := hrel
      go_wp2_with (go_at_call 51; go_must (refine HG.out.mono ?_; rintro e w1 ⟨hE, hA⟩; unfold resP at hE; subst hE; have HA := hidden hA; clear hA))
      go_ret
      exact ⟨rfl, HA.out⟩
  | some v =>
    go_wp2
    go_loopw [0, 13] (fun p i wr => (p = .pointer (some ⟨b, o, none⟩) ∧ i = .int .i64 0 ∧ wr = w) ∨ (i = .int .i64 1 ∧ p = .pointer (some ⟨(ad v).1, (ad v).2, none⟩) ∧ Hid (∃ fl, HO wr un l N M B b o c K ad G fl ∧ AltC w wr (RM N M)))) (fun p i _ => 1 - (intOf i).toNat)
    case atStart => exact .inl ⟨rfl, rfl, rfl⟩
    case round =>
      rcases hrel with ⟨rfl, rfl, rfl⟩ | ⟨rfl, rfl, HP⟩
      · go_wp2_with (go_at_call 51; go_must (refine HG.out.mono ?_; rintro e w1 ⟨hE, hA⟩; unfold resP ptr at hE; subst hE; have HA := hidden hA; clear hA))
        go_roundw
        case rel => exact .inr ⟨rfl, rfl, HA⟩
        case measure => simp [intOf]
      · clear c0 c1
        go_wp2
        go_ret
        exact ⟨rfl, HP.out⟩
def HGS (w : World) (un : Bs → Bs) (l : List (Bs × JV)) (N M B b o c : Nat) (K : Option Nat) (ad : Nat → Nat × Nat) (G : Nat → Nat → Nat → Prop) (r : Option Nat) (e : Ending) (w' : World) : Prop := (∃ fl, HO w' un l N M B b o c K ad G fl ∧ AltC w w' (RM N M)) ∧ (match r with
  | some i => e = .returned (.tuple #[ptr (ad i), .nilIface])
  | none => ∃ T u, e = .returned (.tuple #[.pointer none, .iface T u]))
set_option maxRecDepth 100000 in
set_option maxHeartbeats 2000000 in
theorem headGetS_calls {w : World} {un : Bs → Bs} {l : List (Bs × JV)} {N M B b o c : Nat} {K : Option Nat} {ad : Nat → Nat × Nat} {G : Nat → Nat → Nat → Prop} {fl : Bool} (h : HO w un l N M B b o c K ad G fl) (hC : HC un l N) (q : Bs) (r : Option Nat) (hr : Is un l q r) (hS : SynAt w) :
    Calls Tryd.prog 41 #[.iface 94 (.pointer (some ⟨B, 0, none⟩)), .string (bs q)] w (HGS w un l N M B b o c K ad G r) := by
  have c0 := h.b0.1
  have c1 := h.b1.1
  have row : ∀ W : World, Row (W.alloc (.cells #[.string (bs q)] 9)) W.heap.size 9 [.string (bs q)] := fun W => Row.new W 9 [.string (bs q)]
  have HVG := hidden (valGetS_calls (h.below (below_alloc0 w (.cells #[.string (bs q)] 9))) hC q r hr (hS.next (below_alloc0 w _)) w.heap.size 1 (Slot.of_row (row w) 0 rfl))
  have HL := hidden (AltC.alloc w (.cells #[.string (bs q)] 9) (RM N M))
  clear h hC hr hS row
  unfold ptr at c0
  have hta := ta_head (.pointer (some ⟨B, 0, none⟩)) w
  go_enter Tryd.func41, Tryd.ntmps41
  cases r with
  | none =>
    go_wp2_with (go_at_call 45; go_must (refine HVG.out.mono ?_; rintro e w1 ⟨hE, hA⟩; unfold resP at hE; subst hE; have HA := hidden hA; clear hA))
    go_ret2
    obtain ⟨fl2, hO, hB⟩ := HA.out
    exact ⟨⟨fl2, hO, HL.out.trans hB (fun _ _ _ e => e)⟩, _, _, rfl⟩
  | some u =>
    go_wp2_with (go_at_call 45; go_must (refine HVG.out.mono ?_; rintro e w1 ⟨hE, hA⟩; unfold resP ptr at hE; subst hE; have HA := hidden hA; clear hA))
    go_ret2
    obtain ⟨fl2, hO, hB⟩ := HA.out
    exact ⟨⟨fl2, hO, HL.out.trans hB (fun _ _ _ e => e)⟩, rfl⟩
end Go.Proofs.YtbdmdajbdmdknaaDoor
namespace Go.Proofs.YtbdmdajbdmdknaaDoor
open Go.RowKit
set_option linter.unusedVariables false
set_option linter.unusedSimpArgs false
/-- The cells of a value that a text's reader writes to. -/
def SV (b o x y : Nat) : Prop := x = b ∧ (y = o + 3 ∨ y = o + 4)

set_option maxRecDepth 100000 in
set_option maxHeartbeats 4000000 in
theorem type_str2 (w : World) (F : Nat → Nat → Prop) (s s' : Bs) (b o : Nat) (h : Rep w F (.str s) b o) (hU : UnC s s') (hS : SynAt w) :
    Calls Tryd.prog 47 #[.pointer (some ⟨b, o, none⟩)] w fun e w' => e = .returned (.int .i64 3) ∧ AltC w w' (SV b o) ∧ Slot w' b (o + 3) (.string (bs s')) ∧ Slot w' b (o + 4) (.int .i64 3) := by
  have hh : Slot w b (o + 3) (.string (bs s)) ∧ Slot w b (o + 4) (.int .i64 7) := by cases h with | str h1 h2 => exact ⟨h1.2, h2.2⟩
  obtain ⟨h3, h4⟩ := hh
  have c3 := h3.1
  have c4 := h4.1
  have f3 := h3.2
  have f4 := h4.2
  have H3 := hidden h3
  have H4 := hidden h4
  have HU := hidden (hU w hS)
  clear h h3 h4 hU hS
  go_enter Tryd.func47, Tryd.ntmps47
  go_wp2_with (go_at_call 55; go_must (refine HU.out.mono ?_; rintro e w1 ⟨rfl, hB⟩; have d3 := (H3.out.below hB).1; have g3 := (H3.out.below hB).2; have d4 := (H4.out.below hB).1; have g4 := (H4.out.below hB).2; have HB := hidden hB; clear hB))
  go_ret
  have hA1 : AltC w w1 (SV b o) := AltC.of_below HB.out _
  have h2 := AltC.set w1 b (o + 3) (.string (bs s'))
  have h3 := AltC.set (w1.setCell ⟨b, o + 3, none⟩ (.string (bs s'))) b (o + 4) (.int .i64 3)
  exact ⟨rfl, (hA1.trans h2 (fun x y _ e => ⟨e.1, .inl e.2⟩)).trans h3 (fun x y _ e => ⟨e.1, .inr e.2⟩), (Slot.set ⟨d3, g3⟩ _).alt h3 (fun e => by omega), (Slot.alt ⟨d4, g4⟩ h2 (fun e => by omega)).set _⟩

set_option maxRecDepth 100000 in
set_option maxHeartbeats 4000000 in
theorem strBytes_str2 (w : World) (F : Nat → Nat → Prop) (s s' : Bs) (b o : Nat) (h : Rep w F (.str s) b o) (hU : UnC s s') (hS : SynAt w) :
    Calls Tryd.prog 43 #[.pointer (some ⟨b, o, none⟩)] w fun e w' => ∃ A n c, e = .returned (.tuple #[.slice A n c, .nilIface]) ∧ n = s'.length ∧ Rd w' A (nums .u8 (bI (bs s'))) ∧ AltC w w' (SV b o) ∧ Slot w' b (o + 3) (.string (bs s')) ∧ Slot w' b (o + 4) (.int .i64 3) := by
  have HT := hidden (type_str2 w F s s' b o h hU hS)
  have hsz : (bs s').size = s'.length := by rw [size_toL, toL_bs]
  have HZ := hidden hsz
  clear h hU hsz hS
  go_enter Tryd.func43, Tryd.ntmps43
  go_wp2_with (first
    | (go_at_call 47; go_must (refine HT.out.mono ?_; rintro e w1 ⟨rfl, hA, hS, hS4⟩; have c3 := hS.1; have HA := hidden hA; have HSS := hidden (And.intro hS hS4); clear hA hS hS4))
    | (go_at_call 49; go_must (refine (s2b_calls (bs s') _).mono ?_; rintro e w2 ⟨c, rfl, hle, hR, hB⟩; have HR := hidden hR; have HB := hidden hB; clear hR hB)))
  go_ret2
  exact ⟨_, _, _, rfl, HZ.out, HR.out, HA.out.trans (AltC.of_below HB.out (fun _ _ => False)) (fun _ _ _ e => e.elim), HSS.out.1.below HB.out, HSS.out.2.below HB.out⟩

set_option maxRecDepth 100000 in
set_option maxHeartbeats 4000000 in
theorem strBytes_read (w : World) (s' : Bs) (b o : Nat) (h3 : Slot w b (o + 3) (.string (bs s'))) (h4 : Slot w b (o + 4) (.int .i64 3)) :
    Calls Tryd.prog 43 #[.pointer (some ⟨b, o, none⟩)] w fun e w' => ∃ A n c, e = .returned (.tuple #[.slice A n c, .nilIface]) ∧ n = s'.length ∧ Rd w' A (nums .u8 (bI (bs s'))) ∧ Below w.heap.size w w' := by
  have ht : Calls Tryd.prog 47 #[.pointer (some ⟨b, o, none⟩)] w fun e w' => e = .returned (.int .i64 3) ∧ w = w' := by
    have c0 := h4.1
    clear h3 h4
    go_enter Tryd.func47, Tryd.ntmps47
    go_wp2
    go_ret
    exact ⟨rfl, rfl⟩
  have HT := hidden ht
  have c3 := h3.1
  have hsz : (bs s').size = s'.length := by rw [size_toL, toL_bs]
  have HZ := hidden hsz
  clear h3 h4 hsz ht
  go_enter Tryd.func43, Tryd.ntmps43
  go_wp2_with (first
    | (go_at_call 47; go_must (refine HT.out.mono ?_; rintro e w1 ⟨rfl, rfl⟩))
    | (go_at_call 49; go_must (refine (s2b_calls (bs s') _).mono ?_; rintro e w2 ⟨c, rfl, hle, hR, hB⟩; have HR := hidden hR; have HB := hidden hB; clear hR hB)))
  go_ret2
  exact ⟨_, _, _, rfl, HZ.out, HR.out, HB.out⟩
section
variable {w : World} {un : Bs → Bs} {l : List (Bs × JV)} {N M B b o c : Nat} {K : Option Nat} {ad : Nat → Nat × Nat} {G : Nat → Nat → Nat → Prop} {fl : Bool}
theorem HO.syn {w' : World} (hS : SynAt w) (hC : HC un l N) (hA : AltC w w' (RM N M)) : SynAt w' := hS.alt hA (fun e => by have := e.1; have := hC.ng; omega)
/-- What the reader of a text leaves. -/
def SBS (w : World) (un : Bs → Bs) (l : List (Bs × JV)) (N M B b o c : Nat) (K : Option Nat) (ad : Nat → Nat × Nat) (G : Nat → Nat → Nat → Prop) (s : Bs) (e : Ending) (w' : World) : Prop := ∃ A n c1, e = .returned (.tuple #[.slice A n c1, .nilIface]) ∧ n = (un s).length ∧ Rd w' A (nums .u8 (bI (bs (un s)))) ∧ (∃ fl, HO w' un l N M B b o c K ad G fl ∧ AltC w w' (RM N M))
theorem strBytesS (h : HO w un l N M B b o c K ad G fl) (hC : HC un l N) (hS : SynAt w) {i : Nat} (hi : i < l.length) {s : Bs} (hv : l[i].2 = .str s) :
    Calls Tryd.prog 43 #[.pointer (some ⟨(ad i).1, (ad i).2, none⟩)] w (SBS w un l N M B b o c K ad G s) := by
  rcases h.val i hi with hr | ⟨s2, hs2, q3, q4⟩
  · rw [hv] at hr
    have hq : Cel w (G i) (ad i).1 ((ad i).2 + 3) (.string (bs s)) ∧ Cel w (G i) (ad i).1 ((ad i).2 + 4) (.int .i64 7) := by cases hr with | str h1 h2 => exact ⟨h1, h2⟩
    refine (strBytes_str2 w (G i) s (un s) _ _ hr (hC.str _ (List.getElem_mem hi) s hv) hS).mono ?_
    rintro e w' ⟨A, n, c1, rfl, hn, hrd, hA, h3, h4⟩
    exact ⟨A, n, c1, rfl, hn, hrd, fl, h.read hi hv hr hA h3 h4, hA.mono (fun x y _ e => e.1 ▸ (h.sep i _ _ hi hq.1.1).1)⟩
  · rw [hv] at hs2
    cases hs2
    refine (strBytes_read w (un s) _ _ q3.2 q4.2).mono ?_
    rintro e w' ⟨A, n, c1, rfl, hn, hrd, hB⟩
    exact ⟨A, n, c1, rfl, hn, hrd, fl, h.below hB, AltC.of_below hB _⟩
def SBN (w : World) (un : Bs → Bs) (l : List (Bs × JV)) (N M B b o c : Nat) (K : Option Nat) (ad : Nat → Nat × Nat) (G : Nat → Nat → Nat → Prop) (e : Ending) (w' : World) : Prop := ∃ T a, e = .returned (.tuple #[.slice none 0 0, .iface T (.pointer (some a))]) ∧ (∃ fl, HO w' un l N M B b o c K ad G fl ∧ AltC w w' (RM N M))
theorem strBytesN (h : HO w un l N M B b o c K ad G fl) (hC : HC un l N) {i : Nat} (hi : i < l.length) (hv : ∀ s, l[i].2 ≠ .str s) :
    Calls Tryd.prog 43 #[.pointer (some ⟨(ad i).1, (ad i).2, none⟩)] w (SBN w un l N M B b o c K ad G) := by
  rcases h.val i hi with hr | ⟨s2, hs2, q3, q4⟩
  · have hty : tyOf l[i].2 ≠ 7 ∧ tyOf l[i].2 ≠ 3 := by
      cases hj : l[i].2 with
      | str s => exact absurd hj (hv s)
      | lit t => exact hC.lit _ (List.getElem_mem hi) t hj
      | _ => simp [tyOf]
    refine (strBytes_no w (G i) _ _ _ hr hty.1 hty.2).mono ?_
    rintro e w' ⟨T, a, rfl, hB⟩
    exact ⟨T, a, rfl, fl, h.below hB, AltC.of_below hB _⟩
  · exact absurd hs2 (hv s2)
end
/-- What stands behind a name's place: a text, or none. -/
def TxtOf (un : Bs → Bs) (l : List (Bs × JV)) (r : Option Nat) (t : Option Bs) : Prop := (∃ i, ∃ hi : i < l.length, r = some i ∧ ∃ s, l[i].2 = .str s ∧ t = some (un s)) ∨ (∃ i, ∃ hi : i < l.length, r = some i ∧ (∀ s, l[i].2 ≠ .str s) ∧ t = none) ∨ (r = none ∧ t = none)
def HSS (w : World) (un : Bs → Bs) (l : List (Bs × JV)) (N M B b o c : Nat) (K : Option Nat) (ad : Nat → Nat × Nat) (G : Nat → Nat → Nat → Prop) (t : Option Bs) (e : Ending) (w' : World) : Prop := (∃ fl, HO w' un l N M B b o c K ad G fl ∧ AltC w w' (RM N M)) ∧ ∃ u, e = .returned (.tuple #[.string (bs (t.getD [])), u])

set_option maxRecDepth 100000 in
set_option maxHeartbeats 4000000 in
theorem headStringS {w : World} {un : Bs → Bs} {l : List (Bs × JV)} {N M B b o c : Nat} {K : Option Nat} {ad : Nat → Nat × Nat} {G : Nat → Nat → Nat → Prop} {fl : Bool} (h : HO w un l N M B b o c K ad G fl) (hC : HC un l N) (q : Bs) (r : Option Nat) (hr : Is un l q r) (t : Option Bs) (ht : TxtOf un l r t) (hS : SynAt w) :
    Calls Tryd.prog 31 #[.iface 94 (.pointer (some ⟨B, 0, none⟩)), .string (bs q)] w (HSS w un l N M B b o c K ad G t) := by
  have HG1 := hidden (headGetS_calls h hC q r hr hS)
  have HSY := hidden hS
  have HCC := hidden hC
  clear h hC hr hS
  rcases ht with ⟨i, hi, rfl, s, hv, rfl⟩ | ⟨i, hi, rfl, hv, rfl⟩ | ⟨rfl, rfl⟩
  · have hsz : (bs (un s)).size = (un s).length := by rw [size_toL, toL_bs]
    have HZ := hidden hsz
    have HV := hidden (fun (w1 : World) (fl1 : Bool) (h : HO w1 un l N M B b o c K ad G fl1) (hA : AltC w w1 (RM N M)) => strBytesS h HCC.out (HO.syn HSY.out HCC.out hA) hi hv)
    clear hv hsz hi
    go_enter Tryd.func31, Tryd.ntmps31
    go_upto_region 7 with (first
      | (go_at_call 41; go_must (refine HG1.out.mono ?_; rintro e w1 ⟨⟨fl1, hO, hA⟩, hE⟩; dsimp only at hE; subst hE; have HO1 := hidden hO; have HA1 := hidden hA; clear hO hA; unfold ptr))
      | (go_at_call 43; go_must (refine (HV.out _ _ HO1.out HA1.out).mono ?_; rintro e w2 ⟨A, n, c1, rfl, hn, hRd, hO2⟩; have HRd := hidden hRd; have HN2 := hidden hn; have HO2 := hidden hO2; clear hRd hn hO2)))
    have hcv : (convert 32 9 (.slice A n c1)).run Tryd.prog w2 = .ok (.string (bs (un s))) w2 := by
      have := run_string (P := Tryd.prog) (W := w2) (c := c1) Tryd.underlying32 Tryd.underlying5 Tryd.underlying9 HRd.out (n := n) (by rw [bI_len, HZ.out]; exact HN2.out.symm)
      rwa [str_bI] at this
    go_wp2
    go_ret2
    obtain ⟨fl2, hO, hA⟩ := HO2.out
    exact ⟨⟨fl2, hO, HA1.out.trans hA (fun _ _ _ e => e)⟩, _, rfl⟩
  · have HV := hidden (fun (w1 : World) (fl1 : Bool) (h : HO w1 un l N M B b o c K ad G fl1) => strBytesN h HCC.out hi hv)
    clear hv hi
    go_enter Tryd.func31, Tryd.ntmps31
    go_wp2_with (first
      | (go_at_call 41; go_must (refine HG1.out.mono ?_; rintro e w1 ⟨⟨fl1, hO, hA⟩, hE⟩; dsimp only at hE; subst hE; have HO1 := hidden hO; have HA1 := hidden hA; clear hO hA; unfold ptr))
      | (go_at_call 43; go_must (refine (HV.out _ _ HO1.out).mono ?_; rintro e w2 ⟨T, a, rfl, hO2⟩; have HO2 := hidden hO2; clear hO2)))
    go_ret2
    obtain ⟨fl2, hO, hA⟩ := HO2.out
    exact ⟨⟨fl2, hO, HA1.out.trans hA (fun _ _ _ e => e)⟩, _, rfl⟩
  · go_enter Tryd.func31, Tryd.ntmps31
    go_wp2_with (go_at_call 41; go_must (refine HG1.out.mono ?_; rintro e w1 ⟨hO, T, u, rfl⟩; have HO1 := hidden hO; clear hO))
    go_ret2
    exact ⟨HO1.out, _, rfl⟩

def HHS (w : World) (un : Bs → Bs) (l : List (Bs × JV)) (N M B b o c : Nat) (K : Option Nat) (ad : Nat → Nat × Nat) (G : Nat → Nat → Nat → Prop) (r : Option Nat) (e : Ending) (w' : World) : Prop := e = .returned (.bool r.isSome) ∧ ∃ fl, HO w' un l N M B b o c K ad G fl ∧ AltC w w' (RM N M)
set_option maxRecDepth 100000 in
set_option maxHeartbeats 4000000 in
theorem headHasS {w : World} {un : Bs → Bs} {l : List (Bs × JV)} {N M B b o c : Nat} {K : Option Nat} {ad : Nat → Nat × Nat} {G : Nat → Nat → Nat → Prop} {fl : Bool} (h : HO w un l N M B b o c K ad G fl) (hC : HC un l N) (q : Bs) (r : Option Nat) (hr : Is un l q r) (hS : SynAt w) :
    Calls Tryd.prog 29 #[.iface 94 (.pointer (some ⟨B, 0, none⟩)), .string (bs q)] w (HHS w un l N M B b o c K ad G r) := by
  have HG1 := hidden (headGetS_calls h hC q r hr hS)
  clear h hC hr hS
  go_enter Tryd.func29, Tryd.ntmps29
  cases r with
  | none =>
    go_wp2_with (go_at_call 41; go_must (refine HG1.out.mono ?_; rintro e w1 ⟨hO, T, u, rfl⟩; have HO1 := hidden hO; clear hO))
    go_ret
    exact ⟨rfl, HO1.out⟩
  | some i =>
    go_wp2_with (go_at_call 41; go_must (refine HG1.out.mono ?_; rintro e w1 ⟨⟨fl1, hO, hA⟩, hE⟩; dsimp only at hE; subst hE; have HO1 := hidden hO; have HA1 := hidden hA; clear hO hA; unfold ptr))
    go_ret
    exact ⟨rfl, fl1, HO1.out, HA1.out⟩
end Go.Proofs.YtbdmdajbdmdknaaDoor
namespace Go.Proofs.YtbdmdajbdmdknaaDoor
open Go.RowKit
set_option linter.unusedVariables false
set_option linter.unusedSimpArgs false

theorem own_altC {w w1 : World} {S : Nat → Nat → Prop} {base e : Nat} {v : Value} {vs : List Value} (hk : Own w base e v vs) (h : AltC w w1 S) (hg : ∀ i o, base ≤ i → ¬ S i o) : Own w1 base e v vs := by
  rcases hk.block with ⟨rfl, rfl⟩ | ⟨g, rest, rfl, hb, hR, hm⟩
  · exact Own.nil _ _ _
  · exact Own.of_row (show Row w1 g e (vs ++ rest) from (h.block g (Array.getElem?_eq_some_iff.1 hR).1 (fun o => hg g o hb)).trans hR) hb rfl hm
theorem own_ne {w : World} {base e e' : Nat} {v u : Value} {vs us : List Value} (h : Own w base e v vs) (k : Own w base e' u us) (ht : e ≠ e') : u.ownBlock = none ∨ u.ownBlock ≠ v.ownBlock := by
  rcases k.block with ⟨rfl, _⟩ | ⟨g, rest, rfl, _, hR, _⟩
  · exact .inl rfl
  · refine .inr fun e1 => ?_
    rcases h.block with ⟨rfl, _⟩ | ⟨g2, rest2, rfl, _, hR2, _⟩
    · cases e1
    · cases e1
      have := hR.symm.trans hR2
      simp only [Option.some.injEq, Obj.cells.injEq] at this
      exact ht this.2.1.symm
theorem info_bool : (Tryd.prog.info? 4).map (fun i => (i.zero, i.size, i.bytes)) = some (some (.bool false), 1, 1) := by kernel_rfl
structure KA (w wr : World) (un : Bs → Bs) (l : List (Bs × JV)) (N M B b o c : Nat) (K : Option Nat) (ad : Nat → Nat × Nat) (G : Nat → Nat → Nat → Prop) (us : List ByteArray) (hs : List Bool) (v7 v8 : Value) : Prop where
  ho : ∃ fl, HO wr un l N M B b o c K ad G fl
  o7 : Own wr M 9 v7 (strs us)
  o8 : Own wr M 4 v8 (hs.map Value.bool)
  bl : Below N w wr
  ge : M ≤ wr.heap.size
  nm : N ≤ M
  sy : SynAt wr
  ng : 2 < N
section
variable {w wr w2 : World} {un : Bs → Bs} {l : List (Bs × JV)} {N M B b o c : Nat} {K : Option Nat} {ad : Nat → Nat × Nat} {G : Nat → Nat → Nat → Prop} {us : List ByteArray} {hs : List Bool} {v7 v8 : Value}
theorem KA.turn {fl : Bool} (h : KA w wr un l N M B b o c K ad G us hs v7 v8) (hO : HO w2 un l N M B b o c K ad G fl) (hA : AltC wr w2 (RM N M)) : KA w w2 un l N M B b o c K ad G us hs v7 v8 where
  ho := ⟨fl, hO⟩
  o7 := own_altC h.o7 hA (fun i o hi e => by have := e.2; omega)
  o8 := own_altC h.o8 hA (fun i o hi e => by have := e.2; omega)
  bl := h.bl.trans (hA.below (Nat.le_trans h.nm h.ge) (fun x y hx e => by have := e.1; omega))
  ge := Nat.le_trans h.ge hA.size
  nm := h.nm
  sy := h.sy.alt hA (fun e => by have := e.1; have := h.ng; omega)
  ng := h.ng
theorem KA.put {e : Nat} {v v1 : Value} {vs : List Value} (h : KA w wr un l N M B b o c K ad G us hs v7 v8) (x : Obj) (hv : Own wr M e v vs) (hg : (wr.alloc x).grownBy w2 v.ownBlock) : Below M wr w2 :=
  below_app ((below_alloc0 wr x).mono h.ge) hg (hv.alloc x) (Nat.le_refl _) (by have := h.ge; simp; omega)
theorem KA.put7 {v1 : Value} {t : ByteArray} (h : KA w wr un l N M B b o c K ad G us hs v7 v8) (x : Obj) (hO : Own w2 M 9 v1 (strs us ++ strs [t])) (hg : (wr.alloc x).grownBy w2 v7.ownBlock) : KA w w2 un l N M B b o c K ad G (us ++ [t]) hs v1 v8 := by
  have hB := h.put (v1 := v1) x h.o7 hg
  obtain ⟨fl, ho⟩ := h.ho
  refine ⟨⟨fl, ho.above hB⟩, ?_, (h.o8.alloc x).kept hg (own_ne (h.o7.alloc x) (h.o8.alloc x) (by decide)), h.bl.trans (hB.mono h.nm), Nat.le_trans h.ge hB.size, h.nm, h.sy.below hB (Nat.lt_of_lt_of_le h.ng h.nm), h.ng⟩
  unfold strs at hO ⊢
  rw [List.map_append]; exact hO
theorem KA.put8 {v1 : Value} {t : Bool} (h : KA w wr un l N M B b o c K ad G us hs v7 v8) (x : Obj) (hO : Own w2 M 4 v1 (hs.map Value.bool ++ [.bool t])) (hg : (wr.alloc x).grownBy w2 v8.ownBlock) : KA w w2 un l N M B b o c K ad G us (hs ++ [t]) v7 v1 := by
  have hB := h.put (v1 := v1) x h.o8 hg
  obtain ⟨fl, ho⟩ := h.ho
  refine ⟨⟨fl, ho.above hB⟩, (h.o7.alloc x).kept hg (own_ne (h.o8.alloc x) (h.o7.alloc x) (by decide)), ?_, h.bl.trans (hB.mono h.nm), Nat.le_trans h.ge hB.size, h.nm, h.sy.below hB (Nat.lt_of_lt_of_le h.ng h.nm), h.ng⟩
  rw [List.map_append]; exact hO
end
/-- What one gets of a name. -/
def askT (ts : ByteArray → Option Bs) (q : ByteArray) : ByteArray := bs ((ts q).getD [])
def askH (rs : ByteArray → Option Nat) (q : ByteArray) : Bool := (rs q).isSome
def HAP (w : World) (rs : ByteArray → Option Nat) (ts : ByteArray → Option Bs) (qs : List ByteArray) (e : Ending) (w' : World) : Prop := ∃ v7 v8, e = .returned (.tuple #[v7, v8]) ∧ Own w' w.heap.size 9 v7 (strs (qs.map (askT ts))) ∧ Own w' w.heap.size 4 v8 ((qs.map (askH rs)).map Value.bool) ∧ Below w.heap.size w w'
set_option maxRecDepth 100000 in
set_option maxHeartbeats 4000000 in
theorem headAsked_calls (w : World) (s : ByteArray) (A : Option Addr) (n c : Nat) (hr : Rd w A (nums .u8 (bI s))) (hn : s.size = n) (hc : n ≤ c) (hA : A = none → c = 0) (hN : s.size ≤ 200000000) (un : Bs → Bs) (l : List (Bs × JV)) (hR : pText s.data.toList = some (.obj l)) (hC : HC un l w.heap.size) (hS : SynAt w)
    (A2 : Option Addr) (m c2 : Nat) (qs : List ByteArray) (hq : Rd w A2 (strs qs)) (hm : qs.length = m) (hm60 : m ≤ 1000) (rs : ByteArray → Option Nat) (hrs : ∀ q, Is un l q.data.toList (rs q)) (ts : ByteArray → Option Bs) (hts : ∀ q, TxtOf un l (rs q) (ts q)) :
    Calls Tryd.prog 17 #[.slice A n c, .slice A2 m c2] w (HAP w rs ts qs) := by
  have HH := hidden (head_calls w s A n c hr hn hc hA hN _ hR)
  have HCC := hidden hC
  have HSY := hidden hS
  have HQ := hidden (And.intro hq hm)
  have HRT := hidden (And.intro hrs hts)
  clear hr hn hc hA hN hR hC hS hq hm hrs hts
  go_enter Tryd.func17, Tryd.ntmps17
  go_upto_region 2 with (go_at_call 30; go_must (refine HH.out.mono ?_; rintro e w1 ⟨B, rfl, hH, hB⟩; have HH1 := hidden hH; have HB := hidden hB; clear hH hB))
  obtain ⟨b, o, c3, K, ad, G, hO⟩ := HO.of_head un HH1.out
  have HK0 : Hid (KA w w1 un l w.heap.size w1.heap.size B b o c3 K ad G [] [] (.slice none 0 0) (.slice none 0 0)) := hidden ⟨⟨_, hO⟩, Own.nil _ _ _, Own.nil _ _ _, HB.out, Nat.le_refl _, HB.out.size, HSY.out.next HB.out, HCC.out.ng⟩
  clear hO HH1 HH
  go_wp2
  go_loopw [17, 7, 8] (fun v17 v7 v8 wr => ∃ j : Nat, v17 = .int .i64 j ∧ j ≤ m ∧ Hid (KA w wr un l w.heap.size w1.heap.size B b o c3 K ad G ((qs.take j).map (askT ts)) ((qs.take j).map (askH rs)) v7 v8)) (fun v _ _ _ => m - (intOf v).toNat)
  case atStart => exact ⟨0, rfl, by omega, HK0⟩
  case round =>
    obtain ⟨j, rfl, hjm, HK⟩ := hrel
    by_cases hlt : j < m
    · have hjl : j < qs.length := by rw [HQ.out.2]; exact hlt
      obtain ⟨b0, o0, rfl, _, c0⟩ := (HQ.out.1.below HK.out.bl (Nat.le_refl _)).atS j hjl
      obtain ⟨q, hqq⟩ : ∃ q, qs[j] = q := ⟨_, rfl⟩
      have hsi : si qs j = q := by rw [← hqq]; simp [si, List.getD_eq_getElem?_getD, hjl]
      rw [hsi] at c0
      have HX : Hid ((qs.take (j + 1)).map (askT ts) = (qs.take j).map (askT ts) ++ [askT ts q] ∧ (qs.take (j + 1)).map (askH rs) = (qs.take j).map (askH rs) ++ [askH rs q]) := hidden (by rw [List.take_succ_eq_append_getElem hjl, hqq, List.map_append, List.map_append]; exact ⟨rfl, rfl⟩)
      have HZ : Hid ((strs ((qs.take j).map (askT ts))).length ≤ 1000 ∧ (((qs.take j).map (askH rs)).map Value.bool).length ≤ 1000) := hidden (by rw [strs_len, List.length_map, List.length_map, List.length_map, List.length_take]; omega)
      obtain ⟨us, hus⟩ : ∃ us, (qs.take j).map (askT ts) = us := ⟨_, rfl⟩
      obtain ⟨hs, hhs⟩ : ∃ hs, (qs.take j).map (askH rs) = hs := ⟨_, rfl⟩
      rw [hus, hhs] at HX HZ HK
      obtain ⟨fl, hO⟩ := HK.out.ho
      have hG := headStringS hO HCC.out q.data.toList (rs q) (HRT.out.1 q) (ts q) (HRT.out.2 q) HK.out.sy
      rw [bs_self] at hG
      have HG := hidden hG
      have hG2 := fun (W : World) (fl : Bool) (h : HO W un l w.heap.size w1.heap.size B b o c3 K ad G fl) (hS : SynAt W) => headHasS h HCC.out q.data.toList (rs q) (HRT.out.1 q) hS
      rw [bs_self] at hG2
      have HG2 := hidden hG2
      have HT : Hid (bs ((ts q).getD []) = askT ts q ∧ (rs q).isSome = askH rs q) := hidden ⟨rfl, rfl⟩
      clear hO hG hG2 hus hhs hsi hqq hjl
      go_wp2_with (first
        | (go_at_call 31; go_must (refine HG.out.mono ?_; rintro e w2 ⟨⟨fl2, hO2, hA2⟩, u, rfl⟩; rw [HT.out.1]; have HK2 := hidden (HK.out.turn hO2 hA2); have HR2 := hidden (Rd.new w2 9 [.string (askT ts q)] _ rfl); clear hO2 hA2))
        | ((with_reducible refine at_dst 30 ?_); go_must (refine walk_app (base := w1.heap.size) (ys := strs [askT ts q]) rfl (.tmp 27) (.tmp 29) rfl Tryd.underlying27 info_str rfl (by decide) rfl rfl (HK2.out.o7.alloc _) HR2.out rfl (strs_one _) (by have := HK2.out.ge; simp; omega) (by have := HZ.out.1; simp only [strs, List.length_map, List.length_cons, List.length_nil] at this ⊢; omega) ?_; intro v1 w3 hO3 hg3 _; have HK3 := hidden (HK2.out.put7 _ hO3 hg3); clear hO3 hg3))
        | (go_at_call 29; go_must (obtain ⟨fl3, hO3⟩ := HK3.out.ho; refine (HG2.out w3 fl3 hO3 HK3.out.sy).mono ?_; rintro e w4 ⟨rfl, fl4, hO4, hA4⟩; rw [HT.out.2]; have HK4 := hidden (HK3.out.turn hO4 hA4); have HR4 := hidden (Rd.new w4 4 [.bool (askH rs q)] _ rfl); clear hO3 hO4 hA4))
        | ((with_reducible refine at_dst 36 ?_); go_must (refine walk_app (base := w1.heap.size) (ys := [.bool (askH rs q)]) rfl (.tmp 31) (.tmp 35) rfl Tryd.underlying39 info_bool rfl (by decide) rfl rfl (HK4.out.o8.alloc _) HR4.out rfl (by intro u hu; simp at hu; subst hu; rfl) (by have := HK4.out.ge; simp; omega) (by have := HZ.out.2; simp only [List.length_map, List.length_cons, List.length_nil] at this ⊢; omega) ?_; intro v8' w5 hO5 hg5 _; have HK5 := hidden (HK4.out.put8 _ hO5 hg5); clear hO5 hg5)))
      go_roundw
      case rel => exact ⟨j + 1, by go_num, by omega, hidden (by rw [HX.out.1, HX.out.2]; exact HK5.out)⟩
      case measure => simp [intOf]; omega
    · obtain rfl : j = m := by omega
      have HF := HK.out
      rw [List.take_of_length_le (by have := HQ.out.2; omega)] at HF
      have HF := hidden HF
      clear HK
      go_wp2
      go_ret2
      exact ⟨_, _, rfl, HF.out.o7.lower HF.out.nm, HF.out.o8.lower HF.out.nm, HF.out.bl⟩
end Go.Proofs.YtbdmdajbdmdknaaDoor
