/- Symmetric keys: how one is made, and what its ID is. -/
import Derived.Test.YthgklpkkcaiehaaDoorKSet4
import Derived.Test.YthgklpkkcaiehaaDoorBytes
namespace Go.Proofs.YthgklpkkcaiehaaDoor
open Go.RowKit
set_option linter.unusedVariables false
set_option linter.unusedSimpArgs false

theorem grown_newK {w w1 w2 : World} {r : Option Nat} {g : Nat} (h : w.grownBy w1 r) (k : w1.grownBy w2 (some g)) (hg : r = some g ∨ w.heap.size ≤ g) : w.grownBy w2 r :=
  ⟨k.os.trans h.os, k.tape.trans h.tape, k.output.trans h.output, Nat.le_trans h.size k.size, fun i hi hne => (k.block i (Nat.lt_of_lt_of_le hi h.size) (fun e => by
    cases e
    rcases hg with rfl | hg
    · exact hne rfl
    · omega)).trans (h.block i hi hne)⟩
/-- The cells of a symmetric key. -/
def symL (kid oct : Value) (mb : Nat) : List Value := [.pointer none, kid, .pointer none, .pointer none, oct, .pointer none, .pointer none, .pointer none, .map (some mb)]
theorem newSym_calls (w : World) :
    Calls Tryd.prog 45 #[] w fun e w' => e = .returned (.pointer (some ⟨w.heap.size + 1, 0, none⟩)) ∧ Row w' (w.heap.size + 1) 131 (symL (.pointer none) (.slice none 0 0) w.heap.size) ∧ Below w.heap.size w w' := by
  have hmm := @run_makeMap Tryd.prog
  go_enter Tryd.func45, Tryd.ntmps45
  go_wp2
  go_ret
  refine ⟨rfl, ?_, below_next (below_alloc0 w _) (below_alloc0 _ _)⟩
  have := Row.new (w.alloc (.map #[] 0)) 131 (symL (.pointer none) (.slice none 0 0) w.heap.size)
  simpa [symL] using this
theorem ta_oct (v : Value) (W : World) : (Instr.typeAssert (.iface 22 v) 20 22 true).run Tryd.prog W = .ok (.tuple #[v, .bool true]) W := by kernel_rfl
theorem ta_kid (v : Value) (W : World) : (Instr.typeAssert (.iface 9 v) 20 9 true).run Tryd.prog W = .ok (.tuple #[v, .bool true]) W := by kernel_rfl
theorem eql_oct (a : Addr) (n c : Nat) (W : World) : (binOp .eql 22 (.slice (some a) n c) (.slice none 0 0)).run Tryd.prog W = .ok (.bool false) W := by
  have h : ∀ d : Nat, (Op.equalIn (d + 1) 22 (.slice (some a) n c) (.slice none 0 0)).run Tryd.prog W = .ok false W := fun d => by simp [Op.equalIn, run_underlying Tryd.underlying22]
  simp only [binOp]
  simp [Op.equal, Op.maxDepth, h 9999]
theorem size_oct : (Tryd.prog.info? 5).map (·.size) = some 1 := by kernel_rfl
theorem info_oct : (Tryd.prog.info? 5).map (fun i => (i.zero, i.size, i.bytes)) = some (some (.int .u8 0), 1, 1) := by kernel_rfl
set_option maxRecDepth 100000 in
set_option maxHeartbeats 2000000 in
theorem setOct_calls (w : World) (b mb : Nat) (kid : Value) (a : Addr) (n c : Nat) (l : List Int) (hR : Row w b 131 (symL kid (.slice none 0 0) mb)) (hA : Rd w (some a) (nums .u8 l)) (hl : l.length = n) (hn : n ≤ 1000) (hab : a.block ≠ b) :
    Calls Tryd.prog 46 #[.pointer (some ⟨b, 0, none⟩), .string ⟨#[107]⟩, .iface 22 (.slice (some a) n c)] w fun e w' => e = .returned .nilIface ∧ ∃ o, Row w' b 131 (symL kid o mb) ∧ w.grownBy w' (some b) := by
  have K : Hid (Calls Tryd.prog 52 #[.pointer (some ⟨b, 0, none⟩), .string ⟨#[107]⟩, .iface 22 (.slice (some a) n c)] w fun e w' => e = .returned .nilIface ∧ ∃ o, Row w' b 131 (symL kid o mb) ∧ w.grownBy w' (some b)) := hidden (by
    have c4 := hR.cell 4
    have f4 := hR.free 4
    simp [symL] at c4
    have HR := hidden hR
    have HA := hidden hA
    have HL := hidden hl
    have HAB := hidden hab
    clear hR hA hl hab
    go_enter Tryd.func52, Tryd.ntmps52
    have hta := ta_oct
    have heq := eql_oct
    go_wp2_with (first
      | (with_reducible refine at_dst 136 ?_; go_must (refine walk_make (n := n) rfl (.tmp 135) (.tmp 135) rfl Tryd.underlying22 info_oct rfl rfl rfl rfl rfl (by omega) (by omega) ?_; refine wpAbsL (fun W => Hid (Below w.heap.size w W) ∧ Hid (Row W b 131 (symL kid (.slice none 0 0) mb)) ∧ Hid (Row W w.heap.size 5 (nums .u8 (List.replicate n 0))) ∧ W.cell? ⟨b, 4, none⟩ = some (.slice none 0 0) ∧ W.frozen? ⟨b, 4, none⟩ = false) ⟨hidden (below_alloc0 w _), hidden (HR.out.alloc _), hidden (by have := Row.new w 5 (nums .u8 (List.replicate n 0)); simpa [nums] using this), (HR.out.alloc _).cell 4, (HR.out.alloc _).free 4⟩ ?_; rintro W1 ⟨HB1, HR1, HG1, c41, f41⟩))
      | (with_reducible refine at_dst 144 ?_; go_must (refine walk_copy (L := List.replicate n 0) (M := l) (off := 0) rfl (.tmp 142) (.tmp 143) rfl Tryd.underlying22 size_oct rfl rfl (HG1.out.far (by have := HR.out.lt; simp; omega) _) ((Alt.set W1 ⟨b, 4, none⟩ _).rd ⟨HA.out.below HB1.out (Nat.le_refl _), fun _ _ _ e _ => by cases e; exact HAB.out⟩) HL.out (by simp) ?_; intro w3 hR3 hg3 _; have HG3 := hidden hg3; clear hR3 hg3)))
    go_ret
    refine ⟨rfl, .slice (some ⟨w.heap.size, 0, none⟩) n n, ?_, ?_⟩
    · have h1 := HR1.out.set 4 (.slice (some ⟨w.heap.size, 0, none⟩) n n)
      have h2 := h1.grown HG3.out (by have := HR.out.lt; simp; omega)
      simpa [symL] using h2
    · exact grown_newK (grown_newK (r := some b) (grown_below (B := 0) HB1.out _) (grown_set W1 b 4 _) (.inl rfl)) HG3.out (.inr (Nat.le_refl _)))
  go_enter Tryd.func46, Tryd.ntmps46
  go_wp2_with (go_at_call 52; go_must (refine K.out.mono ?_; rintro e w1 ⟨rfl, h1⟩))
  go_ret
  exact ⟨rfl, h1⟩
set_option maxRecDepth 100000 in
set_option maxHeartbeats 2000000 in
theorem setKid_calls (w : World) (b mb : Nat) (kid oct : Value) (s : ByteArray) (hR : Row w b 131 (symL kid oct mb)) :
    Calls Tryd.prog 46 #[.pointer (some ⟨b, 0, none⟩), .string ⟨#[107, 105, 100]⟩, .iface 9 (.string s)] w fun e w' => e = .returned .nilIface ∧ ∃ p, w.heap.size ≤ p ∧ Row w' b 131 (symL (.pointer (some ⟨p, 0, none⟩)) oct mb) ∧ Row w' p 9 [.string s] ∧ w.grownBy w' (some b) := by
  have K : Hid (Calls Tryd.prog 52 #[.pointer (some ⟨b, 0, none⟩), .string ⟨#[107, 105, 100]⟩, .iface 9 (.string s)] w fun e w' => e = .returned .nilIface ∧ ∃ p, w.heap.size ≤ p ∧ Row w' b 131 (symL (.pointer (some ⟨p, 0, none⟩)) oct mb) ∧ Row w' p 9 [.string s] ∧ w.grownBy w' (some b)) := hidden (by
    have hRa := hR.alloc (.cells #[.string s] 9)
    have c4 := hRa.cell 1
    have f4 := hRa.free 1
    simp [symL] at c4
    have HR := hidden hR
    have hlt := hR.lt
    clear hR hRa
    go_enter Tryd.func52, Tryd.ntmps52
    have hta := ta_kid
    go_wp2
    go_ret
    refine ⟨rfl, w.heap.size, Nat.le_refl _, ?_, ?_, ?_⟩
    · have h1 := (HR.out.set 1 (.pointer (some ⟨w.heap.size, 0, none⟩))).alloc (.cells #[.string s] 9)
      simpa [symL] using h1
    · have := Row.new (w.setCell ⟨b, 1, none⟩ (.pointer (some ⟨w.heap.size, 0, none⟩))) 9 [.string s]
      simpa using this
    · have h1 := grown_set w b 1 (.pointer (some ⟨w.heap.size, 0, none⟩))
      exact ⟨h1.os, h1.tape, h1.output, by simp, fun k hk hne => (Below.heap_alloc _ _ k (by simpa using hk)).trans (h1.block k hk hne)⟩)
  go_enter Tryd.func46, Tryd.ntmps46
  go_wp2_with (go_at_call 52; go_must (refine K.out.mono ?_; rintro e w1 ⟨rfl, h1⟩))
  go_ret
  exact ⟨rfl, h1⟩
/-- The ID of the key in block b. -/
def KidAt (w : World) (b : Nat) : Option ByteArray → Prop
  | none => w.cell? ⟨b, 1, none⟩ = some (.pointer none)
  | some s => ∃ p, w.cell? ⟨b, 1, none⟩ = some (.pointer (some ⟨p, 0, none⟩)) ∧ Row w p 9 [.string s]
theorem KidAt.below {w w1 : World} {b : Nat} : ∀ {id : Option ByteArray}, KidAt w b id → Below w.heap.size w w1 → KidAt w1 b id
  | none, h, hb => cell_next hb h
  | some s, ⟨p, h1, h2⟩, hb => ⟨p, cell_next hb h1, h2.below hb h2.lt⟩
theorem keyID_calls (w : World) (b : Nat) (id : Option ByteArray) (h : KidAt w b id) :
    Calls Tryd.prog 109 #[.pointer (some ⟨b, 0, none⟩)] w fun e w' => e = .returned (.tuple #[.string (id.getD ⟨#[]⟩), .bool id.isSome]) ∧ w = w' := by
  cases id with
  | none =>
    have c1 : w.cell? ⟨b, 1, none⟩ = some (.pointer none) := h
    clear h
    go_enter Tryd.func109, Tryd.ntmps109
    go_wp2
    go_ret2
    exact ⟨rfl, rfl⟩
  | some s =>
    obtain ⟨p, c1, hp⟩ := h
    have c2 := hp.cell 0
    simp at c2
    clear hp
    go_enter Tryd.func109, Tryd.ntmps109
    go_wp2
    go_ret2
    exact ⟨rfl, rfl⟩
set_option maxRecDepth 100000 in
set_option maxHeartbeats 1000000 in
theorem newSymm_calls (w : World) (a : Addr) (n c : Nat) (l : List Int) (hA : Rd w (some a) (nums .u8 l)) (hl : l.length = n) (hn : n ≤ 1000) (ha : a.block < w.heap.size) :
    Calls Tryd.prog 34 #[.slice (some a) n c] w fun e w' => ∃ b oct mb, e = .returned (.tuple #[.iface 106 (.pointer (some ⟨b, 0, none⟩)), .nilIface]) ∧ w.heap.size ≤ b ∧ Row w' b 131 (symL (.pointer none) oct mb) ∧ Below w.heap.size w w' := by
  have HA := hidden hA
  have HL := hidden hl
  clear hA hl
  go_enter Tryd.func34, Tryd.ntmps34
  go_wp2_with (first
    | (go_at_call 45; go_must (refine (newSym_calls _).mono ?_; rintro e w1 ⟨rfl, hR1, hB1⟩; have HR1 := hidden hR1; have HB1 := hidden hB1; clear hR1 hB1))
    | (go_at_call 46; go_must (refine (setOct_calls w1 (w.heap.size + 1) w.heap.size _ a n c l HR1.out (HA.out.below HB1.out (Nat.le_refl _)) HL.out hn (by omega)).mono ?_; rintro e w2 ⟨rfl, o, hR2, hg2⟩; have HR2 := hidden hR2; have HG2 := hidden hg2; clear hR2 hg2)))
  go_ret2
  exact ⟨w.heap.size + 1, o, w.heap.size, rfl, Nat.le_succ _, HR2.out, HB1.out.grown HG2.out HB1.out.size (by rintro k hk; cases hk; omega)⟩
end Go.Proofs.YthgklpkkcaiehaaDoor
