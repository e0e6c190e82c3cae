/- A slice of fields that came in, opened. -/
import Derived.Test.YtbdmdajbdmdknaaDoorM13
import Derived.Test.YtbdmdajbdmdknaaDoorM15
import Derived.OpenShut
import Derived.SliceStrings
import Derived.ChangeArms
namespace Go.Proofs.YtbdmdajbdmdknaaDoor
open Go.ChangeShapes Go.WideShapes Go.ChangeAt Go.RowKit
set_option linter.unusedVariables false
set_option linter.unusedSimpArgs false
theorem no_sp {W : World} {x : Addr} {v : Value} (h : W.cell? (x.add 0) = some v) : x.spot = none := by
  obtain ⟨b, o, sp⟩ := x
  cases sp with
  | none => rfl
  | some s =>
    simp only [Addr.add, if_pos] at h
    unfold World.cell? at h
    split at h <;> simp at h
theorem strs_cells {H : Type} {enc : TypeId × Value → H} {P : Program} {W : World} {base : Nat} {held : Bool} {t e : TypeId} {fuel : Nat} {cs : List Value} {x : DataW H × List MemPlace}
    (ht : P.underlying t = some (.slice e)) (he : P.underlying e = some .string) (hc : P.cellsOf e = 1) (hf : DataW.trod enc P W base (fun _ => true) held fuel t cs = some x) :
    ∃ (A : Option Addr) (c : Nat) (l : List ByteArray), cs = [.slice A l.length c] ∧ Rd W A (Go.Proofs.YtbdmdajbdmdknaaDoor.strs l) ∧ l.length ≤ 9223372036854775807 := by
  rcases open_strings ht he hc hf with ⟨hcs, _⟩ | ⟨x, len, cap, ss, hcs, _, hl4, hm4, hz, _, hcell, _⟩
  · exact ⟨none, 0, [], hcs, by simpa [Go.Proofs.YtbdmdajbdmdknaaDoor.strs] using Rd.nil W none, by simp⟩
  · have hle : len ≤ ss.length := by rw [hz]; simp; omega
    have htl : (ss.take len).length = len := by rw [List.length_take]; omega
    refine ⟨some x, cap, ss.take len, by rw [htl]; exact hcs, ?_, by rw [htl]; unfold maxLen at hm4; omega⟩
    intro i u hu
    have hi : i < len := by
      have := (List.getElem?_eq_some_iff.1 hu).1
      rw [Go.Proofs.YtbdmdajbdmdknaaDoor.strs_len, htl] at this
      exact this
    have h0' := hcell 0 (by omega)
    have hi' := hcell i (by omega)
    have hsp := no_sp h0'
    obtain ⟨b, o, sp⟩ := x
    simp only at hsp
    subst hsp
    rw [addr_add] at hi'
    refine ⟨b, o, rfl, World.block_lt_of_cell? W ⟨b, o + i, none⟩ hi', ?_⟩
    rw [hi', ← hu, Go.Proofs.YtbdmdajbdmdknaaDoor.strs_at _ _ (by rw [htl]; exact hi)]
    simp [si, List.getD_eq_getElem?_getD, List.getElem?_take, hi]
theorem flat7_len : ∀ l : List FM, (l.flatMap FM.cells).length = l.length * 7
  | [] => rfl
  | f :: l => by rw [List.flatMap_cons, List.length_append, flat7_len l, List.length_cons]; simp [FM.cells]; omega
theorem one_field (t : TypeId) (h : Tryd.prog.cellsOf t = 1) (cs : List Value) (j : Nat) (v : Value) (hv : cs[j]? = some v) : (cs.drop j).take (Tryd.prog.cellsOf t) = [v] := by
  rw [h]
  obtain ⟨hj, rfl⟩ := List.getElem?_eq_some_iff.1 hv
  rw [List.drop_eq_getElem_cons hj]
  rfl
set_option maxRecDepth 100000 in
theorem field_came {H : Type} {enc : TypeId × Value → H} {W : World} {base : Nat} {held : Bool} {fuel : Nat} {cs : List Value} {x : DataW H × List MemPlace}
    (hf : DataW.trod enc Tryd.prog W base (fun _ => true) held fuel 29 cs = some x) : ∃ f : FM, cs = f.cells ∧ (Rd W f.A (Go.Proofs.YtbdmdajbdmdknaaDoor.strs f.d.list) ∧ f.d.list.length ≤ 9223372036854775807) ∧ f.d.num ≤ 18446744073709551615 ∧ f.d.kind ≤ 255 := by
  obtain ⟨xs, n, _, _, hlen, hx, hfs⟩ := DataW.trod_struct Tryd.underlying29 hf
  rw [show Tryd.prog.cellsOf 29 = 7 by kernel_rfl] at hlen
  have hx7 : xs.length = 7 := hx
  have c9 : Tryd.prog.cellsOf 9 = 1 := by kernel_rfl
  have c5 : Tryd.prog.cellsOf 5 = 1 := by kernel_rfl
  have c4 : Tryd.prog.cellsOf 4 = 1 := by kernel_rfl
  have c23 : Tryd.prog.cellsOf 23 = 1 := by kernel_rfl
  have c27 : Tryd.prog.cellsOf 27 = 1 := by kernel_rfl
  match cs, hlen with
  | [v0, v1, v2, v3, v4, v5, v6], _ =>
    match xs, hx7 with
    | [x0, x1, x2, x3, x4, x5, x6], _ =>
      have h0 := hfs 0 _ rfl
      have h1 := hfs 1 _ rfl
      have h2 := hfs 2 _ rfl
      have h3 := hfs 3 _ rfl
      have h4 := hfs 4 _ rfl
      have h5 := hfs 5 _ rfl
      have h6 := hfs 6 _ rfl
      simp only [List.drop_zero, List.drop_succ_cons, c9, c5, c4, c23, c27, List.take_succ_cons, List.take_zero, List.getElem?_cons_zero, List.getElem?_cons_succ] at h0 h1 h2 h3 h4 h5 h6
      obtain ⟨s0, e0, _, _⟩ := DataW.trod_string Tryd.underlying9 h0
      obtain ⟨k1, e1, _, w1⟩ := DataW.trod_int Tryd.underlying5 h1
      obtain ⟨b2, e2, _⟩ := DataW.trod_bool Tryd.underlying4 h2
      obtain ⟨b3, e3, _⟩ := DataW.trod_bool Tryd.underlying4 h3
      obtain ⟨k4, e4, _, w4⟩ := DataW.trod_int Tryd.underlying23 h4
      obtain ⟨s5, e5, _, _⟩ := DataW.trod_string Tryd.underlying9 h5
      obtain ⟨A, c, l, e6, hr, hl⟩ := strs_cells Tryd.underlying27 Tryd.underlying9 c9 h6
      cases e0; cases e1; cases e2; cases e3; cases e4; cases e5; cases e6
      simp [Lit.wf, IntKind.min, IntKind.max, IntKind.bits, IntKind.signed] at w1 w4
      obtain ⟨a1, rfl⟩ : ∃ k : Nat, k1 = k := ⟨k1.toNat, by omega⟩
      obtain ⟨a4, rfl⟩ : ∃ k : Nat, k4 = k := ⟨k4.toNat, by omega⟩
      exact ⟨⟨⟨s0, a1, b2, b3, a4, s5, l⟩, A, c⟩, rfl, ⟨hr, hl⟩, by dsimp only; omega, by dsimp only; omega⟩
set_option maxRecDepth 100000 in
theorem fields_cameZ {H : Type} {enc : TypeId × Value → H} {W : World} {base : Nat} {held : Bool} {r : Reach} {b0 : Nat} {v : Value} {d : DataW H} {ps : List MemPlace}
    (hv : Value.okWide Tryd.prog W r b0 22 v) (h : DataW.Trod enc Tryd.prog W base (fun _ => true) held 22 v d ps) :
    ∃ (A : Option Addr) (n c : Nat) (l : List FM), v = .slice A n c ∧ FMs W A l ∧ l.length = n ∧ n ≤ 9223372036854775807 ∧ (A = none → c = 0) := by
  obtain ⟨a, len, cap, rfl⟩ := okWide_slice Tryd.underlying22 hv
  obtain ⟨fuel, hf⟩ := h
  have c7 : Tryd.prog.cellsOf 29 = 7 := by kernel_rfl
  rcases DataW.trod_slice Tryd.underlying22 hf with ⟨hcs, _⟩ | ⟨x, len', cap', elems, rest, n, _, hcs, _, hb, hl, hm, hlen, hel, _⟩
  · simp [Value.cells] at hcs
    obtain ⟨rfl, rfl, rfl⟩ := hcs
    exact ⟨none, 0, 0, [], rfl, ⟨by simpa using Rd.nil W none, by simp, by simp⟩, rfl, by omega, fun _ => rfl⟩
  · simp [Value.cells] at hcs
    obtain ⟨rfl, rfl, rfl⟩ := hcs
    have each : ∀ i, i < len → ∃ f : FM, (∀ j, j < 7 → W.cell? ((x.add (i * 7)).add j) = f.cells[j]?) ∧ (Rd W f.A (Go.Proofs.YtbdmdajbdmdknaaDoor.strs f.d.list) ∧ f.d.list.length ≤ 9223372036854775807) ∧ f.d.num ≤ 18446744073709551615 ∧ f.d.kind ≤ 255 := by
      intro i hi
      have hE := hel i hi
      rw [c7, List.getElem?_eq_getElem (by omega), Option.bind_eq_some_iff] at hE
      obtain ⟨cs1, hc1, hy1⟩ := hE
      obtain ⟨f, rfl, h1, h2, h3⟩ := field_came hy1
      exact ⟨f, (World.cells?_some hc1).2.2, h1, h2, h3⟩
    have eachF : ∃ F : Nat → FM, ∀ i, i < len → (∀ j, j < 7 → W.cell? ((x.add (i * 7)).add j) = (F i).cells[j]?) ∧ (Rd W (F i).A (Go.Proofs.YtbdmdajbdmdknaaDoor.strs (F i).d.list) ∧ (F i).d.list.length ≤ 9223372036854775807) ∧ (F i).d.num ≤ 18446744073709551615 ∧ (F i).d.kind ≤ 255 := by
      refine ⟨fun i => if h : i < len then (each i h).choose else ⟨⟨⟨#[]⟩, 0, false, false, 0, ⟨#[]⟩, []⟩, none, 0⟩, fun i hi => ?_⟩
      simp only [dif_pos hi]
      exact (each i hi).choose_spec
    obtain ⟨F, hF⟩ := eachF
    refine ⟨some x, len, cap, (List.range len).map F, rfl, ⟨?_, fun f hf => ?_, fun f hf => ?_⟩, by simp, by unfold maxLen at hm; omega, fun h => by cases h⟩
    · intro k u hu
      have hk : k < len * 7 := by
        have := (List.getElem?_eq_some_iff.1 hu).1
        rw [flat7_len] at this
        simpa using this
      have hi : k / 7 < len := by omega
      have hj : k % 7 < 7 := Nat.mod_lt _ (by decide)
      have h0' := (hF 0 (by omega)).1 0 (by decide)
      have hi' := (hF (k / 7) hi).1 (k % 7) hj
      have hkk : k / 7 * 7 + k % 7 = k := by omega
      have h7 := flat7 (f := FM.cells) (fun _ => rfl) ((List.range len).map F) (k / 7) (k % 7) (by simpa using hi) hj
      rw [hkk, hu] at h7
      have hsp : x.spot = none := by
        have h0'' : W.cell? (x.add 0) = some (.string (F 0).d.name) := by
          have e : (x.add (0 * 7)).add 0 = x.add 0 := by
            obtain ⟨b, o, sp⟩ := x
            cases sp <;> simp [Addr.add]
          rw [← e]; exact h0'
        exact no_sp h0''
      obtain ⟨b, o, sp⟩ := x
      simp only at hsp
      subst hsp
      rw [addr_add, addr_add] at hi'
      have e2 : o + k / 7 * 7 + k % 7 = o + k := by omega
      rw [e2] at hi'
      have hu2 : W.cell? ⟨b, o + k, none⟩ = some u := by
        rw [hi']
        rw [h7]
        simp
      exact ⟨b, o, rfl, World.block_lt_of_cell? W ⟨b, o + k, none⟩ hu2, hu2⟩
    · obtain ⟨i, hi, rfl⟩ := List.mem_map.1 hf
      exact (hF i (List.mem_range.1 hi)).2.1
    · obtain ⟨i, hi, rfl⟩ := List.mem_map.1 hf
      exact (hF i (List.mem_range.1 hi)).2.2
set_option maxRecDepth 100000 in
theorem fields_came {H : Type} {enc : TypeId × Value → H} {W : World} {base : Nat} {held : Bool} {r : Reach} {b0 : Nat} {v : Value} {d : DataW H} {ps : List MemPlace}
    (hv : Value.okWide Tryd.prog W r b0 22 v) (h : DataW.Trod enc Tryd.prog W base (fun _ => true) held 22 v d ps) :
    ∃ (A : Option Addr) (n c : Nat) (l : List FM), v = .slice A n c ∧ FMs W A l ∧ l.length = n ∧ n ≤ 9223372036854775807 := by
  obtain ⟨A, n, c, l, h1, h2, h3, h4, _⟩ := fields_cameZ hv h
  exact ⟨A, n, c, l, h1, h2, h3, h4⟩
end Go.Proofs.YtbdmdajbdmdknaaDoor
