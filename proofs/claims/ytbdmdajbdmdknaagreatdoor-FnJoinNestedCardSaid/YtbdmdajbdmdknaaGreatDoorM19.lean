/- A slice of slices of bytes that came in, opened. zzFits6. -/
import Derived.Test.YtbdmdajbdmdknaaGreatDoorM6
import Derived.Test.YtbdmdajbdmdknaaGreatDoorM9
import Derived.OpenShut
import Derived.ChangeArms
import Derived.Test.YtbdmdajbdmdknaaGreatDoorM18
namespace Go.Proofs.YtbdmdajbdmdknaaGreatDoor
open Go.ChangeShapes Go.WideShapes Go.ChangeAt Go.RowKit
set_option linter.unusedVariables false
set_option linter.unusedSimpArgs false
/-- The slices, and what each of them reads as. -/
def SlcIs (W : World) (vs : List (Option Addr × Nat × Nat)) (ls : List (List Int)) : Prop := ls.length = vs.length ∧ ∀ i (h : i < vs.length), ArgB W (vs[i]).1 (vs[i]).2.1 (vs[i]).2.2 (ls.getD i [])
theorem slcs_came {H : Type} {enc : TypeId × Value → H} {P : Program} {W : World} {base : Nat} {held : Bool} {r : Reach} {b0 : Nat} {t e f : TypeId} {v : Value} {d : DataW H} {ps : List MemPlace}
    (ht : P.underlying t = some (.slice e)) (he : P.underlying e = some (.slice f)) (hf0 : P.underlying f = some (.int .u8)) (hc : P.cellsOf e = 1) (hc2 : P.cellsOf f = 1)
    (hv : Value.okWide P W r b0 t v) (h : DataW.Trod enc P W base (fun _ => true) held t v d ps) :
    ∃ (A : Option Addr) (n c : Nat) (vs : List (Option Addr × Nat × Nat)) (ls : List (List Int)), v = .slice A n c ∧ Rd W A (slvs vs) ∧ vs.length = n ∧ n ≤ c ∧ (A = none → c = 0) ∧ n ≤ 9223372036854775807 ∧ SlcIs W vs ls := by
  obtain ⟨a, len, cap, rfl⟩ := okWide_slice ht hv
  obtain ⟨fuel, hf⟩ := h
  rcases DataW.trod_slice ht hf with ⟨hcs, _⟩ | ⟨x, len', cap', elems, rest, n, _, hcs, _, hb, hl, hm, hlen, hel, _⟩
  · simp [Value.cells] at hcs
    obtain ⟨rfl, rfl, rfl⟩ := hcs
    exact ⟨none, 0, 0, [], [], rfl, by simpa [slvs] using Rd.nil W none, rfl, by omega, fun _ => rfl, by omega, rfl, fun i h => by simp at h⟩
  · simp [Value.cells] at hcs
    obtain ⟨rfl, rfl, rfl⟩ := hcs
    have each : ∀ i, i < len → ∃ (q : Option Addr × Nat × Nat) (l : List Int), W.cell? (x.add i) = some (.slice q.1 q.2.1 q.2.2) ∧ ArgB W q.1 q.2.1 q.2.2 l := by
      intro i hi
      have hE := hel i hi
      rw [hc, Nat.mul_one, List.getElem?_eq_getElem (by omega), Option.bind_eq_some_iff] at hE
      obtain ⟨c1, hc1, hy1⟩ := hE
      rcases open_ints he hf0 hc2 hy1 with ⟨rfl, _⟩ | ⟨y, l2, c2, zs, rfl, _, hl2, hm2, hz2, _, hcell, hwf⟩
      · exact ⟨(none, 0, 0), [], cell_of_cells?_one hc1, by simpa [nums] using Rd.nil W none, rfl, Nat.le_refl _, fun _ => rfl, fun z hz => (by simp at hz)⟩
      · refine ⟨(some y, l2, c2), zs.take l2, cell_of_cells?_one hc1, ?_⟩
        have hz3 : zs.length = c2 := by simpa using hz2
        have hI : IsRow .u8 W (some y) l2 c2 zs := .inr ⟨y, rfl, hl2, hm2, hz3, hcell, hwf⟩
        have hC := hI.came
        exact ⟨hC.rd, hC.hlen, hC.hcap, hC.nil, hC.isB⟩
    have eachF : ∃ (F : Nat → Option Addr × Nat × Nat) (G : Nat → List Int), ∀ i, i < len → W.cell? (x.add i) = some (.slice (F i).1 (F i).2.1 (F i).2.2) ∧ ArgB W (F i).1 (F i).2.1 (F i).2.2 (G i) := by
      refine ⟨fun i => if h : i < len then (each i h).choose else (none, 0, 0), fun i => if h : i < len then (each i h).choose_spec.choose else [], fun i hi => ?_⟩
      simp only [dif_pos hi]
      exact (each i hi).choose_spec.choose_spec
    obtain ⟨F, G, hFG⟩ := eachF
    refine ⟨some x, len, cap, (List.range len).map F, (List.range len).map G, rfl, ?_, by simp, hl, (fun h => by cases h), by unfold maxLen at hm; omega, by simp, ?_⟩
    · intro i u hu
      have hi : i < len := by
        have := (List.getElem?_eq_some_iff.1 hu).1
        simpa [slvs] using this
      have h0' := (hFG 0 (by omega)).1
      have hi' := (hFG i hi).1
      obtain ⟨b, o, sp⟩ := x
      have hsp : sp = none := by
        cases sp with
        | none => rfl
        | some s =>
          simp only [Addr.add, if_pos] at h0'
          unfold World.cell? at h0'
          split at h0' <;> simp at h0'
      subst hsp
      rw [addr_add] at hi'
      refine ⟨b, o, rfl, World.block_lt_of_cell? W ⟨b, o + i, none⟩ hi', ?_⟩
      rw [hi', ← hu, slvs_at _ _ (by simpa using hi)]
      simp
    · intro i h
      have hi : i < len := by simpa using h
      have := (hFG i hi).2
      simpa [List.getD_eq_getElem?_getD, hi] using this
end Go.Proofs.YtbdmdajbdmdknaaGreatDoor
namespace Go.Proofs.YtbdmdajbdmdknaaGreatDoor
open Go.RowKit
set_option linter.unusedVariables false
set_option linter.unusedSimpArgs false

set_option maxRecDepth 100000 in
set_option maxHeartbeats 1000000 in
theorem fits6_calls (A : Option Addr) (n c : Nat) (vs : List (Option Addr × Nat × Nat)) (w : World) (h : Rd w A (slvs vs)) (hn : vs.length = n) (hb : n ≤ 9223372036854775807) (r : Bool) (hr : r = true ↔ n ≤ 2147483647 ∧ ∀ x ∈ vs, x.2.1 ≤ 2147483647) :
    Calls Tryz.prog 14 #[.slice A n c] w fun e w' => e = .returned (.bool r) ∧ w = w' := by
  by_cases hz : n ≤ 2147483647
  case neg =>
    have hi : (2147483647 : Int) < (n : Int) := by omega
    obtain rfl : r = false := by
      cases r with
      | false => rfl
      | true => exact absurd (hr.1 rfl).1 hz
    clear h hn hr
    go_enter Tryz.func14, Tryz.ntmps14
    go_wp2
    go_ret
    exact ⟨rfl, rfl⟩
  have hi : ¬ (2147483647 : Int) < (n : Int) := by omega
  have H := hidden h
  have HN := hidden hn
  have HR := hidden hr
  clear h hn hr
  go_enter Tryz.func14, Tryz.ntmps14
  go_wp2
  go_loopw [10] (fun i wr => ∃ k : Nat, k ≤ n ∧ i = .int .i64 k ∧ wr = w ∧ Hid (∀ j (hj : j < vs.length), j < k → (vs[j]).2.1 ≤ 2147483647)) (fun i _ => n - (intOf i).toNat)
  case atStart => exact ⟨0, by omega, rfl, rfl, hidden (fun j _ h => by omega)⟩
  case round =>
    obtain ⟨k, hk, rfl, rfl, HJ⟩ := hrel
    by_cases hlt : k < n
    · have hkv : k < vs.length := by rw [HN.out]; exact hlt
      obtain ⟨b, o, rfl, hb1, hc1⟩ := H.out k _ (slvs_at vs k hkv)
      obtain ⟨x, hx⟩ : ∃ x, vs[k] = x := ⟨_, rfl⟩
      rw [hx] at hc1
      have HX := hidden hx
      clear hx
      obtain ⟨X, m, d⟩ := x
      by_cases hm : (2147483647 : Int) < (m : Int)
      · obtain rfl : r = false := by
          cases r with
          | false => rfl
          | true =>
            have := (HR.out.1 rfl).2 _ (List.getElem_mem hkv)
            rw [HX.out] at this
            dsimp only at this
            omega
        go_wp2
        go_ret
        exact ⟨rfl, rfl⟩
      · have HJ' : Hid (∀ j (hj : j < vs.length), j < k + 1 → (vs[j]).2.1 ≤ 2147483647) := hidden (fun j hj h => by
          by_cases e : j = k
          · subst e
            rw [HX.out]
            dsimp only
            omega
          · exact HJ.out j hj (by omega))
        go_wp2
        exact ⟨⟨k + 1, by omega, by go_num, trivial, HJ'⟩, by simp [intOf]; omega⟩
    · obtain rfl : k = n := by omega
      obtain rfl : r = true := HR.out.2 ⟨hz, fun x hx => by
        obtain ⟨j, hj, rfl⟩ := List.getElem_of_mem hx
        exact HJ.out j hj (by rw [← HN.out]; exact hj)⟩
      go_wp2
      go_ret
      exact ⟨rfl, rfl⟩
end Go.Proofs.YtbdmdajbdmdknaaGreatDoor
