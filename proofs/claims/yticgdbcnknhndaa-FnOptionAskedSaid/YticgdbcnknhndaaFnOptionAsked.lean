/- THE ROW of laws.FnOptionAsked: the law returns true at every input, and each argument reads behind the call as it read before. -/
import Derived.Test.YticgdbcnknhndaaOpt3
import Derived.Test.YticgdbcnknhndaaRows
import Derived.Test.YticgdbcnknhndaaRowkit
import Derived.WalkKit
import Derived.ProofKit
import Derived.OpenShut
import Derived.ShutString
import Derived.ChangeOld
import Derived.Below
import Derived.SizedLaws
import Derived.Deep.SlicePairs
namespace Go.Proofs.Yticgdbcnknhndaa.fnOptionAsked
open Go.ChangeShapes Go.WideShapes Go.ChangeAt Go.RowKit
open Go.ChangeMaps (open_string shut_string)
set_option linter.unusedVariables false
theorem steps_came {H : Type} {enc : TypeId × Value → H} {P : Program} {W : World} {base : Nat} {spare : Nat → Bool} {held : Bool} {t e ti tu : TypeId} {f0 f1 : Field} {a : Option Addr} {len cap : Nat} {d : DataW H} {ps : List MemPlace}
    (ht : P.underlying t = some (.slice e)) (he : P.underlying e = some (.struct #[f0, f1])) (hi : P.underlying ti = some (.int .i64)) (hu : P.underlying tu = some (.int .u64)) (ce : P.cellsOf e = 2) (t0 : f0.type = ti) (t1 : f1.type = tu) (o0 : f0.offset = 0 ∧ f1.offset = 1) (c01 : P.cellsOf f0.type = 1 ∧ P.cellsOf f1.type = 1)
    (h : DataW.Trod enc P W base spare held t (.slice a len cap) d ps) : ∃ l : List (Int × Int), l.length = len ∧ Rd W a (stepVs l) := by
  obtain ⟨fuel, hf⟩ := h
  rcases Go.Deep.open_slice_pairs ht he ce o0.1 o0.2 c01.1 c01.2 hf with ⟨hcs, _⟩ | ⟨x, l, c, m, n, V0, V1, D0, D1, P0, P1, hcs, _, hl, hm, hmm, _, hc⟩
  · simp [Value.cells] at hcs
    obtain ⟨rfl, rfl, rfl⟩ := hcs
    exact ⟨[], rfl, by simpa [stepVs] using Rd.nil W none⟩
  · simp [Value.cells] at hcs
    obtain ⟨rfl, rfl, rfl⟩ := hcs
    have each : ∀ i, i < len → ∃ s : Int × Int, W.cell? (x.add (i * 2)) = some (.int .i64 s.1) ∧ W.cell? (x.add (i * 2 + 1)) = some (.int .u64 s.2) := by
      intro i hi'
      obtain ⟨h1, h2, h3, h4⟩ := hc i (by rw [hmm]; split <;> omega)
      rw [t0] at h3
      rw [t1] at h4
      obtain ⟨z0, e0, _⟩ := DataW.trod_int hi h3
      obtain ⟨z1, e1, _⟩ := DataW.trod_int hu h4
      exact ⟨(z0, z1), by rw [h1]; simpa using e0, by rw [h2]; simpa using e1⟩
    refine ⟨(List.range len).map fun i => if h : i < len then (each i h).choose else (0, 0), by simp, ?_⟩
    have hL : ((List.range len).map fun i => if h : i < len then (each i h).choose else (0, 0)).length = len := by simp
    generalize hLd : ((List.range len).map fun i => if h : i < len then (each i h).choose else (0, 0)) = L at hL
    have hLi : ∀ i (hi' : i < L.length), W.cell? (x.add (i * 2)) = some (.int .i64 (L[i]'hi').1) ∧ W.cell? (x.add (i * 2 + 1)) = some (.int .u64 (L[i]'hi').2) := by
      intro i hi'
      subst hLd
      have hi2 : i < len := by simpa using hi'
      simp only [List.getElem_map, List.getElem_range, dif_pos hi2]
      exact (each i hi2).choose_spec
    intro i v hv
    have hi' : i < 2 * L.length := by rw [← stepVs_len]; exact (List.getElem?_eq_some_iff.1 hv).1
    have h00 := (hLi 0 (by omega)).1
    obtain ⟨b, o, sp⟩ := x
    have hsp : sp = none := by
      cases sp with
      | none => rfl
      | some s =>
        simp only [Addr.add, Nat.zero_mul, if_pos] at h00
        unfold World.cell? at h00
        split at h00 <;> simp at h00
    subst hsp
    have hk : i / 2 < L.length := by omega
    have hat := stepVs_at L (i / 2) hk
    have hcc := hLi (i / 2) hk
    rw [addr_add, addr_add] at hcc
    rcases Nat.mod_two_eq_zero_or_one i with hmod | hmod
    · have e : i / 2 * 2 = i := by omega
      rw [e] at hat hcc
      rw [hat.1] at hv
      cases hv
      exact ⟨b, o, rfl, World.block_lt_of_cell? W ⟨b, o + i, none⟩ hcc.1, hcc.1⟩
    · have e : i / 2 * 2 + 1 = i := by omega
      rw [e] at hat hcc
      rw [hat.2] at hv
      cases hv
      exact ⟨b, o, rfl, World.block_lt_of_cell? W ⟨b, o + i, none⟩ hcc.2, hcc.2⟩
set_option maxRecDepth 100000 in
theorem lifted (os : Os) (started : os.Started) (H : Type) (enc : TypeId × Value → H) :
    ReturnsInHanded {} Try.checked os 3 .any (Rows.fnOptionAskedSpec.pre6 enc Try.prog Try.f3 Rows.fnOptionAskedRow.domain false) (Rows.fnOptionAskedSpec.post enc Try.prog Try.f3 false true false false) := by
  refine returnsInHanded_of_change_sized (C := Try.checked) noKnob started (by kernel_rfl) Try.func3
    (ChangeSpec.witness6 (enc := enc) (C := Try.checked) false ⟨#[], #[.slice none 0 0], []⟩ 8 (by kernel_rfl) (by kernel_rfl) (by kernel_rfl) (by kernel_rfl)) ?_
  intro W base args ds gs before hval0 hW hcnd hsz0 _
  have hsz : (DataW.weightsEach Try.prog (Try.f3.params.toList ++ Rows.fnOptionAskedSpec.plain.varTypes Try.prog) (ds ++ gs)).all (· ≤ reachBytes) = true := hsz0
  have hval : ∀ (j : Nat) t v, Try.f3.params[j]? = some t → args[j]? = some v → Value.okWide Try.prog W .any base t v := hval0
  have hW' := hW
  obtain ⟨p, q, hA0, hV, rfl, hfz, hnd⟩ := hW
  have hA : DataW.TrodAll enc Try.prog W 0 (fun _ => true) true Try.f3.params.toList args.toList ds p := hA0
  rw [Try.params3] at hA hval hsz
  obtain ⟨v0, vs0, d0, ds0, p0, q0, hargs, rfl, rfl, h0, r0⟩ := trodAll_cons hA
  obtain ⟨rfl, rfl, rfl⟩ := trodAll_nil r0
  obtain rfl : args = #[v0] := by cases args; simp_all
  obtain ⟨rfl, rfl⟩ := trodVars_none hV
  obtain ⟨a0, len0, cap0, rfl⟩ := okWide_slice Try.underlying22 (hval 0 22 v0 rfl rfl)
  have k0 := h0
  have lt0 : ∀ x ∈ p0, x.block < W.heap.size := by obtain ⟨m, hm⟩ := k0; exact DataW.trod_lt m _ _ _ hm
  obtain ⟨l0, hl0, hr0⟩ := steps_came (t := 22) (e := 26) Try.underlying22 Try.underlying26 Try.underlying3 Try.underlying24 (by kernel_rfl) rfl rfl ⟨by kernel_rfl, by kernel_rfl⟩ ⟨by kernel_rfl, by kernel_rfl⟩ h0
  clear hA0 hval0 hsz0 hsz
  refine (asked_walk a0 len0 cap0 l0 W hr0 hl0).mono fun e W' ⟨he, bel⟩ => ?_
  subst he
  exact ⟨_, rfl, _, _, _, [], _, [], hW', trodAll_mk1 (shut_bool Try.underlying4 _), (trodAll_cons_mk (Below.trod laidOut (by kernel_rfl) (of_decide_eq_true (by kernel_rfl)) k0 bel lt0) trodAll_mk0), rfl, bel.frame _, fun h => by cases h⟩
theorem over : Rows.fnOptionAskedRow.holds Try.pinned (OpenSpec.ofChange Rows.fnOptionAskedSpec) :=
  OpenClaim.holds_of_wide 3 Try.f3 rfl rfl rfl rfl rfl rfl rfl ⟨rfl, rfl, rfl, rfl, rfl⟩ rfl rfl rfl rfl rfl (by kernel_rfl) Try.func3 (by kernel_rfl)
    (of_decide_eq_true (by kernel_rfl)) (by unfold Func.isWrapper; first | (rw [if_pos (by decide +kernel)]; kernel_rfl) | (rw [if_neg (by decide +kernel)]; exact ⟨rfl, rfl⟩))
    (fun os started H enc _ => lifted os started H enc)
theorem proved : Rows.FnOptionAskedSaid := over
#print axioms proved
end Go.Proofs.Yticgdbcnknhndaa.fnOptionAsked
namespace Go.Proofs.Yticgdbcnknhndaa
/-- The row, under a short name, for the claim. -/
theorem fnOptionAsked_holds : Rows.FnOptionAskedSaid := fnOptionAsked.proved
end Go.Proofs.Yticgdbcnknhndaa
