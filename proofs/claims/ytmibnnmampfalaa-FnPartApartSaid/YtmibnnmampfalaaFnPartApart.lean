/- THE ROW of laws.FnPartApart: the law returns true at every input, and each argument reads behind the call as it read before. -/
import Derived.Test.YtmibnnmampfalaaApart2
import Derived.Test.YtmibnnmampfalaaPairs
import Derived.Test.YtmibnnmampfalaaRows
import Derived.Test.YtmibnnmampfalaaRowkit
import Derived.WalkKit
import Derived.ProofKit
import Derived.OpenShut
import Derived.ShutString
import Derived.ChangeOld
import Derived.Below
import Derived.SizedLaws
namespace Go.Proofs.Ytmibnnmampfalaa.fnPartApart
open Go.ChangeShapes Go.WideShapes Go.ChangeAt Go.RowKit
open Go.ChangeMaps (open_string shut_string)
set_option linter.unusedVariables false
set_option maxRecDepth 100000 in
theorem lifted (os : Os) (started : os.Started) (H : Type) (enc : TypeId × Value → H) :
    ReturnsInHanded {} Try.checked os 8 .any (Rows.fnPartApartSpec.pre6 enc Try.prog Try.f8 Rows.fnPartApartRow.domain false) (Rows.fnPartApartSpec.post enc Try.prog Try.f8 false true false false) := by
  refine returnsInHanded_of_change_sized (C := Try.checked) noKnob started (by kernel_rfl) Try.func8
    (ChangeSpec.witness6 (enc := enc) (C := Try.checked) false ⟨#[], #[twoV none 0 0 none 0 0, twoV none 0 0 none 0 0, .bool false], []⟩ 8 (by kernel_rfl) (by kernel_rfl) (by kernel_rfl) (by kernel_rfl)) ?_
  intro W base args ds gs before hval0 hW hcnd hsz0 _
  have hsz : (DataW.weightsEach Try.prog (Try.f8.params.toList ++ Rows.fnPartApartSpec.plain.varTypes Try.prog) (ds ++ gs)).all (· ≤ reachBytes) = true := hsz0
  have hval : ∀ (j : Nat) t v, Try.f8.params[j]? = some t → args[j]? = some v → Value.okWide Try.prog W .any base t v := hval0
  have hW' := hW
  obtain ⟨p, q, hA0, hV, rfl, hfz, hnd⟩ := hW
  have hA : DataW.TrodAll enc Try.prog W 0 (fun _ => true) true Try.f8.params.toList args.toList ds p := hA0
  rw [Try.params8] at hA hval hsz
  obtain ⟨v0, vs0, d0, ds0, p0, q0, hargs, rfl, rfl, h0, r0⟩ := trodAll_cons hA
  obtain ⟨v1, vs1, d1, ds1, p1, q1, rfl, rfl, rfl, h1, r1⟩ := trodAll_cons r0
  obtain ⟨v2, vs2, d2, ds2, p2, q2, rfl, rfl, rfl, h2, r2⟩ := trodAll_cons r1
  obtain ⟨rfl, rfl, rfl⟩ := trodAll_nil r2
  obtain rfl : args = #[v0, v1, v2] := by cases args; simp_all
  obtain ⟨rfl, rfl⟩ := trodVars_none hV
  have k0 := h0
  have lt0 : ∀ x ∈ p0, x.block < W.heap.size := by obtain ⟨m, hm⟩ := k0; exact DataW.trod_lt m _ _ _ hm
  obtain ⟨A0, n0, c0, l0, B0, m0, f0, j0, rfl, ea0, eb0⟩ := pair_came Try.underlying36 (by kernel_rfl) Try.underlying22 (by kernel_rfl) Try.underlying5 (by kernel_rfl) (hval 0 36 v0 rfl rfl) h0
  have k1 := h1
  have lt1 : ∀ x ∈ p1, x.block < W.heap.size := by obtain ⟨m, hm⟩ := k1; exact DataW.trod_lt m _ _ _ hm
  obtain ⟨A1, n1, c1, l1, B1, m1, f1, j1, rfl, ea1, eb1⟩ := pair_came Try.underlying36 (by kernel_rfl) Try.underlying22 (by kernel_rfl) Try.underlying5 (by kernel_rfl) (hval 1 36 v1 rfl rfl) h1
  obtain ⟨a2, rfl, rfl, rfl⟩ := open_bool Try.underlying4 (hval 2 4 v2 rfl rfl) h2
  clear hA0 hval0 hsz0 hsz
  refine (apart_walk A0 n0 c0 l0 B0 m0 f0 j0 A1 n1 c1 l1 B1 m1 f1 j1 a2 W ea0 eb0 ea1 eb1).mono fun e W' ⟨he, bel⟩ => ?_
  subst he
  exact ⟨_, rfl, _, _, _, [], _, [], hW', trodAll_mk1 (shut_bool Try.underlying4 _), (trodAll_cons_mk (Below.trod laidOut (by kernel_rfl) (of_decide_eq_true (by kernel_rfl)) k0 bel lt0) (trodAll_cons_mk (Below.trod laidOut (by kernel_rfl) (of_decide_eq_true (by kernel_rfl)) k1 bel lt1) (trodAll_cons_mk (shut_bool Try.underlying4 _) trodAll_mk0))), rfl, bel.frame _, fun h => by cases h⟩
theorem over : Rows.fnPartApartRow.holds Try.pinned (OpenSpec.ofChange Rows.fnPartApartSpec) :=
  OpenClaim.holds_of_wide 8 Try.f8 rfl rfl rfl rfl rfl rfl rfl ⟨rfl, rfl, rfl, rfl, rfl⟩ rfl rfl rfl rfl rfl (by kernel_rfl) Try.func8 (by kernel_rfl)
    (of_decide_eq_true (by kernel_rfl)) (by unfold Func.isWrapper; first | (rw [if_pos (by decide +kernel)]; kernel_rfl) | (rw [if_neg (by decide +kernel)]; exact ⟨rfl, rfl⟩))
    (fun os started H enc _ => lifted os started H enc)
theorem proved : Rows.FnPartApartSaid := over
#print axioms proved
end Go.Proofs.Ytmibnnmampfalaa.fnPartApart
namespace Go.Proofs.Ytmibnnmampfalaa
/-- The row, under a short name, for the claim. -/
theorem fnPartApart_holds : Rows.FnPartApartSaid := fnPartApart.proved
end Go.Proofs.Ytmibnnmampfalaa
