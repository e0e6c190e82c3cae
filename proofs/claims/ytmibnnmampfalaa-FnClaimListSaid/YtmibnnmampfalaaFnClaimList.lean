/- THE ROW of laws.FnClaimList: the law returns true at every input, and each argument reads behind the call as it read before. -/
import Derived.Test.YtmibnnmampfalaaClaimJ
import Derived.Test.YtmibnnmampfalaaRows
import Derived.Test.YtmibnnmampfalaaRowkit
import Derived.WalkKit
import Derived.ProofKit
import Derived.OpenShut
import Derived.ShutString
import Derived.ChangeOld
import Derived.Below
import Derived.SizedLaws
import Derived.Deep.Fields
import Derived.SliceStrings
import Derived.ChangeArms
namespace Go.Proofs.Ytmibnnmampfalaa.fnClaimList
open Go.Deep Go.ChangeShapes Go.WideShapes Go.ChangeAt Go.RowKit
open Go.ChangeMaps (open_string shut_string)
set_option linter.unusedVariables false
theorem plain_came {H : Type} {enc : TypeId × Value → H} {P : Program} {W : World} {base : Nat} {spare : Nat → Bool} {held : Bool} {r : Reach} {b0 : Nat} {t e : TypeId} {f0 f1 f2 f3 f4 : Field} {v : Value} {d : DataW H} {ps : List MemPlace}
    (hs : P.underlying t = some (.struct #[f0, f1, f2, f3, f4])) (hone : oneCellFields P #[f0, f1, f2, f3, f4] = true) (hC : P.cellsOf t = 5)
    (h0 : P.underlying f0.type = some (.int .i64)) (h1 : P.underlying f1.type = some .string) (h2 : P.underlying f2.type = some .bool) (h3 : P.underlying f3.type = some (.int .i32)) (h4 : P.underlying f4.type = some (.slice e)) (he : P.underlying e = some .string) (hc : P.cellsOf e = 1)
    (hv : Value.okWide P W r b0 t v) (h : DataW.Trod enc P W base spare held t v d ps) :
    ∃ (k : Int) (t : ByteArray) (b : Bool) (m : Int) (A : Option Addr) (n c : Nat) (l : List ByteArray), v = plainV k t b m A n c ∧ Rd W A (Go.Proofs.Ytmibnnmampfalaa.strs l) ∧ l.length = n ∧ n ≤ 9223372036854775807 := by
  obtain ⟨cs, rfl, hsz⟩ := okWide_struct hs hv
  obtain ⟨L⟩ := cs
  match L, hsz.trans hC with
  | [v0, v1, v2, v3, v4], _ =>
    obtain ⟨fuel, hf⟩ := h
    obtain ⟨xs, n, _, _, hl, hlen, hf⟩ := DataW.trod_struct hs hf
    match xs, hlen with
    | [y0, y1, y2, y3, y4], _ =>
      obtain ⟨o0, k0⟩ := hone_of hone 0 f0 rfl
      obtain ⟨o1, k1⟩ := hone_of hone 1 f1 rfl
      obtain ⟨o2, k2⟩ := hone_of hone 2 f2 rfl
      obtain ⟨o3, k3⟩ := hone_of hone 3 f3 rfl
      obtain ⟨o4, k4⟩ := hone_of hone 4 f4 rfl
      have g0 : DataW.trod enc P W base spare held n f0.type [v0] = some y0 := by simpa [Value.cells, o0, k0] using hf 0 f0 rfl
      have g1 : DataW.trod enc P W base spare held n f1.type [v1] = some y1 := by simpa [Value.cells, o1, k1] using hf 1 f1 rfl
      have g2 : DataW.trod enc P W base spare held n f2.type [v2] = some y2 := by simpa [Value.cells, o2, k2] using hf 2 f2 rfl
      have g3 : DataW.trod enc P W base spare held n f3.type [v3] = some y3 := by simpa [Value.cells, o3, k3] using hf 3 f3 rfl
      have g4 : DataW.trod enc P W base spare held n f4.type [v4] = some y4 := by simpa [Value.cells, o4, k4] using hf 4 f4 rfl
      obtain ⟨z0, e0, _⟩ := DataW.trod_int h0 g0
      obtain ⟨z1, e1, _⟩ := DataW.trod_string h1 g1
      obtain ⟨z2, e2, _⟩ := DataW.trod_bool h2 g2
      obtain ⟨z3, e3, _⟩ := DataW.trod_int h3 g3
      simp only [List.cons.injEq, and_true] at e0 e1 e2 e3
      subst e0 e1 e2 e3
      rcases open_strings h4 he hc g4 with ⟨hcs, _⟩ | ⟨x, len, cap, ss, hcs, _, hl4, hm4, hz, _, hcell, _⟩
      · simp only [List.cons.injEq, and_true] at hcs
        subst hcs
        exact ⟨z0, z1, z2, z3, none, 0, 0, [], rfl, by simpa [Go.Proofs.Ytmibnnmampfalaa.strs] using Rd.nil W none, rfl, by omega⟩
      · simp only [List.cons.injEq, and_true] at hcs
        subst hcs
        have hle : len ≤ ss.length := by rw [hz]; split <;> omega
        refine ⟨z0, z1, z2, z3, some x, len, cap, ss.take len, rfl, ?_, by rw [List.length_take]; omega, by unfold maxLen at hm4; omega⟩
        intro i u hu
        have hi : i < len := by
          have := (List.getElem?_eq_some_iff.1 hu).1
          rw [Go.Proofs.Ytmibnnmampfalaa.strs_len, List.length_take] at this
          omega
        have h0' := hcell 0 (by omega)
        have hi' := hcell i (by omega)
        obtain ⟨b, o, sp⟩ := x
        have hsp : sp = none := by
          cases sp with
          | none => rfl
          | some s =>
            simp only [Addr.add, if_pos] at h0'
            unfold World.cell? at h0'
            split at h0' <;> simp at h0'
        subst hsp
        rw [addr_add] at hi'
        refine ⟨b, o, rfl, World.block_lt_of_cell? W ⟨b, o + i, none⟩ hi', ?_⟩
        rw [hi', ← hu, Go.Proofs.Ytmibnnmampfalaa.strs_at _ _ (by rw [List.length_take]; omega)]
        simp [si, List.getD_eq_getElem?_getD, List.getElem?_take, hi]
set_option maxRecDepth 100000 in
theorem lifted (os : Os) (started : os.Started) (H : Type) (enc : TypeId × Value → H) :
    ReturnsInHanded {} Try.checked os 11 .any (Rows.fnClaimListSpec.pre6 enc Try.prog Try.f11 Rows.fnClaimListRow.domain false) (Rows.fnClaimListSpec.post enc Try.prog Try.f11 false true false false) := by
  refine returnsInHanded_of_change_sized (C := Try.checked) noKnob started (by kernel_rfl) Try.func11
    (ChangeSpec.witness6 (enc := enc) (C := Try.checked) false ⟨#[], #[plainV 0 ByteArray.empty false 0 none 0 0], []⟩ 8 (by kernel_rfl) (by kernel_rfl) (by kernel_rfl) (by kernel_rfl)) ?_
  intro W base args ds gs before hval0 hW hcnd hsz0 _
  have hsz : (DataW.weightsEach Try.prog (Try.f11.params.toList ++ Rows.fnClaimListSpec.plain.varTypes Try.prog) (ds ++ gs)).all (· ≤ reachBytes) = true := hsz0
  have hval : ∀ (j : Nat) t v, Try.f11.params[j]? = some t → args[j]? = some v → Value.okWide Try.prog W .any base t v := hval0
  have hW' := hW
  obtain ⟨p, q, hA0, hV, rfl, hfz, hnd⟩ := hW
  have hA : DataW.TrodAll enc Try.prog W 0 (fun _ => true) true Try.f11.params.toList args.toList ds p := hA0
  rw [Try.params11] at hA hval hsz
  obtain ⟨v0, vs0, d0, ds0, p0, q0, hargs, rfl, rfl, h0, r0⟩ := trodAll_cons hA
  obtain ⟨rfl, rfl, rfl⟩ := trodAll_nil r0
  obtain rfl : args = #[v0] := by cases args; simp_all
  obtain ⟨rfl, rfl⟩ := trodVars_none hV
  have k0 := h0
  have lt0 : ∀ x ∈ p0, x.block < W.heap.size := by obtain ⟨m, hm⟩ := k0; exact DataW.trod_lt m _ _ _ hm
  obtain ⟨k, t, b, m, A, n, c, l, rfl, hr, hl, hn⟩ := plain_came (t := 50) (e := 9) Try.underlying50 (by kernel_rfl) (by kernel_rfl) Try.underlying3 Try.underlying9 Try.underlying4 Try.underlying21 Try.underlying48 Try.underlying9 rfl (hval 0 50 v0 rfl rfl) h0
  clear hA0 hval0 hsz0 hsz
  refine (claimList_walk k t b m A n c l W hr hl hn).mono fun e W' ⟨he, bel⟩ => ?_
  subst he
  exact ⟨_, rfl, _, _, _, [], _, [], hW', trodAll_mk1 (shut_bool Try.underlying4 _), (trodAll_cons_mk (Below.trod laidOut (by kernel_rfl) (of_decide_eq_true (by kernel_rfl)) k0 bel lt0) trodAll_mk0), rfl, bel.frame _, fun h => by cases h⟩
theorem over : Rows.fnClaimListRow.holds Try.pinned (OpenSpec.ofChange Rows.fnClaimListSpec) :=
  OpenClaim.holds_of_wide 11 Try.f11 rfl rfl rfl rfl rfl rfl rfl ⟨rfl, rfl, rfl, rfl, rfl⟩ rfl rfl rfl rfl rfl (by kernel_rfl) Try.func11 (by kernel_rfl)
    (of_decide_eq_true (by kernel_rfl)) (by unfold Func.isWrapper; first | (rw [if_pos (by decide +kernel)]; kernel_rfl) | (rw [if_neg (by decide +kernel)]; exact ⟨rfl, rfl⟩))
    (fun os started H enc _ => lifted os started H enc)
theorem proved : Rows.FnClaimListSaid := over
#print axioms proved
end Go.Proofs.Ytmibnnmampfalaa.fnClaimList
namespace Go.Proofs.Ytmibnnmampfalaa
/-- The row, under a short name, for the claim. -/
theorem fnClaimList_holds : Rows.FnClaimListSaid := fnClaimList.proved
end Go.Proofs.Ytmibnnmampfalaa
