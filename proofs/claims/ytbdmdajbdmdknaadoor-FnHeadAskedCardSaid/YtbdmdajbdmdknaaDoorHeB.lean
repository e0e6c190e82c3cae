/- Fields in a row of the call's own: cloned, one put behind them. -/
import Derived.Test.YtbdmdajbdmdknaaDoorHeA
namespace Go.Proofs.YtbdmdajbdmdknaaDoor
open Go.RowKit
set_option linter.unusedVariables false
set_option linter.unusedSimpArgs false

def FOwn (W : World) (base : Nat) (v : Value) (l : List FM) : Prop := W.ownsRow base 29 7 v l.length (l.flatMap FM.cells)
theorem info_field : (Tryd.prog.info? 29).map (fun i => (i.zero, i.size, i.bytes)) = some (some (.agg #[.string ⟨#[]⟩, .int .u8 0, .bool false, .bool false, .int .u64 0, .string ⟨#[]⟩, .slice none 0 0]), 7, 72) := by kernel_rfl
theorem fm_len : ∀ l : List FM, (l.flatMap FM.cells).length = l.length * 7
  | [] => rfl
  | f :: l => by rw [List.flatMap_cons, List.length_append, fm_len l, List.length_cons]; simp [FM.cells]; omega
theorem fm_one (l : List FM) : ∀ u ∈ l.flatMap FM.cells, u.oneCell' = true := by
  intro u hu
  obtain ⟨f, _, hf⟩ := List.mem_flatMap.1 hu
  simp only [FM.cells, List.mem_cons, List.not_mem_nil, or_false] at hf
  rcases hf with rfl | rfl | rfl | rfl | rfl | rfl | rfl <;> rfl
theorem fown_empty (w : World) : FOwn (w.alloc (.cells #[] 29)) w.heap.size (.slice (some ⟨w.heap.size, 0, none⟩) 0 0) [] :=
  ⟨rfl, .inr ⟨w.heap.size, 0, #[], rfl, Nat.le_refl _, heap_alloc_new w _, Nat.le_refl _, by simp [maxLen], rfl, rfl⟩⟩
theorem FOwn.rd {w : World} {base : Nat} {v : Value} {l : List FM} (h : FOwn w base v l) : ∃ A c, v = .slice A l.length c ∧ Rd w A (l.flatMap FM.cells) ∧ (A = none → c = 0) := by
  rcases h.2 with ⟨rfl, h0⟩ | ⟨g, cap, cur, rfl, hb, hg, hrest⟩
  · have : l = [] := List.eq_nil_of_length_eq_zero h0
    subst this
    exact ⟨none, 0, rfl, Rd.nil _ _, fun _ => rfl⟩
  · refine ⟨some ⟨g, 0, none⟩, cap, rfl, fun j u hu => ⟨g, 0, rfl, (Array.getElem?_eq_some_iff.1 hg).1, ?_⟩, fun h => by cases h⟩
    have := World.ownsRow.cells h (g := g) rfl j u hu
    rw [addr_add] at this
    exact this
def CloneP (w : World) (l : List FM) (e : Ending) (w' : World) : Prop := ∃ v, e = .returned v ∧ FOwn w' w.heap.size v l ∧ Below w.heap.size w w'
set_option maxRecDepth 100000 in
set_option maxHeartbeats 2000000 in
theorem cloneF_calls (A : Option Addr) (n c : Nat) (l : List FM) (w : World) (hm : FMs w A l) (hn : l.length = n) (hn30 : n ≤ 31) (hA : A = none → c = 0) :
    Calls Tryd.prog 13 #[.slice A n c] w (CloneP w l) := by
  have HM := hidden (And.intro hm hn)
  obtain ⟨i0, hi0, hzz⟩ := Option.map_eq_some_iff.1 info_field
  simp only [Prod.mk.injEq] at hzz
  have HI := hidden hzz
  cases A with
  | none =>
    have hc := hA rfl
    subst hc
    have hl0 : l = [] := by
      cases l with
      | nil => rfl
      | cons f l =>
        obtain ⟨b, o, e, _⟩ := hm.rd 0 (.string f.d.name) rfl
        cases e
    subst hl0
    have hn0 : n = 0 := hn.symm
    subst hn0
    clear hm hn hA hzz
    have heq : ∀ W : World, (binOp .eql 22 (.slice none 0 0) (.slice none 0 0)).run Tryd.prog W = .ok (.bool true) W := fun W => Lib.run_eql_slice_nil W _ _ _ _ _ _ _ Tryd.underlying22
    go_enter Tryd.func13, Tryd.ntmps13
    go_wp2
    go_ret
    exact ⟨_, rfl, World.ownsRow_nil _ _ _ _, Below.refl _ _⟩
  | some a =>
    have HE := hidden (fown_empty w)
    have HR := hidden (fun j u (h : (l.flatMap FM.cells)[j]? = some u) => (hm.rd.alloc (.cells #[] 29)) j u h)
    obtain ⟨ab, ao, sp⟩ := a
    have hcell : ∀ j u, (l.flatMap FM.cells)[j]? = some u → (w.alloc (.cells #[] 29)).cell? ((⟨ab, ao, sp⟩ : Addr).add j) = some u := by
      intro j u hu
      obtain ⟨b, o, e, _, hc⟩ := HR.out j u hu
      cases e
      rw [addr_add]; exact hc
    have HCL := hidden hcell
    clear hm hn hA hzz hcell
    have heq : ∀ W : World, (binOp .eql 22 (.slice (some ⟨ab, ao, sp⟩) n c) (.slice none 0 0)).run Tryd.prog W = .ok (.bool false) W := fun W => Lib.run_eql_slice_nil W _ _ _ _ _ _ _ Tryd.underlying22
    go_enter Tryd.func13, Tryd.ntmps13
    go_wp2_with (at_builtin; go_must (refine wpList_append_own_at _ rfl (.tmp 5) (.tmp 6) 22 rfl w.heap.size 29 i0 _ 7 72 Tryd.underlying22 hi0 HI.out.1 HI.out.2.1 HI.out.2.2 rfl (by decide) _ 0 _ rfl HE.out ⟨ab, ao, sp⟩ n c (l.flatMap FM.cells) rfl (by rw [fm_len, HM.out.2]) HCL.out (fm_one l) (by unfold maxLen; omega) (by omega) (by simp) ?_; rintro v1 w5 ho5 hg5 _ _; have HO5 := hidden ho5; have HG5 := hidden hg5; clear ho5 hg5))
    go_ret
    refine ⟨_, rfl, ?_, (below_alloc0 w _).grown HG5.out (by simp) (fun k hk => by cases hk; exact Nat.le_refl _)⟩
    have := HO5.out
    rw [Nat.zero_add, ← HM.out.2] at this
    simpa [FOwn] using this
end Go.Proofs.YtbdmdajbdmdknaaDoor
