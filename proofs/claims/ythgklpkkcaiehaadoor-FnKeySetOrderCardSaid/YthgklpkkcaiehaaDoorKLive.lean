/- laws.keysLive: one key with an ID, added and found. -/
import Derived.Test.YthgklpkkcaiehaaDoorKRun
namespace Go.Proofs.YthgklpkkcaiehaaDoor
open Go.RowKit
set_option linter.unusedVariables false
set_option linter.unusedSimpArgs false

theorem flat6 {α β : Type} {f : α → List β} (h6 : ∀ x, (f x).length = 6) : ∀ (l : List α) (j t : Nat) (hj : j < l.length), t < 6 → (l.flatMap f)[j * 6 + t]? = (f l[j])[t]?
  | [], _, _, h, _ => by simp at h
  | x :: l, 0, t, _, ht => by simp [List.getElem?_append_left (show t < (f x).length by rw [h6]; exact ht)]
  | x :: l, j + 1, t, hj, ht => by
    rw [List.flatMap_cons, List.getElem?_append_right (by rw [h6]; omega), h6, show (j + 1) * 6 + t - 6 = j * 6 + t by omega]
    exact flat6 h6 l j t (by simpa using hj) ht
/-- One of the elements that are seen. -/
structure SeenRow (w : World) (base b o : Nat) (r : Seen) (va : Value) : Prop where
  lt : b < w.heap.size
  c0 : w.cell? ⟨b, o, none⟩ = some (.bool r.ok)
  c1 : w.cell? ⟨b, o + 1, none⟩ = some (.int .i64 r.index)
  c2 : w.cell? ⟨b, o + 2, none⟩ = some (.int .i64 r.found)
  c3 : w.cell? ⟨b, o + 3, none⟩ = some (.int .i64 r.all.length)
  c4 : w.cell? ⟨b, o + 4, none⟩ = some va
  c5 : w.cell? ⟨b, o + 5, none⟩ = some (.slice none 0 0)
  own : Own w base 3 va (nums .i64 (r.all.map Nat.cast))
theorem SeenRow.below {w w1 : World} {base b o : Nat} {r : Seen} {va : Value} (h : SeenRow w base b o r va) (hb : Below w.heap.size w w1) : SeenRow w1 base b o r va :=
  ⟨Nat.lt_of_lt_of_le h.lt hb.size, cell_next hb h.c0, cell_next hb h.c1, cell_next hb h.c2, cell_next hb h.c3, cell_next hb h.c4, cell_next hb h.c5, h.own.below hb⟩
theorem seen_at {w : World} {base : Nat} {vo : Value} {xs : List Seen} (h : SeenAt w base vo xs) : ∃ A c, vo = .slice A xs.length c ∧ xs.length ≤ c ∧
    ∀ j (hj : j < xs.length), ∃ b o va, A = some ⟨b, o, none⟩ ∧ SeenRow w base b (o + j * 6) xs[j] va := by
  obtain ⟨av, h1, h2, h3⟩ := h.ex
  have hz : (xs.zip av).length = xs.length := by simp [h1]
  rcases h2.2 with ⟨rfl, h0⟩ | ⟨g, cap, cur, rfl, hb, hg, hrest⟩
  · refine ⟨none, 0, by rw [h0], by omega, fun j hj => by omega⟩
  · refine ⟨some ⟨g, 0, none⟩, cap, rfl, hrest.1, fun j hj => ?_⟩
    have hjz : j < (xs.zip av).length := by omega
    have e : (xs.zip av)[j] = (xs[j], av[j]'(by omega)) := List.getElem_zip
    have hc := fun t (ht : t < 6) (u : Value) (hu : (seenC (xs[j], av[j]'(by omega)))[t]? = some u) =>
      World.ownsRow.cells h2 (g := g) rfl (j * 6 + t) u (by rw [flat6 (fun _ => rfl) _ j t hjz ht, e]; exact hu)
    simp only [addr_add, Nat.zero_add] at hc
    refine ⟨g, 0, av[j]'(by omega), rfl, ⟨(Array.getElem?_eq_some_iff.1 hg).1, ?_, ?_, ?_, ?_, ?_, ?_, h3 (xs[j], av[j]'(by omega)) (by rw [← e]; exact List.getElem_mem _)⟩⟩
    all_goals simp only [Nat.zero_add]
    · exact hc 0 (by omega) _ rfl
    · exact hc 1 (by omega) _ rfl
    · exact hc 2 (by omega) _ rfl
    · exact hc 3 (by omega) _ rfl
    · exact hc 4 (by omega) _ rfl
    · exact hc 5 (by omega) _ rfl
def liveD (g : Nat) : List KD := [⟨⟨g, 0, none⟩, 1, 1, [1], some ⟨#[120]⟩⟩]
def liveS : List KSt := [⟨0, 0, 0, ⟨#[]⟩⟩, ⟨4, 0, 0, ⟨#[120]⟩⟩]
theorem live_run (g : Nat) : runK 1 (idsOf (liveD g)) [] liveS = [⟨true, -1, -1, [0]⟩, ⟨true, -1, 0, [0]⟩] := by rfl
set_option maxRecDepth 100000 in
set_option maxHeartbeats 4000000 in
theorem keysLive_calls (w : World) : Calls Tryd.prog 15 #[] w fun e w' => e = .returned (.bool true) ∧ Below w.heap.size w w' := by
  go_enter Tryd.func15, Tryd.ntmps15
  have hKD : KDs (((w.alloc (.cells (nums .u8 [1]).toArray 5)).alloc (.cells ((liveD w.heap.size).flatMap KD.cells).toArray 71)).alloc (.cells (liveS.flatMap KSt.cells).toArray 44)) (some ⟨w.heap.size + 1, 0, none⟩) (liveD w.heap.size) :=
    ⟨(Rd.new (w.alloc (.cells (nums .u8 [1]).toArray 5)) 71 _ (w.heap.size + 1) (by simp)).alloc _, fun d hd => by
      simp [liveD] at hd; subst hd
      exact ⟨((Rd.new w 5 (nums .u8 [1]) w.heap.size rfl).alloc _).alloc _, rfl, by simp, by simp⟩⟩
  have hST : StepsOk (((w.alloc (.cells (nums .u8 [1]).toArray 5)).alloc (.cells ((liveD w.heap.size).flatMap KD.cells).toArray 71)).alloc (.cells (liveS.flatMap KSt.cells).toArray 44)) (some ⟨w.heap.size + 1 + 1, 0, none⟩) liveS 1 :=
    ⟨Rd.new ((w.alloc (.cells (nums .u8 [1]).toArray 5)).alloc (.cells ((liveD w.heap.size).flatMap KD.cells).toArray 71)) 44 _ (w.heap.size + 1 + 1) (by simp), fun x hx => by
      simp [liveS] at hx; rcases hx with rfl | rfl <;> simp, fun j hj hk => by
      match j, hj with
      | 0, _ => simp [liveS] at hk
      | 1, _ => simp [liveS] at hk
      | j + 2, h => exact absurd h (by simp [liveS])⟩
  have HC := hidden (keyRun_calls _ 1 1 _ _ 2 2 _ _ hKD rfl (by omega) hST rfl (by omega))
  clear hKD hST
  go_wp2_with (go_at_call 17; go_must (refine HC.out.mono ?_; rintro e w1 ⟨vo, rfl, hS, hB⟩; rw [live_run] at hS; obtain ⟨A, cc, rfl, hcc, hat⟩ := seen_at hS; obtain ⟨b, o, va, rfl, h0⟩ := hat 0 (by simp); obtain ⟨b2, o2, va2, e2, h1⟩ := hat 1 (by simp); cases e2; have HB1 := hidden (below_next (below_next (below_next (below_alloc0 w _) (below_alloc0 _ _)) (below_alloc0 _ _)) hB); have c0 := h0.c0; have c3 := h0.c3; have d0 := h1.c0; have d2 := h1.c2; simp at c0 c3 d0 d2; clear hS hat h0 h1 hB HC; simp only [List.length_cons, List.length_nil]))
  go_ret
  exact ⟨rfl, HB1.out⟩
end Go.Proofs.YthgklpkkcaiehaaDoor
