/- laws.FnHeadNested: the walk. -/
import Derived.Test.YtbdmdajbdmdknaaDoorHeA
import Derived.Test.YtbdmdajbdmdknaaDoorHeB
namespace Go.Proofs.YtbdmdajbdmdknaaDoor
open Go.RowKit
set_option linter.unusedVariables false
set_option linter.unusedSimpArgs false

theorem fo_ge {w : World} {base e s n : Nat} {v : Value} {xs : List Value} (h : w.ownsRow base e s v n xs) : ∀ i, v.ownBlock = some i → base ≤ i := by
  intro i hi
  rcases h.2 with ⟨rfl, _⟩ | ⟨g, cap, cur, rfl, hb, _⟩
  · cases hi
  · cases hi; exact hb
theorem FOwn.below {w w1 : World} {base : Nat} {v : Value} {l : List FM} (h : FOwn w base v l) (hb : Below w.heap.size w w1) : FOwn w1 base v l := by
  refine ⟨h.1, ?_⟩
  rcases h.2 with h2 | ⟨g, cap, cur, rfl, hb1, hg, r⟩
  · exact .inl h2
  · exact .inr ⟨g, cap, cur, rfl, hb1, (hb.block g (Array.getElem?_eq_some_iff.1 hg).1).trans hg, r⟩
theorem row_at {w : World} {g t : Nat} {vs : List Value} (h : Row w g t vs) : ∀ j u, vs[j]? = some u → w.cell? ((⟨g, 0, none⟩ : Addr).add j) = some u := by
  intro j u hj
  rw [addr_add, Nat.zero_add, h.cell]; exact hj
theorem fo_end {W : World} {base : Nat} {v : Value} {l : List FM} (h : FOwn W base v l) (hbase : base ≤ W.heap.size) (f : FM) :
    (W.alloc (.cells f.cells.toArray 29)).ownsRow base 29 7 v l.length (l.flatMap FM.cells) ∧
      ∀ v' w', w'.ownsRow base 29 7 v' (l.length + 1) (l.flatMap FM.cells ++ f.cells) → (W.alloc (.cells f.cells.toArray 29)).grownBy w' v.ownBlock → FOwn w' base v' (l ++ [f]) ∧ Below base W w' := by
  have hB := below_alloc0 W (.cells f.cells.toArray 29)
  refine ⟨h.below hB, fun v' w' ho hg => ⟨?_, ?_⟩⟩
  · unfold FOwn
    rw [List.length_append, List.flatMap_append]; simpa using ho
  · exact (hB.mono hbase).grown hg (Nat.le_trans hbase hB.size) (fun k hk => fo_ge h k hk)
/-- The nested field: its name, and what stands in its text. -/
def nestF (s q : ByteArray) : FM := ⟨⟨s, 5, false, false, 0, q, []⟩, none, 0⟩
theorem nest_fms {w W : World} {A A1 : Option Addr} {l : List FM} (h : FMs w A l) (hB : Below w.heap.size w W) (s q : ByteArray) (hr : Rd W A1 ((l ++ [nestF s q]).flatMap FM.cells)) : FMs W A1 (l ++ [nestF s q]) := by
  have h2 := h.below hB
  refine ⟨hr, fun f hf => ?_, fun f hf => ?_⟩
  · rcases List.mem_append.1 hf with hf | hf
    · exact h2.list f hf
    · obtain rfl := List.mem_singleton.1 hf
      exact ⟨Rd.nil _ _, by simp [nestF]⟩
  · rcases List.mem_append.1 hf with hf | hf
    · exact h2.num f hf
    · obtain rfl := List.mem_singleton.1 hf
      exact ⟨by simp [nestF], by simp [nestF]⟩
theorem nest_fit {l : List FM} (h : AllFit l) (h30 : l.length ≤ 30) (s q : ByteArray) (hs : s.size ≤ 200 ∧ Lib.validD s.data.toList = true) (hq : q.size ≤ 200 ∧ Lib.validD q.data.toList = true) (hno : ∀ f ∈ l, f.d.name ≠ s) : AllFit (l ++ [nestF s q]) := by
  refine ⟨by simp; omega, fun f hf => ?_, ?_⟩
  · rcases List.mem_append.1 hf with hf | hf
    · exact h.fit f hf
    · obtain rfl := List.mem_singleton.1 hf
      exact ⟨⟨by simp [nestF], by simp [nestF], hs.1, hq.1, by simp [nestF]⟩, hs.2, hq.2, by simp [nestF]⟩
  · unfold namesF
    rw [List.map_append, List.nodup_append]
    refine ⟨h.nd, by simp, fun a ha b hb e => ?_⟩
    obtain ⟨f, hf, rfl⟩ := List.mem_map.1 ha
    simp [nestF] at hb
    exact hno f hf (e.trans hb)
/-- What the head tells of the name and of what stands within. -/
theorem nest_tells {l : List FM} {T : Bs} {ps : List Po} {s q : ByteArray} (H : Head (l ++ [nestF s q]) (pText T) ps) (hsq : s ≠ q) {v : Value} {b : Bool} (hf : FindIs l q v b) :
    (headV unB (pText T) q.data.toList).isSome = b ∧ (headV unB (pText T) s.data.toList).isSome = true := by
  constructor
  · cases hf with
    | yes i hi hq hj =>
      have := H.yes i (by simp; omega)
      rw [List.getElem_append_left hi, hq] at this
      rw [this]; rfl
    | no hno =>
      rw [H.no q (fun f hf => ?_)]
      · rfl
      · rcases List.mem_append.1 hf with hf | hf
        · exact hno f hf
        · obtain rfl := List.mem_singleton.1 hf
          exact hsq
  · have := H.yes l.length (by simp)
    rw [List.getElem_append_right (Nat.le_refl _)] at this
    simp only [Nat.sub_self, List.getElem_singleton, nestF] at this
    rw [this]; rfl

set_option maxRecDepth 100000 in
set_option maxHeartbeats 8000000 in
theorem nested_short (A : Option Addr) (n c : Nat) (l : List FM) (st : Int) (s q : ByteArray) (w : World) (hm : FMs w A l) (hn : l.length = n) (hb : n ≤ 9223372036854775807) (hs : ¬ ((s.size ≤ 200 ∧ Lib.validD s.data.toList = true) ∧ q.size ≤ 200 ∧ Lib.validD q.data.toList = true)) (hz : s.size ≤ 9223372036854775807) (hzq : q.size ≤ 9223372036854775807) (hT : Tabs w) (hSY : SynAt w) :
    Calls Tryd.prog 3 #[.slice A n c, .int .u64 st, .string s, .string q] w (TB w) := by
  have HSY := hidden hSY
  have HT := hidden hT
  have HV := hidden (fun W h => valid_calls s W hz h)
  have HQ := hidden (fun W h => valid_calls q W hzq h)
  have K9 := hidden (fits9E A n c l w hm hn hb)
  have KF := hidden (fun W (h : Below w.heap.size w W) => headFitsE A n c l W (hm.below h) hn (hT.next h))
  have hvf : s.size ≤ 200 → q.size ≤ 200 → Lib.validD s.data.toList = true → Lib.validD q.data.toList = false := fun h1 h2 h3 => by
    cases h : Lib.validD q.data.toList with
    | false => rfl
    | true => exact absurd ⟨⟨h1, h3⟩, h2, h⟩ hs
  clear hs hm hn hb hz hzq hT hSY
  by_cases h1 : 2147483647 < s.size
  · have h1i : (2147483647 : Int) < (s.size : Int) := by omega
    clear hvf
    go_enter Tryd.func3, Tryd.ntmps3
    go_wp2_with (first
      | (go_at_call 7; go_must (refine K9.out.mono ?_; rintro e w1 ⟨r, rfl, hB⟩; have HB1 := hidden hB; clear hB; cases r))
      | (go_at_call 8; go_must (refine (KF.out w1 HB1.out).mono ?_; rintro e w2 ⟨r, rfl, hf, hB⟩; have HB2 := hidden (below_next HB1.out hB); clear hB hf; cases r))
      | (go_at_call 9; first
        | ((with_reducible refine (HV.out w2 (HT.out.next HB2.out)).mono ?_); (rintro e w4 ⟨rfl, hB⟩; have HB4 := hidden (below_next HB2.out hB); clear hB))
        | ((with_reducible refine (HQ.out w4 (HT.out.next HB4.out)).mono ?_); (rintro e w5 ⟨rfl, hB⟩; have HB5 := hidden (below_next HB4.out hB); clear hB)))
      | (go_at_call 10; first
        | ((with_reducible refine (headLive_calls w5 (HSY.out.next HB5.out)).mono ?_); (rintro e w3 ⟨rfl, hB⟩; have HB3 := hidden (below_next HB5.out hB); clear hB))
        | ((with_reducible refine (headLive_calls w4 (HSY.out.next HB4.out)).mono ?_); (rintro e w3 ⟨rfl, hB⟩; have HB3 := hidden (below_next HB4.out hB); clear hB))
        | ((with_reducible refine (headLive_calls w2 (HSY.out.next HB2.out)).mono ?_); (rintro e w3 ⟨rfl, hB⟩; have HB3 := hidden (below_next HB2.out hB); clear hB))))
    all_goals go_ret
    all_goals first
      | exact ⟨rfl, HB3.out⟩
      | exact ⟨rfl, HB1.out⟩
  have h1i : ¬ (2147483647 : Int) < (s.size : Int) := by omega
  by_cases h2 : 2147483647 < q.size
  · have h2i : (2147483647 : Int) < (q.size : Int) := by omega
    clear hvf
    go_enter Tryd.func3, Tryd.ntmps3
    go_wp2_with (first
      | (go_at_call 7; go_must (refine K9.out.mono ?_; rintro e w1 ⟨r, rfl, hB⟩; have HB1 := hidden hB; clear hB; cases r))
      | (go_at_call 8; go_must (refine (KF.out w1 HB1.out).mono ?_; rintro e w2 ⟨r, rfl, hf, hB⟩; have HB2 := hidden (below_next HB1.out hB); clear hB hf; cases r))
      | (go_at_call 9; first
        | ((with_reducible refine (HV.out w2 (HT.out.next HB2.out)).mono ?_); (rintro e w4 ⟨rfl, hB⟩; have HB4 := hidden (below_next HB2.out hB); clear hB))
        | ((with_reducible refine (HQ.out w4 (HT.out.next HB4.out)).mono ?_); (rintro e w5 ⟨rfl, hB⟩; have HB5 := hidden (below_next HB4.out hB); clear hB)))
      | (go_at_call 10; first
        | ((with_reducible refine (headLive_calls w5 (HSY.out.next HB5.out)).mono ?_); (rintro e w3 ⟨rfl, hB⟩; have HB3 := hidden (below_next HB5.out hB); clear hB))
        | ((with_reducible refine (headLive_calls w4 (HSY.out.next HB4.out)).mono ?_); (rintro e w3 ⟨rfl, hB⟩; have HB3 := hidden (below_next HB4.out hB); clear hB))
        | ((with_reducible refine (headLive_calls w2 (HSY.out.next HB2.out)).mono ?_); (rintro e w3 ⟨rfl, hB⟩; have HB3 := hidden (below_next HB2.out hB); clear hB))))
    all_goals go_ret
    all_goals first
      | exact ⟨rfl, HB3.out⟩
      | exact ⟨rfl, HB1.out⟩
  have h2i : ¬ (2147483647 : Int) < (q.size : Int) := by omega
  by_cases h3 : 200 < s.size
  · have h3i : (200 : Int) < (s.size : Int) := by omega
    clear hvf
    go_enter Tryd.func3, Tryd.ntmps3
    go_wp2_with (first
      | (go_at_call 7; go_must (refine K9.out.mono ?_; rintro e w1 ⟨r, rfl, hB⟩; have HB1 := hidden hB; clear hB; cases r))
      | (go_at_call 8; go_must (refine (KF.out w1 HB1.out).mono ?_; rintro e w2 ⟨r, rfl, hf, hB⟩; have HB2 := hidden (below_next HB1.out hB); clear hB hf; cases r))
      | (go_at_call 9; first
        | ((with_reducible refine (HV.out w2 (HT.out.next HB2.out)).mono ?_); (rintro e w4 ⟨rfl, hB⟩; have HB4 := hidden (below_next HB2.out hB); clear hB))
        | ((with_reducible refine (HQ.out w4 (HT.out.next HB4.out)).mono ?_); (rintro e w5 ⟨rfl, hB⟩; have HB5 := hidden (below_next HB4.out hB); clear hB)))
      | (go_at_call 10; first
        | ((with_reducible refine (headLive_calls w5 (HSY.out.next HB5.out)).mono ?_); (rintro e w3 ⟨rfl, hB⟩; have HB3 := hidden (below_next HB5.out hB); clear hB))
        | ((with_reducible refine (headLive_calls w4 (HSY.out.next HB4.out)).mono ?_); (rintro e w3 ⟨rfl, hB⟩; have HB3 := hidden (below_next HB4.out hB); clear hB))
        | ((with_reducible refine (headLive_calls w2 (HSY.out.next HB2.out)).mono ?_); (rintro e w3 ⟨rfl, hB⟩; have HB3 := hidden (below_next HB2.out hB); clear hB))))
    all_goals go_ret
    all_goals first
      | exact ⟨rfl, HB3.out⟩
      | exact ⟨rfl, HB1.out⟩
  have h3i : ¬ (200 : Int) < (s.size : Int) := by omega
  by_cases h4 : 200 < q.size
  · have h4i : (200 : Int) < (q.size : Int) := by omega
    clear hvf
    go_enter Tryd.func3, Tryd.ntmps3
    go_wp2_with (first
      | (go_at_call 7; go_must (refine K9.out.mono ?_; rintro e w1 ⟨r, rfl, hB⟩; have HB1 := hidden hB; clear hB; cases r))
      | (go_at_call 8; go_must (refine (KF.out w1 HB1.out).mono ?_; rintro e w2 ⟨r, rfl, hf, hB⟩; have HB2 := hidden (below_next HB1.out hB); clear hB hf; cases r))
      | (go_at_call 9; first
        | ((with_reducible refine (HV.out w2 (HT.out.next HB2.out)).mono ?_); (rintro e w4 ⟨rfl, hB⟩; have HB4 := hidden (below_next HB2.out hB); clear hB))
        | ((with_reducible refine (HQ.out w4 (HT.out.next HB4.out)).mono ?_); (rintro e w5 ⟨rfl, hB⟩; have HB5 := hidden (below_next HB4.out hB); clear hB)))
      | (go_at_call 10; first
        | ((with_reducible refine (headLive_calls w5 (HSY.out.next HB5.out)).mono ?_); (rintro e w3 ⟨rfl, hB⟩; have HB3 := hidden (below_next HB5.out hB); clear hB))
        | ((with_reducible refine (headLive_calls w4 (HSY.out.next HB4.out)).mono ?_); (rintro e w3 ⟨rfl, hB⟩; have HB3 := hidden (below_next HB4.out hB); clear hB))
        | ((with_reducible refine (headLive_calls w2 (HSY.out.next HB2.out)).mono ?_); (rintro e w3 ⟨rfl, hB⟩; have HB3 := hidden (below_next HB2.out hB); clear hB))))
    all_goals go_ret
    all_goals first
      | exact ⟨rfl, HB3.out⟩
      | exact ⟨rfl, HB1.out⟩
  have h4i : ¬ (200 : Int) < (q.size : Int) := by omega
  cases hvs : Lib.validD s.data.toList with
  | false =>
    rw [hvs] at HV
    clear hvf hvs
    go_enter Tryd.func3, Tryd.ntmps3
    go_wp2_with (first
      | (go_at_call 7; go_must (refine K9.out.mono ?_; rintro e w1 ⟨r, rfl, hB⟩; have HB1 := hidden hB; clear hB; cases r))
      | (go_at_call 8; go_must (refine (KF.out w1 HB1.out).mono ?_; rintro e w2 ⟨r, rfl, hf, hB⟩; have HB2 := hidden (below_next HB1.out hB); clear hB hf; cases r))
      | (go_at_call 9; first
        | ((with_reducible refine (HV.out w2 (HT.out.next HB2.out)).mono ?_); (rintro e w4 ⟨rfl, hB⟩; have HB4 := hidden (below_next HB2.out hB); clear hB))
        | ((with_reducible refine (HQ.out w4 (HT.out.next HB4.out)).mono ?_); (rintro e w5 ⟨rfl, hB⟩; have HB5 := hidden (below_next HB4.out hB); clear hB)))
      | (go_at_call 10; first
        | ((with_reducible refine (headLive_calls w5 (HSY.out.next HB5.out)).mono ?_); (rintro e w3 ⟨rfl, hB⟩; have HB3 := hidden (below_next HB5.out hB); clear hB))
        | ((with_reducible refine (headLive_calls w4 (HSY.out.next HB4.out)).mono ?_); (rintro e w3 ⟨rfl, hB⟩; have HB3 := hidden (below_next HB4.out hB); clear hB))
        | ((with_reducible refine (headLive_calls w2 (HSY.out.next HB2.out)).mono ?_); (rintro e w3 ⟨rfl, hB⟩; have HB3 := hidden (below_next HB2.out hB); clear hB))))
    all_goals go_ret
    all_goals first
      | exact ⟨rfl, HB3.out⟩
      | exact ⟨rfl, HB1.out⟩
  | true =>
    rw [hvs] at HV
    rw [hvf (by omega) (by omega) hvs] at HQ
    clear hvf hvs
    go_enter Tryd.func3, Tryd.ntmps3
    go_wp2_with (first
      | (go_at_call 7; go_must (refine K9.out.mono ?_; rintro e w1 ⟨r, rfl, hB⟩; have HB1 := hidden hB; clear hB; cases r))
      | (go_at_call 8; go_must (refine (KF.out w1 HB1.out).mono ?_; rintro e w2 ⟨r, rfl, hf, hB⟩; have HB2 := hidden (below_next HB1.out hB); clear hB hf; cases r))
      | (go_at_call 9; first
        | ((with_reducible refine (HV.out w2 (HT.out.next HB2.out)).mono ?_); (rintro e w4 ⟨rfl, hB⟩; have HB4 := hidden (below_next HB2.out hB); clear hB))
        | ((with_reducible refine (HQ.out w4 (HT.out.next HB4.out)).mono ?_); (rintro e w5 ⟨rfl, hB⟩; have HB5 := hidden (below_next HB4.out hB); clear hB)))
      | (go_at_call 10; first
        | ((with_reducible refine (headLive_calls w5 (HSY.out.next HB5.out)).mono ?_); (rintro e w3 ⟨rfl, hB⟩; have HB3 := hidden (below_next HB5.out hB); clear hB))
        | ((with_reducible refine (headLive_calls w4 (HSY.out.next HB4.out)).mono ?_); (rintro e w3 ⟨rfl, hB⟩; have HB3 := hidden (below_next HB4.out hB); clear hB))
        | ((with_reducible refine (headLive_calls w2 (HSY.out.next HB2.out)).mono ?_); (rintro e w3 ⟨rfl, hB⟩; have HB3 := hidden (below_next HB2.out hB); clear hB))))
    all_goals go_ret
    all_goals first
      | exact ⟨rfl, HB3.out⟩
      | exact ⟨rfl, HB1.out⟩

set_option maxRecDepth 100000 in
set_option maxHeartbeats 16000000 in
theorem nested_main (A : Option Addr) (n c : Nat) (l : List FM) (x0 : Nat) (s q : ByteArray) (w : World) (hm : FMs w A l) (hn : l.length = n) (hb : n ≤ 9223372036854775807) (hA : A = none → c = 0) (hs : s.size ≤ 200 ∧ Lib.validD s.data.toList = true) (hq : q.size ≤ 200 ∧ Lib.validD q.data.toList = true) (hT : Tabs w) (hSY : SynAt w) :
    Calls Tryd.prog 3 #[.slice A n c, .int .u64 (x0 : Int), .string s, .string q] w (TB w) := by
  have HSY := hidden hSY
  have HT := hidden hT
  have HV := hidden (fun W h => valid_calls s W (by omega) h)
  have HQ := hidden (fun W h => valid_calls q W (by omega) h)
  rw [hs.2] at HV
  rw [hq.2] at HQ
  have K9 := hidden (fits9E A n c l w hm hn hb)
  have KF := hidden (fun W (h : Below w.heap.size w W) => headFitsE A n c l W (hm.below h) hn (hT.next h))
  have HM := hidden (And.intro hm (And.intro hn hA))
  have HSS := hidden (And.intro hs hq)
  have h1i : ¬ (2147483647 : Int) < (s.size : Int) := by have := hs.1; omega
  have h2i : ¬ (200 : Int) < (s.size : Int) := by have := hs.1; omega
  have h3i : ¬ (2147483647 : Int) < (q.size : Int) := by have := hq.1; omega
  have h4i : ¬ (200 : Int) < (q.size : Int) := by have := hq.1; omega
  obtain ⟨i0, hi0, hzz⟩ := Option.map_eq_some_iff.1 info_field
  simp only [Prod.mk.injEq] at hzz
  have HI := hidden hzz
  have hcv : ∀ (W : World) (t : ByteArray), (convert 9 32 (.string t)).run Tryd.prog W = .ok (.slice (some ⟨W.heap.size, 0, none⟩) t.size (grownCap W t.size 0 5)) (Go.Lib.bytesWorld W 5 t) := fun W t => Go.Lib.run_convert_string_bytes (P := Tryd.prog) W 9 32 5 t Tryd.underlying9 Tryd.underlying32 Tryd.underlying5
  clear hm hn hb hA hs hq hT hSY hzz
  go_enter Tryd.func3, Tryd.ntmps3
  go_upto_region 5 with (first
    | (go_at_call 7; go_must (refine K9.out.mono ?_; rintro e w1 ⟨r, rfl, hB⟩; have HB1 := hidden hB; clear hB; cases r))
    | (go_at_call 8; go_must (refine (KF.out w1 HB1.out).mono ?_; rintro e w2 ⟨r, rfl, hf, hB⟩; have HB2 := hidden (below_next HB1.out hB); have HF2 := hidden hf; clear hB hf; cases r))
    | (go_at_call 9; first
      | ((with_reducible refine (HV.out w2 (HT.out.next HB2.out)).mono ?_); (rintro e w4 ⟨rfl, hB⟩; have HB4 := hidden (below_next HB2.out hB); clear hB))
      | ((with_reducible refine (HQ.out w4 (HT.out.next HB4.out)).mono ?_); (rintro e w5 ⟨rfl, hB⟩; have HB5 := hidden (below_next HB4.out hB); clear hB)))
    | (go_at_call 10; go_must (refine (headLive_calls w2 (HSY.out.next HB2.out)).mono ?_; rintro e w3 ⟨rfl, hB⟩; have HB3 := hidden (below_next HB2.out hB); clear hB)))
  any_goals (first
    | (go_ret; exact ⟨rfl, HB3.out⟩)
    | (go_ret; exact ⟨rfl, HB1.out⟩))
  have HAF : Hid (AllFit l ∧ l.length ≤ 30) := hidden (by simpa using HF2.out)
  have hn30 : n ≤ 30 := by have := HAF.out.2; have := HM.out.2.1; omega
  clear HF2 K9 KF HV HQ
  have KFI := hidden (headFindE A n c l s w5 (HM.out.1.below HB5.out) HM.out.2.1 (by omega))
  by_cases hsq : s = q
  · have hqb : (s.toList == q.toList) = true := by rw [bytes_eq]; exact decide_eq_true hsq
    clear hsq
    go_wp2_with (first
      | (go_at_call 11; go_must (refine KFI.out.mono ?_; rintro e w6 ⟨v, b, rfl, hF, hB⟩; have HB6 := hidden (below_next HB5.out hB); rcases hF with ⟨i, hi, _, _⟩ | _ <;> clear hB <;> (first | unfold fV | unfold zeroF) <;> dsimp only))
      | (go_at_call 10; go_must (refine (headLive_calls _ (HSY.out.next (below_next HB6.out (below_alloc0 w6 _)))).mono ?_; rintro e w3 ⟨rfl, hB⟩; have HB3 := hidden (below_next (below_next HB6.out (below_alloc0 w6 _)) hB); clear hB)))
    all_goals (go_ret; exact ⟨rfl, HB3.out⟩)
  have hqb : (s.toList == q.toList) = false := by rw [bytes_eq]; exact decide_eq_false hsq
  have HNQ := hidden hsq
  clear hsq
  go_upto_region 8 with (first
    | (go_at_call 11; go_must (refine KFI.out.mono ?_; rintro e w6 ⟨v, b, rfl, hF, hB⟩; have HB6 := hidden (below_next HB5.out hB); rcases hF with ⟨i, hi, _, _⟩ | hno <;> clear hB <;> (first | unfold fV | (unfold zeroF; have HNO := hidden hno; clear hno)) <;> dsimp only))
    | (go_at_call 10; go_must (refine (headLive_calls _ (HSY.out.next (below_next HB6.out (below_alloc0 w6 _)))).mono ?_; rintro e w3 ⟨rfl, hB⟩; have HB3 := hidden (below_next (below_next HB6.out (below_alloc0 w6 _)) hB); clear hB)))
  any_goals (go_ret; exact ⟨rfl, HB3.out⟩)
  have HBX := hidden (below_next HB6.out (below_alloc0 w6 (.cells #[.string ⟨#[]⟩, .int .u8 0, .bool false, .bool false, .int .u64 0, .string ⟨#[]⟩, .slice none 0 0] 29)))
  refine wpAbs (fun W => Hid (Below w.heap.size w W)) HBX ?_
  clear HBX HB1 HB2 HB4 HB5 HB6 KFI
  rintro W7 HB7
  have KC := hidden (cloneF_calls A n c l W7 (HM.out.1.below HB7.out) HM.out.2.1 (by omega) HM.out.2.2)
  have KT := hidden (fun A1 c1 W (hr : Rd W A1 ((l ++ [nestF s q]).flatMap FM.cells)) (hB : Below w.heap.size w W) => headText_calls A1 (n + 1) c1 (l ++ [nestF s q]) x0 W (nest_fms HM.out.1 hB s q hr) (by simp [HM.out.2.1]) (by omega) (fun f hf => ((nest_fit HAF.out.1 HAF.out.2 s q HSS.out.1 HSS.out.2 HNO.out).fit f hf).fit))
  go_upto_region 9 with (first
    | (go_at_call 13; go_must (refine KC.out.mono ?_; rintro e w8 ⟨v8, rfl, hO, hB⟩; have HB8 := hidden hB; have HFE := hidden (fo_end hO hB.size (nestF s q)); clear hB hO))
    | ((with_reducible refine at_dst 70 ?_); go_must (obtain ⟨how, hTE⟩ := HFE.out; refine wpList_append_own_at _ rfl (.tmp 65) (.tmp 69) 22 rfl W7.heap.size 29 i0 _ 7 72 Tryd.underlying22 hi0 HI.out.1 HI.out.2.1 HI.out.2.2 rfl (by decide) _ l.length _ rfl how ⟨w8.heap.size, 0, none⟩ 1 1 (nestF s q).cells rfl rfl (row_at (Row.new w8 _ _)) (by simpa using fm_one [nestF s q]) (by have := HAF.out.2; unfold maxLen; omega) (by have := HAF.out.2; omega) (by have := HB8.out.size; simp; omega) ?_; rintro v9 w9 ho9 hg9 _ _; have HX := hidden (hTE v9 w9 ho9 hg9); clear hTE how ho9 hg9; obtain ⟨A9, c9, rfl, hr9, _⟩ := HX.out.1.rd; have HR9 := hidden hr9; have HB9 := hidden (below_next HB7.out (HB8.out.trans HX.out.2)); have hn9 : (l ++ [nestF s q]).length = n + 1 := (by simp [HM.out.2.1]); rw [hn9]; clear hr9 hn9))
    | (go_at_call 12; go_must (refine (KT.out _ _ _ HR9.out HB9.out).mono ?_; rintro e w10 ⟨T, rfl, hTx, hB⟩; have HTX := hidden hTx; have HB10 := hidden (below_next HB9.out hB); clear hTx hB)))
  obtain ⟨ps, hp1, hp2, hp3⟩ := HTX.out.ps
  have HH : Hid (Head (l ++ [nestF s q]) (pText T) ps) := hidden ⟨hp1, hp2, hp3, nest_fit HAF.out.1 HAF.out.2 s q HSS.out.1 HSS.out.2 HNO.out⟩
  have HTL : Hid (T.length ≤ 200000000) := hidden (by have := HTX.out.len; omega)
  clear hp1 hp2 hp3 HTX KT KC HX HR9 HB8 HFE
  have HX : Hid (TxtAt T (some ⟨w10.heap.size, 0, none⟩) (grownCap w10 (bs T).size 0 5) (Go.Lib.bytesWorld w10 5 (bs T)) ∧ Below w.heap.size w (Go.Lib.bytesWorld w10 5 (bs T))) := hidden ⟨⟨rd_bI w10 5 (bs T), grownCap_ge _ _ _ _, by simp⟩, below_next HB10.out (below_bytes0 w10 5 (bs T))⟩
  obtain ⟨cp, hcp⟩ : ∃ c, grownCap w10 (bs T).size 0 5 = c := ⟨_, rfl⟩
  obtain ⟨tg, htg⟩ : ∃ g, w10.heap.size = g := ⟨_, rfl⟩
  rw [hcp, htg] at HX
  rw [hcp, htg]
  clear hcp htg hcv
  refine wpAbs (fun W => Hid (TxtAt T (some ⟨tg, 0, none⟩) cp W ∧ Below w.heap.size w W)) HX ?_
  clear HX HB7 HB9 HB10
  rintro W11 HX
  have KFQ := hidden (headFindE A n c l q W11 (HM.out.1.below HX.out.2) HM.out.2.1 (by omega))
  obtain ⟨TS, hTS⟩ : ∃ z, (bs T).size = z := ⟨_, rfl⟩
  have HTS := hidden hTS
  rw [hTS]
  clear hTS
  go_upto_region 10 with (go_at_call 11; go_must (refine KFQ.out.mono ?_; rintro e w12 ⟨v, b, rfl, hF, hB⟩; have HTN := hidden (nest_tells HH.out HNQ.out hF); have HAL := hidden (fun o => And.intro ((HX.out.1.next hB).next (below_alloc0 w12 o)) (below_next (below_next HX.out.2 hB) (below_alloc0 w12 o))); rcases hF with ⟨i, hi, _, _⟩ | _ <;> clear hB <;> (first | unfold fV | unfold zeroF) <;> dsimp only))
  all_goals (refine wpAbs (fun W => Hid (TxtAt T (some ⟨tg, 0, none⟩) cp W ∧ Below w.heap.size w W)) (hidden (HAL.out _)) ?_)
  all_goals clear HAL HX KFQ
  all_goals rintro W13 HX
  all_goals have KL := hidden (fun W A c (h : TxtAt T A c W) => txt_clone HTL.out h)
  all_goals have KQ := hidden (fun W A c (h : TxtAt T A c W) (hS : SynAt W) => head_has HH.out HTL.out q _ HTN.out.1 h hS)
  all_goals have KS := hidden (fun W A c (h : TxtAt T A c W) (hS : SynAt W) => head_has HH.out HTL.out s _ HTN.out.2 h hS)
  all_goals rw [HTS.out] at KL KQ KS
  all_goals go_wp2_with (first
    | (go_at_call 15; first
      | ((with_reducible refine (KL.out w15 _ _ HX15.out).mono ?_); (rintro e w16 ⟨A16, c16, rfl, hx, hB⟩; rw [HTS.out]; have HX16 := hidden hx; have HB16 := hidden (below_next HB15.out hB); clear hx hB))
      | ((with_reducible refine (KL.out W13 _ _ HX.out.1).mono ?_); (rintro e w14 ⟨A14, c14, rfl, hx, hB⟩; rw [HTS.out]; have HX14 := hidden hx; have HT14 := hidden (HX.out.1.next hB); have HB14 := hidden (below_next HX.out.2 hB); clear hx hB)))
    | (go_at_call 14; first
      | ((with_reducible refine (KS.out w16 _ _ HX16.out (HSY.out.next HB16.out)).mono ?_); (rintro e w17 ⟨rfl, hB⟩; have HB17 := hidden (below_next HB16.out hB); clear hB))
      | ((with_reducible refine (KQ.out w14 _ _ HX14.out (HSY.out.next HB14.out)).mono ?_); (rintro e w15 ⟨rfl, hB⟩; have HX15 := hidden (HT14.out.next hB); have HB15 := hidden (below_next HB14.out hB); clear hB)))
    | (go_at_call 10; go_must (refine (headLive_calls w17 (HSY.out.next HB17.out)).mono ?_; rintro e w3 ⟨rfl, hB⟩; have HB3 := hidden (below_next HB17.out hB); clear hB)))
  all_goals go_ret
  all_goals exact ⟨rfl, HB3.out⟩
theorem headNested_walk (A : Option Addr) (n c : Nat) (l : List FM) (st : Int) (s q : ByteArray) (w : World) (hm : FMs w A l) (hn : l.length = n) (hb : n ≤ 9223372036854775807) (hA : A = none → c = 0) (hst : (Lit.int .u64 st).wf = true) (hz : s.size ≤ 9223372036854775807) (hzq : q.size ≤ 9223372036854775807) (hT : Tabs w) (hSY : SynAt w) :
    Calls Tryd.prog 3 #[.slice A n c, .int .u64 st, .string s, .string q] w (TB w) := by
  by_cases hs : (s.size ≤ 200 ∧ Lib.validD s.data.toList = true) ∧ q.size ≤ 200 ∧ Lib.validD q.data.toList = true
  · simp [Lit.wf, IntKind.min, IntKind.max, IntKind.bits, IntKind.signed] at hst
    obtain ⟨k, rfl⟩ : ∃ k : Nat, st = k := ⟨st.toNat, by omega⟩
    exact nested_main A n c l k s q w hm hn hb hA hs.1 hs.2 hT hSY
  · exact nested_short A n c l st s q w hm hn hb hs hz hzq hT hSY

end Go.Proofs.YtbdmdajbdmdknaaDoor
