/- slices.Grow on bytes, and AppendEncode: letters behind bytes. -/
import Derived.Test.YtmibnnmampfalaaDoorB64R
namespace Go.Proofs.YtmibnnmampfalaaDoor
open Go.RowKit
set_option linter.unusedVariables false
set_option linter.unusedSimpArgs false

/-- What stands behind room for n more bytes. -/
structure GrownP (w : World) (base : Nat) (v : Value) (l : List Int) (n : Nat) (e : Ending) (w' : World) : Prop where
  res : ∃ g rest, e = .returned (.slice (some ⟨g, 0, none⟩) l.length (l.length + rest.length)) ∧ base ≤ g ∧ Row w' g 5 (nums .u8 l ++ rest) ∧ n ≤ rest.length ∧ l.length + rest.length ≤ maxLen ∧ (v.ownBlock = some g ∨ g = w.heap.size)
  below : Below w.heap.size w w'
set_option maxRecDepth 100000 in
theorem grow_room_calls (A : Option Addr) (k c n : Nat) (w : World) (hk : k + n ≤ c) (hc : c ≤ maxLen) :
    Calls Tryd.prog 62 #[.slice A k c, .int .i64 n] w fun e w' => e = .returned (.slice A k c) ∧ w' = w := by
  have hc63 : c ≤ 9223372036854775807 := by unfold maxLen at hc; omega
  have h1 : ¬ ((n : Int) < 0) := by omega
  have h2 : wrap64 ((c : Int) - (k : Int)) = (c : Int) - (k : Int) := by unfold wrap64; omega
  have h3 : wrap64 ((n : Int) - ((c : Int) - (k : Int))) = (n : Int) - ((c : Int) - (k : Int)) := by unfold wrap64; omega
  have h4 : ¬ ((n : Int) - ((c : Int) - (k : Int)) > 0) := by omega
  have hkc : k ≤ c := by omega
  clear hk hc
  go_enter Tryd.func62, Tryd.ntmps62
  go_wp2
  go_ret
  exact ⟨rfl, rfl⟩
theorem zero8 (n : Nat) : (Builtin.zeroCells (Value.int .u8 0).cells n).toList.length = n := by
  rw [Array.length_toList, size_zeroCells]
  show n * 1 = n
  omega
set_option maxRecDepth 100000 in
set_option maxHeartbeats 2000000 in
theorem grow_more_calls (A : Option Addr) (k c n : Nat) (cs : List Value) (w : World) (hkc : k ≤ c) (hroom : c < k + n) (hk : k ≤ 10000000) (hn : n ≤ 10000000) (hcl : cs.length = c) (hnil : A = none → c = 0) (hcs : ∀ a, A = some a → ∀ j v, cs[j]? = some v → w.cell? (a.add j) = some v) :
    Calls Tryd.prog 62 #[.slice A k c, .int .i64 n] w fun e w' => ∃ more G, e = .returned (.slice (some ⟨w.heap.size, 0, none⟩) k G) ∧ Row w' w.heap.size 5 (cs ++ more) ∧ k + n ≤ G ∧ G ≤ maxLen ∧ c + more.length = G ∧ Below w.heap.size w w' := by
  have h1 : ¬ ((n : Int) < 0) := by omega
  have h2 : wrap64 ((c : Int) - (k : Int)) = (c : Int) - (k : Int) := by unfold wrap64; omega
  have h3 : wrap64 ((n : Int) - ((c : Int) - (k : Int))) = (n : Int) - ((c : Int) - (k : Int)) := by unfold wrap64; omega
  have h4 : (n : Int) - ((c : Int) - (k : Int)) > 0 := by omega
  obtain ⟨i0, hi, hzz⟩ := Option.map_eq_some_iff.1 info_u8
  simp only [Prod.mk.injEq] at hzz
  obtain ⟨hz0, hz1, hz2⟩ := hzz
  have hold : (Builtin.firstCells i0.size c (.slice A c c)).run Tryd.prog w.drew = .ok cs.toArray w.drew := by
    rw [hz1]
    cases A with
    | none =>
      have h0 := hnil rfl
      subst h0
      have hc0 : cs = [] := List.length_eq_zero_iff.1 hcl
      rw [hc0]
      exact run_firstCells_none w.drew 1 0 0 0
    | some a => exact run_firstCells_some w.drew 1 c a c c cs (by rw [hcl, Nat.mul_one]) (fun j v hj => hcs a rfl j v hj)
  have hck : c + (k + n - c) = k + n := by omega
  have hrz : ∀ ty, (Builtin.append_ #[22, 3] ty #[.slice A c c, .int .i64 ((n : Int) - ((c : Int) - (k : Int)))]).run Tryd.prog w =
      .ok (.slice (some ⟨w.heap.size, 0, none⟩) (k + n) (grownCap w (k + n) c 5)) (w.drew.alloc (.cells (cs.toArray ++ Builtin.zeroCells (Value.int .u8 0).cells (k + n - c) ++ Builtin.zeroCells (Value.int .u8 0).cells (grownCap w (k + n) c 5 - (k + n))) 5)) := fun ty => by
    have h := Lib.run_append_grow_zeros (P := Tryd.prog) w 22 3 ty 5 i0 (.int .u8 0) .i64 .i64 Tryd.underlying22 Tryd.underlying3 hi hz0 A c c cs hold (k + n - c) (by omega) (by omega) (by omega) (by omega)
      (by rw [hz2]; omega)
      (by rw [hck, hz2]; exact growslice_fits hroom (by omega))
    rw [hck] at h
    rw [show (n : Int) - ((c : Int) - (k : Int)) = ((k + n - c : Nat) : Int) by omega]
    exact h
  obtain ⟨G, hG⟩ : ∃ G, G = grownCap w (k + n) c 5 := ⟨_, rfl⟩
  have hGn : k + n ≤ G := by rw [hG]; exact grownCap_ge w _ _ _
  have hGm : G ≤ maxLen := by rw [hG]; exact grownCap_le_maxLen w (k + n) c 5 (by unfold maxLen; omega)
  rw [← hG] at hrz
  have hG63 : G ≤ 9223372036854775807 := by unfold maxLen at hGm; omega
  obtain ⟨more, hmore⟩ : ∃ more, more = (Builtin.zeroCells (Value.int .u8 0).cells (k + n - c) ++ Builtin.zeroCells (Value.int .u8 0).cells (G - (k + n))).toList := ⟨_, rfl⟩
  have hml : c + more.length = G := by rw [hmore, Array.toList_append, List.length_append, zero8, zero8]; omega
  have hW : (cs.toArray ++ Builtin.zeroCells (Value.int .u8 0).cells (k + n - c) ++ Builtin.zeroCells (Value.int .u8 0).cells (G - (k + n))) = (cs ++ more).toArray := by
    rw [hmore, Array.append_assoc]
    apply Array.toList_inj.1
    simp
  rw [hW] at hrz
  have HRow : Hid (Row (w.drew.alloc (.cells (cs ++ more).toArray 5)) w.heap.size 5 (cs ++ more)) := hidden (Row.new w.drew _ _)
  have HB : Hid (Below w.heap.size w (w.drew.alloc (.cells (cs ++ more).toArray 5))) := hidden ((below_drewN0 (Below.refl _ _) 1).alloc (Nat.le_refl _) _)
  have Hml := hidden hml
  have Hm := hidden hGm
  have Hkn := hidden hGn
  clear hold hck hG hcs hcl hmore hml hW hi hz0 hz1 hz2 hGm
  go_enter Tryd.func62, Tryd.ntmps62
  cases A with
  | none =>
    have h0 := hnil rfl
    subst h0
    obtain rfl : k = 0 := by omega
    go_wp2_with (at_builtin; refine Lib.wpList_append_run _ rfl _ _ _ _ rfl _ _ rfl rfl _ _ (hrz _) ?_)
    all_goals (go_ret; exact ⟨more, G, rfl, HRow.out, by have := Hkn.out; omega, Hm.out, by have := Hml.out; omega, HB.out⟩)
  | some a =>
    obtain ⟨ab, ao, asp⟩ := a
    go_wp2_with (at_builtin; refine Lib.wpList_append_run _ rfl _ _ _ _ rfl _ _ rfl rfl _ _ (hrz _) ?_)
    all_goals (go_ret; exact ⟨more, G, rfl, HRow.out, by have := Hkn.out; omega, Hm.out, by have := Hml.out; omega, HB.out⟩)
theorem grow_calls (base : Nat) (v : Value) (l : List Int) (n : Nat) (w : World) (HO : Own w base 5 v (nums .u8 l)) (hbase : base ≤ w.heap.size) (h0 : 0 < n) (hl : l.length ≤ 10000000) (hn : n ≤ 10000000) :
    Calls Tryd.prog 62 #[v, .int .i64 n] w (GrownP w base v l n) := by
  rcases HO.block with ⟨rfl, hnil⟩ | ⟨g, rest, rfl, hb, hR, hm⟩
  · have hl0 : l = [] := List.map_eq_nil_iff.1 hnil
    subst hl0
    refine (grow_more_calls none 0 0 n [] w (Nat.le_refl _) (by omega) (by omega) hn rfl (fun _ => rfl) (by intro a h; cases h)).mono ?_
    rintro e w' ⟨more, G, rfl, hR, h1, h2, rfl, hB⟩
    exact ⟨⟨w.heap.size, more, rfl, hbase, hR, by omega, by simpa using h2, .inr rfl⟩, hB⟩
  · rw [nums_len] at hm ⊢
    by_cases hr : n ≤ rest.length
    · refine (grow_room_calls _ _ _ n w (by omega) hm).mono ?_
      rintro e w' ⟨rfl, rfl⟩
      exact ⟨⟨g, rest, rfl, hb, hR, hr, hm, .inl rfl⟩, Below.refl _ _⟩
    · refine (grow_more_calls (some ⟨g, 0, none⟩) l.length (l.length + rest.length) n (nums .u8 l ++ rest) w (by omega) (by omega) hl hn (by rw [List.length_append, nums_len]) (by intro h; cases h) ?_).mono ?_
      · intro a ha j v hv
        cases ha
        rw [addr_add, Nat.zero_add, hR.cell]
        exact hv
      · rintro e w' ⟨more, G, rfl, hR2, h1, h2, rfl, hB⟩
        refine ⟨⟨w.heap.size, rest ++ more, by rw [List.length_append, Nat.add_assoc], hbase, by rw [← List.append_assoc]; exact hR2, by rw [List.length_append]; omega, by rw [List.length_append]; omega, .inr rfl⟩, hB⟩
end Go.Proofs.YtmibnnmampfalaaDoor
