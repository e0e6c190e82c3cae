/- slices.Grow on bytes, and AppendEncode: letters behind bytes. AppendEncode: letters behind bytes. Steps by which a compact form is written. -/
import Derived.Test.YtbdmdajbdmdknaaGreatDoorB64R
namespace Go.Proofs.YtbdmdajbdmdknaaGreatDoor
open Go.RowKit
set_option linter.unusedVariables false
set_option linter.unusedSimpArgs false

/-- What stands behind room for n more bytes. -/
structure GrownP (w : World) (base : Nat) (v : Value) (l : List Int) (n : Nat) (e : Ending) (w' : World) : Prop where
  res : ∃ g rest, e = .returned (.slice (some ⟨g, 0, none⟩) l.length (l.length + rest.length)) ∧ base ≤ g ∧ Row w' g 5 (nums .u8 l ++ rest) ∧ n ≤ rest.length ∧ l.length + rest.length ≤ maxLen ∧ (v.ownBlock = some g ∨ g = w.heap.size)
  below : Below w.heap.size w w'
set_option maxRecDepth 100000 in
theorem grow_room_calls (A : Option Addr) (k c n : Nat) (w : World) (hk : k + n ≤ c) (hc : c ≤ maxLen) :
    Calls Tryz.prog 178 #[.slice A k c, .int .i64 n] w fun e w' => e = .returned (.slice A k c) ∧ w' = w := by
  have hc63 : c ≤ 9223372036854775807 := by unfold maxLen at hc; omega
  have h1 : ¬ ((n : Int) < 0) := by omega
  have h2 : wrap64 ((c : Int) - (k : Int)) = (c : Int) - (k : Int) := by unfold wrap64; omega
  have h3 : wrap64 ((n : Int) - ((c : Int) - (k : Int))) = (n : Int) - ((c : Int) - (k : Int)) := by unfold wrap64; omega
  have h4 : ¬ ((n : Int) - ((c : Int) - (k : Int)) > 0) := by omega
  have hkc : k ≤ c := by omega
  clear hk hc
  go_enter Tryz.func178, Tryz.ntmps178
  go_wp2
  go_ret
  exact ⟨rfl, rfl⟩
theorem zero8 (n : Nat) : (Builtin.zeroCells (Value.int .u8 0).cells n).toList.length = n := by
  rw [Array.length_toList, size_zeroCells]
  show n * 1 = n
  omega
set_option maxRecDepth 100000 in
set_option maxHeartbeats 2000000 in
theorem grow_more_calls (A : Option Addr) (k c n : Nat) (cs : List Value) (w : World) (hkc : k ≤ c) (hroom : c < k + n) (hk : k ≤ 10000000) (hn : n ≤ 10000000) (hcl : cs.length = c) (hnil : A = none → c = 0) (hcs : ∀ a, A = some a → ∀ j v, cs[j]? = some v → w.cell? (a.add j) = some v) :
    Calls Tryz.prog 178 #[.slice A k c, .int .i64 n] w fun e w' => ∃ more G, e = .returned (.slice (some ⟨w.heap.size, 0, none⟩) k G) ∧ Row w' w.heap.size 5 (cs ++ more) ∧ k + n ≤ G ∧ G ≤ maxLen ∧ c + more.length = G ∧ Below w.heap.size w w' := by
  have h1 : ¬ ((n : Int) < 0) := by omega
  have h2 : wrap64 ((c : Int) - (k : Int)) = (c : Int) - (k : Int) := by unfold wrap64; omega
  have h3 : wrap64 ((n : Int) - ((c : Int) - (k : Int))) = (n : Int) - ((c : Int) - (k : Int)) := by unfold wrap64; omega
  have h4 : (n : Int) - ((c : Int) - (k : Int)) > 0 := by omega
  obtain ⟨i0, hi, hzz⟩ := Option.map_eq_some_iff.1 info_u8
  simp only [Prod.mk.injEq] at hzz
  obtain ⟨hz0, hz1, hz2⟩ := hzz
  have hold : (Builtin.firstCells i0.size c (.slice A c c)).run Tryz.prog w.drew = .ok cs.toArray w.drew := by
    rw [hz1]
    cases A with
    | none =>
      have h0 := hnil rfl
      subst h0
      have hc0 : cs = [] := List.length_eq_zero_iff.1 hcl
      rw [hc0]
      exact run_firstCells_none w.drew 1 0 0 0
    | some a => exact run_firstCells_some w.drew 1 c a c c cs (by rw [hcl, Nat.mul_one]) (fun j v hj => hcs a rfl j v hj)
  have hck : c + (k + n - c) = k + n := by omega
  have hrz : ∀ ty, (Builtin.append_ #[31, 3] ty #[.slice A c c, .int .i64 ((n : Int) - ((c : Int) - (k : Int)))]).run Tryz.prog w =
      .ok (.slice (some ⟨w.heap.size, 0, none⟩) (k + n) (grownCap w (k + n) c 5)) (w.drew.alloc (.cells (cs.toArray ++ Builtin.zeroCells (Value.int .u8 0).cells (k + n - c) ++ Builtin.zeroCells (Value.int .u8 0).cells (grownCap w (k + n) c 5 - (k + n))) 5)) := fun ty => by
    have h := Lib.run_append_grow_zeros (P := Tryz.prog) w 31 3 ty 5 i0 (.int .u8 0) .i64 .i64 Tryz.underlying31 Tryz.underlying3 hi hz0 A c c cs hold (k + n - c) (by omega) (by omega) (by omega) (by omega)
      (by rw [hz2]; omega)
      (by rw [hck, hz2]; exact growslice_fits hroom (by omega))
    rw [hck] at h
    rw [show (n : Int) - ((c : Int) - (k : Int)) = ((k + n - c : Nat) : Int) by omega]
    exact h
  obtain ⟨G, hG⟩ : ∃ G, G = grownCap w (k + n) c 5 := ⟨_, rfl⟩
  have hGn : k + n ≤ G := by rw [hG]; exact grownCap_ge w _ _ _
  have hGm : G ≤ maxLen := by rw [hG]; exact grownCap_le_maxLen w (k + n) c 5 (by unfold maxLen; omega)
  rw [← hG] at hrz
  have hG63 : G ≤ 9223372036854775807 := by unfold maxLen at hGm; omega
  obtain ⟨more, hmore⟩ : ∃ more, more = (Builtin.zeroCells (Value.int .u8 0).cells (k + n - c) ++ Builtin.zeroCells (Value.int .u8 0).cells (G - (k + n))).toList := ⟨_, rfl⟩
  have hml : c + more.length = G := by rw [hmore, Array.toList_append, List.length_append, zero8, zero8]; omega
  have hW : (cs.toArray ++ Builtin.zeroCells (Value.int .u8 0).cells (k + n - c) ++ Builtin.zeroCells (Value.int .u8 0).cells (G - (k + n))) = (cs ++ more).toArray := by
    rw [hmore, Array.append_assoc]
    apply Array.toList_inj.1
    simp
  rw [hW] at hrz
  have HRow : Hid (Row (w.drew.alloc (.cells (cs ++ more).toArray 5)) w.heap.size 5 (cs ++ more)) := hidden (Row.new w.drew _ _)
  have HB : Hid (Below w.heap.size w (w.drew.alloc (.cells (cs ++ more).toArray 5))) := hidden ((below_drewN0 (Below.refl _ _) 1).alloc (Nat.le_refl _) _)
  have Hml := hidden hml
  have Hm := hidden hGm
  have Hkn := hidden hGn
  clear hold hck hG hcs hcl hmore hml hW hi hz0 hz1 hz2 hGm
  go_enter Tryz.func178, Tryz.ntmps178
  cases A with
  | none =>
    have h0 := hnil rfl
    subst h0
    obtain rfl : k = 0 := by omega
    go_wp2_with (at_builtin; refine Lib.wpList_append_run _ rfl _ _ _ _ rfl _ _ rfl rfl _ _ (hrz _) ?_)
    all_goals (go_ret; exact ⟨more, G, rfl, HRow.out, by have := Hkn.out; omega, Hm.out, by have := Hml.out; omega, HB.out⟩)
  | some a =>
    obtain ⟨ab, ao, asp⟩ := a
    go_wp2_with (at_builtin; refine Lib.wpList_append_run _ rfl _ _ _ _ rfl _ _ rfl rfl _ _ (hrz _) ?_)
    all_goals (go_ret; exact ⟨more, G, rfl, HRow.out, by have := Hkn.out; omega, Hm.out, by have := Hml.out; omega, HB.out⟩)
theorem grow_calls (base : Nat) (v : Value) (l : List Int) (n : Nat) (w : World) (HO : Own w base 5 v (nums .u8 l)) (hbase : base ≤ w.heap.size) (h0 : 0 < n) (hl : l.length ≤ 10000000) (hn : n ≤ 10000000) :
    Calls Tryz.prog 178 #[v, .int .i64 n] w (GrownP w base v l n) := by
  rcases HO.block with ⟨rfl, hnil⟩ | ⟨g, rest, rfl, hb, hR, hm⟩
  · have hl0 : l = [] := List.map_eq_nil_iff.1 hnil
    subst hl0
    refine (grow_more_calls none 0 0 n [] w (Nat.le_refl _) (by omega) (by omega) hn rfl (fun _ => rfl) (by intro a h; cases h)).mono ?_
    rintro e w' ⟨more, G, rfl, hR, h1, h2, rfl, hB⟩
    exact ⟨⟨w.heap.size, more, rfl, hbase, hR, by omega, by simpa using h2, .inr rfl⟩, hB⟩
  · rw [nums_len] at hm ⊢
    by_cases hr : n ≤ rest.length
    · refine (grow_room_calls _ _ _ n w (by omega) hm).mono ?_
      rintro e w' ⟨rfl, rfl⟩
      exact ⟨⟨g, rest, rfl, hb, hR, hr, hm, .inl rfl⟩, Below.refl _ _⟩
    · refine (grow_more_calls (some ⟨g, 0, none⟩) l.length (l.length + rest.length) n (nums .u8 l ++ rest) w (by omega) (by omega) hl hn (by rw [List.length_append, nums_len]) (by intro h; cases h) ?_).mono ?_
      · intro a ha j v hv
        cases ha
        rw [addr_add, Nat.zero_add, hR.cell]
        exact hv
      · rintro e w' ⟨more, G, rfl, hR2, h1, h2, rfl, hB⟩
        refine ⟨⟨w.heap.size, rest ++ more, by rw [List.length_append, Nat.add_assoc], hbase, by rw [← List.append_assoc]; exact hR2, by rw [List.length_append]; omega, by rw [List.length_append]; omega, .inr rfl⟩, hB⟩
end Go.Proofs.YtbdmdajbdmdknaaGreatDoor
namespace Go.Proofs.YtbdmdajbdmdknaaGreatDoor
open Go.RowKit
set_option linter.unusedVariables false
set_option linter.unusedSimpArgs false

/-- What stands behind bytes that were put behind others. -/
structure AppP (w : World) (base : Nat) (v : Value) (l : List Int) (v' : Value) (w' : World) : Prop where
  own : Own w' base 5 v' (nums .u8 l)
  grown : w.grownBy w' v.ownBlock
  blk : v'.ownBlock = v.ownBlock ∨ ∃ k, v'.ownBlock = some k ∧ w.heap.size ≤ k
/-- Bytes in another block than the row that is written. -/
structure Off (w : World) (v : Value) (A : Option Addr) : Prop where
  old : ∀ b f, A = some ⟨b, f, none⟩ → b < w.heap.size
  off : ∀ b f, A = some ⟨b, f, none⟩ → v.ownBlock ≠ some b
theorem grownR {w w1 : World} {A : Option Addr} {vs : List Value} {r : Option Nat} (h : Rd w A vs) (hg : w.grownBy w1 r) (hA : ∀ b f, A = some ⟨b, f, none⟩ → r ≠ some b) : Rd w1 A vs := by
  intro i v hv
  obtain ⟨b, o, rfl, hlt, hc⟩ := h i v hv
  refine ⟨b, o, rfl, Nat.lt_of_lt_of_le hlt hg.size, ?_⟩
  have := hg.block b hlt (fun e => hA _ _ rfl e.symm)
  unfold World.cell? at hc ⊢
  rw [this]; exact hc
theorem Off.next {w w1 : World} {base : Nat} {v v1 : Value} {l : List Int} {A : Option Addr} (h : Off w v A) (a : AppP w base v l v1 w1) : Off w1 v1 A := by
  refine ⟨fun b f e => Nat.lt_of_lt_of_le (h.old b f e) a.grown.size, fun b f e => ?_⟩
  have h1 := h.old b f e
  have h2 := h.off b f e
  rcases a.blk with hb | ⟨k, hb, hk⟩
  · rw [hb]; exact h2
  · rw [hb]; intro h; cases h; omega
theorem offEnc {w w1 : World} {base g : Nat} {v v1 : Value} {l : List Int} (hg : v.ownBlock ≠ some g) (hlt : g < w.heap.size) (a : AppP w base v l v1 w1) : v1.ownBlock ≠ some g := by
  rcases a.blk with hb | ⟨k, hb, hk⟩
  · rw [hb]; exact hg
  · rw [hb]; intro h; cases h; omega
theorem grown_trans {w w1 w2 : World} {r : Option Nat} (h : w.grownBy w1 r) (k : w1.grownBy w2 r) : w.grownBy w2 r :=
  ⟨k.os.trans h.os, k.tape.trans h.tape, k.output.trans h.output, Nat.le_trans h.size k.size, fun i hi hne => (k.block i (Nat.lt_of_lt_of_le hi h.size) hne).trans (h.block i hi hne)⟩
/-- Blocks that are new may be written too. -/
theorem grown_new {w w1 w2 : World} {r : Option Nat} {g : Nat} (h : w.grownBy w1 r) (k : w1.grownBy w2 (some g)) (hg : r = some g ∨ w.heap.size ≤ g) : w.grownBy w2 r :=
  ⟨k.os.trans h.os, k.tape.trans h.tape, k.output.trans h.output, Nat.le_trans h.size k.size, fun i hi hne => (k.block i (Nat.lt_of_lt_of_le hi h.size) (by
    rcases hg with rfl | hg
    · exact hne
    · intro e; cases e; omega)).trans (h.block i hi hne)⟩
theorem AppP.next {w w1 w2 : World} {base : Nat} {v v1 v2 : Value} {l l2 : List Int} (a : AppP w base v l v1 w1) (b : AppP w1 base v1 l2 v2 w2) : AppP w base v l2 v2 w2 := by
  refine ⟨b.own, ?_, ?_⟩
  · rcases a.blk with hb | ⟨k, hb, hk⟩
    · exact grown_trans a.grown (hb ▸ b.grown)
    · exact grown_new a.grown (hb ▸ b.grown) (.inr hk)
  · rcases b.blk with hb | ⟨k, hb, hk⟩
    · rw [hb]; exact a.blk
    · exact .inr ⟨k, hb, Nat.le_trans a.grown.size hk⟩
theorem splice_tail (l0 m : List Int) (rest : List Value) (k : Nat) (hk : k = l0.length) : splice (nums .u8 l0 ++ rest) k (nums .u8 m) = nums .u8 (l0 ++ m) ++ rest.drop m.length := by
  subst hk
  unfold splice
  rw [nums_len, List.take_left' (nums_len _ _), List.drop_append, nums_len, List.drop_of_length_le (by rw [nums_len]; omega), List.nil_append, Nat.add_sub_cancel_left, nums_app, List.append_assoc]
set_option maxRecDepth 100000 in
set_option maxHeartbeats 2000000 in
theorem appendEnc_calls (g base : Nat) (al dm : List Int) (v : Value) (l0 : List Int) (A : Option Addr) (n c : Nat) (l : List Int) (w : World) (hE : EncAt w g al dm (-1)) (HO : Own w base 5 v (nums .u8 l0)) (h : Rd w A (nums .u8 l)) (hn : l.length = n) (hb : IsB l) (hc : n ≤ c) (hN : n ≤ 100000)
    (hbase : base ≤ w.heap.size) (hl0 : l0.length ≤ 1000000) (hg : v.ownBlock ≠ some g) (hA : Off w v A) :
    Calls Tryz.prog 174 #[.pointer (some ⟨g, 0, none⟩), v, .slice A n c] w fun e w' => ∃ v', e = .returned v' ∧ AppP w base v (l0 ++ encF al l) v' w' := by
  obtain ⟨m, hm⟩ : ∃ m, m = encLen n := ⟨_, rfl⟩
  have hmb : m ≤ 200000 := by rw [hm]; unfold encLen; omega
  have Hlen : Hid ((encF al l).length = m) := hidden (by rw [encLen_eq, hn, hm])
  obtain ⟨k, hk⟩ : ∃ k, l0.length = k := ⟨_, rfl⟩
  rw [hk] at hl0
  have hw1 : wrap64 ((k : Int) + (m : Int)) = (k : Int) + (m : Int) := wrap64_id _ (by omega) (by omega)
  have Hm := hidden hm
  have HK := hidden hk
  have HE := hidden hE
  have H := hidden h
  have HOh := hidden HO
  have HA := hidden hA
  have Hg := hidden hg
  have Hn := hidden hn
  by_cases h0 : n = 0
  · obtain rfl : m = 0 := by rw [hm, h0]; rfl
    subst h0
    have hl : l = [] := List.eq_nil_of_length_eq_zero hn
    subst hl
    obtain ⟨A0, c0, hv, hc0, hr0, hnil⟩ := HO.read
    rw [nums_len, hk] at hv hc0
    have hcm : c0 ≤ maxLen := by
      rcases HO.block with ⟨e, _⟩ | ⟨g', rest, e, _, _, hmx⟩
      · rw [hv] at e; cases e; unfold maxLen; omega
      · rw [hv] at e; cases e; exact hmx
    subst hv
    clear hE h HO hA hg hn hm hk hr0 hnil
    have hc0m := hidden hcm
    clear hcm
    have q1 := fun W => run_from (W := W) Tryz.underlying31 size_u8' A0 k c0 k k rfl (by omega) hc0
    have q2 := fun W A => run_upto (W := W) Tryz.underlying31 size_u8' A 0 (c0 - k) 0 0 rfl (by omega)
    have q3 := fun W => run_upto (W := W) Tryz.underlying31 size_u8' A0 k c0 k k rfl hc0
    rw [Nat.sub_self] at q1
    obtain ⟨A1, hA1⟩ : ∃ A1, A1 = if c0 = k then A0 else A0.map (·.add k) := ⟨_, rfl⟩
    rw [← hA1] at q1
    clear hA1
    go_enter Tryz.func174, Tryz.ntmps174
    go_wp2_with (first
      | (go_at_call 177; go_must (refine (encodedLen_calls g _ _ 0 0 hN Hm.out _ HE.out).mono ?_; rintro e w1 ⟨rfl, rfl⟩))
      | (go_at_call 178; go_must (refine (grow_room_calls A0 k c0 0 _ hc0 hc0m.out).mono ?_; rintro e w2 ⟨rfl, rfl⟩))
      | (go_at_call 175; go_must (refine (encode0_calls g al dm A _ 0 _ c _).mono ?_; rintro e w3 ⟨rfl, rfl⟩)))
    go_ret
    refine ⟨_, rfl, ?_, World.grownBy.refl _ _, .inl rfl⟩
    rw [encF, List.append_nil]
    exact HOh.out
  · have hm0 : 0 < m := by rw [hm]; unfold encLen; omega
    have hb0 : base ≤ w.heap.size := hbase
    clear hE h HO hA hg hn hm hk
    go_enter Tryz.func174, Tryz.ntmps174
    go_wp2_with (first
      | (go_at_call 177; go_must (refine (encodedLen_calls g _ _ n m hN Hm.out _ HE.out).mono ?_; rintro e w1 ⟨rfl, rfl⟩))
      | (go_at_call 178; go_must (refine (grow_calls base v l0 m _ HOh.out hb0 hm0 (by rw [HK.out]; omega) (by omega)).mono ?_; rintro e w2 ⟨⟨gg, rest, rfl, hgb, hR2, hmr, hmx, hgg⟩, hB2⟩; rw [HK.out] at hmx ⊢; obtain ⟨r, hr⟩ : ∃ r, rest.length = r := ⟨_, rfl⟩; rw [hr] at hmr hmx ⊢; have Hr := hidden hr; clear hr; obtain ⟨C, hC⟩ : ∃ C, C = k + r := ⟨_, rfl⟩; rw [← hC] at hmx ⊢; have HC := hidden hC; have hCk : ¬ C = k := (by omega) ; have hCr : C - k = r := (by omega) ; have hkC : k ≤ C := (by omega) ; have hkmC : k + m ≤ C := (by omega) ; clear hC ; have q1 := fun W => run_from (W := W) Tryz.underlying31 size_u8' (some ⟨gg, 0, none⟩) k C k k rfl (Nat.le_refl _) hkC; rw [Nat.sub_self, if_neg hCk, hCr, Option.map_some, addr_add, Nat.zero_add] at q1 ; have q2 := fun W => run_upto (W := W) Tryz.underlying31 size_u8' (some ⟨gg, k, none⟩) 0 r m m rfl hmr ; have q3 := fun W => run_upto (W := W) Tryz.underlying31 size_u8' (some ⟨gg, 0, none⟩) k C ((k : Int) + (m : Int)) (k + m) (by omega) hkmC ; have HR2 := hidden hR2; have HB2 := hidden hB2; have Hgg := hidden hgg; have Hmx := hidden hmx ; clear hR2 hB2 hgg hmx))
      | (go_at_call 175; go_must (refine (encodeV_calls g gg 5 k m r al dm A n c l (nums .u8 l0 ++ rest) _ (HE.out.below HB2.out HE.out.lt) (H.out.below HB2.out (Nat.le_refl _)) Hn.out hb hc (by omega) HR2.out Hm.out hmr (by rw [List.length_append, nums_len, HK.out, Hr.out]; omega) (by rcases Hgg.out with e | e; exact (fun e2 => Hg.out (e2 ▸ e)); exact (fun e2 => by have := HE.out.lt; omega)) (fun b f e => by rcases Hgg.out with e1 | e1; exact (fun e2 => HA.out.off b f e (e2 ▸ e1)); exact (fun e2 => by have := HA.out.old b f e; omega)) hN).mono ?_; rintro e w3 ⟨rfl, hR3, hg3⟩)))
    go_ret
    rw [splice_tail l0 _ rest k HK.out.symm, Hlen.out] at hR3
    refine ⟨_, rfl, ?_, ?_, ?_⟩
    · have hC := HC.out
      have := Own.of_row (c := C) hR3 hgb (by rw [nums_len, List.length_append, List.length_drop, HK.out, Hlen.out, Hr.out]; omega) Hmx.out
      rw [nums_len, List.length_append, HK.out, Hlen.out] at this
      exact this
    · refine grown_new (grown_below (B := 0) HB2.out _) hg3 ?_
      rcases Hgg.out with e | e
      · exact .inl e
      · exact .inr (by omega)
    · rcases Hgg.out with e | e
      · exact .inl e.symm
      · exact .inr ⟨gg, rfl, by omega⟩
end Go.Proofs.YtbdmdajbdmdknaaGreatDoor
namespace Go.Proofs.YtbdmdajbdmdknaaGreatDoor
open Go.RowKit
set_option linter.unusedVariables false
set_option linter.unusedSimpArgs false

section
variable {P : Program}
/-- make([]T, k, n): a new block of n zeros. -/
theorem walk_make2 {ops : Array Oper} {rest : List Oper} {o : Oper} {a : Act} {Q : Exit → Act → World → Prop} {w : World} (hg : o.guard = none) (l c : Operand) {t e bytes : Nat} {z : Value} (hop : o.op = Op.makeSlice t l c)
    (ht : P.underlying t = some (.slice e)) (hinfo : (P.info? e).map (fun i => (i.zero, i.size, i.bytes)) = some (some z, 1, bytes)) (hz : z.cells = #[z]) {L C : Int} {k n : Nat} (hl : a.eval l = .int .i64 L) (hc : a.eval c = .int .i64 C) (hL : L = (k : Int)) (hC : C = (n : Int))
    (hkn : k ≤ n) (hb : bytes * n ≤ 281474976710656) (hn : n ≤ 281474976710656) (h : wpList P ops Q rest (a.put o.dst (.slice (some ⟨w.heap.size, 0, none⟩) k n)) (w.alloc (.cells (List.replicate n z).toArray e))) : wpList P ops Q (o :: rest) a w := by
  refine wpList_plain hg fun K hK => ?_
  obtain ⟨i0, hi, hzz⟩ := Option.map_eq_some_iff.1 hinfo
  simp only [Prod.mk.injEq] at hzz
  obtain ⟨hz0, hz1, hz2⟩ := hzz
  have hb' : (i0.bytes : Int) * (n : Int) ≤ 281474976710656 := by
    have h : ((i0.bytes * n : Nat) : Int) ≤ 281474976710656 := by rw [hz2]; omega
    rwa [Int.natCast_mul] at h
  have hr := run_make (P := P) w t e i0 z ht hi hz0 .i64 .i64 k n (by omega) (by omega) hb' (by omega)
  rw [hz1, hz] at hr
  simp only [Int.toNat_natCast, Nat.mul_one] at hr
  rw [show madeCells #[z] n = (List.replicate n z).toArray from by rw [← toList_madeCells_one]] at hr
  subst hL hC
  unfold Oper.wp execOp
  simp only [hop, hl, hc, hr, Sem.run_bind, Sem.run_pure, Result.andThen_ok]
  exact hK _ _ h
end

theorem own_cut {w : World} {base e : Nat} {A : Option Addr} {k c : Nat} {vs : List Value} (h : Own w base e (.slice A k c) vs) : Own w base e (.slice A 0 c) [] := by
  rcases h.block with ⟨hv, rfl⟩ | ⟨g, rest, hv, hb, hR, hm⟩
  · cases hv; exact Own.nil _ _ _
  · cases hv
    exact Own.of_row (rest := vs ++ rest) hR hb (by rw [List.length_append]; simp) hm
theorem appP_cut {w : World} {base : Nat} {A : Option Addr} {k c : Nat} {vs : List Value} (h : Own w base 5 (.slice A k c) vs) : AppP w base (.slice A k c) [] (.slice A 0 c) w :=
  ⟨own_cut h, World.grownBy.refl _ _, .inl (by cases A <;> rfl)⟩
theorem appP_refl {w : World} {base : Nat} {v : Value} {l : List Int} (h : Own w base 5 v (nums .u8 l)) : AppP w base v l v w := ⟨h, World.grownBy.refl _ _, .inl rfl⟩
theorem appP_made {w : World} {base C : Nat} {v : Value} (hb : base ≤ w.heap.size) (hC : C ≤ 10000000) : AppP w base v [] (.slice (some ⟨w.heap.size, 0, none⟩) 0 C) (w.alloc (.cells (List.replicate C (Value.int .u8 0)).toArray 5)) := by
  refine ⟨?_, World.grownBy_alloc _ _ _, .inr ⟨w.heap.size, rfl, Nat.le_refl _⟩⟩
  exact Own.of_row (vs := []) (rest := List.replicate C (Value.int .u8 0)) (Row.new w _ _) hb (by rw [List.length_replicate]; simp) (by unfold maxLen; omega)
/-- make of a new buffer. -/
theorem walk_makeP {ops : Array Oper} {rest : List Oper} {o : Oper} {a : Act} {Q : Exit → Act → World → Prop} {w : World} {base n : Nat} (v : Value) (hg : o.guard = none) (l c : Operand) (hop : o.op = Op.makeSlice 31 l c) {C : Int} (hl : a.eval l = .int .i64 0) (hc : a.eval c = .int .i64 C) (hC : C = (n : Int)) (hb : base ≤ w.heap.size) (hn : n ≤ 10000000)
    (h : ∀ W, AppP w base v [] (.slice (some ⟨w.heap.size, 0, none⟩) 0 n) W → wpList Tryz.prog ops Q rest (a.put o.dst (.slice (some ⟨w.heap.size, 0, none⟩) 0 n)) W) : wpList Tryz.prog ops Q (o :: rest) a w :=
  walk_make2 (k := 0) hg l c hop Tryz.underlying31 info_u8 rfl hl hc rfl hC (Nat.zero_le _) (by omega) (by omega) (h _ (appP_made hb hn))
theorem grown_none {w w1 : World} (h : w.grownBy w1 none) (r : Option Nat) : w.grownBy w1 r := ⟨h.os, h.tape, h.output, h.size, fun k hk _ => h.block k hk (by simp)⟩
/-- append behind what was written. -/
theorem AppP.put {w w1 wm w2 : World} {base : Nat} {v v1 v2 : Value} {l ys : List Int} (a : AppP w base v l v1 w1) (hm : w1.grownBy wm none) (hO : Own w2 base 5 v2 (nums .u8 l ++ nums .u8 ys)) (hg : wm.grownBy w2 v1.ownBlock) (hb : v2.ownBlock = v1.ownBlock ∨ v2.ownBlock = some wm.heap.size) : AppP w base v (l ++ ys) v2 w2 := by
  refine a.next ⟨by rw [nums_app]; exact hO, grown_trans (grown_none hm _) hg, ?_⟩
  rcases hb with hb | hb
  · exact .inl hb
  · exact .inr ⟨_, hb, hm.size⟩
/-- The encoder is in a block of its own. -/
structure EncOff (w : World) (v : Value) (g : Nat) : Prop where
  enc : EncAt w g (alpha true) (tab true) (-1)
  off : v.ownBlock ≠ some g
theorem EncOff.next {w w1 : World} {base g : Nat} {v v1 : Value} {l : List Int} (h : EncOff w v g) (a : AppP w base v l v1 w1) : EncOff w1 v1 g :=
  ⟨h.enc.grown a.grown (fun e => h.off e.symm), offEnc h.off h.enc.lt a⟩
structure RdOff (w : World) (v : Value) (A : Option Addr) (n c : Nat) (l : List Int) : Prop where
  rd : Rd w A (nums .u8 l)
  off : Off w v A
  len : l.length = n
  cap : n ≤ c
  isB : IsB l
theorem RdOff.next {w w1 : World} {base n c : Nat} {v v1 : Value} {A : Option Addr} {l l1 : List Int} (h : RdOff w v A n c l) (a : AppP w base v l1 v1 w1) : RdOff w1 v1 A n c l :=
  ⟨grownR h.rd a.grown h.off.off, h.off.next a, h.len, h.cap, h.isB⟩
/-- AppendEncode, behind what was written. -/
theorem appStep (g base : Nat) (v v1 : Value) (l0 l : List Int) (A : Option Addr) (n c : Nat) (w w1 : World) (a : AppP w base v l0 v1 w1) (hE : EncOff w v g) (h : RdOff w v A n c l) (hN : n ≤ 100000) (hbase : base ≤ w.heap.size) (hl0 : l0.length ≤ 1000000) :
    Calls Tryz.prog 174 #[.pointer (some ⟨g, 0, none⟩), v1, .slice A n c] w1 fun e w' => ∃ v', e = .returned v' ∧ AppP w base v (l0 ++ encF (alpha true) l) v' w' := by
  have h1 := h.next a
  have e1 := hE.next a
  refine (appendEnc_calls g base _ _ v1 l0 A n c l w1 e1.enc a.own h1.rd h1.len h1.isB h1.cap hN (Nat.le_trans hbase a.grown.size) hl0 e1.off h1.off).mono ?_
  rintro e w' ⟨v', rfl, b⟩
  exact ⟨v', rfl, a.next b⟩
def tailF (enc : Bool) (l : List Int) : List Int := if enc then encF (alpha true) l else l
end Go.Proofs.YtbdmdajbdmdknaaGreatDoor
