/- AppendEncode: letters behind bytes. -/
import Derived.Test.YtmibnnmampfalaaDoorB64S
namespace Go.Proofs.YtmibnnmampfalaaDoor
open Go.RowKit
set_option linter.unusedVariables false
set_option linter.unusedSimpArgs false

/-- What stands behind bytes that were put behind others. -/
structure AppP (w : World) (base : Nat) (v : Value) (l : List Int) (v' : Value) (w' : World) : Prop where
  own : Own w' base 5 v' (nums .u8 l)
  grown : w.grownBy w' v.ownBlock
  blk : v'.ownBlock = v.ownBlock ∨ ∃ k, v'.ownBlock = some k ∧ w.heap.size ≤ k
/-- Bytes in another block than the row that is written. -/
structure Off (w : World) (v : Value) (A : Option Addr) : Prop where
  old : ∀ b f, A = some ⟨b, f, none⟩ → b < w.heap.size
  off : ∀ b f, A = some ⟨b, f, none⟩ → v.ownBlock ≠ some b
theorem grownR {w w1 : World} {A : Option Addr} {vs : List Value} {r : Option Nat} (h : Rd w A vs) (hg : w.grownBy w1 r) (hA : ∀ b f, A = some ⟨b, f, none⟩ → r ≠ some b) : Rd w1 A vs := by
  intro i v hv
  obtain ⟨b, o, rfl, hlt, hc⟩ := h i v hv
  refine ⟨b, o, rfl, Nat.lt_of_lt_of_le hlt hg.size, ?_⟩
  have := hg.block b hlt (fun e => hA _ _ rfl e.symm)
  unfold World.cell? at hc ⊢
  rw [this]; exact hc
theorem Off.next {w w1 : World} {base : Nat} {v v1 : Value} {l : List Int} {A : Option Addr} (h : Off w v A) (a : AppP w base v l v1 w1) : Off w1 v1 A := by
  refine ⟨fun b f e => Nat.lt_of_lt_of_le (h.old b f e) a.grown.size, fun b f e => ?_⟩
  have h1 := h.old b f e
  have h2 := h.off b f e
  rcases a.blk with hb | ⟨k, hb, hk⟩
  · rw [hb]; exact h2
  · rw [hb]; intro h; cases h; omega
theorem offEnc {w w1 : World} {base g : Nat} {v v1 : Value} {l : List Int} (hg : v.ownBlock ≠ some g) (hlt : g < w.heap.size) (a : AppP w base v l v1 w1) : v1.ownBlock ≠ some g := by
  rcases a.blk with hb | ⟨k, hb, hk⟩
  · rw [hb]; exact hg
  · rw [hb]; intro h; cases h; omega
theorem grown_trans {w w1 w2 : World} {r : Option Nat} (h : w.grownBy w1 r) (k : w1.grownBy w2 r) : w.grownBy w2 r :=
  ⟨k.os.trans h.os, k.tape.trans h.tape, k.output.trans h.output, Nat.le_trans h.size k.size, fun i hi hne => (k.block i (Nat.lt_of_lt_of_le hi h.size) hne).trans (h.block i hi hne)⟩
/-- Blocks that are new may be written too. -/
theorem grown_new {w w1 w2 : World} {r : Option Nat} {g : Nat} (h : w.grownBy w1 r) (k : w1.grownBy w2 (some g)) (hg : r = some g ∨ w.heap.size ≤ g) : w.grownBy w2 r :=
  ⟨k.os.trans h.os, k.tape.trans h.tape, k.output.trans h.output, Nat.le_trans h.size k.size, fun i hi hne => (k.block i (Nat.lt_of_lt_of_le hi h.size) (by
    rcases hg with rfl | hg
    · exact hne
    · intro e; cases e; omega)).trans (h.block i hi hne)⟩
theorem AppP.next {w w1 w2 : World} {base : Nat} {v v1 v2 : Value} {l l2 : List Int} (a : AppP w base v l v1 w1) (b : AppP w1 base v1 l2 v2 w2) : AppP w base v l2 v2 w2 := by
  refine ⟨b.own, ?_, ?_⟩
  · rcases a.blk with hb | ⟨k, hb, hk⟩
    · exact grown_trans a.grown (hb ▸ b.grown)
    · exact grown_new a.grown (hb ▸ b.grown) (.inr hk)
  · rcases b.blk with hb | ⟨k, hb, hk⟩
    · rw [hb]; exact a.blk
    · exact .inr ⟨k, hb, Nat.le_trans a.grown.size hk⟩
theorem splice_tail (l0 m : List Int) (rest : List Value) (k : Nat) (hk : k = l0.length) : splice (nums .u8 l0 ++ rest) k (nums .u8 m) = nums .u8 (l0 ++ m) ++ rest.drop m.length := by
  subst hk
  unfold splice
  rw [nums_len, List.take_left' (nums_len _ _), List.drop_append, nums_len, List.drop_of_length_le (by rw [nums_len]; omega), List.nil_append, Nat.add_sub_cancel_left, nums_app, List.append_assoc]
set_option maxRecDepth 100000 in
set_option maxHeartbeats 2000000 in
theorem appendEnc_calls (g base : Nat) (al dm : List Int) (v : Value) (l0 : List Int) (A : Option Addr) (n c : Nat) (l : List Int) (w : World) (hE : EncAt w g al dm (-1)) (HO : Own w base 5 v (nums .u8 l0)) (h : Rd w A (nums .u8 l)) (hn : l.length = n) (hb : IsB l) (hc : n ≤ c) (hN : n ≤ 100000)
    (hbase : base ≤ w.heap.size) (hl0 : l0.length ≤ 1000000) (hg : v.ownBlock ≠ some g) (hA : Off w v A) :
    Calls Tryd.prog 56 #[.pointer (some ⟨g, 0, none⟩), v, .slice A n c] w fun e w' => ∃ v', e = .returned v' ∧ AppP w base v (l0 ++ encF al l) v' w' := by
  obtain ⟨m, hm⟩ : ∃ m, m = encLen n := ⟨_, rfl⟩
  have hmb : m ≤ 200000 := by rw [hm]; unfold encLen; omega
  have Hlen : Hid ((encF al l).length = m) := hidden (by rw [encLen_eq, hn, hm])
  obtain ⟨k, hk⟩ : ∃ k, l0.length = k := ⟨_, rfl⟩
  rw [hk] at hl0
  have hw1 : wrap64 ((k : Int) + (m : Int)) = (k : Int) + (m : Int) := wrap64_id _ (by omega) (by omega)
  have Hm := hidden hm
  have HK := hidden hk
  have HE := hidden hE
  have H := hidden h
  have HOh := hidden HO
  have HA := hidden hA
  have Hg := hidden hg
  have Hn := hidden hn
  by_cases h0 : n = 0
  · obtain rfl : m = 0 := by rw [hm, h0]; rfl
    subst h0
    have hl : l = [] := List.eq_nil_of_length_eq_zero hn
    subst hl
    obtain ⟨A0, c0, hv, hc0, hr0, hnil⟩ := HO.read
    rw [nums_len, hk] at hv hc0
    have hcm : c0 ≤ maxLen := by
      rcases HO.block with ⟨e, _⟩ | ⟨g', rest, e, _, _, hmx⟩
      · rw [hv] at e; cases e; unfold maxLen; omega
      · rw [hv] at e; cases e; exact hmx
    subst hv
    clear hE h HO hA hg hn hm hk hr0 hnil
    have hc0m := hidden hcm
    clear hcm
    have q1 := fun W => run_from (W := W) Tryd.underlying22 size_u8' A0 k c0 k k rfl (by omega) hc0
    have q2 := fun W A => run_upto (W := W) Tryd.underlying22 size_u8' A 0 (c0 - k) 0 0 rfl (by omega)
    have q3 := fun W => run_upto (W := W) Tryd.underlying22 size_u8' A0 k c0 k k rfl hc0
    rw [Nat.sub_self] at q1
    obtain ⟨A1, hA1⟩ : ∃ A1, A1 = if c0 = k then A0 else A0.map (·.add k) := ⟨_, rfl⟩
    rw [← hA1] at q1
    clear hA1
    go_enter Tryd.func56, Tryd.ntmps56
    go_wp2_with (first
      | (go_at_call 61; go_must (refine (encodedLen_calls g _ _ 0 0 hN Hm.out _ HE.out).mono ?_; rintro e w1 ⟨rfl, rfl⟩))
      | (go_at_call 62; go_must (refine (grow_room_calls A0 k c0 0 _ hc0 hc0m.out).mono ?_; rintro e w2 ⟨rfl, rfl⟩))
      | (go_at_call 59; go_must (refine (encode0_calls g al dm A _ 0 _ c _).mono ?_; rintro e w3 ⟨rfl, rfl⟩)))
    go_ret
    refine ⟨_, rfl, ?_, World.grownBy.refl _ _, .inl rfl⟩
    rw [encF, List.append_nil]
    exact HOh.out
  · have hm0 : 0 < m := by rw [hm]; unfold encLen; omega
    have hb0 : base ≤ w.heap.size := hbase
    clear hE h HO hA hg hn hm hk
    go_enter Tryd.func56, Tryd.ntmps56
    go_wp2_with (first
      | (go_at_call 61; go_must (refine (encodedLen_calls g _ _ n m hN Hm.out _ HE.out).mono ?_; rintro e w1 ⟨rfl, rfl⟩))
      | (go_at_call 62; go_must (refine (grow_calls base v l0 m _ HOh.out hb0 hm0 (by rw [HK.out]; omega) (by omega)).mono ?_; rintro e w2 ⟨⟨gg, rest, rfl, hgb, hR2, hmr, hmx, hgg⟩, hB2⟩; rw [HK.out] at hmx ⊢; obtain ⟨r, hr⟩ : ∃ r, rest.length = r := ⟨_, rfl⟩; rw [hr] at hmr hmx ⊢; have Hr := hidden hr; clear hr; obtain ⟨C, hC⟩ : ∃ C, C = k + r := ⟨_, rfl⟩; rw [← hC] at hmx ⊢; have HC := hidden hC; have hCk : ¬ C = k := (by omega) ; have hCr : C - k = r := (by omega) ; have hkC : k ≤ C := (by omega) ; have hkmC : k + m ≤ C := (by omega) ; clear hC ; have q1 := fun W => run_from (W := W) Tryd.underlying22 size_u8' (some ⟨gg, 0, none⟩) k C k k rfl (Nat.le_refl _) hkC; rw [Nat.sub_self, if_neg hCk, hCr, Option.map_some, addr_add, Nat.zero_add] at q1 ; have q2 := fun W => run_upto (W := W) Tryd.underlying22 size_u8' (some ⟨gg, k, none⟩) 0 r m m rfl hmr ; have q3 := fun W => run_upto (W := W) Tryd.underlying22 size_u8' (some ⟨gg, 0, none⟩) k C ((k : Int) + (m : Int)) (k + m) (by omega) hkmC ; have HR2 := hidden hR2; have HB2 := hidden hB2; have Hgg := hidden hgg; have Hmx := hidden hmx ; clear hR2 hB2 hgg hmx))
      | (go_at_call 59; go_must (refine (encodeV_calls g gg 5 k m r al dm A n c l (nums .u8 l0 ++ rest) _ (HE.out.below HB2.out HE.out.lt) (H.out.below HB2.out (Nat.le_refl _)) Hn.out hb hc (by omega) HR2.out Hm.out hmr (by rw [List.length_append, nums_len, HK.out, Hr.out]; omega) (by rcases Hgg.out with e | e; exact (fun e2 => Hg.out (e2 ▸ e)); exact (fun e2 => by have := HE.out.lt; omega)) (fun b f e => by rcases Hgg.out with e1 | e1; exact (fun e2 => HA.out.off b f e (e2 ▸ e1)); exact (fun e2 => by have := HA.out.old b f e; omega)) hN).mono ?_; rintro e w3 ⟨rfl, hR3, hg3⟩)))
    go_ret
    rw [splice_tail l0 _ rest k HK.out.symm, Hlen.out] at hR3
    refine ⟨_, rfl, ?_, ?_, ?_⟩
    · have hC := HC.out
      have := Own.of_row (c := C) hR3 hgb (by rw [nums_len, List.length_append, List.length_drop, HK.out, Hlen.out, Hr.out]; omega) Hmx.out
      rw [nums_len, List.length_append, HK.out, Hlen.out] at this
      exact this
    · refine grown_new (grown_below (B := 0) HB2.out _) hg3 ?_
      rcases Hgg.out with e | e
      · exact .inl e
      · exact .inr (by omega)
    · rcases Hgg.out with e | e
      · exact .inl e.symm
      · exact .inr ⟨gg, rfl, by omega⟩
end Go.Proofs.YtmibnnmampfalaaDoor
