/- The block cipher. -/
import Derived.Test.YticgdbcnknhndaaWrapF
namespace Go.Proofs.Yticgdbcnknhndaa
open Go.RowKit
open WrapPlain (xr xr8 num8 b8 rnd dnr mixW unmixW)
set_option linter.unusedVariables false
set_option linter.unusedSimpArgs false
/-- k rounds. -/
def mixAt (seed : Int) : Nat → Int × Int → Int × Int
  | 0, p => p
  | k + 1, p => rnd half (IntKind.u64.wrap (seed + ((k + 1 : Nat) : Int))) (mixAt seed k p)
theorem mix_step (seed : Int) (q : Int × Int) (k : Nat) (hk : 1 ≤ k) (hk2 : k ≤ 4) (p : Int × Int) (hp : p = mixAt seed (k - 1) q) : (p.2, xr p.1 (half p.2 (IntKind.u64.wrap (seed + (k : Int))))) = mixAt seed (k + 1 - 1) q := by
  obtain ⟨m, rfl⟩ : ∃ m, k = m + 1 := ⟨k - 1, by omega⟩
  subst hp; rfl
theorem sh8_ok (n c : Int) : WrapPlain.Is64 (sh8 n c) := by
  have h := (BitVec.ofInt 64 (IntKind.u64.wrap (n * 256)) ||| BitVec.ofInt 64 c).isLt
  show WrapPlain.Is64 (IntKind.u64.wrap ((BitVec.ofInt 64 (IntKind.u64.wrap (n * 256)) ||| BitVec.ofInt 64 c).toNat : Int))
  rw [WrapPlain.wrap_u64]; unfold WrapPlain.Is64; omega
theorem numG_ok (l : List Int) : WrapPlain.Is64 (numG l) := by
  rcases List.eq_nil_or_concat l with rfl | ⟨l, c, rfl⟩
  · exact ⟨by decide, by decide⟩
  · rw [numG, List.concat_eq_append, List.foldl_append]; exact sh8_ok _ _
theorem ok_numG (l : List Int) : WrapPlain.Ok2 (numG (l.take 8), numG (l.drop 8)) := ⟨numG_ok _, numG_ok _⟩
theorem mixAt_ok (seed : Int) (k : Nat) (q : Int × Int) (h : WrapPlain.Ok2 q) : WrapPlain.Ok2 (mixAt seed k q) := by
  induction k with
  | zero => exact h
  | succ k ih => exact WrapPlain.rnd_ok _ _ _ ih
theorem mix_ok (seed : Int) (q p : Int × Int) (h : WrapPlain.Ok2 q) (hp : p = mixAt seed (5 - 1) q) : WrapPlain.Ok2 p := by subst hp; exact mixAt_ok _ _ _ h
def unmixAt (seed : Int) : Nat → Int × Int → Int × Int
  | 0, p => p
  | k + 1, p => dnr half (IntKind.u64.wrap (seed + ((4 - k : Nat) : Int))) (unmixAt seed k p)
theorem unmixAt_ok (seed : Int) (k : Nat) (q : Int × Int) (h : WrapPlain.Ok2 q) : WrapPlain.Ok2 (unmixAt seed k q) := by
  induction k with
  | zero => exact h
  | succ k ih => exact WrapPlain.dnr_ok _ _ _ ih
theorem unmix_step (seed : Int) (q : Int × Int) (k : Nat) (hk : 1 ≤ k) (hk2 : k ≤ 4) (p : Int × Int) (hp : p = unmixAt seed (4 - k) q) : (xr p.2 (half p.1 (IntKind.u64.wrap (seed + (k : Int)))), p.1) = unmixAt seed (4 - (k - 1)) q := by
  obtain ⟨m, rfl⟩ : ∃ m, k = 4 - m := ⟨4 - k, by omega⟩
  have e1 : 4 - (4 - m) = m := by omega
  have e2 : 4 - (4 - m - 1) = m + 1 := by omega
  rw [e1] at hp; rw [e2]; subst hp; rfl
theorem unmix_ok (seed : Int) (q p : Int × Int) (h : WrapPlain.Ok2 q) (hp : p = unmixAt seed (4 - 0) q) : WrapPlain.Ok2 p := by subst hp; exact unmixAt_ok _ _ _ h
def unmixL (seed : Int) (l : List Int) : List Int := let p := unmixAt seed 4 (numG (l.take 8), numG (l.drop 8)); b8 p.1 ++ b8 p.2
def mixL (seed : Int) (l : List Int) : List Int := let p := mixAt seed 4 (numG (l.take 8), numG (l.drop 8)); b8 p.1 ++ b8 p.2

set_option maxHeartbeats 400000 in
theorem mixed_calls (seed : Int) (l : List Int) (hl : l.length = 16) (hb : IsB l) (w : World) :
    Calls Try.prog 33 #[.int .u64 seed, blk l] w fun e w' => e = .returned (blk (mixL seed l)) ∧ Below w.heap.size w w' := by
  have hbv : blk l = .agg (nums .u8 l).toArray := rfl
  rw [hbv]
  let Z : Obj := .cells (nums .u8 (List.replicate 16 0)).toArray 53
  have hR := (Row.new w 53 (nums .u8 l)).alloc Z
  have hR2 := Row.new (w.alloc (.cells (nums .u8 l).toArray 53)) 53 (nums .u8 (List.replicate 16 0))
  have hB : Below w.heap.size w ((w.alloc (.cells (nums .u8 l).toArray 53)).alloc Z) := (below_alloc0 w _).alloc (by simp) _
  rw [World.size_alloc] at hR2
  go_enter Try.func33, Try.ntmps33
  go_wp2_with (first | (refine walk_load_row rfl 53 (.tmp 3) rfl hR rfl Try.underlying53 rfl (by rw [nums_len, hl]; kernel_rfl) ?_) | (go_at_call 59; refine (halves_calls l hl hb _).mono ?_; rintro e w1 ⟨rfl, hB1⟩))
  have hR3 := hR2.below hB1 hR2.lt
  have hB3 := below_next hB hB1
  have hsz3 := hB1.size
  generalize hbb : w.heap.size = B at *
  have hBB := hidden hbb
  clear hbb hB hB1 hR hR2
  go_loopw [5, 6, 7] (fun x y i wr => ∃ k : Nat, 1 ≤ k ∧ k ≤ 5 ∧ i = .int .u64 k ∧ (∃ p : Int × Int, p = mixAt seed (k - 1) (numG (l.take 8), numG (l.drop 8)) ∧ x = .int .u64 p.1 ∧ y = .int .u64 p.2) ∧ wr = w1) (fun _ _ i _ => 5 - (intOf i).toNat)
  case atStart => exact ⟨1, by omega, by omega, rfl, ⟨_, rfl, rfl, rfl⟩, rfl⟩
  case round =>
    obtain ⟨k, hk1, hk2, rfl, ⟨p, hp, rfl, rfl⟩, rfl⟩ := hrel
    have hp' := hidden hp
    clear hp
    by_cases hlt : k ≤ 4
    · go_wp2_with (go_at_call 60; refine (half_calls _ _ _).mono ?_; rintro e w' ⟨rfl, rfl⟩)
      go_roundw
      case rel => exact ⟨k + 1, by omega, by omega, by go_num, ⟨_, mix_step seed _ k (by omega) (by omega) p hp'.out, rfl, rfl⟩, by first | rfl | trivial⟩
      case measure => simp [intOf]; omega
    · obtain rfl : k = 5 := by omega
      have hok := hidden (mix_ok seed _ p (ok_numG l) hp'.out)
      go_wp2_with (first | (go_at_call 61; refine (block_calls _ _ _ hok.out.1 hok.out.2).mono ?_; rintro e w2 ⟨rfl, hB4⟩) | (refine walk_store_row rfl 53 (.tmp 4) (.tmp 27) rfl (hR3.below hB4 hR3.lt) rfl rfl (by rw [nums_len]; kernel_rfl) rfl (nums_one _ _) ?_; intro w3 hR5 hg5))
      refine bodyPost_ret (row_results rfl _ rfl hR5 Try.underlying53 rfl (by rw [nums_len]; kernel_rfl)) rfl ⟨?_, ?_⟩
      · have e := hp'.out; subst e; rfl
      · rw [hBB.out]; exact (below_then hB3 (by have := hR3.lt; omega) hB4).grown hg5 (by have := hB4.size; have := hR3.lt; omega) (by simp)

set_option maxHeartbeats 400000 in
theorem wrapMixed_calls (seed : Int) (l : List Int) (hl : l.length = 16) (hb : IsB l) (w : World) :
    Calls Try.prog 34 #[.int .u64 seed, blk l] w fun e w' => e = .returned (blk (mixL seed l)) ∧ Below w.heap.size w w' := by
  have hbv : blk l = .agg (nums .u8 l).toArray := rfl
  rw [hbv]
  let Z : Obj := .cells (nums .u8 (List.replicate 16 0)).toArray 53
  have hR := (Row.new w 53 (nums .u8 l)).alloc Z
  have hR2 := Row.new (w.alloc (.cells (nums .u8 l).toArray 53)) 53 (nums .u8 (List.replicate 16 0))
  have hB : Below w.heap.size w ((w.alloc (.cells (nums .u8 l).toArray 53)).alloc Z) := (below_alloc0 w _).alloc (by simp) _
  rw [World.size_alloc] at hR2
  go_enter Try.func34, Try.ntmps34
  go_wp2_with (first | (refine walk_load_row rfl 53 (.tmp 3) rfl hR rfl Try.underlying53 rfl (by rw [nums_len, hl]; kernel_rfl) ?_) | (go_at_call 62; refine (wrapHalves_calls l hl hb _).mono ?_; rintro e w1 ⟨rfl, hB1⟩))
  have hR3 := hR2.below hB1 hR2.lt
  have hB3 := below_next hB hB1
  have hsz3 := hB1.size
  generalize hbb : w.heap.size = B at *
  have hBB := hidden hbb
  clear hbb hB hB1 hR hR2
  go_loopw [5, 6, 7] (fun x y i wr => ∃ k : Nat, 1 ≤ k ∧ k ≤ 5 ∧ i = .int .u64 k ∧ (∃ p : Int × Int, p = mixAt seed (k - 1) (numG (l.take 8), numG (l.drop 8)) ∧ x = .int .u64 p.1 ∧ y = .int .u64 p.2) ∧ wr = w1) (fun _ _ i _ => 5 - (intOf i).toNat)
  case atStart => exact ⟨1, by omega, by omega, rfl, ⟨_, rfl, rfl, rfl⟩, rfl⟩
  case round =>
    obtain ⟨k, hk1, hk2, rfl, ⟨p, hp, rfl, rfl⟩, rfl⟩ := hrel
    have hp' := hidden hp
    clear hp
    by_cases hlt : k ≤ 4
    · go_wp2_with (go_at_call 63; refine (wrapHalf_calls _ _ _).mono ?_; rintro e w' ⟨rfl, rfl⟩)
      go_roundw
      case rel => exact ⟨k + 1, by omega, by omega, by go_num, ⟨_, mix_step seed _ k (by omega) (by omega) p hp'.out, rfl, rfl⟩, by first | rfl | trivial⟩
      case measure => simp [intOf]; omega
    · obtain rfl : k = 5 := by omega
      have hok := hidden (mix_ok seed _ p (ok_numG l) hp'.out)
      go_wp2_with (first | (go_at_call 64; refine (wrapBlock_calls _ _ _ hok.out.1 hok.out.2).mono ?_; rintro e w2 ⟨rfl, hB4⟩) | (refine walk_store_row rfl 53 (.tmp 4) (.tmp 27) rfl (hR3.below hB4 hR3.lt) rfl rfl (by rw [nums_len]; kernel_rfl) rfl (nums_one _ _) ?_; intro w3 hR5 hg5))
      refine bodyPost_ret (row_results rfl _ rfl hR5 Try.underlying53 rfl (by rw [nums_len]; kernel_rfl)) rfl ⟨?_, ?_⟩
      · have e := hp'.out; subst e; rfl
      · rw [hBB.out]; exact (below_then hB3 (by have := hR3.lt; omega) hB4).grown hg5 (by have := hB4.size; have := hR3.lt; omega) (by simp)

set_option maxHeartbeats 400000 in
theorem mixedBack_calls (seed : Int) (l : List Int) (hl : l.length = 16) (hb : IsB l) (w : World) :
    Calls Try.prog 35 #[.int .u64 seed, blk l] w fun e w' => e = .returned (blk (unmixL seed l)) ∧ Below w.heap.size w w' := by
  have hbv : blk l = .agg (nums .u8 l).toArray := rfl
  rw [hbv]
  let Z : Obj := .cells (nums .u8 (List.replicate 16 0)).toArray 53
  have hR := (Row.new w 53 (nums .u8 l)).alloc Z
  have hR2 := Row.new (w.alloc (.cells (nums .u8 l).toArray 53)) 53 (nums .u8 (List.replicate 16 0))
  have hB : Below w.heap.size w ((w.alloc (.cells (nums .u8 l).toArray 53)).alloc Z) := (below_alloc0 w _).alloc (by simp) _
  rw [World.size_alloc] at hR2
  go_enter Try.func35, Try.ntmps35
  go_wp2_with (first | (refine walk_load_row rfl 53 (.tmp 3) rfl hR rfl Try.underlying53 rfl (by rw [nums_len, hl]; kernel_rfl) ?_) | (go_at_call 59; refine (halves_calls l hl hb _).mono ?_; rintro e w1 ⟨rfl, hB1⟩))
  have hR3 := hR2.below hB1 hR2.lt
  have hB3 := below_next hB hB1
  have hsz3 := hB1.size
  generalize hbb : w.heap.size = B at *
  have hBB := hidden hbb
  clear hbb hB hB1 hR hR2
  go_loopw [5, 6, 7] (fun x y i wr => ∃ k : Nat, k ≤ 4 ∧ 0 ≤ k ∧ i = .int .u64 k ∧ (∃ p : Int × Int, p = unmixAt seed (4 - k) (numG (l.take 8), numG (l.drop 8)) ∧ x = .int .u64 p.1 ∧ y = .int .u64 p.2) ∧ wr = w1) (fun _ _ i _ => (intOf i).toNat)
  case atStart => exact ⟨4, by omega, by omega, rfl, ⟨_, rfl, rfl, rfl⟩, rfl⟩
  case round =>
    obtain ⟨k, hk1, hk2, rfl, ⟨p, hp, rfl, rfl⟩, rfl⟩ := hrel
    have hp' := hidden hp
    clear hp
    by_cases hlt : 1 ≤ k
    · go_wp2_with (go_at_call 60; refine (half_calls _ _ _).mono ?_; rintro e w' ⟨rfl, rfl⟩)
      go_roundw
      case rel => exact ⟨k - 1, by omega, by omega, by go_num, ⟨_, unmix_step seed _ k (by omega) (by omega) p hp'.out, rfl, rfl⟩, by first | rfl | trivial⟩
      case measure => simp [intOf]; omega
    · obtain rfl : k = 0 := by omega
      have hok := hidden (unmix_ok seed _ p (ok_numG l) hp'.out)
      go_wp2_with (first | (go_at_call 61; refine (block_calls _ _ _ hok.out.1 hok.out.2).mono ?_; rintro e w2 ⟨rfl, hB4⟩) | (refine walk_store_row rfl 53 (.tmp 4) (.tmp 27) rfl (hR3.below hB4 hR3.lt) rfl rfl (by rw [nums_len]; kernel_rfl) rfl (nums_one _ _) ?_; intro w3 hR5 hg5))
      refine bodyPost_ret (row_results rfl _ rfl hR5 Try.underlying53 rfl (by rw [nums_len]; kernel_rfl)) rfl ⟨?_, ?_⟩
      · have e := hp'.out; subst e; rfl
      · rw [hBB.out]; exact (below_then hB3 (by have := hR3.lt; omega) hB4).grown hg5 (by have := hB4.size; have := hR3.lt; omega) (by simp)

set_option maxHeartbeats 400000 in
theorem wrapMixedBack_calls (seed : Int) (l : List Int) (hl : l.length = 16) (hb : IsB l) (w : World) :
    Calls Try.prog 36 #[.int .u64 seed, blk l] w fun e w' => e = .returned (blk (unmixL seed l)) ∧ Below w.heap.size w w' := by
  have hbv : blk l = .agg (nums .u8 l).toArray := rfl
  rw [hbv]
  let Z : Obj := .cells (nums .u8 (List.replicate 16 0)).toArray 53
  have hR := (Row.new w 53 (nums .u8 l)).alloc Z
  have hR2 := Row.new (w.alloc (.cells (nums .u8 l).toArray 53)) 53 (nums .u8 (List.replicate 16 0))
  have hB : Below w.heap.size w ((w.alloc (.cells (nums .u8 l).toArray 53)).alloc Z) := (below_alloc0 w _).alloc (by simp) _
  rw [World.size_alloc] at hR2
  go_enter Try.func36, Try.ntmps36
  go_wp2_with (first | (refine walk_load_row rfl 53 (.tmp 3) rfl hR rfl Try.underlying53 rfl (by rw [nums_len, hl]; kernel_rfl) ?_) | (go_at_call 62; refine (wrapHalves_calls l hl hb _).mono ?_; rintro e w1 ⟨rfl, hB1⟩))
  have hR3 := hR2.below hB1 hR2.lt
  have hB3 := below_next hB hB1
  have hsz3 := hB1.size
  generalize hbb : w.heap.size = B at *
  have hBB := hidden hbb
  clear hbb hB hB1 hR hR2
  go_loopw [5, 6, 7] (fun x y i wr => ∃ k : Nat, k ≤ 4 ∧ 0 ≤ k ∧ i = .int .u64 k ∧ (∃ p : Int × Int, p = unmixAt seed (4 - k) (numG (l.take 8), numG (l.drop 8)) ∧ x = .int .u64 p.1 ∧ y = .int .u64 p.2) ∧ wr = w1) (fun _ _ i _ => (intOf i).toNat)
  case atStart => exact ⟨4, by omega, by omega, rfl, ⟨_, rfl, rfl, rfl⟩, rfl⟩
  case round =>
    obtain ⟨k, hk1, hk2, rfl, ⟨p, hp, rfl, rfl⟩, rfl⟩ := hrel
    have hp' := hidden hp
    clear hp
    by_cases hlt : 1 ≤ k
    · go_wp2_with (go_at_call 63; refine (wrapHalf_calls _ _ _).mono ?_; rintro e w' ⟨rfl, rfl⟩)
      go_roundw
      case rel => exact ⟨k - 1, by omega, by omega, by go_num, ⟨_, unmix_step seed _ k (by omega) (by omega) p hp'.out, rfl, rfl⟩, by first | rfl | trivial⟩
      case measure => simp [intOf]; omega
    · obtain rfl : k = 0 := by omega
      have hok := hidden (unmix_ok seed _ p (ok_numG l) hp'.out)
      go_wp2_with (first | (go_at_call 64; refine (wrapBlock_calls _ _ _ hok.out.1 hok.out.2).mono ?_; rintro e w2 ⟨rfl, hB4⟩) | (refine walk_store_row rfl 53 (.tmp 4) (.tmp 27) rfl (hR3.below hB4 hR3.lt) rfl rfl (by rw [nums_len]; kernel_rfl) rfl (nums_one _ _) ?_; intro w3 hR5 hg5))
      refine bodyPost_ret (row_results rfl _ rfl hR5 Try.underlying53 rfl (by rw [nums_len]; kernel_rfl)) rfl ⟨?_, ?_⟩
      · have e := hp'.out; subst e; rfl
      · rw [hBB.out]; exact (below_then hB3 (by have := hR3.lt; omega) hB4).grown hg5 (by have := hB4.size; have := hR3.lt; omega) (by simp)
end Go.Proofs.Yticgdbcnknhndaa
