/- The block cipher of the thin package and of the reference: what each function returns. -/
import Derived.Test.YticgdbcnknhndaaProg
import Derived.Test.YticgdbcnknhndaaBase
import Derived.Test.YticgdbcnknhndaaBytes
import Derived.Test.YticgdbcnknhndaaWrapPlain
namespace Go.Proofs.Yticgdbcnknhndaa
open Go.RowKit
open WrapPlain (xr xr8 num8 b8 rnd dnr mixW unmixW)
set_option linter.unusedVariables false
set_option linter.unusedSimpArgs false

/-- A number shifted by a byte, and the next byte. -/
def sh8 (n c : Int) : Int := bits .or .u64 (IntKind.u64.wrap (n * 256)) c
def numG (l : List Int) : Int := l.foldl sh8 0
theorem numG_snoc (l : List Int) (k : Nat) (h : k < l.length) : numG (l.take (k + 1)) = sh8 (numG (l.take k)) (gi l k) := by
  rw [take_gi l h, numG, List.foldl_append]; rfl

set_option maxHeartbeats 400000 in
theorem partNumber_calls (A : Option Addr) (n c : Nat) (l : List Int) (w : World) (h : Rd w A (nums .u8 l)) (hn : l.length = n) (hb : IsB l) (hm : n ≤ 140737488355328) :
    Calls Try.prog 39 #[.slice A n c] w fun e w' => e = .returned (.int .u64 (numG l)) ∧ w = w' := by
  subst hn
  go_enter Try.func39, Try.ntmps39
  go_wp2
  go_loop [3, 8] (fun t i => ∃ k : Nat, k ≤ l.length ∧ i = .int .i64 k ∧ t = .int .u64 (numG (l.take k))) (fun _ i => l.length - (intOf i).toNat)
  case atStart => exact ⟨0, by omega, rfl, rfl⟩
  case round =>
    obtain ⟨k, hk, rfl, rfl⟩ := hrel
    by_cases hlt : k < l.length
    · obtain ⟨b, o, rfl, hbl, hc⟩ := h.at k hlt
      have hv := gi_byte hb k
      have s1 := hidden (numG_snoc l k hlt)
      clear h hb
      go_wp2
      go_round
      case rel => exact ⟨k + 1, by omega, by go_num, congrArg (Value.int .u64) s1.out.symm⟩
      case measure => simp [intOf]; omega
    · have : k = l.length := by omega
      subst this
      go_wp2
      go_ret
      exact ⟨by simp, rfl⟩

/-- What both call a half. -/
def half (x key : Int) : Int :=
  let a := IntKind.u64.wrap (bits BinOp.xor IntKind.u64 x key * 11400714819323198485)
  let b := IntKind.u64.wrap (bits BinOp.xor IntKind.u64 a (a / 536870912) * 13787848793156543929)
  bits BinOp.xor IntKind.u64 b (b / 4294967296)
theorem half_calls (x key : Int) (w : World) : Calls Try.prog 60 #[.int .u64 x, .int .u64 key] w fun e w' => e = .returned (.int .u64 (half x key)) ∧ w = w' := by
  go_enter Try.func60, Try.ntmps60
  go_wp2
  go_ret
  exact ⟨rfl, rfl⟩
theorem wrapHalf_calls (x key : Int) (w : World) : Calls Try.prog 63 #[.int .u64 x, .int .u64 key] w fun e w' => e = .returned (.int .u64 (half x key)) ∧ w = w' := by
  go_enter Try.func63, Try.ntmps63
  go_wp2
  go_ret
  exact ⟨rfl, rfl⟩

/-- A block as a value: its sixteen cells. -/
def blk (l : List Int) : Value := .agg (nums .u8 l).toArray
set_option maxHeartbeats 400000 in
theorem halves_calls (l : List Int) (hl : l.length = 16) (hb : IsB l) (w : World) :
    Calls Try.prog 59 #[blk l] w fun e w' => e = .returned (.tuple #[.int .u64 (numG (l.take 8)), .int .u64 (numG (l.drop 8))]) ∧ Below w.heap.size w w' := by
  unfold blk
  generalize hcs : (nums .u8 l).toArray = cs
  go_enter Try.func59, Try.ntmps59
  go_wp2
  refine wpAbs (fun W => Below w.heap.size w W ∧ Row W w.heap.size 53 (nums .u8 l)) ⟨below_alloc0 w _, by subst hcs; exact Row.new w _ _⟩ ?_
  rintro W ⟨hB, hR⟩
  generalize hbb : w.heap.size = B at *
  have hBB := hidden hbb
  clear hbb hcs
  have ht : (l.take 8).length = 8 := by simp; omega
  have hd : (l.drop 8).length = 8 := by simp; omega
  go_loopw [2, 3, 4] (fun x y i wr => ∃ k : Nat, k ≤ 8 ∧ i = .int .i64 k ∧ x = .int .u64 (numG ((l.take 8).take k)) ∧ y = .int .u64 (numG ((l.drop 8).take k)) ∧ ∃ n, wr = W.drewN n) (fun _ _ i _ => 8 - (intOf i).toNat)
  case atStart => exact ⟨0, by omega, rfl, rfl, rfl, 0, rfl⟩
  case round =>
    obtain ⟨k, hk, rfl, rfl, rfl, n, rfl⟩ := hrel
    by_cases hlt : k < 8
    · have c1 := hR.icell k (by omega)
      have c2 := hR.icell (8 + k) (by omega)
      have s1 := numG_snoc (l.take 8) k (by omega)
      have s2 := numG_snoc (l.drop 8) k (by omega)
      rw [gi_take l hlt] at s1
      rw [gi_drop l] at s2
      have S1 := hidden s1
      have S2 := hidden s2
      have v1 := gi_byte hb k
      have v2 := gi_byte hb (8 + k)
      clear s1 s2 ht hd hR hb hl
      go_wp2
      go_quiet (fail)
      go_wp2
      go_roundw
      case rel => exact ⟨k + 1, by omega, by go_num, congrArg (Value.int .u64) S1.out.symm, congrArg (Value.int .u64) S2.out.symm, _, rfl⟩
      case measure => simp [intOf]; omega
    · have : k = 8 := by omega
      subst this
      clear hR hb
      go_wp2
      go_ret2
      refine ⟨?_, by rw [hBB.out]; exact below_drewN0 hB n⟩
      rw [List.take_of_length_le (l := l.take 8) (by omega), List.take_of_length_le (l := l.drop 8) (by omega)]
      rfl

def by8 (n : Int) (i : Nat) : Int := n / 2 ^ (56 - 8 * i) % 256
def blkAt (l r : Int) (k j : Nat) : Int := if j < k then by8 l j else if 8 ≤ j ∧ j < 8 + k then by8 r (j - 8) else 0
theorem blk_done (l r : Int) (i : Nat) (hi : i < 16) : blkAt l r 8 i = gi (b8 l ++ b8 r) i := by
  match i, hi with
  | 0, _ | 1, _ | 2, _ | 3, _ | 4, _ | 5, _ | 6, _ | 7, _ | 8, _ | 9, _ | 10, _ | 11, _ | 12, _ | 13, _ | 14, _ | 15, _ => simp [blkAt, by8, b8, gi]
  | n + 16, h => exact absurd h (by omega)
theorem blk_step (l r : Int) (o : List Int) (ho : o.length = 16) (k : Nat) (hk : k < 8) (hj : ∀ j, gi o j = blkAt l r k j) (j : Nat) :
    gi ((o.set k (l / 2 ^ (56 - 8 * k) % 256)).set (8 + k) (r / 2 ^ (56 - 8 * k) % 256)) j = blkAt l r (k + 1) j := by
  rw [gi_set _ _ _ _ (by rw [List.length_set]; omega), gi_set _ _ _ _ (by omega), hj]
  unfold blkAt by8
  by_cases h1 : j = 8 + k
  · subst h1; rw [if_pos rfl, if_neg (by omega), if_pos (by omega), show 8 + k - 8 = k by omega]
  · rw [if_neg h1]
    by_cases h2 : j = k
    · subst h2; rw [if_pos rfl, if_pos (by omega)]
    · rw [if_neg h2]
      by_cases h3 : j < k
      · rw [if_pos h3, if_pos (by omega)]
      · rw [if_neg h3, if_neg (show ¬ j < k + 1 by omega)]
        by_cases h4 : 8 ≤ j ∧ j < 8 + k
        · rw [if_pos h4, if_pos (by omega)]
        · rw [if_neg h4, if_neg (by omega)]
set_option maxHeartbeats 400000 in
theorem block_calls (l r : Int) (w : World) (hl : 0 ≤ l ∧ l < 18446744073709551616) (hr : 0 ≤ r ∧ r < 18446744073709551616) :
   Calls Try.prog 61 #[.int .u64 l, .int .u64 r] w fun e w' => e = .returned (blk (b8 l ++ b8 r)) ∧ Below w.heap.size w w' := by
  go_enter Try.func61, Try.ntmps61
  go_wp2
  refine wpAbs (fun W => Below w.heap.size w W ∧ Row W w.heap.size 53 (nums .u8 (List.replicate 16 0)) ∧ Row W (w.heap.size + 1) 53 (nums .u8 (List.replicate 16 0))) ⟨(below_alloc0 w _).alloc (by simp) _, (Row.new w _ (nums .u8 (List.replicate 16 0))).alloc _, by have := Row.new (w.alloc (.cells (nums .u8 (List.replicate 16 0)).toArray 53)) 53 (nums .u8 (List.replicate 16 0)); rw [World.size_alloc] at this; exact this⟩ ?_
  rintro W ⟨hB, hR, hR2⟩
  generalize hbb : w.heap.size = B at *
  have hBB := hidden hbb
  clear hbb
  go_loopw [6] (fun i wr => ∃ k : Nat, k ≤ 8 ∧ i = .int .i64 k ∧ Below B w wr ∧ Row wr B 53 (nums .u8 (List.replicate 16 0)) ∧ ∃ o, o.length = 16 ∧ Row wr (B + 1) 53 (nums .u8 o) ∧ ∀ j, gi o j = blkAt l r k j) (fun i _ => 8 - (intOf i).toNat)
  case atStart => exact ⟨0, by omega, rfl, hB, hR, _, by simp, hR2, fun j => by unfold blkAt gi; rw [if_neg (by omega), if_neg (by omega), List.getD_eq_getElem?_getD, List.getElem?_replicate]; split <;> rfl⟩
  case round =>
    obtain ⟨k, hk, rfl, hBr, hRr, o, ho, hR2r, hj⟩ := hrel
    clear hB hR hR2
    by_cases hlt : k < 8
    · have c1 := hR2r.icell k (by omega)
      have c2 := hR2r.icell (8 + k) (by omega)
      have f1 := Row.free hR2r k
      have f2 := Row.free hR2r (8 + k)
      have ho' := hidden ho
      have hj' := hidden hj
      clear ho hj
      go_wp2
      go_region
      go_wp2
      go_roundw
      case rel => exact ⟨k + 1, by omega, by go_num, ((hBr.setCell (by simp) _).setCell (by simp) _).drew, ((hRr.far (by simp) _).far (by simp) _).drew, _, by rw [List.length_set, List.length_set]; exact ho'.out, ((hR2r.iset k _).iset (8 + k) _).drew, blk_step l r o ho'.out k hlt hj'.out⟩
      case measure => simp [intOf]; omega
    · have : k = 8 := by omega
      subst this
      have ho2 : o = b8 l ++ b8 r := gi_ext (by rw [ho]; rfl) (fun i hi => by rw [hj]; exact blk_done l r i (by omega) )
      subst ho2
      clear hj ho
      go_wp2_with (first | (refine walk_load_row rfl 53 (.tmp 5) rfl hR2r rfl Try.underlying53 rfl (by kernel_rfl) ?_) | (refine walk_store_row rfl 53 (.tmp 4) (.tmp 28) rfl hRr rfl rfl (by kernel_rfl) rfl (nums_one _ _) ?_; intro w1 hR1 hg1))
      exact bodyPost_ret (row_results rfl _ rfl hR1 Try.underlying53 rfl (by kernel_rfl)) rfl ⟨rfl, by rw [hBB.out]; exact hBr.grown hg1 (by have := hRr.lt; omega) (by simp)⟩
set_option maxHeartbeats 400000 in
theorem wrapBlock_calls (l r : Int) (w : World) (hl : 0 ≤ l ∧ l < 18446744073709551616) (hr : 0 ≤ r ∧ r < 18446744073709551616) :
   Calls Try.prog 64 #[.int .u64 l, .int .u64 r] w fun e w' => e = .returned (blk (b8 l ++ b8 r)) ∧ Below w.heap.size w w' := by
  go_enter Try.func64, Try.ntmps64
  go_wp2
  refine wpAbs (fun W => Below w.heap.size w W ∧ Row W w.heap.size 53 (nums .u8 (List.replicate 16 0)) ∧ Row W (w.heap.size + 1) 53 (nums .u8 (List.replicate 16 0))) ⟨(below_alloc0 w _).alloc (by simp) _, (Row.new w _ (nums .u8 (List.replicate 16 0))).alloc _, by have := Row.new (w.alloc (.cells (nums .u8 (List.replicate 16 0)).toArray 53)) 53 (nums .u8 (List.replicate 16 0)); rw [World.size_alloc] at this; exact this⟩ ?_
  rintro W ⟨hB, hR, hR2⟩
  generalize hbb : w.heap.size = B at *
  have hBB := hidden hbb
  clear hbb
  go_loopw [6] (fun i wr => ∃ k : Nat, k ≤ 8 ∧ i = .int .i64 k ∧ Below B w wr ∧ Row wr B 53 (nums .u8 (List.replicate 16 0)) ∧ ∃ o, o.length = 16 ∧ Row wr (B + 1) 53 (nums .u8 o) ∧ ∀ j, gi o j = blkAt l r k j) (fun i _ => 8 - (intOf i).toNat)
  case atStart => exact ⟨0, by omega, rfl, hB, hR, _, by simp, hR2, fun j => by unfold blkAt gi; rw [if_neg (by omega), if_neg (by omega), List.getD_eq_getElem?_getD, List.getElem?_replicate]; split <;> rfl⟩
  case round =>
    obtain ⟨k, hk, rfl, hBr, hRr, o, ho, hR2r, hj⟩ := hrel
    clear hB hR hR2
    by_cases hlt : k < 8
    · have c1 := hR2r.icell k (by omega)
      have c2 := hR2r.icell (8 + k) (by omega)
      have f1 := Row.free hR2r k
      have f2 := Row.free hR2r (8 + k)
      have ho' := hidden ho
      have hj' := hidden hj
      clear ho hj
      go_wp2
      go_roundw
      case rel => exact ⟨k + 1, by omega, by go_num, ((hBr.setCell (by simp) _).setCell (by simp) _), ((hRr.far (by simp) _).far (by simp) _), _, by rw [List.length_set, List.length_set]; exact ho'.out, ((hR2r.iset k _).iset (8 + k) _), blk_step l r o ho'.out k hlt hj'.out⟩
      case measure => simp [intOf]; omega
    · have : k = 8 := by omega
      subst this
      have ho2 : o = b8 l ++ b8 r := gi_ext (by rw [ho]; rfl) (fun i hi => by rw [hj]; exact blk_done l r i (by omega) )
      subst ho2
      clear hj ho
      go_wp2_with (first | (refine walk_load_row rfl 53 (.tmp 5) rfl hR2r rfl Try.underlying53 rfl (by kernel_rfl) ?_) | (refine walk_store_row rfl 53 (.tmp 4) (.tmp 28) rfl hRr rfl rfl (by kernel_rfl) rfl (nums_one _ _) ?_; intro w1 hR1 hg1))
      exact bodyPost_ret (row_results rfl _ rfl hR1 Try.underlying53 rfl (by kernel_rfl)) rfl ⟨rfl, by rw [hBB.out]; exact hBr.grown hg1 (by have := hRr.lt; omega) (by simp)⟩

set_option maxHeartbeats 400000 in
theorem wrapHalves_calls (l : List Int) (hl : l.length = 16) (hb : IsB l) (w : World) :
    Calls Try.prog 62 #[blk l] w fun e w' => e = .returned (.tuple #[.int .u64 (numG (l.take 8)), .int .u64 (numG (l.drop 8))]) ∧ Below w.heap.size w w' := by
  have hbv : blk l = .agg (nums .u8 l).toArray := rfl
  rw [hbv]
  have hR := Row.new w 53 (nums .u8 l)
  have hB : Below w.heap.size w (w.alloc (.cells (nums .u8 l).toArray 53)) := below_alloc0 w _
  have hr1 : Rd (w.alloc (.cells (nums .u8 l).toArray 53)) (some ⟨w.heap.size, 0, none⟩) (nums .u8 (l.take 8)) := Rd.of_row hR 0 0 (fun i hi => by rw [nums_len, List.length_take] at hi; rw [Nat.zero_add, nums_at _ _ _ (by omega), nums_at _ _ _ (by rw [List.length_take]; omega), gi_take _ (by omega)])
  have hr2 : Rd (w.alloc (.cells (nums .u8 l).toArray 53)) (some ⟨w.heap.size, 8, none⟩) (nums .u8 (l.drop 8)) := Rd.of_row hR 8 0 (fun i hi => by rw [nums_len, List.length_drop] at hi; rw [nums_at _ _ _ (by omega), nums_at _ _ _ (by rw [List.length_drop]; omega), gi_drop])
  have hb1 : IsB (l.take 8) := fun x hx => hb x (List.mem_of_mem_take hx)
  have hb2 : IsB (l.drop 8) := fun x hx => hb x (List.mem_of_mem_drop hx)
  go_enter Try.func62, Try.ntmps62
  go_wp2
  refine wpAbs (fun W => Below w.heap.size w W ∧ Rd W (some ⟨w.heap.size, 0, none⟩) (nums .u8 (l.take 8)) ∧ Rd W (some ⟨w.heap.size, 8, none⟩) (nums .u8 (l.drop 8))) ⟨hB, hr1, hr2⟩ ?_
  rintro W ⟨hB', h1, h2⟩
  have k1 : ∀ n, Calls Try.prog 39 #[.slice (some ⟨w.heap.size, 0, none⟩) 8 16] (W.drewN n) fun e w' => e = .returned (.int .u64 (numG (l.take 8))) ∧ w' = W.drewN n := fun n => (partNumber_calls _ _ _ _ _ (h1.drewN n) (by rw [List.length_take]; omega) hb1 (by omega)).mono fun _ _ h => ⟨h.1, h.2.symm⟩
  have k2 : ∀ n, Calls Try.prog 39 #[.slice (some ⟨w.heap.size, 8, none⟩) 8 8] (W.drewN n) fun e w' => e = .returned (.int .u64 (numG (l.drop 8))) ∧ w' = W.drewN n := fun n => (partNumber_calls _ _ _ _ _ (h2.drewN n) (by rw [List.length_drop]; omega) hb2 (by omega)).mono fun _ _ h => ⟨h.1, h.2.symm⟩
  have K1 := hidden k1
  have K2 := hidden k2
  clear k1 k2 h1 h2 hb1 hb2 hr1 hr2 hR hB
  go_quiet ((first | (go_at_call 39; with_reducible exact Calls.quiet_of_same (K1.out _)) | (go_at_call 39; with_reducible exact Calls.quiet_of_same (K2.out _))))
  go_wp2
  go_ret2
  exact ⟨rfl, below_drewN0 hB' _⟩
end Go.Proofs.Yticgdbcnknhndaa
