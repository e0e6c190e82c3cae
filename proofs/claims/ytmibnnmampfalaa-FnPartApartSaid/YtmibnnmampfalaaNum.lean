/- Numbers: how they are written, and what they are read as. -/
import Derived.Test.YtmibnnmampfalaaAgain
import Derived.Test.YtmibnnmampfalaaPartOf
import Derived.Lib.ConvBytes
namespace Go.Proofs.Ytmibnnmampfalaa
open Go.RowKit
set_option linter.unusedVariables false
set_option linter.unusedSimpArgs false

def bytes8 (V : Nat) : List Int := [((V / 72057594037927936 % 256 : Nat) : Int), ((V / 281474976710656 % 256 : Nat) : Int), ((V / 1099511627776 % 256 : Nat) : Int), ((V / 4294967296 % 256 : Nat) : Int), ((V / 16777216 % 256 : Nat) : Int), ((V / 65536 % 256 : Nat) : Int), ((V / 256 % 256 : Nat) : Int), ((V % 256 : Nat) : Int)]
theorem bytes8_len (V : Nat) : (bytes8 V).length = 8 := rfl
theorem bytes8_isB (V : Nat) : IsB (bytes8 V) := by
  intro x hx
  simp only [bytes8, List.mem_cons, List.not_mem_nil, or_false] at hx
  rcases hx with rfl | rfl | rfl | rfl | rfl | rfl | rfl | rfl <;> omega
def numD (V : Nat) : List Int := (bytes8 V).dropWhile (· == 0)
def numOf (l : List Int) : Nat := l.foldl (fun a x => a * 256 + x.toNat) 0
theorem numOf_drop (l : List Int) (a : Nat) (h : a = 0) : (l.dropWhile (· == 0)).foldl (fun a x => a * 256 + x.toNat) a = l.foldl (fun a x => a * 256 + x.toNat) a := by
  subst h
  induction l with
  | nil => rfl
  | cons x l ih =>
    rw [List.dropWhile_cons]
    by_cases hx : (x == 0) = true
    · rw [if_pos hx, ih, List.foldl_cons, eq_of_beq hx]; rfl
    · rw [if_neg hx]
theorem numOf_numD (V : Nat) (hV : V < 18446744073709551616) : numOf (numD V) = V := by
  unfold numOf numD
  rw [numOf_drop _ _ rfl]
  simp only [bytes8, List.foldl_cons, List.foldl_nil, Int.toNat_natCast]
  omega
theorem numD_isB (V : Nat) : IsB (numD V) := fun x hx => bytes8_isB V x (by
  have h : List.dropWhile (· == 0) (bytes8 V) <:+ bytes8 V := List.dropWhile_suffix _
  exact h.subset hx)
theorem numD_len (V : Nat) : (numD V).length ≤ 8 := by
  have h : List.dropWhile (· == 0) (bytes8 V) <:+ bytes8 V := List.dropWhile_suffix _
  exact h.length_le
theorem dw_head (l : List Int) (x : Int) (r : List Int) (h : l.dropWhile (· == 0) = x :: r) : x ≠ 0 := by
  induction l with
  | nil => cases h
  | cons a l ih =>
    rw [List.dropWhile_cons] at h
    by_cases ha : (a == 0) = true
    · rw [if_pos ha] at h; exact ih h
    · rw [if_neg ha] at h
      cases h
      simpa using ha
theorem numD_head (V : Nat) (hV : V < 18446744073709551616) (h0 : 0 < V) : 0 < (numD V).length ∧ gi (numD V) 0 ≠ 0 := by
  have h := numOf_numD V hV
  cases hn : numD V with
  | nil => rw [hn] at h; simp [numOf] at h; omega
  | cons x r => exact ⟨by simp, by simpa [gi] using dw_head _ x r hn⟩
theorem drop_dw (l : List Int) (k : Nat) (hk : k ≤ l.length) (h : ∀ j, j < k → gi l j = 0) (hs : k = l.length ∨ gi l k ≠ 0) : l.drop k = l.dropWhile (· == 0) := by
  induction l generalizing k with
  | nil => simp
  | cons a l ih =>
    cases k with
    | zero =>
      rcases hs with h | h
      · simp at h
      · rw [List.drop_zero, List.dropWhile_cons, if_neg (by simpa [gi] using h)]
    | succ k =>
      have ha : a = 0 := by have := h 0 (by omega); simpa [gi] using this
      rw [List.drop_succ_cons, List.dropWhile_cons, if_pos (by simp [ha])]
      refine ih k (by simpa using hk) (fun j hj => ?_) ?_
      · have := h (j + 1) (by omega)
        simpa [gi] using this
      · rcases hs with h | h
        · left; simpa using h
        · right; simpa [gi] using h

set_option maxRecDepth 100000 in
set_option maxHeartbeats 1000000 in
theorem putBig_calls (gd T V : Nat) (L : List Int) (w : World) (hV : V < 18446744073709551616) (hR : Row w gd T (nums .u8 L)) (hL : L.length = 8) :
    Calls Try.prog 73 #[.agg #[], .slice (some ⟨gd, 0, none⟩) 8 8, .int .u64 V] w fun e w' => e = .returned (.tuple #[]) ∧ Row w' gd T (nums .u8 (bytes8 V)) ∧ w.grownBy w' (some gd) := by
  have hB8 : bytes8 V = [((V / 72057594037927936 % 256 : Nat) : Int), ((V / 281474976710656 % 256 : Nat) : Int), ((V / 1099511627776 % 256 : Nat) : Int), ((V / 4294967296 % 256 : Nat) : Int), ((V / 16777216 % 256 : Nat) : Int), ((V / 65536 % 256 : Nat) : Int), ((V / 256 % 256 : Nat) : Int), ((V % 256 : Nat) : Int)] := rfl
  rw [hB8]
  clear hB8
  obtain ⟨y0, hy0⟩ : ∃ y, y = V / 72057594037927936 % 256 := ⟨_, rfl⟩
  have r0 : (V : Int) / 72057594037927936 % 256 = (y0 : Int) := by omega
  have r0' : (V : Int) / 72057594037927936 = (y0 : Int) := by omega
  obtain ⟨y1, hy1⟩ : ∃ y, y = V / 281474976710656 % 256 := ⟨_, rfl⟩
  have r1 : (V : Int) / 281474976710656 % 256 = (y1 : Int) := by omega
  obtain ⟨y2, hy2⟩ : ∃ y, y = V / 1099511627776 % 256 := ⟨_, rfl⟩
  have r2 : (V : Int) / 1099511627776 % 256 = (y2 : Int) := by omega
  obtain ⟨y3, hy3⟩ : ∃ y, y = V / 4294967296 % 256 := ⟨_, rfl⟩
  have r3 : (V : Int) / 4294967296 % 256 = (y3 : Int) := by omega
  obtain ⟨y4, hy4⟩ : ∃ y, y = V / 16777216 % 256 := ⟨_, rfl⟩
  have r4 : (V : Int) / 16777216 % 256 = (y4 : Int) := by omega
  obtain ⟨y5, hy5⟩ : ∃ y, y = V / 65536 % 256 := ⟨_, rfl⟩
  have r5 : (V : Int) / 65536 % 256 = (y5 : Int) := by omega
  obtain ⟨y6, hy6⟩ : ∃ y, y = V / 256 % 256 := ⟨_, rfl⟩
  have r6 : (V : Int) / 256 % 256 = (y6 : Int) := by omega
  obtain ⟨y7, hy7⟩ : ∃ y, y = V % 256 := ⟨_, rfl⟩
  have r7 : (V : Int) % 256 = (y7 : Int) := by omega
  rw [← hy0, ← hy1, ← hy2, ← hy3, ← hy4, ← hy5, ← hy6, ← hy7]
  have hgw : ∀ o : Obj, Row (w.alloc o) gd T (nums .u8 L) := fun o => hR.alloc o
  have hR1 := hgw (.cells #[] 98)
  have d0 := hR1.icell 0 (by omega)
  have f0 := hR1.free 0
  have d1 := hR1.icell 1 (by omega)
  have f1 := hR1.free 1
  have d2 := hR1.icell 2 (by omega)
  have f2 := hR1.free 2
  have d3 := hR1.icell 3 (by omega)
  have f3 := hR1.free 3
  have d4 := hR1.icell 4 (by omega)
  have f4 := hR1.free 4
  have d5 := hR1.icell 5 (by omega)
  have f5 := hR1.free 5
  have d6 := hR1.icell 6 (by omega)
  have f6 := hR1.free 6
  have d7 := hR1.icell 7 (by omega)
  have f7 := hR1.free 7
  have HR := hidden hR1
  have hg0 := hidden (grown_below (B := 0) (below_alloc0 w (.cells #[] 98)) (some gd))
  clear hR hR1 hgw hy0 hy1 hy2 hy3 hy4 hy5 hy6 hy7
  go_enter Try.func73, Try.ntmps73
  go_wp2
  go_end0
  refine ⟨rfl, ?_, (grown_setD (grown_setD (grown_setD (grown_setD (grown_setD (grown_setD (grown_setD (grown_setD hg0.out 0 (.int .u8 (y0 : Int))) 1 (.int .u8 (y1 : Int))) 2 (.int .u8 (y2 : Int))) 3 (.int .u8 (y3 : Int))) 4 (.int .u8 (y4 : Int))) 5 (.int .u8 (y5 : Int))) 6 (.int .u8 (y6 : Int))) 7 (.int .u8 (y7 : Int)))⟩
  have hs := splice_set8 L 0 (y0 : Int) y1 y2 y3 y4 y5 y6 y7 (by omega)
  simp only [Nat.zero_add] at hs
  have hsp : splice L 0 [(y0 : Int), y1, y2, y3, y4, y5, y6, y7] = [(y0 : Int), y1, y2, y3, y4, y5, y6, y7] := by unfold splice; rw [List.take_zero, List.nil_append, List.drop_of_length_le (by simp [hL]), List.append_nil]
  rw [← hsp, ← hs]
  exact (Row.iset (Row.iset (Row.iset (Row.iset (Row.iset (Row.iset (Row.iset (Row.iset HR.out 0 (y0 : Int)) 1 (y1 : Int)) 2 (y2 : Int)) 3 (y3 : Int)) 4 (y4 : Int)) 5 (y5 : Int)) 6 (y6 : Int)) 7 (y7 : Int))

set_option maxRecDepth 100000 in
theorem textB_calls (A : Option Addr) (n c : Nat) (l : List Int) (w : World) (h : Rd w A (nums .u8 l)) (hn : l.length = n) (hb : IsB l) (hc : n ≤ c) (hN : n ≤ 100000) :
    Calls Try.prog 74 #[.slice A n c] w fun e w' => e = .returned (.string (strOfNums (encF (alpha true) l))) ∧ Below w.heap.size w w' := by
  have H := hidden h
  have Hn := hidden hn
  clear h hn
  go_enter Try.func74, Try.ntmps74
  go_wp2_with (first
    | (go_at_call 71; go_must (refine (getEnc_calls _).mono ?_; rintro e w1 ⟨g, rfl, hE1, hg1, hB1⟩))
    | (go_at_call 134; go_must (refine (toText_calls g A n c _ _ l _ hE1 (H.out.below hB1 (Nat.le_refl _)) Hn.out hb hc hN).mono ?_; rintro e w2 ⟨rfl, hB2⟩)))
  go_ret
  exact ⟨rfl, below_next hB1 hB2⟩
theorem size_big : (Try.prog.info? 98).map (·.size) = some ([] : List Value).length := by kernel_rfl
set_option maxRecDepth 100000 in
set_option maxHeartbeats 2000000 in
theorem encNum_calls (V : Nat) (hV : V < 18446744073709551616) (w : World) :
    Calls Try.prog 53 #[.int .u64 V] w fun e w' => e = .returned (.string (strOfNums (encF (alpha true) (numD V)))) ∧ Below w.heap.size w w' := by
  go_enter Try.func53, Try.ntmps53
  go_wp2_with (first
    | (with_reducible refine at_dst 5 ?_; go_must (refine walk_make rfl _ _ (n := 8) rfl Try.underlying22 info_u8 rfl rfl rfl rfl rfl (by omega) (by omega) ?_))
    | (with_reducible refine at_dst 6 ?_; go_must (refine walk_load_at (off := 0) (g := 0) (cs := []) rfl _ _ rfl (fun j v hv => by simp at hv) rfl Try.underlying98 rfl size_big ?_))
    | (go_at_call 73; go_must (refine (putBig_calls w.heap.size 5 V (List.replicate 8 0) _ hV (zeros_row w 8 _) rfl).mono ?_; rintro e w2 ⟨rfl, hR2, hg2⟩; have hB2 := (below_alloc0 w _).grown hg2 (by simp) (by rintro k ⟨⟩; exact Nat.le_refl _))))
  have HR2 := hidden hR2
  have HB2 := hidden hB2
  clear hR2 hB2 hg2
  go_loop [4] (fun i => ∃ k : Nat, k ≤ 8 ∧ i = .int .i64 k ∧ Hid (∀ j, j < k → gi (bytes8 V) j = 0)) (fun i => 8 - (intOf i).toNat)
  case atStart => exact ⟨0, by omega, rfl, hidden (by omega)⟩
  case round =>
    obtain ⟨k, hk, rfl, Hz⟩ := hrel
    have q1 := fun W => run_from (W := W) Try.underlying22 size_u8' (some ⟨w.heap.size, 0, none⟩) 8 8 (k : Int) k rfl hk (Nat.le_refl _)
    obtain ⟨A', hA'⟩ : ∃ A', A' = (if 8 = k then some (⟨w.heap.size, 0, none⟩ : Addr) else Option.map (fun x : Addr => x.add k) (some ⟨w.heap.size, 0, none⟩)) := ⟨_, rfl⟩
    have HRd : Hid (Rd w2 A' (nums .u8 ((bytes8 V).drop k))) := hidden (by
      have := Rd.drop (Rd.row HR2.out) k 8 (by simp [nums_len, bytes8_len])
      rw [show (nums .u8 (bytes8 V)).drop k = nums .u8 ((bytes8 V).drop k) from (List.map_drop ..).symm] at this
      rw [hA']; exact this)
    simp only [← hA'] at q1
    have hdb : IsB ((bytes8 V).drop k) := fun x hx => bytes8_isB V x (List.mem_of_mem_drop hx)
    have HDB := hidden hdb
    have HLn : Hid (((bytes8 V).drop k).length = 8 - k) := hidden (by rw [List.length_drop, bytes8_len])
    clear hA' hdb
    by_cases hlt : k < 8
    · have hlti : (k : Int) < 8 := by omega
      have c0 := HR2.out.icell k (by rw [bytes8_len]; exact hlt)
      obtain ⟨x, hx⟩ : ∃ x, gi (bytes8 V) k = x := ⟨_, rfl⟩
      rw [hx] at c0
      by_cases h0 : x = 0
      · subst h0
        have HN : Hid (∀ j, j < k + 1 → gi (bytes8 V) j = 0) := hidden (fun j hj => by rcases Nat.lt_succ_iff_lt_or_eq.1 hj with h | rfl; exact Hz.out j h; exact hx)
        clear hx
        go_wp2
        go_round
        case rel => exact ⟨k + 1, by omega, by go_num, HN⟩
        case measure => simp [intOf]; omega
      · have hx0 : (x == 0) = false := beq_eq_false_iff_ne.2 h0
        have HD : Hid ((bytes8 V).drop k = numD V) := hidden (drop_dw _ k (by rw [bytes8_len]; exact hk) Hz.out (.inr (by rw [hx]; exact h0)))
        clear hx
        go_wp2_with (go_at_call 74; go_must (refine (textB_calls A' (8 - k) (8 - k) ((bytes8 V).drop k) _ HRd.out HLn.out HDB.out (Nat.le_refl _) (by omega)).mono ?_; rintro e w4 ⟨rfl, hB4⟩; rw [HD.out]))
        go_ret
        exact ⟨rfl, below_next HB2.out hB4⟩
    · obtain rfl : k = 8 := by omega
      have HD : Hid (([] : List Int) = numD V) := hidden (by
        rw [show ([] : List Int) = (bytes8 V).drop 8 from rfl]
        exact drop_dw _ 8 (by rw [bytes8_len]; exact hk) Hz.out (.inl (by rw [bytes8_len])))
      go_wp2_with (go_at_call 74; go_must (refine (textB_calls (some ⟨w.heap.size, 0, none⟩) 0 0 [] _ (Rd.nil _ _) rfl (fun x hx => by cases hx) (Nat.le_refl _) (by omega)).mono ?_; rintro e w4 ⟨rfl, hB4⟩; rw [HD.out]))
      go_ret
      exact ⟨rfl, below_next HB2.out hB4⟩
end Go.Proofs.Ytmibnnmampfalaa
