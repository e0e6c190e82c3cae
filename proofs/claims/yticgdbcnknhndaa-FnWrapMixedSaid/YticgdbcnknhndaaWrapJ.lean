/- The memory of the key wrap: the words' blocks, the buffer, the number's bytes. -/
import Derived.Test.YticgdbcnknhndaaWrapI
import Derived.Test.YticgdbcnknhndaaWrapC
namespace Go.Proofs.Yticgdbcnknhndaa
open Go.RowKit
open WrapPlain (xr xr8 num8 b8)
set_option linter.unusedVariables false
set_option linter.unusedSimpArgs false

theorem info_bytes : (Try.prog.info? 35).map (fun i => (i.zero, i.size, i.bytes)) = some (some (.slice none 0 0), 1, 24) := by kernel_rfl
/-- The words' slices: the first k are made. -/
def sli (G k i : Nat) : Value := if i < k then .slice (some ⟨G + 1 + i, 0, none⟩) 8 8 else .slice none 0 0
def slis (G n k : Nat) : List Value := (List.range n).map (sli G k)
theorem slis_zero (G n : Nat) : slis G n 0 = List.replicate n (.slice none 0 0) := by
  unfold slis sli; simp [List.map_const']
theorem slis_at (G n k i : Nat) (hi : i < n) (hk : i < k) : (slis G n k)[i]? = some (.slice (some ⟨G + 1 + i, 0, none⟩) 8 8) := by
  simp [slis, sli, hi, hk]
theorem slis_len (G n k : Nat) : (slis G n k).length = n := by simp [slis]
theorem slis_set (G n k : Nat) (hk : k < n) : (slis G n k).set k (.slice (some ⟨G + 1 + k, 0, none⟩) 8 8) = slis G n (k + 1) := by
  apply List.ext_getElem
  · simp [slis]
  · intro i h1 h2
    simp only [List.length_set, slis_len] at h1
    rw [List.getElem_set]
    simp only [slis, List.getElem_map, List.getElem_range, sli]
    by_cases h : k = i
    · subst h; simp
    · rw [if_neg h]
      by_cases h3 : i < k
      · rw [if_pos h3, if_pos (by omega)]
      · rw [if_neg h3, if_neg (by omega)]
structure SU (w : World) (G n k : Nat) (ws : List (List Int)) : Prop where
  row : Row w G 35 (slis G n k)
  size : w.heap.size = G + 1 + k
  each : ∀ i, i < k → Row w (G + 1 + i) 5 (nums .u8 (ws.getD i []))
structure WS (w : World) (G n : Nat) (ws : List (List Int)) (buf tb : List Int) : Prop where
  row : Row w G 35 (slis G n n)
  each : ∀ i, i < n → Row w (G + 1 + i) 5 (nums .u8 (ws.getD i []))
  buf : Row w (G + 1 + n) 5 (nums .u8 buf)
  tb : Row w (G + 1 + n + 1) 5 (nums .u8 tb)
section
variable {w w1 : World} {G n : Nat} {ws : List (List Int)} {buf tb : List Int}
theorem WS.drew (h : WS w G n ws buf tb) : WS w.drew G n ws buf tb := ⟨h.row, h.each, h.buf, h.tb⟩
theorem WS.drewN (h : WS w G n ws buf tb) (m : Nat) : WS (w.drewN m) G n ws buf tb := ⟨h.row, h.each, h.buf, h.tb⟩
theorem WS.setBuf (h : WS w G n ws buf tb) {b' : List Int} (hR : Row w1 (G + 1 + n) 5 (nums .u8 b')) (hg : w.grownBy w1 (some (G + 1 + n))) : WS w1 G n ws b' tb :=
  ⟨h.row.grown hg (by simp; omega), fun i hi => (h.each i hi).grown hg (by simp; omega), hR, h.tb.grown hg (by simp)⟩
theorem WS.setTb (h : WS w G n ws buf tb) {b' : List Int} (hR : Row w1 (G + 1 + n + 1) 5 (nums .u8 b')) (hg : w.grownBy w1 (some (G + 1 + n + 1))) : WS w1 G n ws buf b' :=
  ⟨h.row.grown hg (by simp; omega), fun i hi => (h.each i hi).grown hg (by simp; omega), h.buf.grown hg (by simp), hR⟩
theorem WS.setWord (h : WS w G n ws buf tb) {i : Nat} (hi : i < n) (hl : ws.length = n) {b' : List Int} (hR : Row w1 (G + 1 + i) 5 (nums .u8 b')) (hg : w.grownBy w1 (some (G + 1 + i))) : WS w1 G n (ws.set i b') buf tb := by
  refine ⟨h.row.grown hg (by simp; omega), fun j hj => ?_, h.buf.grown hg (by simp; omega), h.tb.grown hg (by simp; omega)⟩
  by_cases hji : j = i
  · subst hji; rw [WrapPlain.getD_set_self (by omega)]; exact hR
  · have : (ws.set i b').getD j [] = ws.getD j [] := by
      rw [List.getD_eq_getElem?_getD, List.getElem?_set, if_neg (Ne.symm hji), List.getD_eq_getElem?_getD]
    rw [this]; exact (h.each j hj).grown hg (by simp; omega)
theorem WS.below {w0 : World} (hb : Below w0.heap.size w0 w) (hG : w0.heap.size ≤ G) (h : WS w G n ws buf tb) {g : Nat} (hg : w.grownBy w1 (some g)) (hgG : G ≤ g) : Below w0.heap.size w0 w1 :=
  hb.grown hg hb.size (by rintro k hk; cases hk; omega)
end
theorem run_xor8 (a b : Int) (W : World) : (binOp .xor 5 (.int .u8 a) (.int .u8 b)).run Try.prog W = .ok (.int .u8 (xr8 a b)) W := by
  go_simp
  rfl
theorem hi_cells {a b : List Int} (ha : a.length = 8) (i : Nat) : (nums .u8 (a ++ b))[8 + i]? = (nums .u8 b)[i]? := by
  rw [nums_app, List.getElem?_append_right (by rw [nums_len]; omega), nums_len, ha]; congr 1; omega
def outAt (X : List Int) (ws : List (List Int)) (n i : Nat) : List Int := X ++ (ws.take i).flatten ++ List.replicate (8 * (n - i)) 0
theorem flat_len8 : ∀ (ws : List (List Int)), (∀ x ∈ ws, x.length = 8) → ws.flatten.length = 8 * ws.length
  | [], _ => rfl
  | x :: ws, h => by
    rw [List.flatten_cons, List.length_append, h x (by simp), flat_len8 ws (fun y hy => h y (by simp [hy])), List.length_cons]; omega
theorem take_flat (ws : List (List Int)) (i : Nat) (hi : i < ws.length) : (ws.take (i + 1)).flatten = (ws.take i).flatten ++ ws.getD i [] := by
  rw [List.take_succ_eq_append_getElem hi, List.flatten_append, List.getD_eq_getElem?_getD, List.getElem?_eq_getElem hi]
  simp
theorem outAt_len (X : List Int) (ws : List (List Int)) (h8 : ∀ x ∈ ws, x.length = 8) (n i : Nat) (hn : ws.length = n) (hi : i ≤ n) : (outAt X ws n i).length = X.length + 8 * n := by
  unfold outAt
  rw [List.length_append, List.length_append, flat_len8 _ (fun x hx => h8 x (List.mem_of_mem_take hx)), List.length_take, List.length_replicate, Nat.min_eq_left (by omega)]
  omega
theorem outAt_step (X : List Int) (ws : List (List Int)) (h8 : ∀ x ∈ ws, x.length = 8) (n i off d : Nat) (hn : ws.length = n) (hi : i < n) (ho : off = X.length + 8 * i) (hd : 8 ≤ d) :
    splice (outAt X ws n i) off ((ws.getD i []).take d) = outAt X ws n (i + 1) := by
  have hl : (X ++ (ws.take i).flatten).length = off := by
    rw [List.length_append, flat_len8 _ (fun x hx => h8 x (List.mem_of_mem_take hx)), List.length_take, Nat.min_eq_left (by omega)]; omega
  have hc : (ws.getD i []).length = 8 := by
    rw [List.getD_eq_getElem?_getD, List.getElem?_eq_getElem (by omega)]; exact h8 _ (List.getElem_mem _)
  rw [List.take_of_length_le (by omega)]
  unfold splice outAt
  have e1 : (X ++ (ws.take i).flatten ++ List.replicate (8 * (n - i)) 0).take off = X ++ (ws.take i).flatten := by rw [← hl, List.take_left]
  have e2 : (X ++ (ws.take i).flatten ++ List.replicate (8 * (n - i)) (0 : Int)).drop (off + 8) = List.replicate (8 * (n - (i + 1))) 0 := by
    rw [← hl, ← List.drop_drop, List.drop_left, List.drop_replicate]; congr 1; omega
  rw [take_flat ws i (by omega), hc, e1, e2]
  simp [List.append_assoc]
theorem outAt_end (X : List Int) (ws : List (List Int)) (n : Nat) (hn : ws.length = n) : outAt X ws n n = X ++ ws.flatten := by
  unfold outAt; rw [List.take_of_length_le (by omega)]; simp
theorem out_start (X : List Int) (ws : List (List Int)) (n d : Nat) (hX : X.length = 8) (hd : 8 ≤ d) : splice (List.replicate (8 * (n + 1)) 0) 0 (X.take d) = outAt X ws n 0 := by
  rw [List.take_of_length_le (by omega)]
  unfold splice outAt
  simp [hX]
  omega
theorem lo_cells {a b : List Int} (i : Nat) (hi : i < (nums .u8 a).length) : (nums .u8 (a ++ b))[0 + i]? = (nums .u8 a)[i]? := by
  rw [nums_app, Nat.zero_add, List.getElem?_append_left hi]
theorem xor_done {a b T buf : List Int} (ha : a.length = 8) (hb : b.length = 8) (hT : T.length = 8) (hl : buf.length = 16) (h : ∀ j, gi buf j = if j < 8 then xr8 (gi (a ++ b) j) (gi T j) else gi (a ++ b) j) : buf = WrapPlain.xorB a T ++ b := by
  have hx : (WrapPlain.xorB a T).length = 8 := by simp [WrapPlain.xorB, ha, hT]
  refine gi_ext (by simp [hx, hb, hl]) fun i hi => ?_
  rw [h]
  by_cases h8 : i < 8
  · rw [if_pos h8, gi_app1 _ (by omega), gi_app1 _ (by omega)]
    simp [gi, WrapPlain.xorB, List.getD_eq_getElem?_getD, List.getElem?_zipWith, ha, hT, h8]
  · rw [if_neg h8, gi_app2 (by omega), gi_app2 (by omega), ha, hx]
theorem app_isB {a b : List Int} (ha : WrapPlain.IsB a) (hb : WrapPlain.IsB b) : IsB (a ++ b) := by
  intro x hx
  rcases List.mem_append.1 hx with h | h
  · exact ha x h
  · exact hb x h
theorem word_ok {S : WrapPlain.St} {k j : Nat} (h : WrapPlain.OkS S ∧ S.2.length = k) (hj : j < k) : WrapPlain.IsW (S.2.getD j []) := by
  have : j < S.2.length := by rw [h.2]; exact hj
  rw [List.getD_eq_getElem?_getD, List.getElem?_eq_getElem this]
  exact h.1.2 _ (List.getElem_mem this)
theorem take8 (a b : List Int) (ha : a.length = 8) : (a ++ b).take 8 = a := by rw [← ha]; simp
theorem drop8 (a b : List Int) (ha : a.length = 8) : (a ++ b).drop 8 = b := by rw [← ha]; simp
theorem splice_hi (a b c : List Int) (ha : a.length = 8) (hb : b.length = 8) (hc : c.length = 8) : splice (a ++ b) 8 (c.take 8) = a ++ c := by
  rw [List.take_of_length_le (by omega)]
  unfold splice
  rw [take8 a b ha, List.drop_of_length_le (by simp; omega)]
  simp
theorem splice_lo (a b c : List Int) (ha : a.length = 8) (hc : c.length = 8) : splice (a ++ b) 0 (c.take 16) = c ++ b := by
  rw [List.take_of_length_le (by omega)]
  unfold splice
  rw [hc, List.take_zero]
  simp [← ha]
theorem splice_lo8 (c : List Int) (hc : c.length = 8) : splice (List.replicate 16 (0 : Int)) 0 (c.take 8) = c ++ List.replicate 8 0 := by
  rw [List.take_of_length_le (by omega)]
  unfold splice
  rw [hc, List.take_zero]
  simp
theorem splice8' (a c : List Int) (ha : a.length = 8) (hc : 8 ≤ c.length) : splice a 0 (c.take 8) = c.take 8 := by
  have h : (c.take 8).length = 8 := by simp; omega
  unfold splice
  rw [List.take_zero, List.drop_of_length_le (by omega)]
  simp
theorem splice8 (a c : List Int) (ha : a.length = 8) (hc : c.length = 8) : splice a 0 (c.take 8) = c := by
  rw [List.take_of_length_le (by omega)]
  unfold splice
  rw [List.take_zero, List.drop_of_length_le (by omega)]
  simp

theorem ws_start {w wr w4 w5 : World} {B n : Nat} {ws : List (List Int)} {buf : List Int} {C16 C8 : Array Value} (h8 : C8 = (nums .u8 (List.replicate 8 0)).toArray) (hBr : Below B w wr) (hS : SU wr B n n ws) (hB4 : Below ((wr.alloc (.cells C16 5)).alloc (.cells C8 5)).heap.size ((wr.alloc (.cells C16 5)).alloc (.cells C8 5)) w4)
    (hR : Row w5 (B + 1 + n) 5 (nums .u8 buf)) (hg : w4.grownBy w5 (some (B + 1 + n))) : Below B w w5 ∧ WS w5 B n ws buf (List.replicate 8 0) := by
  subst h8
  have hsz := hS.size
  have hs4 := hB4.size
  simp only [World.size_alloc] at hs4
  have hb4 : Below B w w4 := ((hBr.alloc (by omega) _).alloc (by simp; omega) _).trans (hB4.mono (by simp; omega))
  have keep : ∀ {g t vs}, Row wr g t vs → g ≠ B + 1 + n → Row w5 g t vs := fun h hne => (((h.alloc _).alloc _).below hB4 (by have := h.lt; simp; omega)).grown hg (by simpa using hne)
  refine ⟨hb4.grown hg (by omega) (by rintro q hq; cases hq; omega), keep hS.row (by omega), fun i hi => keep (hS.each i hi) (by omega), hR, ?_⟩
  have h1 := Row.new (wr.alloc (.cells C16 5)) 5 (nums .u8 (List.replicate 8 0))
  have h2 := (h1.below hB4 (by simp)).grown hg (by simp; omega)
  rw [World.size_alloc, hsz] at h2
  exact h2
set_option maxRecDepth 10000 in
set_option maxHeartbeats 1000000 in
theorem wrap_calls (seed : Int) (A : Option Addr) (m c : Nat) (l : List Int) (w : World) (h : Rd w A (nums .u8 l)) (hl : l.length = 8 * m) (h0 : 0 < m) (hm : m ≤ 1000) (hc : 8 * m ≤ c) (hb : IsB l) :
    Calls Try.prog 58 #[.iface 88 (.agg #[.int .u64 seed]), .slice A (8 * m) c] w fun e w' => ∃ v, e = .returned (.tuple #[v, .nilIface]) ∧ Own w' w.heap.size 5 v (nums .u8 (WrapPlain.wrapB (mixC seed) m l)) ∧ Below w.heap.size w w' := by
  go_enter Try.func58, Try.ntmps58
  go_wp2_with (with_reducible refine at_dst 28 ?_; go_must (refine walk_make rfl (.tmp 27) (.tmp 27) (n := m) rfl Try.underlying58 info_bytes rfl rfl rfl (by omega) (by omega) (by omega) (by omega) ?_))
  refine wpAbs (fun W => Below w.heap.size w W ∧ SU W w.heap.size m 0 (WrapPlain.words m l)) ⟨below_alloc0 w _, ⟨by rw [slis_zero]; exact Row.new w _ _, by simp, by omega⟩⟩ ?_
  rintro W ⟨hB, hS⟩
  generalize hbb : w.heap.size = B at *
  have hBB := hidden hbb
  clear hbb
  go_loopw [30] (fun i wr => ∃ k : Nat, k ≤ m ∧ i = .int .i64 k ∧ Below B w wr ∧ SU wr B m k (WrapPlain.words m l)) (fun i _ => m - (intOf i).toNat)
  case atStart => exact ⟨0, by omega, rfl, hB, hS⟩
  case round =>
    obtain ⟨k, hk, rfl, hBr, hSr⟩ := hrel
    clear hB hS W
    by_cases hlt : k < m
    · have hsz := hSr.size
      have HS := hidden hSr
      have c1 : (wr.alloc (.cells #[.int .u8 0, .int .u8 0, .int .u8 0, .int .u8 0, .int .u8 0, .int .u8 0, .int .u8 0, .int .u8 0] 5)).cell? ⟨B, k, none⟩ = (slis B m k)[k]? := (hSr.row.alloc _).cell k
      have f1 : (wr.alloc (.cells #[.int .u8 0, .int .u8 0, .int .u8 0, .int .u8 0, .int .u8 0, .int .u8 0, .int .u8 0, .int .u8 0] 5)).frozen? ⟨B, k, none⟩ = false := (hSr.row.alloc _).free k
      rw [List.getElem?_eq_getElem (by rw [slis_len]; omega)] at c1
      clear hSr
      go_wp2_with (with_reducible refine at_dst 35 ?_; go_must (refine walk_make rfl _ _ (n := 8) rfl Try.underlying35 info_u8 rfl rfl rfl (by omega) (by omega) (by omega) (by omega) ?_))
      refine wpAbs (fun W => Below B w W ∧ Row W B 35 (slis B m (k + 1)) ∧ W.heap.size = B + 1 + (k + 1) ∧ Row W (B + 1 + k) 5 (nums .u8 (List.replicate 8 0)) ∧ ∀ i, i < k → Row W (B + 1 + i) 5 (nums .u8 ((WrapPlain.words m l).getD i []))) ?_ ?_
      · have hSr := HS.out
        have hB2 : Below B w (wr.alloc (.cells #[.int .u8 0, .int .u8 0, .int .u8 0, .int .u8 0, .int .u8 0, .int .u8 0, .int .u8 0, .int .u8 0] 5)) := hBr.alloc (by omega) _
        refine ⟨hB2.grown (grown_set _ B k _) (by simp; omega) (by simp), ?_, by simp; omega, ?_, fun i hi => ?_⟩
        · have := (hSr.row.alloc (.cells #[.int .u8 0, .int .u8 0, .int .u8 0, .int .u8 0, .int .u8 0, .int .u8 0, .int .u8 0, .int .u8 0] 5)).set k (.slice (some ⟨B + 1 + k, 0, none⟩) 8 8)
          rwa [slis_set B m k hlt] at this
        · refine Row.grown ?_ (grown_set _ B k _) (by simp; omega)
          have := Row.new wr 5 (nums .u8 (List.replicate 8 0))
          rwa [hsz] at this
        · exact ((hSr.each i hi).alloc _).grown (grown_set _ B k _) (by simp; omega)
      rintro W ⟨hBW, hRG, hszW, hRk, hEach⟩
      have hAW := (h.below hBW (Nat.le_of_eq hBB.out))
      have d1 := hRG.cell k
      rw [slis_at B m (k + 1) k hlt (by omega)] at d1
      have hw : ((l.drop (8 * k)).take 8) = (WrapPlain.words m l).getD k [] := (WrapPlain.words_get m l k hlt).symm
      have hwk : IntKind.i64.wrap ((k : Int) * 8) = (k : Int) * 8 := by rw [IntKind.wrap_i64]; omega
      have hsl := fun W' => run_from (W := W') Try.underlying35 size_u8 A (8 * m) c ((k : Int) * 8) (8 * k) (by omega) (by omega) hc
      clear c1 f1 hBr
      go_still_tail 8, (by kernel_rfl)
      change wpList _ _ _ _ _ W.drew
      have hRd := Rd.drop (vs := nums .u8 l) hAW (8 * k) c (by rw [nums_len]; omega)
      rw [show (nums .u8 l).drop (8 * k) = nums .u8 (l.drop (8 * k)) from (List.map_drop ..).symm] at hRd
      refine walk_copy (L := List.replicate 8 0) rfl (.tmp 40) (.tmp 44) rfl Try.underlying35 size_u8 rfl rfl hRk.drew hRd (by rw [List.length_drop]; omega) (by simp) ?_
      intro w3 hR3 hg3 hz3
      rw [splice8' _ _ (by simp) (by rw [List.length_drop]; omega), hw] at hR3
      have hSn : SU w3 B m (k + 1) (WrapPlain.words m l) ∧ Below B w w3 := by
        have hg4 : W.grownBy w3 (some (B + 1 + k)) := ⟨hg3.os, hg3.tape, hg3.output, hg3.size, hg3.block⟩
        refine ⟨⟨hRG.grown hg4 (by simp; omega), hz3.trans hszW, fun i hi => ?_⟩, hBW.grown hg4 (by omega) (by rintro q hq; cases hq; omega)⟩
        by_cases hik : i = k
        · subst hik; exact hR3
        · exact (hEach i (by omega)).grown hg4 (by simp; omega)
      clear hz3 hR3 hg3 hRd hAW hRk hRG hEach d1 hsl hwk
      go_wp2
      go_roundw
      case rel => exact ⟨k + 1, by omega, by go_num, hSn.2, hSn.1⟩
      case measure => simp [intOf]; omega
    · obtain rfl : k = m := by omega
      have hS := hSr
      have hsz := hS.size
      clear hSr
      go_wp2_with (first
        | (with_reducible refine at_dst 47 ?_; go_must (refine walk_make rfl _ _ (n := 16) rfl Try.underlying35 info_u8 rfl rfl rfl (by omega) (by omega) (by omega) (by omega) ?_))
        | (with_reducible refine at_dst 48 ?_; go_must (refine walk_make rfl _ _ (n := 8) rfl Try.underlying35 info_u8 rfl rfl rfl (by omega) (by omega) (by omega) (by omega) ?_))
        | (go_at_call 77; go_must (refine (iv_calls _).mono ?_; rintro e w4 ⟨rfl, hR4, hB4⟩; have hR5 : Rd w4 (some ⟨B + 1 + k + 1 + 1, 0, none⟩) (nums .u8 WrapPlain.iv) := (by have := Rd.row hR4; simpa [hsz] using this)))
        | (with_reducible refine at_dst 51 ?_; go_must (refine walk_copy (L := List.replicate 16 0) (M := WrapPlain.iv) rfl (.tmp 49) (.tmp 50) rfl Try.underlying35 size_u8 rfl rfl (by have := ((Row.new wr 5 (nums .u8 (List.replicate 16 0))).alloc (.cells (nums .u8 (List.replicate 8 0)).toArray 5)).below hB4 (by simp [World.size_alloc]; omega); rwa [hsz] at this) hR5 rfl (by simp) ?_); intro w5 hR6 hg6 hz6; obtain ⟨hB7, hW7⟩ := ws_start rfl hBr hS hB4 hR6 hg6; clear hR4 hB4 hR5 hR6 hg6 hz6 hBr hS))
      clear hsz hlt
      generalize hs0 : ((WrapPlain.iv, WrapPlain.words k l) : WrapPlain.St) = s0
      have hok0 : WrapPlain.OkS s0 ∧ s0.2.length = k := by subst hs0; exact ⟨⟨WrapPlain.iv_isW, WrapPlain.words_ok k l hb hl⟩, WrapPlain.words_len k l⟩
      have hW8 : WS w5 B k s0.2 (s0.1 ++ List.replicate 8 0) (List.replicate 8 0) := by subst hs0; exact hW7
      clear hW7
      have HS0 := hidden hs0
      have hOk : ∀ t, WrapPlain.OkS (WrapPlain.ups (mixC seed) k t s0) ∧ (WrapPlain.ups (mixC seed) k t s0).2.length = k := fun t => WrapPlain.ups_ok (mixC seed) h0 t hok0.1 hok0.2
      have HOk := hidden hOk
      clear hs0 hok0 hOk h
      go_loopw [54] (fun i wr => ∃ t : Nat, t ≤ 6 * k ∧ i = .int .i64 t ∧ Below B w wr ∧ ∃ x tb, x.length = 8 ∧ tb.length = 8 ∧ WS wr B k (WrapPlain.ups (mixC seed) k t s0).2 ((WrapPlain.ups (mixC seed) k t s0).1 ++ x) tb) (fun i _ => 6 * k - (intOf i).toNat)
      case atStart => exact ⟨0, by omega, rfl, hB7, _, _, by simp, by simp, hW8⟩
      case round =>
        obtain ⟨t, ht, rfl, hBr, x, tb, hx, htb, hWr⟩ := hrel
        clear hB7 hW8 w5
        by_cases hlt : t < 6 * k
        · obtain ⟨j, hj⟩ : ∃ j : Nat, j = t % k := ⟨_, rfl⟩
          have hmod : j < k := by rw [hj]; exact Nat.mod_lt _ h0
          have htm : ((t : Int)).tmod (k : Int) = (j : Int) := by rw [hj, Int.tmod_eq_emod_of_nonneg (by omega)]; rfl
          have hk0 : ¬ k = 0 := by omega
          have d0 := hWr.row.cell j
          rw [slis_at B k k j hmod hmod] at d0
          have hsl : ∀ W', (Instr.slice 35 (.slice (some ⟨B + 1 + k, 0, none⟩) 16 16) (some (.int .i64 8)) none none).run Try.prog W' = .ok (.slice (some ⟨B + 1 + k, 8, none⟩) 8 8) W' := fun W' => by
            have := run_from (W := W') Try.underlying35 size_u8 (some ⟨B + 1 + k, 0, none⟩) 16 16 8 8 rfl (by omega) (by omega)
            simpa [addr_add] using this
          have HW := hidden hWr
          have HB := hidden hBr
          clear hWr hBr
          have Hj := hidden hj
          clear hj
          go_wp2
          go_still_tail 8, (by kernel_rfl)
          change wpList _ _ _ _ _ wr.drew
          have hst := hidden (HOk.out t)
          generalize hS : WrapPlain.ups (mixC seed) k t s0 = S at *
          have hy : Hid (WrapPlain.IsW (S.2.getD j [])) := hidden (word_ok hst.out (by omega))
          have HS := hidden hS
          clear hS
          refine walk_copy (L := S.1 ++ x) (M := S.2.getD j []) rfl (.tmp 58) (.tmp 64) rfl Try.underlying35 size_u8 rfl rfl HW.out.buf.drew (Rd.row (HW.out.each j hmod).drew) hy.out.1 (by rw [List.length_append, hst.out.1.1.1, hx]; omega) ?_
          intro w6 hR6 hg6 hz6
          rw [splice_hi _ _ _ hst.out.1.1.1 hx hy.out.1] at hR6
          have hW6 := HW.out.drew.setBuf hR6 hg6
          have hB6 := HB.out.drew.grown hg6 (by have := HW.out.row.lt; simp; omega) (by rintro q hq; cases hq; omega)
          clear hR6 hg6 hz6 d0 hsl
          go_wp2_with (first
            | (go_at_call 75; go_must (refine (put64_calls .nilIface tb htb ((t : Int) + 1) _ _ hW7.tb).mono ?_; rintro e w8 ⟨rfl, hR8, hg8⟩))
            | (go_at_call 108; go_must (refine (encrypt_calls seed (S.1 ++ S.2.getD j []) (by rw [List.length_append, hst.out.1.1.1, hy.out.1]) (app_isB hst.out.1.1.2 hy.out.2) _ _ hW6.buf).mono ?_; rintro e w7 ⟨rfl, hR7, hg7⟩; have hW7 := hW6.setBuf hR7 hg7; have hB7 := hB6.grown hg7 (by have := hW6.row.lt; omega) (by rintro q hq; cases hq; omega))))
          have hW8 := hW7.setTb hR8 hg8
          have hB8 := hB7.grown hg8 (by have := hW7.row.lt; omega) (by rintro q hq; cases hq; omega)
          rw [mixL_E seed _ _ hst.out.1.1 hy.out] at hW8
          have hE := hidden ((mixC seed).E_ok _ _ hst.out.1.1 hy.out)
          have hT : Hid ((b8 ((t : Int) + 1)).length = 8 ∧ IsB (b8 ((t : Int) + 1))) := hidden ⟨WrapPlain.b8_len _, WrapPlain.b8_isB _⟩
          generalize hp : (mixC seed).E S.1 (S.2.getD j []) = p at *
          generalize hq : b8 ((t : Int) + 1) = T at *
          have HP := hidden hp
          have HQ := hidden hq
          clear hp hq hR7 hg7 hR8 hg8 hW7 hB7 hW6 hB6 HW HB
          have hBs : B < w8.heap.size := hW8.row.lt
          go_loopw [76] (fun i wr => ∃ m : Nat, m ≤ 8 ∧ i = .int .i64 m ∧ Below B w wr ∧ ∃ buf, buf.length = 16 ∧ (∀ j, gi buf j = if j < m then xr8 (gi (p.1 ++ p.2) j) (gi T j) else gi (p.1 ++ p.2) j) ∧ WS wr B k S.2 buf T) (fun i _ => 8 - (intOf i).toNat)
          case atStart => exact ⟨0, by omega, rfl, hB8, _, by rw [List.length_append, hE.out.1.1, hE.out.2.1], fun j => by rw [if_neg (by omega)], hW8⟩
          case round =>
            obtain ⟨m, hm8, rfl, hBi, buf, hbl, hbj, hWi⟩ := hrel
            clear hB8 hW8
            by_cases hlt8 : m < 8
            · have c0 := hWi.buf.icell m (by omega)
              have c1 := hWi.tb.icell m (by rw [hT.out.1]; omega)
              have f0 := hWi.buf.free m
              have hx8 := run_xor8 (gi buf m) (gi T m)
              have hm16 : m < 16 := by omega
              have hm16i : (m : Int) < 16 := by omega
              have hm8i : (m : Int) < 8 := by omega
              have HW := hidden hWi
              have Hbj := hidden hbj
              clear hWi hbj
              go_wp2
              go_still_tail 12, (by kernel_rfl)
              change wpList _ _ _ _ _ wr.drew
              go_wp2
              go_roundw
              case rel =>
                refine ⟨m + 1, by omega, by go_num, (hBi.setCell (by simp; omega) _).drew, _, by rw [List.length_set]; exact hbl, fun i => ?_, HW.out.drew.setBuf (HW.out.buf.drew.iset m _) (grown_set _ _ m _)⟩
                rw [gi_set _ _ _ _ (by omega)]
                by_cases hjm : i = m
                · subst hjm
                  rw [if_pos rfl, if_pos (by omega), Hbj.out i, if_neg (by omega)]
                  rfl
                · rw [if_neg hjm, Hbj.out i]
                  by_cases hjl : i < m
                  · rw [if_pos hjl, if_pos (by omega)]
                  · rw [if_neg hjl, if_neg (by omega)]
              case measure => simp [intOf]; omega
            · obtain rfl : m = 8 := by omega
              have hbuf : buf = WrapPlain.xorB p.1 T ++ p.2 := xor_done hE.out.1.1 hE.out.2.1 hT.out.1 hbl hbj
              subst hbuf
              clear hbj
              have d0 := hWi.row.cell j
              rw [slis_at B k k j hmod hmod] at d0
              have hsl : ∀ W', (Instr.slice 35 (.slice (some ⟨B + 1 + k, 0, none⟩) 16 16) (some (.int .i64 8)) none none).run Try.prog W' = .ok (.slice (some ⟨B + 1 + k, 8, none⟩) 8 8) W' := fun W' => by
                have := run_from (W := W') Try.underlying35 size_u8 (some ⟨B + 1 + k, 0, none⟩) 16 16 8 8 rfl (by omega) (by omega)
                simpa [addr_add] using this
              have HW := hidden hWi
              clear hWi
              have hxl : (WrapPlain.xorB p.1 T).length = 8 := by simp [WrapPlain.xorB, hE.out.1.1, hT.out.1]
              go_wp2
              go_still_tail 8, (by kernel_rfl)
              change wpList _ _ _ _ _ wr.drew
              refine walk_copy (L := S.2.getD j []) (M := p.2) rfl (.tmp 97) (.tmp 99) rfl Try.underlying35 size_u8 rfl rfl (HW.out.each j hmod).drew (Rd.of_row HW.out.buf.drew 8 8 (fun i hi => hi_cells hxl i)) hE.out.2.1 (by rw [hy.out.1]; omega) ?_
              intro w9 hR9 hg9 hz9
              rw [splice8 _ _ hy.out.1 hE.out.2.1] at hR9
              have hW9 := HW.out.drew.setWord hmod hst.out.2 hR9 hg9
              have hB9 := hBi.drew.grown hg9 (by have := HW.out.row.lt; simp; omega) (by rintro q hq; cases hq; omega)
              clear hR9 hg9 hz9 d0 hsl
              go_wp2
              go_roundw
              case rel =>
                have hup : WrapPlain.ups (mixC seed) k (t + 1) s0 = (WrapPlain.xorB p.1 T, S.2.set j p.2) := by
                  show WrapPlain.up _ k t (WrapPlain.ups (mixC seed) k t s0) = _
                  rw [HS.out]; unfold WrapPlain.up
                  rw [← Hj.out, HP.out, show ((t + 1 : Nat) : Int) = (t : Int) + 1 by omega, HQ.out]
                exact ⟨t + 1, by omega, by go_num, hB9, p.2, T, hE.out.2.1, hT.out.1, by rw [hup]; exact hW9⟩
              case measure => simp [intOf]; omega
        · obtain rfl : t = 6 * k := by omega
          have hst := hidden (HOk.out (6 * k))
          have hwb : WrapPlain.wrapB (mixC seed) k l = (WrapPlain.ups (mixC seed) k (6 * k) s0).1 ++ (WrapPlain.ups (mixC seed) k (6 * k) s0).2.flatten := by rw [← HS0.out]; rfl
          generalize hS : WrapPlain.ups (mixC seed) k (6 * k) s0 = S at *
          have HWB := hidden hwb
          clear hS hwb
          have hup : ∀ W', (Instr.slice 35 (.slice (some ⟨B + 1 + k, 0, none⟩) 16 16) none (some (.int .i64 8)) none).run Try.prog W' = .ok (.slice (some ⟨B + 1 + k, 0, none⟩) 8 16) W' := fun W' => run_upto (W := W') Try.underlying35 size_u8 (some ⟨B + 1 + k, 0, none⟩) 16 16 8 8 rfl (by omega)
          have HW := hidden hWr
          have HB := hidden hBr
          have hO : B + 1 + k < wr.heap.size := hWr.buf.lt
          have hS1 : S.1.length = 8 := by obtain ⟨⟨⟨h1, _⟩, _⟩, _⟩ := hst.out; exact h1
          clear hWr hBr
          go_wp2_with (first
            | (with_reducible refine at_dst 105 ?_; go_must (refine walk_make rfl _ _ (n := 8 * (k + 1)) rfl Try.underlying35 info_u8 rfl rfl rfl (by omega) (by omega) (by omega) (by omega) ?_))
            | (with_reducible refine at_dst 109 ?_; go_must (refine walk_copy (L := List.replicate (8 * (k + 1)) 0) (M := S.1) rfl (.tmp 106) (.tmp 108) rfl Try.underlying35 size_u8 rfl rfl (by have := Row.new wr 5 (nums .u8 (List.replicate (8 * (k + 1)) 0)); simpa [nums] using this) (Rd.of_row (HW.out.buf.alloc _) 0 8 (fun i hi => lo_cells i hi)) hS1 (by simp) ?_); intro w6 hR6 hg6 hz6))
          rw [out_start S.1 S.2 k _ hS1 (by omega)] at hR6
          generalize hOb : wr.heap.size = O at *
          have hb6 : w.heap.size ≤ B := Nat.le_of_eq hBB.out
          have hbO : B ≤ O := by omega
          have hB6 : Below B w w6 := (HB.out.alloc (by omega) _).grown hg6 (by simp; omega) (by rintro q hq; cases hq; omega)
          have hW6 : ∀ i, i < k → Row w6 (B + 1 + i) 5 (nums .u8 (S.2.getD i [])) := fun i hi => ((HW.out.each i hi).alloc _).grown hg6 (by simp; omega)
          have hG6 : Row w6 B 35 (slis B k k) := (HW.out.row.alloc _).grown hg6 (by simp; omega)
          have h8 : Hid (∀ x ∈ S.2, x.length = 8) := hidden (by obtain ⟨⟨_, h1⟩, _⟩ := hst.out; exact fun x hx => (h1 x hx).1)
          clear hg6 hz6 hOb hup HW HB
          go_loopw [112] (fun i wr => ∃ m : Nat, m ≤ k ∧ i = .int .i64 m ∧ Below B w wr ∧ Row wr O 5 (nums .u8 (outAt S.1 S.2 k m)) ∧ Row wr B 35 (slis B k k) ∧ ∀ i, i < k → Row wr (B + 1 + i) 5 (nums .u8 (S.2.getD i []))) (fun i _ => k - (intOf i).toNat)
          case atStart => exact ⟨0, by omega, rfl, hB6, hR6, hG6, hW6⟩
          case round =>
            obtain ⟨m, hmk, rfl, hBr, hRr, hGr, hEr⟩ := hrel
            clear hB6 hR6 hG6 hW6
            by_cases hlt : m < k
            · have d0 := hGr.cell m
              rw [slis_at B k k m hlt hlt] at d0
              have hw1 : IntKind.i64.wrap ((m : Int) + 1) = (m : Int) + 1 := by rw [IntKind.wrap_i64]; omega
              have hw2 : IntKind.i64.wrap (((m : Int) + 1) * 8) = ((m : Int) + 1) * 8 := by rw [IntKind.wrap_i64]; omega
              have hsl : ∀ W', (Instr.slice 35 (.slice (some ⟨O, 0, none⟩) (8 * (k + 1)) (8 * (k + 1))) (some (.int .i64 (((m : Int) + 1) * 8))) none none).run Try.prog W' = .ok (.slice (some ⟨O, 8 * (m + 1), none⟩) (8 * (k + 1) - 8 * (m + 1)) (8 * (k + 1) - 8 * (m + 1))) W' := fun W' => by
                have := run_from (W := W') Try.underlying35 size_u8 (some ⟨O, 0, none⟩) (8 * (k + 1)) (8 * (k + 1)) (((m : Int) + 1) * 8) (8 * (m + 1)) (by omega) (by omega) (by omega)
                rw [this, if_neg (by omega)]
                simp [addr_add]
              have hy : Hid ((S.2.getD m []).length = 8) := hidden (word_ok hst.out hlt).1
              have hOl : Hid ((outAt S.1 S.2 k m).length = 8 * (k + 1)) := hidden (by rw [outAt_len S.1 S.2 h8.out k m hst.out.2 (by omega), hS1]; omega)
              go_wp2
              go_still_tail 9, (by kernel_rfl)
              change wpList _ _ _ _ _ wr.drew
              refine walk_copy (L := outAt S.1 S.2 k m) (M := S.2.getD m []) rfl (.tmp 119) (.tmp 123) rfl Try.underlying35 size_u8 rfl rfl hRr.drew (Rd.row (hEr m hlt).drew) hy.out (by rw [hOl.out]; omega) ?_
              intro w9 hR9 hg9 hz9
              rw [outAt_step S.1 S.2 h8.out k m _ _ hst.out.2 hlt (by rw [hS1]; omega) (by omega)] at hR9
              have hB9 := hBr.drew.grown hg9 (by have := hRr.lt; simp; omega) (by rintro q hq; cases hq; omega)
              have hG9 := hGr.drew.grown hg9 (by simp; omega)
              have hE9 : ∀ i, i < k → Row w9 (B + 1 + i) 5 (nums .u8 (S.2.getD i [])) := fun i hi => (hEr i hi).drew.grown hg9 (by simp; omega)
              clear hg9 hz9 d0 hsl hRr hGr hEr
              go_wp2
              go_roundw
              case rel => exact ⟨m + 1, by omega, by go_num, hB9, hR9, hG9, hE9⟩
              case measure => simp [intOf]; omega
            · obtain rfl : m = k := by omega
              rw [outAt_end S.1 S.2 _ hst.out.2, ← HWB.out] at hRr
              have hlen : (WrapPlain.wrapB (mixC seed) m l).length = 8 * (m + 1) := by rw [WrapPlain.wrapB_len (mixC seed) h0 hb hl]
              have hOw := Own.of_row (base := B) (c := 8 * (m + 1)) (rest := []) (vs := nums .u8 (WrapPlain.wrapB (mixC seed) m l)) (by rw [List.append_nil]; exact hRr) hbO (by rw [nums_len, hlen]; rfl) (by simp [maxLen]; omega)
              rw [nums_len, hlen] at hOw
              have HOw := hidden hOw
              clear hOw hEr hGr hRr hlen
              go_wp2
              go_ret2
              exact ⟨_, rfl, by rw [hBB.out]; exact HOw.out, by rw [hBB.out]; exact hBr⟩
end Go.Proofs.Yticgdbcnknhndaa
