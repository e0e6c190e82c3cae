/- spec.HeadBody; spec.HeadPrint of a whole number in its shortest way. -/
import Derived.Test.YtbdmdajbdmdknaaDoorHdF
namespace Go.Proofs.YtbdmdajbdmdknaaDoor
open Go.RowKit
set_option linter.unusedVariables false
set_option linter.unusedSimpArgs false

theorem below_to {N : Nat} {a b : World} (h : Below a.heap.size a b) (hN : N ≤ a.heap.size) : Below N a b := ⟨h.os, h.tape, h.output, h.size, fun b hb => h.block b (Nat.lt_of_lt_of_le hb hN)⟩
theorem bs0_app (D : ByteArray) : (⟨#[]⟩ : ByteArray) ++ D = D := by
  rw [← bs_self D, show (⟨#[]⟩ : ByteArray) = bs [] from rfl, bs_app]; rfl
theorem app_bs0 (D : ByteArray) : D ++ (⟨#[]⟩ : ByteArray) = D := by
  rw [← bs_self D, show (⟨#[]⟩ : ByteArray) = bs [] from rfl, bs_app, List.append_nil]
theorem StyAt.new (w : World) (st : Int) : StyAt (w.alloc (.cells #[.int .u64 st] 67)) w.heap.size st := Row.new w 67 [.int .u64 st]
theorem textS_len0 : ∀ (l : List Nat) (st : Int), (textS st l).1.length ≤ 12 * l.length
  | [], _ => by simp [textS]
  | c :: l, st => by
    have h1 := textS_len0 l (runeS st c).2
    have h2 := runeS_len st c
    simp only [textS, List.length_append, List.length_cons]; omega
theorem runesOf_len0 (s : ByteArray) : ∀ fuel pos, (runesOf s fuel pos).length ≤ fuel
  | 0, _ => by simp [runesOf]
  | f + 1, pos => by
    unfold runesOf
    split
    · have := runesOf_len0 s f (pos + (Utf8.decode s pos).2); simp; omega
    · simp
theorem extract_body (t : Bs) : (bs (34 :: (t ++ [34]))).extract 1 ((bs (34 :: (t ++ [34]))).size - 1) = bs t := by
  have e : (bs (34 :: (t ++ [34]))).size = t.length + 2 := by rw [size_bs]; simp
  have : ((bs (34 :: (t ++ [34]))).extract 1 ((bs (34 :: (t ++ [34]))).size - 1)).data.toList = t := by
    rw [e, ByteArray.data_extract, Array.toList_extract, toL_bs]
    simp [List.extract]
  rw [← bs_self (ByteArray.extract _ _ _), this]
set_option maxRecDepth 100000 in
set_option maxHeartbeats 2000000 in
theorem headBody_calls (s : ByteArray) (st : Int) (hs : s.size ≤ 1000000) (w : World) :
    Calls Tryd.prog 20 #[.string s, .int .u64 st] w fun e w' => e = .returned (.string (bs (textS st (runesOf s s.size 0)).1)) ∧ Below w.heap.size w w' := by
  have HA : Hid (StyAt (w.alloc (.cells #[.int .u64 st] 67)) w.heap.size st) := hidden (StyAt.new w st)
  have K := hidden (text_calls w.heap.size st s hs (w.alloc (.cells #[.int .u64 st] 67)) HA.out)
  obtain ⟨B, hB⟩ : ∃ B, (textS st (runesOf s s.size 0)) = B := ⟨_, rfl⟩
  rw [hB] at K ⊢
  have hx := extract_body B.1
  have hz : (bs (34 :: (B.1 ++ [34]))).size = B.1.length + 2 := by rw [size_bs]; simp
  obtain ⟨X, hX⟩ : ∃ X, bs (34 :: (B.1 ++ [34])) = X := ⟨_, rfl⟩
  have hL : B.1.length ≤ 12 * s.size := by rw [← hB]; exact Nat.le_trans (textS_len0 _ _) (Nat.mul_le_mul_left _ (runesOf_len0 s _ _))
  rw [hX] at K hx hz
  have HX := hidden hx
  have hzi : (X.size : Int) ≤ 12000002 := by omega
  have hz2 : 2 ≤ X.size := by omega
  have HB2 := hidden hB
  clear hx hX hB hz hL
  go_enter Tryd.func20, Tryd.ntmps20
  go_wp2_with (go_at_call 27; go_must (refine K.out.mono ?_; rintro e w1 ⟨rfl, hS, hG⟩; have HG := hidden hG; clear hS hG))
  go_ret
  refine ⟨congrArg (fun x => Ending.returned (.string x)) HX.out, (below_alloc0 w _).grown HG.out (below_alloc0 w _).size (fun k hk => by cases hk; exact Nat.le_refl _)⟩
theorem blank0_calls (g : Nat) (w : World) (h : StyAt w g 0) : Calls Tryd.prog 26 #[.pointer (some ⟨g, 0, none⟩)] w fun e w' => e = .returned (.string ⟨#[]⟩) ∧ w' = w := by
  have hcell : w.cell? ⟨g, 0, none⟩ = some (.int .u64 0) := h.cell 0
  go_enter Tryd.func26, Tryd.ntmps26
  go_wp2
  go_loopw [3] (fun v wr => v = .string ⟨#[]⟩ ∧ w = wr) (fun _ _ => 0)
  case atStart => exact ⟨rfl, rfl⟩
  case round =>
    obtain ⟨rfl, rfl⟩ := hrel
    go_wp2
    go_ret
    exact ⟨rfl, rfl⟩
def fieldV (name : ByteArray) (k : Int) (b m : Bool) (n : Int) (t : ByteArray) (A : Option Addr) (z c : Nat) : Value := .agg #[.string name, .int .u8 k, .bool b, .bool m, .int .u64 n, .string t, .slice A z c]
def treeV (k : Int) (b m : Bool) (n : Int) (t : ByteArray) (A : Option Addr) (z c : Nat) (A2 : Option Addr) (z2 c2 : Nat) : Value := .agg #[.int .u8 k, .bool b, .bool m, .int .u64 n, .string t, .slice A z c, .slice A2 z2 c2]
set_option maxHeartbeats 2000000 in
theorem value2_calls (g : Nat) (n : Nat) (hn : n < 18446744073709551616) (w : World) :
    Calls Tryd.prog 28 #[.pointer (some ⟨g, 0, none⟩), fieldV ⟨#[]⟩ 2 false false n ⟨#[]⟩ none 0 0] w fun e w' => e = .returned (.string (bs (decB n))) ∧ Below w.heap.size w w' := by
  have K := hidden (headDigits_calls n hn)
  unfold fieldV
  go_enter Tryd.func28, Tryd.ntmps28
  go_wp2_with (go_at_call 40; go_must (refine (K.out _).mono ?_; rintro e w1 ⟨rfl, rfl⟩))
  go_ret
  exact ⟨rfl, below_alloc0 w _⟩
set_option maxHeartbeats 2000000 in
theorem tree2_calls (g : Nat) (n : Nat) (hn : n < 18446744073709551616) (w : World) :
    Calls Tryd.prog 33 #[.pointer (some ⟨g, 0, none⟩), treeV 2 false false n ⟨#[]⟩ none 0 0 none 0 0] w fun e w' => e = .returned (.string (bs (decB n))) ∧ Below w.heap.size w w' := by
  have K := hidden (value2_calls g n hn)
  unfold fieldV at K
  unfold treeV
  go_enter Tryd.func33, Tryd.ntmps33
  go_wp2_with (go_at_call 28; go_must (refine (K.out _).mono ?_; rintro e w1 ⟨rfl, hB⟩; have HB := hidden hB; clear hB))
  go_ret
  exact ⟨rfl, (below_alloc0 w _).trans (HB.out.mono (by simp))⟩
set_option maxHeartbeats 2000000 in
theorem print2_calls (n : Nat) (hn : n < 18446744073709551616) (w : World) :
    Calls Tryd.prog 21 #[treeV 2 false false n ⟨#[]⟩ none 0 0 none 0 0, .int .u64 0] w fun e w' => e = .returned (.string (bs (decB n))) ∧ Below w.heap.size w w' := by
  have hL := decB_len 19 n (by omega)
  have hz : (bs (decB n)).size ≤ 20 := by rw [size_bs]; exact hL
  have K := hidden (fun g w => tree2_calls g n hn w)
  obtain ⟨D, hD⟩ : ∃ D, bs (decB n) = D := ⟨_, rfl⟩
  rw [hD] at K hz ⊢
  have hlim : ¬ 9223372036854775807 < D.size := by omega
  clear hD hL
  unfold treeV at K ⊢
  go_enter Tryd.func21, Tryd.ntmps21
  go_upto_region 2 with (fail)
  have K0 := hidden (fun W (h : StyAt W (w.heap.size + 1) 0) => blank0_calls (w.heap.size + 1) W h)
  have HS0 : Hid (StyAt ((w.alloc (.cells #[.int .u8 2, .bool false, .bool false, .int .u64 (n : Int), .string ⟨#[]⟩, .slice none 0 0, .slice none 0 0] 53)).alloc (.cells #[.int .u64 0] 67)) (w.heap.size + 1) 0) := hidden (by
    have := StyAt.new (w.alloc (.cells #[.int .u8 2, .bool false, .bool false, .int .u64 (n : Int), .string ⟨#[]⟩, .slice none 0 0, .slice none 0 0] 53)) 0
    rwa [show (w.alloc (.cells #[.int .u8 2, .bool false, .bool false, .int .u64 (n : Int), .string ⟨#[]⟩, .slice none 0 0, .slice none 0 0] 53)).heap.size = w.heap.size + 1 by simp] at this)
  have HB0 := hidden ((below_alloc0 w (.cells #[.int .u8 2, .bool false, .bool false, .int .u64 (n : Int), .string ⟨#[]⟩, .slice none 0 0, .slice none 0 0] 53)).trans (below_to (below_alloc0 _ (.cells #[.int .u64 0] 67)) (by simp)))
  go_region_with (first
    | (go_at_call 33; go_must (refine (K.out _ _).mono ?_; rintro e w3 ⟨rfl, hB⟩; have HB := hidden hB; clear hB))
    | (go_at_call 26; go_must (refine (K0.out _ (by first | exact HS0.out | exact HS0.out.drew | exact HS0.out.below HB.out (by simp) | exact HS0.out.drew.below HB.out (by simp))).mono ?_; rintro e w4 ⟨rfl, rfl⟩)))
  all_goals go_wp2
  all_goals go_ret
  all_goals exact ⟨congrArg (fun x => Ending.returned (.string x)) (show (⟨#[]⟩ : ByteArray) ++ D ++ ⟨#[]⟩ = D by rw [bs0_app, app_bs0]), HB0.out.trans (Below.trans (below_drewN0 (Below.refl _ _) 1) (below_to (N := w.heap.size) HB.out (by simp <;> omega)))⟩
end Go.Proofs.YtbdmdajbdmdknaaDoor
