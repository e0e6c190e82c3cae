/- spec.HeadBody; spec.HeadPrint of a whole number in its shortest way. -/
import Derived.Test.YtbdmdajbdmdknaaDoorHdF
namespace Go.Proofs.YtbdmdajbdmdknaaDoor
open Go.RowKit
set_option linter.unusedVariables false
set_option linter.unusedSimpArgs false

theorem below_to {N : Nat} {a b : World} (h : Below a.heap.size a b) (hN : N ≤ a.heap.size) : Below N a b := ⟨h.os, h.tape, h.output, h.size, fun b hb => h.block b (Nat.lt_of_lt_of_le hb hN)⟩
theorem bs0_app (D : ByteArray) : (⟨#[]⟩ : ByteArray) ++ D = D := by
  rw [← bs_self D, show (⟨#[]⟩ : ByteArray) = bs [] from rfl, bs_app]; rfl
theorem app_bs0 (D : ByteArray) : D ++ (⟨#[]⟩ : ByteArray) = D := by
  rw [← bs_self D, show (⟨#[]⟩ : ByteArray) = bs [] from rfl, bs_app, List.append_nil]
theorem StyAt.new (w : World) (st : Int) : StyAt (w.alloc (.cells #[.int .u64 st] 67)) w.heap.size st := Row.new w 67 [.int .u64 st]
theorem textS_len0 : ∀ (l : List Nat) (st : Int), (textS st l).1.length ≤ 12 * l.length
  | [], _ => by simp [textS]
  | c :: l, st => by
    have h1 := textS_len0 l (runeS st c).2
    have h2 := runeS_len st c
    simp only [textS, List.length_append, List.length_cons]; omega
theorem runesOf_len0 (s : ByteArray) : ∀ fuel pos, (runesOf s fuel pos).length ≤ fuel
  | 0, _ => by simp [runesOf]
  | f + 1, pos => by
    unfold runesOf
    split
    · have := runesOf_len0 s f (pos + (Utf8.decode s pos).2); simp; omega
    · simp
theorem extract_body (t : Bs) : (bs (34 :: (t ++ [34]))).extract 1 ((bs (34 :: (t ++ [34]))).size - 1) = bs t := by
  have e : (bs (34 :: (t ++ [34]))).size = t.length + 2 := by rw [size_bs]; simp
  have : ((bs (34 :: (t ++ [34]))).extract 1 ((bs (34 :: (t ++ [34]))).size - 1)).data.toList = t := by
    rw [e, ByteArray.data_extract, Array.toList_extract, toL_bs]
    simp [List.extract]
  rw [← bs_self (ByteArray.extract _ _ _), this]
set_option maxRecDepth 100000 in
set_option maxHeartbeats 2000000 in
theorem headBody_calls (s : ByteArray) (st : Int) (hs : s.size ≤ 1000000) (w : World) :
    Calls Tryd.prog 20 #[.string s, .int .u64 st] w fun e w' => e = .returned (.string (bs (textS st (runesOf s s.size 0)).1)) ∧ Below w.heap.size w w' := by
  have HA : Hid (StyAt (w.alloc (.cells #[.int .u64 st] 67)) w.heap.size st) := hidden (StyAt.new w st)
  have K := hidden (text_calls w.heap.size st s hs (w.alloc (.cells #[.int .u64 st] 67)) HA.out)
  obtain ⟨B, hB⟩ : ∃ B, (textS st (runesOf s s.size 0)) = B := ⟨_, rfl⟩
  rw [hB] at K ⊢
  have hx := extract_body B.1
  have hz : (bs (34 :: (B.1 ++ [34]))).size = B.1.length + 2 := by rw [size_bs]; simp
  obtain ⟨X, hX⟩ : ∃ X, bs (34 :: (B.1 ++ [34])) = X := ⟨_, rfl⟩
  have hL : B.1.length ≤ 12 * s.size := by rw [← hB]; exact Nat.le_trans (textS_len0 _ _) (Nat.mul_le_mul_left _ (runesOf_len0 s _ _))
  rw [hX] at K hx hz
  have HX := hidden hx
  have hzi : (X.size : Int) ≤ 12000002 := by omega
  have hz2 : 2 ≤ X.size := by omega
  have HB2 := hidden hB
  clear hx hX hB hz hL
  go_enter Tryd.func20, Tryd.ntmps20
  go_wp2_with (go_at_call 27; go_must (refine K.out.mono ?_; rintro e w1 ⟨rfl, hS, hG⟩; have HG := hidden hG; clear hS hG))
  go_ret
  refine ⟨congrArg (fun x => Ending.returned (.string x)) HX.out, (below_alloc0 w _).grown HG.out (below_alloc0 w _).size (fun k hk => by cases hk; exact Nat.le_refl _)⟩
theorem blank0_calls (g : Nat) (w : World) (h : StyAt w g 0) : Calls Tryd.prog 26 #[.pointer (some ⟨g, 0, none⟩)] w fun e w' => e = .returned (.string ⟨#[]⟩) ∧ w' = w := by
  have hcell : w.cell? ⟨g, 0, none⟩ = some (.int .u64 0) := h.cell 0
  go_enter Tryd.func26, Tryd.ntmps26
  go_wp2
  go_loopw [3] (fun v wr => v = .string ⟨#[]⟩ ∧ w = wr) (fun _ _ => 0)
  case atStart => exact ⟨rfl, rfl⟩
  case round =>
    obtain ⟨rfl, rfl⟩ := hrel
    go_wp2
    go_ret
    exact ⟨rfl, rfl⟩
def fieldV (name : ByteArray) (k : Int) (b m : Bool) (n : Int) (t : ByteArray) (A : Option Addr) (z c : Nat) : Value := .agg #[.string name, .int .u8 k, .bool b, .bool m, .int .u64 n, .string t, .slice A z c]
def treeV (k : Int) (b m : Bool) (n : Int) (t : ByteArray) (A : Option Addr) (z c : Nat) (A2 : Option Addr) (z2 c2 : Nat) : Value := .agg #[.int .u8 k, .bool b, .bool m, .int .u64 n, .string t, .slice A z c, .slice A2 z2 c2]
end Go.Proofs.YtbdmdajbdmdknaaDoor
