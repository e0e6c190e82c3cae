/- (*spec.headStyle).value of a field that is an object. -/
import Derived.Test.YtbdmdajbdmdknaaDoorM12
namespace Go.Proofs.YtbdmdajbdmdknaaDoor
open Go.RowKit
set_option linter.unusedVariables false
set_option linter.unusedSimpArgs false

/-- A world between the calls of one statement: g's style, and a row that is kept. -/
structure SR (w0 : World) (g gb : Nat) (vs : List Value) (W : World) : Prop where
  se : SE w0 g W
  row : Row W gb 29 vs
theorem SR.drew {w0 W : World} {g gb : Nat} {vs : List Value} (h : SR w0 g gb vs W) : SR w0 g gb vs W.drew := ⟨h.se.drew, h.row⟩
theorem SR.grown {w0 W W2 : World} {g gb : Nat} {vs : List Value} (h : SR w0 g gb vs W) (h2 : SE w0 g W2) (hG : W.grownBy W2 (some g)) (hne : gb ≠ g) : SR w0 g gb vs W2 := ⟨h2, h.row.grown hG (fun e => hne (Option.some.inj e))⟩
theorem one_size : (⟨#[123]⟩ : ByteArray).size = 1 ∧ (⟨#[58]⟩ : ByteArray).size = 1 ∧ (⟨#[49]⟩ : ByteArray).size = 1 ∧ (⟨#[125]⟩ : ByteArray).size = 1 := ⟨rfl, rfl, rfl, rfl⟩
theorem obj5_parses (b0 B b2 b3 b4 : Bs) (h0 : AllWS b0) (hB : RawIn B) (h2 : AllWS b2) (h3 : AllWS b3) (h4 : AllWS b4) : Parses 1 (123 :: (b0 ++ (34 :: (B ++ (34 :: (b2 ++ (58 :: (b3 ++ (49 :: (b4 ++ [125])))))))))) (.obj [(B, .num [49])]) := by
  have h := obj_parses (n := 0) b0 [⟨[], B, b2, b3, [49], .num [49], b4⟩] h0 (fun q hq => by
    simp only [List.mem_cons, List.not_mem_nil, or_false] at hq
    subst hq
    exact ⟨AllWS.nil, hB, h2, h3, num_parses 0 [49] (fun y hy => by simp at hy; subst hy; exact ⟨by decide, by decide⟩) (by simp), h4⟩)
  simpa [bodyO, tailO, onePo, kvO] using h
theorem str5 (o1 B o2 o3 o4 : Bs) : (⟨#[123]⟩ : ByteArray) ++ bs o1 ++ bs (34 :: (B ++ [34])) ++ bs o2 ++ ⟨#[58]⟩ ++ bs o3 ++ ⟨#[49]⟩ ++ bs o4 ++ ⟨#[125]⟩ = bs (123 :: (o1 ++ (34 :: (B ++ (34 :: (o2 ++ (58 :: (o3 ++ (49 :: (o4 ++ [125])))))))))) := by
  rw [show (⟨#[123]⟩ : ByteArray) = bs [123] from rfl, show (⟨#[58]⟩ : ByteArray) = bs [58] from rfl, show (⟨#[49]⟩ : ByteArray) = bs [49] from rfl, show (⟨#[125]⟩ : ByteArray) = bs [125] from rfl]
  simp only [bs_app, List.append_assoc, List.cons_append, List.nil_append]
set_option maxRecDepth 100000 in
set_option maxHeartbeats 4000000 in
theorem value5E {w0 W : World} {g : Nat} (h : SE w0 g W) (f : FD) (hk : f.kind = 5) (ht : f.text.size ≤ 200) (A : Option Addr) (z c : Nat) :
    Calls Tryd.prog 28 #[.pointer (some ⟨g, 0, none⟩), valV f A z c] W (VE w0 g f) := by
  obtain ⟨name, kind, is_, minus, num, text, list⟩ := f
  obtain rfl : kind = 5 := hk
  have HT : Hid (text.size ≤ 200) := hidden ht
  have hgW := h.lt
  unfold valV fieldV
  dsimp only
  have HS : Hid (SR w0 g W.heap.size [.string name, .int .u8 5, .bool is_, .bool minus, .int .u64 num, .string text, .slice A z c] (W.alloc (.cells #[.string name, .int .u8 5, .bool is_, .bool minus, .int .u64 num, .string text, .slice A z c] 29))) := hidden ⟨h.alloc _, Row.new W 29 [.string name, .int .u8 5, .bool is_, .bool minus, .int .u64 num, .string text, .slice A z c]⟩
  have HNE : Hid (W.heap.size ≠ g) := hidden (by omega)
  have KT := hidden (fun W (h : SE w0 g W) => textE h text (by have := HT.out; omega))
  obtain ⟨e1, e2, e3, e4⟩ := one_size
  have l0 : ∀ s : ByteArray, s.size ≤ 3000000 → ¬ 9223372036854775807 < s.size := fun s h => by omega
  clear h ht hgW
  go_enter Tryd.func28, Tryd.ntmps28
  go_upto_region 15 with (fail)
  refine wpAbs (fun W1 => Hid (SR w0 g W.heap.size [.string name, .int .u8 5, .bool is_, .bool minus, .int .u64 num, .string text, .slice A z c] W1)) HS ?_
  clear HS
  rintro W1 HS
  obtain ⟨gb, hgb⟩ : ∃ gb, W.heap.size = gb := ⟨_, rfl⟩
  rw [hgb] at HS HNE ⊢
  clear hgb
  have hc5 := HS.out.row.cell 5
  simp only [List.getElem?_cons_succ, List.getElem?_cons_zero] at hc5
  clear l0
  go_region_with (first
    | (go_at_call 27; ((with_reducible refine (KT.out _ HS2.out.se).mono ?_); (rintro e W3 ⟨B, rfl, hTx, h3, hG⟩; have HS3 := hidden (SR.grown HS2.out h3 hG HNE.out); have HTx := hidden hTx; have zT : (bs (34 :: (B ++ [34]))).size ≤ 2402 := (by have := hTx.len; have := HT.out; rw [size_bs]; simp only [List.length_cons, List.length_append, List.length_nil]; omega); obtain ⟨TT, hTT⟩ : ∃ O, bs (34 :: (B ++ [34])) = O := ⟨_, rfl⟩; rw [hTT] at zT ⊢; have HTT := hidden hTT; have n2 : ¬ 9223372036854775807 < 1 + O1.size + TT.size := (by omega); clear hTx h3 hG hTT)))
    | (go_at_call 26; first
      | ((with_reducible refine (blankE (HS5.out).se).mono ?_); (rintro e W6 ⟨o4, rfl, hb, h2, hG⟩; have HS6 := hidden (SR.grown (HS5.out) h2 hG HNE.out); have hc6 : W6.cell? ⟨gb, 5, none⟩ = some (.string text) := HS6.out.row.cell 5; have HB4 := hidden hb; have z4 : (bs o4).size ≤ 65536 := hb.len; obtain ⟨O4, hO⟩ : ∃ O, bs o4 = O := ⟨_, rfl⟩; rw [hO] at z4 ⊢; have HO4 := hidden hO; have n7 : ¬ 9223372036854775807 < 1 + O1.size + TT.size + O2.size + 1 + O3.size + 1 + O4.size := (by omega); have n8 : ¬ 9223372036854775807 < 1 + O1.size + TT.size + O2.size + 1 + O3.size + 1 + O4.size + 1 := (by omega); clear hb h2 hG hO))
      | ((with_reducible refine (blankE (HS4.out).se).mono ?_); (rintro e W5 ⟨o3, rfl, hb, h2, hG⟩; have HS5 := hidden (SR.grown (HS4.out) h2 hG HNE.out); have hc5 : W5.cell? ⟨gb, 5, none⟩ = some (.string text) := HS5.out.row.cell 5; have HB3 := hidden hb; have z3 : (bs o3).size ≤ 65536 := hb.len; obtain ⟨O3, hO⟩ : ∃ O, bs o3 = O := ⟨_, rfl⟩; rw [hO] at z3 ⊢; have HO3 := hidden hO; have n5 : ¬ 9223372036854775807 < 1 + O1.size + TT.size + O2.size + 1 + O3.size := (by omega); have n6 : ¬ 9223372036854775807 < 1 + O1.size + TT.size + O2.size + 1 + O3.size + 1 := (by omega); clear hb h2 hG hO))
      | ((with_reducible refine (blankE (HS3.out).se).mono ?_); (rintro e W4 ⟨o2, rfl, hb, h2, hG⟩; have HS4 := hidden (SR.grown (HS3.out) h2 hG HNE.out); have hc4 : W4.cell? ⟨gb, 5, none⟩ = some (.string text) := HS4.out.row.cell 5; have HB2 := hidden hb; have z2 : (bs o2).size ≤ 65536 := hb.len; obtain ⟨O2, hO⟩ : ∃ O, bs o2 = O := ⟨_, rfl⟩; rw [hO] at z2 ⊢; have HO2 := hidden hO; have n3 : ¬ 9223372036854775807 < 1 + O1.size + TT.size + O2.size := (by omega); have n4 : ¬ 9223372036854775807 < 1 + O1.size + TT.size + O2.size + 1 := (by omega); clear hb h2 hG hO))
      | ((with_reducible refine (blankE (HS.out).se).mono ?_); (rintro e W2 ⟨o1, rfl, hb, h2, hG⟩; have HS2 := hidden (SR.grown (HS.out) h2 hG HNE.out); have hc2 : W2.cell? ⟨gb, 5, none⟩ = some (.string text) := HS2.out.row.cell 5; have HB1 := hidden hb; have z1 : (bs o1).size ≤ 65536 := hb.len; obtain ⟨O1, hO⟩ : ∃ O, bs o1 = O := ⟨_, rfl⟩; rw [hO] at z1 ⊢; have HO1 := hidden hO; have n1 : ¬ 9223372036854775807 < 1 + O1.size := (by omega); clear hb h2 hG hO))
      | ((with_reducible refine (blankE (SR.drew HS.out).se).mono ?_); (rintro e W2 ⟨o1, rfl, hb, h2, hG⟩; have HS2 := hidden (SR.grown (SR.drew HS.out) h2 hG HNE.out); have hc2 : W2.cell? ⟨gb, 5, none⟩ = some (.string text) := HS2.out.row.cell 5; have HB1 := hidden hb; have z1 : (bs o1).size ≤ 65536 := hb.len; obtain ⟨O1, hO⟩ : ∃ O, bs o1 = O := ⟨_, rfl⟩; rw [hO] at z1 ⊢; have HO1 := hidden hO; have n1 : ¬ 9223372036854775807 < 1 + O1.size := (by omega); clear hb h2 hG hO))))
  all_goals go_wp2
  all_goals go_ret
  all_goals refine ⟨_, _, congrArg (fun x => Ending.returned (.string x)) (show ⟨#[123]⟩ ++ O1 ++ TT ++ O2 ++ ⟨#[58]⟩ ++ O3 ++ ⟨#[49]⟩ ++ O4 ++ ⟨#[125]⟩ = bs (123 :: (o1 ++ (34 :: (B ++ (34 :: (o2 ++ (58 :: (o3 ++ (49 :: (o4 ++ [125])))))))))) by rw [← HO1.out, ← HTT.out, ← HO2.out, ← HO3.out, ← HO4.out]; exact str5 _ _ _ _ _), ⟨obj5_parses _ _ _ _ _ HB1.out.ws HTx.out.raw HB2.out.ws HB3.out.ws HB4.out.ws, (fun e => by cases e), (fun _ s e => by cases e), (fun t e => by cases e), ?_⟩, HS6.out.se⟩
  all_goals
    have q1 := HB1.out.len
    have q2 := HB2.out.len
    have q3 := HB3.out.len
    have q4 := HB4.out.len
    have q5 := HTx.out.len
    have q6 := HT.out
    simp only [List.length_cons, List.length_append, List.length_nil]
    omega
end Go.Proofs.YtbdmdajbdmdknaaDoor
