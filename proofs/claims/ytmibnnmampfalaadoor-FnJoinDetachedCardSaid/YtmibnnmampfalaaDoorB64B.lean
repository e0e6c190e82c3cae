/- A new encoding out of its letters. -/
import Derived.Test.YtmibnnmampfalaaDoorB64A
namespace Go.Proofs.YtmibnnmampfalaaDoor
open Go.RowKit
set_option linter.unusedVariables false
set_option linter.unusedSimpArgs false

theorem enc_setPad {al dm : List Int} {pad v : Int} (h : al.length = 64) (h' : dm.length = 256) : (encCells al dm pad).set 320 (.int .i32 v) = encCells al dm v := by
  rw [encCells, List.set_append_right _ _ (by rw [nums_len, h]; omega), nums_len, h, List.set_append_right _ _ (by rw [nums_len, h']; omega), nums_len, h']
  rfl
theorem EncAt.setPad {w : World} {g : Nat} {al dm : List Int} {pad : Int} (h : EncAt w g al dm pad) (v : Int) : EncAt (w.setCell ⟨g, 320, none⟩ (.int .i32 v)) g al dm v := by
  refine ⟨h.la, h.ld, ?_⟩
  have := h.row.set 320 (.int .i32 v)
  rwa [enc_setPad h.la h.ld] at this
theorem enc_splice1 {al dm M : List Int} {pad : Int} (h : al.length = 64) : (encCells al dm pad).take 0 ++ nums .u8 M ++ (encCells al dm pad).drop (0 + 64) = encCells M dm pad := by
  rw [List.take_zero, List.nil_append, Nat.zero_add, encCells, List.drop_append_of_le_length (by rw [nums_len, h]; omega), List.drop_of_length_le (by rw [nums_len, h]; omega), List.nil_append]; rfl
theorem enc_splice2 {al dm M : List Int} {pad : Int} (h : al.length = 64) (h' : dm.length = 256) : (encCells al dm pad).take 64 ++ nums .u8 M ++ (encCells al dm pad).drop (64 + 256) = encCells al M pad := by
  have h1 : (encCells al dm pad).take 64 = nums .u8 al := List.take_left' (by rw [nums_len, h])
  have h2 : (encCells al dm pad).drop (64 + 256) = [.int .i32 pad, .bool false] := by
    rw [encCells, ← List.append_assoc]; exact List.drop_left' (by rw [List.length_append, nums_len, nums_len, h, h'])
  rw [h1, h2, List.append_assoc]; rfl
theorem text_at {s : ByteArray} {M : List Int} (h : s.data.toList.map (fun b => (b.toNat : Int)) = M) (k : Nat) (hk : k < s.size) : ((s[k]'hk).toNat : Int) = gi M k := by
  subst h
  have h2 : k < s.data.size := hk
  simp only [gi, List.getD_eq_getElem?_getD, List.getElem?_map, Array.getElem?_toList, Array.getElem?_eq_getElem h2, Option.map_some, Option.getD_some]
  rfl
set_option maxRecDepth 100000 in
set_option maxHeartbeats 1000000 in
theorem newEnc_calls (url : Bool) (s : ByteArray) (hs : s.size = 64) (hS : s.data.toList.map (fun b => (b.toNat : Int)) = alpha url) (w : World) :
    Calls Tryd.prog 39 #[.string s] w fun e w' => e = .returned (.pointer (some ⟨w.heap.size, 0, none⟩)) ∧ EncAt w' w.heap.size (alpha url) (tab url) 61 ∧ Below w.heap.size w w' := by
  have HS := hidden hS
  clear hS
  go_enter Tryd.func39, Tryd.ntmps39
  go_wp2_with (first
    | (with_reducible refine at_dst 9 ?_; go_must (refine walk_alloc rfl rfl info_enc ?_; refine wpAbsL (fun W => EncAt W w.heap.size (List.replicate 64 0) (List.replicate 256 0) 0 ∧ Below w.heap.size w W) ⟨⟨List.length_replicate, List.length_replicate, Row.new w _ _⟩, below_alloc0 w _⟩ ?_; rintro w1 ⟨hE1, hB1⟩; have c1 := hE1.padc; have f1 := hE1.row.free 320))
    | (with_reducible refine at_dst 18 ?_; go_must (refine walk_copy_text rfl _ _ rfl Tryd.underlying22 size_u8' rfl rfl (hE1.setPad 61).row HS.out hs (by rw [encCells_len List.length_replicate List.length_replicate]; omega) ?_; intro w2 hR2 hg2 hz2; clear c1 f1))
    | (with_reducible refine at_dst 23 ?_; go_must (refine walk_copy_text rfl _ _ rfl Tryd.underlying22 size_u8' rfl rfl hR2 (M := List.replicate 256 255) (by kernel_rfl) (by kernel_rfl) (by rw [enc_splice1 List.length_replicate, encCells_len (alpha_len url) List.length_replicate]; omega) ?_; intro w3 hR3 hg3 hz3)))
  rw [enc_splice1 List.length_replicate, enc_splice2 (alpha_len url) List.length_replicate] at hR3
  have hE3 : EncAt w3 w.heap.size (alpha url) (tabUpto url 0) 61 := ⟨alpha_len url, List.length_replicate, hR3⟩
  have hB3 : Below w.heap.size w w3 := ((hB1.setCell (Nat.le_refl _) _).grown hg2 (by simp; exact hB1.size) (by rintro k ⟨⟩; exact Nat.le_refl _)).grown hg3 (by rw [hz2]; simp; exact hB1.size) (by rintro k ⟨⟩; exact Nat.le_refl _)
  clear hE1 hR2 hg2 hz2 hR3 hg3 hz3
  go_loopw [4] (fun i wr => ∃ k : Nat, k ≤ 64 ∧ i = .int .i64 k ∧ EncAt wr w.heap.size (alpha url) (tabUpto url k) 61 ∧ Below w.heap.size w wr) (fun i _ => 64 - (intOf i).toNat)
  case atStart => exact ⟨0, by omega, rfl, hE3, hB3⟩
  case round =>
    obtain ⟨k, hk, rfl, hE, hB⟩ := hrel
    clear hE3 hB3 hB1
    by_cases hlt : k < 64
    · obtain ⟨c, hc⟩ : ∃ c, s[k]'(by omega) = c := ⟨_, rfl⟩
      have hca := text_at HS.out k (by omega)
      rw [hc] at hca
      obtain ⟨a, ha⟩ : ∃ a : Nat, c.toNat = a := ⟨_, rfl⟩
      rw [ha] at hca
      obtain ⟨h0, h1, h2, h3, h4, h5⟩ := alpha_at url hlt
      have htb := tabUpto_at url hlt
      have HE : Hid (EncAt (wr.setCell ⟨w.heap.size, 64 + a, none⟩ (.int .u8 (k : Int))) w.heap.size (alpha url) (tabUpto url (k + 1)) 61) := hidden (by
        have := hE.setDigit a (by omega) (k : Int)
        rw [tabUpto, ← hca, Int.toNat_natCast]; exact this)
      rw [← hca] at h0 h1 h2 h3 h4 h5 htb
      rw [Int.toNat_natCast] at htb
      have hd := hE.digit a (by omega)
      rw [htb] at hd
      have hfz := hE.row.free (64 + a)
      have hn10 : ¬ a = 10 := by omega
      have hn13 : ¬ a = 13 := by omega
      have hq10 : ((a : Int) == 10) = false := by simpa using h2
      have hq13 : ((a : Int) == 13) = false := by simpa using h3
      have ha256 : a < 256 := by omega
      have ha256i : (a : Int) < 256 := by omega
      have HB := hidden (hB.setCell (p := ⟨w.heap.size, 64 + a, none⟩) (Nat.le_refl w.heap.size) (.int .u8 (k : Int)))
      clear hE hB hca h0 h1 h2 h3 h4 h5 htb
      go_wp2
      go_quiet (fail)
      go_wp2
      refine wpAbs (fun W => W.cell? ⟨w.heap.size, 64 + a, none⟩ = some (.int .u8 255) ∧ W.frozen? ⟨w.heap.size, 64 + a, none⟩ = false ∧ Hid (EncAt (W.setCell ⟨w.heap.size, 64 + a, none⟩ (.int .u8 (k : Int))) w.heap.size (alpha url) (tabUpto url (k + 1)) 61) ∧ Hid (Below w.heap.size w (W.setCell ⟨w.heap.size, 64 + a, none⟩ (.int .u8 (k : Int))))) ⟨hd, hfz, hidden (HE.out.drewN _), hidden (below_drewN0 HB.out _)⟩ ?_
      clear hd hfz HE HB
      rintro W ⟨hd, hfz, HE, HB⟩
      have hku : IntKind.u8.wrap (k : Int) = (k : Int) := by rw [IntKind.wrap_u8]; omega
      go_still_tail 9, (by kernel_rfl)
      change wpList _ _ _ _ _ W.drew
      go_wp2
      go_roundw
      case rel => exact ⟨k + 1, by omega, by go_num, HE.out.drewN 1, below_drewN0 HB.out 1⟩
      case measure => simp [intOf]; omega
    · obtain rfl : k = 64 := by omega
      go_wp2
      go_ret
      exact ⟨rfl, hE, hB⟩
end Go.Proofs.YtmibnnmampfalaaDoor
