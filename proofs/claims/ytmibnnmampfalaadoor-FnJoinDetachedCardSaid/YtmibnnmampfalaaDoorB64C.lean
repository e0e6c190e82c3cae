/- The four encodings. -/
import Derived.Test.YtmibnnmampfalaaDoorB64B
namespace Go.Proofs.YtmibnnmampfalaaDoor
open Go.RowKit
set_option linter.unusedVariables false
set_option linter.unusedSimpArgs false

theorem size_enc : (Tryd.prog.info? 86).map (·.size) = some 322 := by kernel_rfl
/-- An encoding in memory of the call's own. -/
structure NewEnc (w : World) (url : Bool) (pad : Int) (e : Ending) (w' : World) (g : Nat) : Prop where
  e_eq : e = .returned (.pointer (some ⟨g, 0, none⟩))
  enc : EncAt w' g (alpha url) (tab url) pad
  own : w.heap.size ≤ g
  below : Below w.heap.size w w'
set_option maxRecDepth 100000 in
set_option maxHeartbeats 1000000 in
theorem withPad_calls (url : Bool) (w : World) :
    Calls Tryd.prog 40 #[.agg (encCells (alpha url) (tab url) 61).toArray, .int .i32 (-1)] w fun e w' => NewEnc w url (-1) e w' w.heap.size := by
  have hE : EncAt (w.alloc (.cells (encCells (alpha url) (tab url) 61).toArray 86)) w.heap.size (alpha url) (tab url) 61 := ⟨alpha_len url, tab_len url, Row.new w _ _⟩
  have hB := below_alloc0 w (.cells (encCells (alpha url) (tab url) 61).toArray 86)
  go_enter Tryd.func40, Tryd.ntmps40
  have hset := hidden (enc_setPad (pad := 61) (v := -1) (alpha_len url) (tab_len url))
  generalize encCells (alpha url) (tab url) 61 = cs at *
  have c1 := hE.padc
  have f1 := hE.row.free 320
  go_wp2
  go_ret
  rw [hset.out]
  exact ⟨rfl, ⟨alpha_len url, tab_len url, Row.new w _ _⟩, Nat.le_refl _, below_alloc0 w _⟩
set_option maxRecDepth 100000 in
set_option maxHeartbeats 1000000 in
theorem zzRawURL_calls (w : World) : Calls Tryd.prog 38 #[] w fun e w' => ∃ g, NewEnc w true (-1) e w' g := by
  have hS : Hid (List.map (fun b : UInt8 => (b.toNat : Int)) (ByteArray.mk #[65, 66, 67, 68, 69, 70, 71, 72, 73, 74, 75, 76, 77, 78, 79, 80, 81, 82, 83, 84, 85, 86, 87, 88, 89, 90, 97, 98, 99, 100, 101, 102, 103, 104, 105, 106, 107, 108, 109, 110, 111, 112, 113, 114, 115, 116, 117, 118, 119, 120, 121, 122, 48, 49, 50, 51, 52, 53, 54, 55, 56, 57, 45, 95]).data.toList = alpha true) := hidden (by kernel_rfl)
  have hn := encCells_len (pad := 61) (alpha_len true) (tab_len true)
  go_enter Tryd.func38, Tryd.ntmps38
  go_wp2_with (first
    | (go_at_call 39; go_must (refine (newEnc_calls true _ rfl hS.out _).mono ?_; rintro e w1 ⟨rfl, hE1, hB1⟩; have c1 := hE1.row.cell 0; have f1 := hE1.row.free 0))
    | (with_reducible refine at_dst 3 ?_; go_must (refine walk_load_row rfl _ _ rfl hE1.row rfl Tryd.underlying86 rfl (by rw [hn]; exact size_enc) ?_))
    | (go_at_call 40; go_must (refine (withPad_calls true _).mono ?_; rintro e w2 ⟨rfl, hE2, hg2, hB2⟩)))
  go_ret
  exact ⟨_, rfl, hE2, Nat.le_trans hB1.size hg2, below_next hB1 hB2⟩
set_option maxRecDepth 100000 in
set_option maxHeartbeats 1000000 in
theorem zzRawStd_calls (w : World) : Calls Tryd.prog 72 #[] w fun e w' => ∃ g, NewEnc w false (-1) e w' g := by
  have hS : Hid (List.map (fun b : UInt8 => (b.toNat : Int)) (ByteArray.mk #[65, 66, 67, 68, 69, 70, 71, 72, 73, 74, 75, 76, 77, 78, 79, 80, 81, 82, 83, 84, 85, 86, 87, 88, 89, 90, 97, 98, 99, 100, 101, 102, 103, 104, 105, 106, 107, 108, 109, 110, 111, 112, 113, 114, 115, 116, 117, 118, 119, 120, 121, 122, 48, 49, 50, 51, 52, 53, 54, 55, 56, 57, 43, 47]).data.toList = alpha false) := hidden (by kernel_rfl)
  have hn := encCells_len (pad := 61) (alpha_len false) (tab_len false)
  go_enter Tryd.func72, Tryd.ntmps72
  go_wp2_with (first
    | (go_at_call 39; go_must (refine (newEnc_calls false _ rfl hS.out _).mono ?_; rintro e w1 ⟨rfl, hE1, hB1⟩; have c1 := hE1.row.cell 0; have f1 := hE1.row.free 0))
    | (with_reducible refine at_dst 3 ?_; go_must (refine walk_load_row rfl _ _ rfl hE1.row rfl Tryd.underlying86 rfl (by rw [hn]; exact size_enc) ?_))
    | (go_at_call 40; go_must (refine (withPad_calls false _).mono ?_; rintro e w2 ⟨rfl, hE2, hg2, hB2⟩)))
  go_ret
  exact ⟨_, rfl, hE2, Nat.le_trans hB1.size hg2, below_next hB1 hB2⟩
set_option maxRecDepth 100000 in
set_option maxHeartbeats 1000000 in
theorem zzURL_calls (w : World) : Calls Tryd.prog 71 #[] w fun e w' => ∃ g, NewEnc w true 61 e w' g := by
  have hS : Hid (List.map (fun b : UInt8 => (b.toNat : Int)) (ByteArray.mk #[65, 66, 67, 68, 69, 70, 71, 72, 73, 74, 75, 76, 77, 78, 79, 80, 81, 82, 83, 84, 85, 86, 87, 88, 89, 90, 97, 98, 99, 100, 101, 102, 103, 104, 105, 106, 107, 108, 109, 110, 111, 112, 113, 114, 115, 116, 117, 118, 119, 120, 121, 122, 48, 49, 50, 51, 52, 53, 54, 55, 56, 57, 45, 95]).data.toList = alpha true) := hidden (by kernel_rfl)
  go_enter Tryd.func71, Tryd.ntmps71
  go_wp2_with (go_at_call 39; go_must (refine (newEnc_calls true _ rfl hS.out _).mono ?_; rintro e w1 ⟨rfl, hE1, hB1⟩))
  go_ret
  exact ⟨_, rfl, hE1, Nat.le_refl _, hB1⟩
set_option maxRecDepth 100000 in
set_option maxHeartbeats 1000000 in
theorem zzStdPadded_calls (w : World) : Calls Tryd.prog 73 #[] w fun e w' => ∃ g, NewEnc w false 61 e w' g := by
  have hS : Hid (List.map (fun b : UInt8 => (b.toNat : Int)) (ByteArray.mk #[65, 66, 67, 68, 69, 70, 71, 72, 73, 74, 75, 76, 77, 78, 79, 80, 81, 82, 83, 84, 85, 86, 87, 88, 89, 90, 97, 98, 99, 100, 101, 102, 103, 104, 105, 106, 107, 108, 109, 110, 111, 112, 113, 114, 115, 116, 117, 118, 119, 120, 121, 122, 48, 49, 50, 51, 52, 53, 54, 55, 56, 57, 43, 47]).data.toList = alpha false) := hidden (by kernel_rfl)
  go_enter Tryd.func73, Tryd.ntmps73
  go_wp2_with (go_at_call 39; go_must (refine (newEnc_calls false _ rfl hS.out _).mono ?_; rintro e w1 ⟨rfl, hE1, hB1⟩))
  go_ret
  exact ⟨_, rfl, hE1, Nat.le_refl _, hB1⟩
end Go.Proofs.YtmibnnmampfalaaDoor
