/- Texts that are read, and the walk of FnPartNumber. -/
import Derived.Test.YtmibnnmampfalaaDoorNum
namespace Go.Proofs.YtmibnnmampfalaaDoor
open Go.RowKit
set_option linter.unusedVariables false
set_option linter.unusedSimpArgs false

theorem strOf_size (t : List Int) : (strOfNums t).size = t.length := by
  show (strOfNums t).data.toList.length = _
  rw [strOfNums_data, List.length_map]
theorem strOf_get {t : List Int} (hb : IsB t) (j : Nat) (hj : j < t.length) : (((strOfNums t).data.toList.getD j 0).toNat : Int) = gi t j := by
  rw [strOfNums_data]
  have h := hb _ (List.getElem_mem hj)
  simp only [List.getD_eq_getElem?_getD, List.getElem?_map, List.getElem?_eq_getElem hj, Option.map_some, Option.getD_some, gi, UInt8.toNat_ofNat']
  omega
theorem rd_bytes (w : World) (e : Nat) {t : List Int} (hb : IsB t) : Rd (Go.Lib.bytesWorld w e (strOfNums t)) (some ⟨w.heap.size, 0, none⟩) (nums .u8 t) := by
  intro i v hv
  have hi : i < t.length := by rw [← nums_len .u8]; exact (List.getElem?_eq_some_iff.1 hv).1
  rw [nums_at _ _ _ hi] at hv
  cases hv
  refine ⟨_, _, rfl, by rw [Go.Lib.bytesWorld_size]; omega, ?_⟩
  rw [Nat.zero_add, Go.Lib.bytesWorld_cell _ _ _ _ (by rw [strOf_size]; exact hi), strOf_get hb i hi]
theorem below_bytes (w : World) (e : Nat) (s : ByteArray) : Below w.heap.size w (Go.Lib.bytesWorld w e s) :=
  ⟨rfl, rfl, rfl, by rw [Go.Lib.bytesWorld_size]; omega, fun k hk => Go.Lib.bytesWorld_at_old w e s k hk⟩
theorem numOf_snoc (l : List Int) (x : Int) : numOf (l ++ [x]) = numOf l * 256 + x.toNat := by simp [numOf, List.foldl_append]
theorem numOf_lt {l : List Int} (hb : IsB l) : ∀ k, k ≤ l.length → numOf (l.take k) < 256 ^ k
  | 0, _ => by simp [numOf]
  | k + 1, h => by
    rw [take_gi l (by omega), numOf_snoc, Nat.pow_succ]
    have := numOf_lt hb k (by omega)
    have := (gi_byte hb k).2
    have := (gi_byte hb k).1
    omega
theorem partOf_calls (A : Option Addr) (n c : Nat) (l : List Int) (w : World) (h : Rd w A (nums .u8 l)) (hn : l.length = n) (hb : IsB l) (hc : n ≤ c) (hN : n ≤ 100000) :
    Calls Tryd.prog 12 #[.slice A n c] w (NewB w (encF (alpha true) l)) := by
  have H := hidden h
  have Hn := hidden hn
  clear h hn
  go_enter Tryd.func12, Tryd.ntmps12
  go_wp2_with (go_at_call 22; go_must (refine (partEncoded_calls A n c l _ H.out Hn.out hb hc hN).mono ?_; rintro e w1 ⟨v1, rfl, hO1, hB1⟩))
  go_ret
  exact ⟨v1, rfl, hO1, hB1⟩
end Go.Proofs.YtmibnnmampfalaaDoor
