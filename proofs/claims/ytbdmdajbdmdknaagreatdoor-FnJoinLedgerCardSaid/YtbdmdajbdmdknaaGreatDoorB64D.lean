/- How long the letters of some bytes are, and the encoder. -/
import Derived.Test.YtbdmdajbdmdknaaGreatDoorM9
namespace Go.Proofs.YtbdmdajbdmdknaaGreatDoor
open Go.RowKit
set_option linter.unusedVariables false
set_option linter.unusedSimpArgs false

theorem getEnc_calls (w : World) : Calls Tryz.prog 74 #[] w fun e w' => ∃ g, e = .returned (.iface 161 (.pointer (some ⟨g, 0, none⟩))) ∧ EncAt w' g (alpha true) (tab true) (-1) ∧ w.heap.size ≤ g ∧ Below w.heap.size w w' := by
  go_enter Tryz.func74, Tryz.ntmps74
  go_wp2_with (go_at_call 86; go_must (refine (zzRawURL_calls _).mono ?_; rintro e w1 ⟨g, rfl, hE1, hg1, hB1⟩))
  go_ret
  exact ⟨_, rfl, hE1, hg1, hB1⟩
def encLen (n : Nat) : Nat := n / 3 * 4 + (n % 3 * 8 + 5) / 6
theorem encLen_walk (n m : Nat) (hn : n ≤ 100000) (hm : m = encLen n) : ∃ d r q : Nat, (n : Int).tdiv 3 = (d : Int) ∧ (n : Int).tmod 3 = (r : Int) ∧ d ≤ 100000 ∧ r < 3 ∧ ((r : Int) * 8 + 5).tdiv 6 = (q : Int) ∧ q ≤ 3 ∧ (d : Int) * 4 + (q : Int) = (m : Int) := by
  refine ⟨n / 3, n % 3, (n % 3 * 8 + 5) / 6, ?_, ?_, by omega, by omega, ?_, by omega, ?_⟩
  · rw [Int.tdiv_eq_ediv_of_nonneg (by omega)]; omega
  · rw [Int.tmod_eq_emod_of_nonneg (by omega)]; omega
  · rw [Int.tdiv_eq_ediv_of_nonneg (by omega)]; omega
  · subst hm; unfold encLen; omega
theorem wrap64_id (x : Int) (h0 : 0 ≤ x) (h1 : x ≤ 10000000) : wrap64 x = x := by unfold wrap64; omega
theorem encodedLen_calls (g : Nat) (al dm : List Int) (n m : Nat) (hn : n ≤ 100000) (hm : m = encLen n) (w : World) (hE : EncAt w g al dm (-1)) :
    Calls Tryz.prog 177 #[.pointer (some ⟨g, 0, none⟩), .int .i64 n] w fun e w' => e = .returned (.int .i64 m) ∧ w' = w := by
  have c1 := hE.padc
  obtain ⟨d, r, q, h1, h2, hd, hr, h3, hq, h4⟩ := encLen_walk n m hn hm
  have hmb : m ≤ 400003 := by clear hm; omega
  clear hm
  have w1 : wrap64 (d : Int) = d := wrap64_id _ (by omega) (by omega)
  have w2 : wrap64 ((d : Int) * 4) = d * 4 := wrap64_id _ (by omega) (by omega)
  have w3 : wrap64 ((r : Int) * 8) = r * 8 := wrap64_id _ (by omega) (by omega)
  have w4 : wrap64 ((r : Int) * 8 + 5) = r * 8 + 5 := wrap64_id _ (by omega) (by omega)
  have w5 : wrap64 (q : Int) = q := wrap64_id _ (by omega) (by omega)
  have w6 : wrap64 ((d : Int) * 4 + q) = m := (congrArg wrap64 h4).trans (wrap64_id (m : Int) (Int.natCast_nonneg m) (by clear h1 h2 h3 h4 w1 w2 w3 w4 w5; omega))
  clear hn h4 hmb hd hr hq hE
  go_enter Tryz.func177, Tryz.ntmps177
  go_wp2
  go_ret
  exact ⟨congrArg (fun x => Ending.returned (.int .i64 x)) w6, rfl⟩
end Go.Proofs.YtbdmdajbdmdknaaGreatDoor
