/- Slices of texts: equal, cloned. -/
import Derived.Test.YthgklpkkcaiehaaDoorProg
import Derived.Test.YthgklpkkcaiehaaDoorBase
import Derived.Lib.Bytes
import Derived.StillTailTactics
namespace Go.Proofs.YthgklpkkcaiehaaDoor
open Go.RowKit
set_option linter.unusedVariables false
set_option linter.unusedSimpArgs false

def strs (l : List ByteArray) : List Value := l.map Value.string
def si (l : List ByteArray) (i : Nat) : ByteArray := l.getD i ByteArray.empty
theorem strs_len (l : List ByteArray) : (strs l).length = l.length := List.length_map ..
theorem strs_at (l : List ByteArray) (i : Nat) (hi : i < l.length) : (strs l)[i]? = some (.string (si l i)) := by
  simp [strs, si, List.getD_eq_getElem?_getD, hi]
theorem strs_one (l : List ByteArray) : ∀ u ∈ strs l, u.oneCell' = true := by
  intro u hu
  obtain ⟨x, _, rfl⟩ := List.mem_map.1 hu
  rfl
theorem si_ext {a b : List ByteArray} (hl : a.length = b.length) (h : ∀ i, i < a.length → si a i = si b i) : a = b := by
  apply List.ext_getElem hl
  intro i h1 h2
  have := h i h1
  simpa [si, List.getD_eq_getElem?_getD, h1, h2] using this
theorem Rd.atS {w : World} {A : Option Addr} {l : List ByteArray} (h : Rd w A (strs l)) (i : Nat) (hi : i < l.length) : ∃ b o, A = some ⟨b, o, none⟩ ∧ b < w.heap.size ∧ w.cell? ⟨b, o + i, none⟩ = some (.string (si l i)) :=
  h i _ (strs_at l i hi)
theorem info_str : (Tryd.prog.info? 9).map (fun i => (i.zero, i.size, i.bytes)) = some (some (.string ByteArray.empty), 1, 16) := by kernel_rfl
theorem bytes_eq (x y : ByteArray) : (x.toList == y.toList) = decide (x = y) := by
  rw [Bool.eq_iff_iff, beq_iff_eq, decide_eq_true_iff]
  constructor
  · intro h
    have hx : ∀ z : ByteArray, z.toList = z.data.toList := fun z => Lib.toList_data z
    rw [hx, hx] at h
    cases x; cases y
    congr 1
    exact Array.toList_inj.1 h
  · rintro rfl; rfl
set_option maxHeartbeats 400000 in
theorem equalS_calls (A B : Option Addr) (n c n' c' : Nat) (l l' : List ByteArray) (w : World) (h : Rd w A (strs l)) (hn : l.length = n) (h' : Rd w B (strs l')) (hn' : l'.length = n') (hb : n ≤ 140737488355328) (r : Bool) (hr : r = decide (l = l')) :
    Calls Tryd.prog 31 #[.slice A n c, .slice B n' c'] w fun e w' => e = .returned (.bool r) ∧ Below w.heap.size w w' := by
  have Hr := hidden hr
  clear hr
  by_cases hne : n = n'
  · go_enter Tryd.func31, Tryd.ntmps31
    subst hne
    go_wp2
    go_loopw [13] (fun i wr => ∃ k : Nat, k ≤ n ∧ i = .int .i64 k ∧ Hid (∀ j, j < k → si l j = si l' j) ∧ ∃ m, wr = w.drewN m) (fun i _ => n - (intOf i).toNat)
    case atStart => exact ⟨0, by omega, rfl, hidden (by omega), 0, rfl⟩
    case round =>
      obtain ⟨k, hk, rfl, Heq, m, rfl⟩ := hrel
      by_cases hlt : k < n
      · obtain ⟨b0, o0, rfl, _, c0⟩ := h.atS k (by omega)
        obtain ⟨b1, o1, rfl, _, c1⟩ := h'.atS k (by omega)
        clear h h'
        have hq := bytes_eq (si l k) (si l' k)
        by_cases hg : si l k = si l' k
        · rw [decide_eq_true hg] at hq
          have Hg := hidden hg
          clear hg
          go_wp2
          go_quiet (fail)
          go_wp2
          go_roundw
          case rel => exact ⟨k + 1, by omega, by go_num, hidden (fun j hj => by rcases Nat.lt_succ_iff_lt_or_eq.1 hj with h | rfl; exact Heq.out j h; exact Hg.out), _, rfl⟩
          case measure => simp [intOf]; omega
        · rw [decide_eq_false hg] at hq
          have hrf : r = false := by rw [Hr.out]; exact decide_eq_false fun e => hg (by rw [e])
          subst hrf
          clear hg
          go_wp2
          go_quiet (fail)
          go_wp2
          go_ret
          exact ⟨rfl, below_drewN0 (below_drewN0 (Below.refl _ _) _) _⟩
      · obtain rfl : k = n := by omega
        have hrt : r = true := by rw [Hr.out]; exact decide_eq_true (si_ext (by omega) fun i hi => Heq.out i (by omega))
        subst hrt
        clear h h'
        go_wp2
        go_ret
        exact ⟨rfl, below_drewN0 (Below.refl _ _) _⟩
  · have hrf : r = false := by rw [Hr.out]; exact decide_eq_false fun e => hne (by rw [← hn, ← hn', e])
    subst hrf
    clear h h' hn hn'
    go_enter Tryd.func31, Tryd.ntmps31
    go_wp2
    go_ret
    exact ⟨rfl, Below.refl _ _⟩
end Go.Proofs.YthgklpkkcaiehaaDoor
