/- The calls of a key set: Index, AddKey, RemoveKey, Key, Len, LookupKeyID. -/
import Derived.Test.YthgklpkkcaiehaaDoorProg
import Derived.Test.YthgklpkkcaiehaaDoorAlt
import Derived.Test.YthgklpkkcaiehaaDoorKPlain
import Derived.Test.YthgklpkkcaiehaaDoorStr
import Derived.LaidEqlPtr
namespace Go.Proofs.YthgklpkkcaiehaaDoor
open Go.RowKit
set_option linter.unusedVariables false
set_option linter.unusedSimpArgs false

theorem newErrK_calls (s : ByteArray) (w : World) :
    Calls Tryd.prog 57 #[.string s] w fun e w' => e = .returned (.iface 167 (.pointer (some ⟨w.heap.size, 0, none⟩))) ∧ Below w.heap.size w w' := by
  go_enter Tryd.func57, Tryd.ntmps57
  go_wp2
  go_ret
  exact ⟨rfl, by simpa using below_alloc0 w _⟩
/-- The keys: key k is the pointer to block 'bk k'. -/
def keyV (bk : Nat → Nat) (k : Nat) : Value := .iface 106 (.pointer (some ⟨bk k, 0, none⟩))
def keysV (bk : Nat → Nat) (s : List Nat) : List Value := s.map (keyV bk)
theorem keysV_len (bk : Nat → Nat) (s : List Nat) : (keysV bk s).length = s.length := List.length_map ..
theorem keysV_at (bk : Nat → Nat) (s : List Nat) (i : Nat) (h : i < s.length) : (keysV bk s)[i]? = some (keyV bk (s.getD i 0)) := by simp [keysV, h]
theorem keysV_one (bk : Nat → Nat) (s : List Nat) : ∀ u ∈ keysV bk s, u.oneCell' = true := by
  intro u hu
  obtain ⟨x, _, rfl⟩ := List.mem_map.1 hu
  rfl
/-- The blocks of the keys are apart. -/
def Apart (bk : Nat → Nat) (m : Nat) : Prop := ∀ i j, i < m → j < m → bk i = bk j → i = j
/-- A set whose keys are s, and that has no other fields. -/
structure SetAt (w : World) (gs mb base : Nat) (v : Value) (L : List Value) : Prop where
  row : Row w gs 133 [v, .map (some mb)]
  kl : KL w base 81 v L
  map : w.heap[mb]? = some (.map #[] 0)
section
variable {w w1 : World} {gs mb base : Nat} {v : Value} {L : List Value}
theorem SetAt.lt (h : SetAt w gs mb base v L) : mb < w.heap.size := (Array.getElem?_eq_some_iff.1 h.map).1
theorem SetAt.below (h : SetAt w gs mb base v L) (hb : Below w.heap.size w w1) : SetAt w1 gs mb base v L :=
  ⟨h.row.below hb h.row.lt, h.kl.below hb, (hb.block mb h.lt).trans h.map⟩
theorem posK_no {s : List Nat} {k n : Nat} (hn : s.length = n) (h : ∀ j, j < n → s.getD j 0 ≠ k) : k ∉ s := by
  intro hm
  obtain ⟨j, hj, rfl⟩ := List.mem_iff_getElem.1 hm
  exact h j (by omega) (by simp [hj])
theorem idx_first : ∀ (s : List Nat) (k i : Nat), i < s.length → (∀ j, j < i → s.getD j 0 ≠ k) → s.getD i 0 = k → s.idxOf k = i
  | [], _, _, h, _, _ => by simp at h
  | x :: s, k, 0, _, _, he => by simp at he; subst he; simp
  | x :: s, k, i + 1, h, hno, he => by
    have hx : x ≠ k := by simpa using hno 0 (by omega)
    rw [List.idxOf_cons, beq_eq_false_iff_ne.2 hx]
    simp only [cond_false]
    rw [idx_first s k i (by simpa using h) (fun j hj => by simpa using hno (j + 1) (by omega)) (by simpa using he)]
theorem posK_yes {s : List Nat} {k i : Nat} (hi : i < s.length) (h : ∀ j, j < i → s.getD j 0 ≠ k) (he : s.getD i 0 = k) : posK s k = (i : Int) ∧ k ∈ s := by
  have hm : k ∈ s := by rw [← he]; simp [hi]
  refine ⟨?_, hm⟩
  rw [posK, if_pos hm, idx_first s k i hi h he]
end
/-- The blocks of m keys. -/
def KeysIn (w : World) (bk : Nat → Nat) (m : Nat) : Prop := ∀ k, k < m → ∃ vs, Row w (bk k) 131 vs
theorem KeysIn.below {w w1 : World} {bk : Nat → Nat} {m B : Nat} (h : KeysIn w bk m) (hb : Below B w w1) (hB : ∀ k, k < m → bk k < B) : KeysIn w1 bk m := fun k hk => by
  obtain ⟨vs, hv⟩ := h k hk
  exact ⟨vs, hv.below hb (hB k hk)⟩
theorem eql_keys {w : World} {bk : Nat → Nat} {m : Nat} (h : KeysIn w bk m) (ha : Apart bk m) {j k : Nat} (hj : j < m) (hk : k < m) :
    (binOp .eql 81 (.iface 106 (.pointer (some ⟨bk j, 0, none⟩))) (.iface 106 (.pointer (some ⟨bk k, 0, none⟩)))).run Tryd.prog w = .ok (.bool (decide (j = k))) w := by
  obtain ⟨i, hi, hc⟩ := Option.map_eq_some_iff.1 (show (Tryd.prog.info? 106).map (·.comparable) = some true by kernel_rfl)
  obtain ⟨i2, hi2, hs⟩ := Option.map_eq_some_iff.1 (show (Tryd.prog.info? 131).map (fun i => decide (i.size = 0)) = some false by kernel_rfl)
  by_cases e : j = k
  · subst e
    rw [decide_eq_true rfl]
    exact run_eql_iface_ptr_same w _ Tryd.underlying81 Tryd.underlying106 hi hc hi2
  · rw [decide_eq_false e]
    obtain ⟨vs, hv⟩ := h j hj
    obtain ⟨us, hu⟩ := h k hk
    exact run_eql_iface_ptr_other w Tryd.underlying81 Tryd.underlying106 hi hc hi2 (of_decide_eq_false hs) (fun h => e (ha j k hj hk (congrArg Addr.block h))) hv hu
set_option maxRecDepth 100000 in
set_option maxHeartbeats 1000000 in
theorem indexNL_calls (bk : Nat → Nat) (m : Nat) (s : List Nat) (k : Nat) (w : World) (gs mb base : Nat) (v : Value) (h : SetAt w gs mb base v (keysV bk s)) (hb : s.length ≤ 1000) (ha : Apart bk m) (hkin : KeysIn w bk m) (hs : SetOk m s) (hk : k < m) (r : Int) (hr : r = posK s k) :
    Calls Tryd.prog 139 #[.pointer (some ⟨gs, 0, none⟩), keyV bk k] w fun e w' => e = .returned (.int .i64 r) ∧ w = w' := by
  have Hr := hidden hr
  clear hr
  obtain ⟨n, hn⟩ : ∃ n, s.length = n := ⟨_, rfl⟩
  obtain ⟨A, c, rfl, hc, hR, _⟩ := h.kl.read
  rw [keysV_len, hn] at hc h
  have c0 := h.row.cell 0
  have c1 := h.row.cell 1
  simp at c0 c1
  clear h
  obtain ⟨K, hK⟩ : ∃ K, bk k = K := ⟨_, rfl⟩
  have Hk := hidden (fun j (hj : j < s.length) => eql_keys hkin ha (hs.lt (s.getD j 0) (by simp [hj])) hk)
  unfold keyV
  rw [hK] at Hk ⊢
  go_enter Tryd.func139, Tryd.ntmps139
  go_wp2
  go_loop [12] (fun i => ∃ j : Nat, j ≤ n ∧ i = .int .i64 j ∧ Hid (∀ q, q < j → s.getD q 0 ≠ k)) (fun i => n - (intOf i).toNat)
  case atStart => exact ⟨0, by omega, rfl, hidden (by omega)⟩
  case round =>
    obtain ⟨j, hj, rfl, Hno⟩ := hrel
    by_cases hlt : j < n
    · obtain ⟨b0, o0, rfl, _, c0⟩ := hR _ _ (keysV_at bk s j (by omega))
      have hq := Hk.out j (by omega)
      unfold keyV at c0
      obtain ⟨J, hJ⟩ : ∃ J, bk (s.getD j 0) = J := ⟨_, rfl⟩
      rw [hJ] at c0 hq
      clear hR
      by_cases he : s.getD j 0 = k
      · have hrj : r = (j : Int) := by rw [Hr.out]; exact (posK_yes (by omega) Hno.out he).1
        subst hrj
        rw [decide_eq_true he] at hq
        clear he
        go_wp2
        go_ret
        exact ⟨rfl, rfl⟩
      · rw [decide_eq_false he] at hq
        have HE := hidden he
        clear he
        go_wp2
        go_round
        case rel => exact ⟨j + 1, by omega, by go_num, hidden (fun q hq => by rcases Nat.lt_succ_iff_lt_or_eq.1 hq with h | rfl; exact Hno.out q h; exact HE.out)⟩
        case measure => simp [intOf]; omega
    · obtain rfl : j = n := by omega
      have hrj : r = -1 := by rw [Hr.out, posK, if_neg (posK_no hn Hno.out)]
      subst hrj
      clear hR
      go_wp2
      go_ret
      exact ⟨rfl, rfl⟩
end Go.Proofs.YthgklpkkcaiehaaDoor
