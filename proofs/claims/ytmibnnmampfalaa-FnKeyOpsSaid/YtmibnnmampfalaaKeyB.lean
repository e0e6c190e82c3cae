/- A list of operations accepts texts. -/
import Derived.Test.YtmibnnmampfalaaKeyA
namespace Go.Proofs.Ytmibnnmampfalaa
open Go.RowKit
set_option linter.unusedVariables false
set_option linter.unusedSimpArgs false

/-- The operations of the standard. -/
def ops8 : List ByteArray := [⟨#[115, 105, 103, 110]⟩, ⟨#[118, 101, 114, 105, 102, 121]⟩, ⟨#[101, 110, 99, 114, 121, 112, 116]⟩, ⟨#[100, 101, 99, 114, 121, 112, 116]⟩, ⟨#[119, 114, 97, 112, 75, 101, 121]⟩, ⟨#[117, 110, 119, 114, 97, 112, 75, 101, 121]⟩, ⟨#[100, 101, 114, 105, 118, 101, 75, 101, 121]⟩, ⟨#[100, 101, 114, 105, 118, 101, 66, 105, 116, 115]⟩]
theorem ta_ks (v : Value) (W : World) : (Instr.typeAssert (.iface 48 v) 20 9 true).run Try.prog W = .ok (.tuple #[.string ByteArray.empty, .bool false]) W := by kernel_rfl
theorem ta_kl (v : Value) (W : World) : (Instr.typeAssert (.iface 48 v) 20 48 true).run Try.prog W = .ok (.tuple #[v, .bool true]) W := by kernel_rfl
theorem ta_ka (v : Value) (W : World) : (Instr.typeAssert (.iface 48 v) 20 104 true).run Try.prog W = .ok (.tuple #[.slice none 0 0, .bool false]) W := by kernel_rfl
theorem info_op : (Try.prog.info? 118).map (fun i => (i.zero, i.size, i.bytes)) = some (some (.string ByteArray.empty), 1, 16) := by kernel_rfl
/-- What is filled so far. -/
def partS (l : List ByteArray) (k : Nat) : List ByteArray := l.take k ++ List.replicate (l.length - k) ByteArray.empty
theorem partS_len (l : List ByteArray) (k : Nat) (h : k ≤ l.length) : (partS l k).length = l.length := by simp [partS]; omega
theorem partS_set (l : List ByteArray) (k : Nat) (h : k < l.length) : (partS l k).set k (si l k) = partS l (k + 1) := by
  apply List.ext_getElem
  · simp [partS]; omega
  · intro i h1 h2
    simp only [partS, List.getElem_set, List.getElem_append, List.length_take, List.getElem_take, List.getElem_replicate]
    by_cases hi : k = i
    · subst hi
      simp only [if_true]
      rw [dif_pos (by omega)]
      simp [si, List.getD_eq_getElem?_getD, h]
    · rw [if_neg hi]
      by_cases hlt : i < k
      · rw [dif_pos (by omega), dif_pos (by omega)]
      · rw [dif_neg (by omega), dif_neg (by omega)]
theorem partS_all (l : List ByteArray) : partS l l.length = l := by simp [partS]
theorem Row.setS {w : World} {g t : Nat} {l : List ByteArray} (h : Row w g t (strs l)) (i : Nat) (v : ByteArray) : Row (w.setCell ⟨g, i, none⟩ (.string v)) g t (strs (l.set i v)) := by
  have := h.set i (.string v); rwa [strs, ← List.map_set] at this
theorem rowS_step {w : World} {g t k : Nat} {l : List ByteArray} {s : ByteArray} (h : Row w g t (strs (partS l k))) (e : (partS l k).set k s = partS l (k + 1)) : Row (w.setCell ⟨g, k, none⟩ (.string s)) g t (strs (partS l (k + 1))) := by
  rw [← e]; exact h.setS k s
theorem not_str {s a : ByteArray} {L : List UInt8} (h : s ≠ a) (e : a.toList = L) : (s.toList == L) = false := by
  rw [← e, bytes_eq]; exact decide_eq_false h
theorem mem_ops8 {s : ByteArray} (h : s ∈ ops8) : s = ⟨#[115, 105, 103, 110]⟩ ∨ s = ⟨#[118, 101, 114, 105, 102, 121]⟩ ∨ s = ⟨#[101, 110, 99, 114, 121, 112, 116]⟩ ∨ s = ⟨#[100, 101, 99, 114, 121, 112, 116]⟩ ∨ s = ⟨#[119, 114, 97, 112, 75, 101, 121]⟩ ∨ s = ⟨#[117, 110, 119, 114, 97, 112, 75, 101, 121]⟩ ∨ s = ⟨#[100, 101, 114, 105, 118, 101, 75, 101, 121]⟩ ∨ s = ⟨#[100, 101, 114, 105, 118, 101, 66, 105, 116, 115]⟩ := by
  simpa [ops8] using h
set_option maxRecDepth 100000 in
set_option maxHeartbeats 4000000 in
/-- Accept of a list of texts. -/
theorem acceptOps_calls (g : Nat) (v0 : Value) (A : Option Addr) (n c : Nat) (l : List ByteArray) (w : World) (HR : Row w g 86 [v0]) (h : Rd w A (strs l)) (hn : l.length = n) (hb : n ≤ 100000) (r : Bool) (hr : r = true ↔ ∀ x ∈ l, x ∈ ops8) :
    Calls Try.prog 64 #[.pointer (some ⟨g, 0, none⟩), .iface 48 (.slice A n c)] w fun e w' =>
      (r = true ∧ e = .returned .nilIface ∧ Row w' g 86 [.slice (some ⟨w.heap.size, 0, none⟩) n n] ∧ Row w' w.heap.size 118 (strs l) ∧ w.grownBy w' (some g)) ∨
      (r = false ∧ (∃ a, e = .returned (.iface 123 (.pointer (some a)))) ∧ Below w.heap.size w w') := by
  have qs := ta_ks
  have ql := ta_kl
  have qa := ta_ka
  have HR0 := hidden HR
  have Hh := hidden h
  have Hl := hidden hn
  have Hr := hidden hr
  clear HR h hn hr
  go_enter Try.func64, Try.ntmps64
  go_wp2_with (with_reducible refine at_dst 67 ?_; go_must (refine walk_make (n := n) rfl _ _ rfl Try.underlying86 info_op rfl rfl rfl rfl rfl (by omega) (by omega) ?_))
  go_loopw [70] (fun i wr => ∃ k : Nat, k ≤ n ∧ i = .int .i64 k ∧ Hid (Row wr w.heap.size 118 (strs (partS l k))) ∧ Hid (Below w.heap.size w wr) ∧ Hid (∀ j, j < k → si l j ∈ ops8)) (fun i _ => n - (intOf i).toNat)
  case atStart =>
    refine ⟨0, by omega, rfl, hidden ?_, hidden (below_alloc0 _ _), hidden (by omega)⟩
    have := Row.new w 118 (List.replicate n (Value.string ByteArray.empty))
    simpa [partS, strs, Hl.out] using this
  case round =>
    obtain ⟨k, hk, rfl, HRk, HBk, HA⟩ := hrel
    by_cases hlt : k < n
    · obtain ⟨b0, o0, rfl, hlt0, c0⟩ := Hh.out.atS k (by rw [Hl.out]; exact hlt)
      have c1 : wr.cell? ⟨b0, o0 + k, none⟩ = some (.string (si l k)) := (HBk.out.cell (p := ⟨b0, o0 + k, none⟩) hlt0).trans c0
      have Hset := hidden (partS_set l k (by rw [Hl.out]; exact hlt))
      have Hm := hidden (show si l k ∈ l by simp [si, List.getD_eq_getElem?_getD, show k < l.length by rw [Hl.out]; exact hlt])
      clear c0 hlt0
      by_cases hs8 : si l k ∈ ops8
      · have c2 : wr.cell? ⟨w.heap.size, k, none⟩ = (strs (partS l k))[k]? := HRk.out.cell k
        rw [strs_at _ _ (by rw [partS_len _ _ (by rw [Hl.out]; omega), Hl.out]; exact hlt)] at c2
        have f2 : wr.frozen? ⟨w.heap.size, k, none⟩ = false := HRk.out.free k
        have HS8 := hidden hs8
        generalize si (partS l k) k = old at c2
        have hc8 := mem_ops8 hs8
        clear hs8
        generalize hs : si l k = s at *
        have Hs := hidden hs
        clear hs
        rcases hc8 with rfl | rfl | rfl | rfl | rfl | rfl | rfl | rfl
        all_goals
          go_wp2
          go_roundw
          case rel => exact ⟨k + 1, by omega, by go_num, hidden (rowS_step HRk.out Hset.out), hidden (HBk.out.setCell (by simp) _), hidden (fun j hj => by rcases Nat.lt_succ_iff_lt_or_eq.1 hj with h | rfl; exact HA.out j h; rw [Hs.out]; exact HS8.out)⟩
          case measure => simp [intOf]; omega
      · have HS8 := hidden hs8
        clear hs8
        obtain rfl : r = false := by
          cases r with
          | false => rfl
          | true => exact absurd (Hr.out.1 rfl _ Hm.out) HS8.out
        generalize hs : si l k = s at *
        clear hs
        have q0 : (s.toList == [115, 105, 103, 110]) = false := not_str (a := ⟨#[115, 105, 103, 110]⟩) (fun e => HS8.out (by rw [e]; simp [ops8])) (by rw [Lib.toList_data])
        have q1 : (s.toList == [118, 101, 114, 105, 102, 121]) = false := not_str (a := ⟨#[118, 101, 114, 105, 102, 121]⟩) (fun e => HS8.out (by rw [e]; simp [ops8])) (by rw [Lib.toList_data])
        have q2 : (s.toList == [101, 110, 99, 114, 121, 112, 116]) = false := not_str (a := ⟨#[101, 110, 99, 114, 121, 112, 116]⟩) (fun e => HS8.out (by rw [e]; simp [ops8])) (by rw [Lib.toList_data])
        have q3 : (s.toList == [100, 101, 99, 114, 121, 112, 116]) = false := not_str (a := ⟨#[100, 101, 99, 114, 121, 112, 116]⟩) (fun e => HS8.out (by rw [e]; simp [ops8])) (by rw [Lib.toList_data])
        have q4 : (s.toList == [119, 114, 97, 112, 75, 101, 121]) = false := not_str (a := ⟨#[119, 114, 97, 112, 75, 101, 121]⟩) (fun e => HS8.out (by rw [e]; simp [ops8])) (by rw [Lib.toList_data])
        have q5 : (s.toList == [117, 110, 119, 114, 97, 112, 75, 101, 121]) = false := not_str (a := ⟨#[117, 110, 119, 114, 97, 112, 75, 101, 121]⟩) (fun e => HS8.out (by rw [e]; simp [ops8])) (by rw [Lib.toList_data])
        have q6 : (s.toList == [100, 101, 114, 105, 118, 101, 75, 101, 121]) = false := not_str (a := ⟨#[100, 101, 114, 105, 118, 101, 75, 101, 121]⟩) (fun e => HS8.out (by rw [e]; simp [ops8])) (by rw [Lib.toList_data])
        have q7 : (s.toList == [100, 101, 114, 105, 118, 101, 66, 105, 116, 115]) = false := not_str (a := ⟨#[100, 101, 114, 105, 118, 101, 66, 105, 116, 115]⟩) (fun e => HS8.out (by rw [e]; simp [ops8])) (by rw [Lib.toList_data])
        go_wp2_with (go_at_call 75; go_must (refine (newErrS_calls _ _).mono ?_; rintro e w2 ⟨rfl, hB2⟩))
        go_ret
        exact ⟨⟨_, rfl⟩, below_next HBk.out hB2⟩
    · obtain rfl : k = n := by omega
      have HRg := hidden (HR0.out.below HBk.out HR0.out.lt)
      have cg := HRg.out.cell 0
      have fg := HRg.out.free 0
      obtain rfl : r = true := Hr.out.2 (fun x hx => by
        obtain ⟨j, hj, e⟩ := List.mem_iff_getElem.1 hx
        have := HA.out j (by rw [← Hl.out]; exact hj)
        rw [← e]
        simpa [si, List.getD_eq_getElem?_getD, hj] using this)
      have Hall := hidden (partS_all l)
      go_wp2
      go_ret
      refine ⟨rfl, HRg.out.set 0 _, ?_, (grown_below (B := 0) HBk.out (some g)).trans (grown_set wr g 0 _)⟩
      have hx := HRk.out
      rw [← Hl.out, Hall.out] at hx
      exact hx.grown (grown_set _ g 0 _) (by have := HR0.out.lt; simp; omega)
end Go.Proofs.Ytmibnnmampfalaa
