/- What a list of texts accepts. The laws' own helpers over fields: zzFits10, zzFits9, headFits, HeadFind, headNames. laws.headNames, laws.headFits. laws.headFits. -/
import Derived.Test.YtbdmdajbdmdknaaDoorM12
import Derived.Laws.Cover2
import Derived.Test.YtbdmdajbdmdknaaDoorHdT
namespace Go.Proofs.YtbdmdajbdmdknaaDoor
open Go.RowKit
set_option linter.unusedVariables false
set_option linter.unusedSimpArgs false

/-- A new slice of texts. -/
def NewS (w : World) (l : List ByteArray) (e : Ending) (w' : World) : Prop := ∃ v, e = .returned v ∧ Own w' w.heap.size 9 v (strs l) ∧ Below w.heap.size w w'
theorem ownS_empty (w : World) : Own (w.alloc (.cells #[] 9)) w.heap.size 9 (.slice (some ⟨w.heap.size, 0, none⟩) 0 0) [] :=
  Own.of_row (vs := []) (rest := []) (Row.new w 9 []) (Nat.le_refl _) rfl (by simp [maxLen])
set_option maxHeartbeats 400000 in
theorem fits2_calls (A : Option Addr) (n c : Nat) (l : List ByteArray) (w : World) (h : Rd w A (strs l)) (hn : l.length = n) (r : Bool) (hr : r = true ↔ n ≤ 2147483647 ∧ ∀ x ∈ l, x.size ≤ 2147483647) (hb : n ≤ 9223372036854775807) :
    Calls Tryd.prog 35 #[.slice A n c] w fun e w' => e = .returned (.bool r) ∧ w = w' := by
  have Hr := hidden hr
  clear hr
  by_cases hbig : n ≤ 2147483647
  · go_enter Tryd.func35, Tryd.ntmps35
    go_wp2
    go_loop [10] (fun i => ∃ k : Nat, k ≤ n ∧ i = .int .i64 k ∧ Hid (∀ j (hj : j < l.length), j < k → (l[j]'hj).size ≤ 2147483647)) (fun i => n - (intOf i).toNat)
    case atStart => exact ⟨0, by omega, rfl, hidden (by omega)⟩
    case round =>
      obtain ⟨k, hk, rfl, hle⟩ := hrel
      by_cases hlt : k < n
      · have hlt' : k < l.length := by omega
        obtain ⟨b0, o0, rfl, _, c0⟩ := h.atS k hlt'
        have hx : Hid (∀ x, x = l[k] → x ∈ l) := hidden (fun x hx => hx ▸ List.getElem_mem _)
        have hsk : Hid (si l k = l[k]) := hidden (by simp [si, List.getD_eq_getElem?_getD, hlt'])
        generalize hs : si l k = s at *
        clear h
        by_cases h2 : s.size ≤ 2147483647
        · have h2i : ¬ (2147483647 : Int) < (s.size : Int) := by omega
          go_wp2
          go_round
          case rel =>
            refine ⟨k + 1, by omega, by go_num, hidden (fun j hj hjk => ?_)⟩
            rcases Nat.lt_succ_iff_lt_or_eq.1 hjk with h | rfl
            · exact hle.out j hj h
            · rw [← hsk.out]; exact h2
          case measure => simp [intOf]; omega
        · have h2i : (2147483647 : Int) < (s.size : Int) := by omega
          have hrf : r = false := by
            cases r with
            | false => rfl
            | true => exact absurd ((Hr.out.1 rfl).2 _ (hx.out _ hsk.out)) h2
          subst hrf
          go_wp2
          go_ret
          exact ⟨rfl, rfl⟩
      · obtain rfl : k = n := by omega
        have hrt : r = true := Hr.out.2 ⟨hbig, fun x hx => by
          obtain ⟨j, hj, rfl⟩ := List.mem_iff_getElem.1 hx
          exact hle.out j hj (by omega)⟩
        subst hrt
        go_wp2
        go_ret
        exact ⟨rfl, rfl⟩
  · have hrf : r = false := by
      cases r with
      | false => rfl
      | true => exact absurd (Hr.out.1 rfl).1 hbig
    subst hrf
    go_enter Tryd.func35, Tryd.ntmps35
    go_wp2
    go_ret
    exact ⟨rfl, rfl⟩
/-- A plain value, as it is handed over. -/
def plainV (k : Int) (t : ByteArray) (b : Bool) (m : Int) (A : Option Addr) (n c : Nat) : Value := .agg #[.int .i64 k, .string t, .bool b, .int .i32 m, .slice A n c]
/-! The value as an interface, and what the list makes of it. -/
theorem newErrS_calls (s : ByteArray) (w : World) :
    Calls Tryd.prog 48 #[.string s] w fun e w' => e = .returned (.iface 123 (.pointer (some ⟨w.heap.size, 0, none⟩))) ∧ Below w.heap.size w w' := by
  go_enter Tryd.func48, Tryd.ntmps48
  go_wp2
  go_ret
  exact ⟨rfl, below_alloc0 _ _⟩
end Go.Proofs.YtbdmdajbdmdknaaDoor
namespace Go.Proofs.YtbdmdajbdmdknaaDoor
open Go.RowKit
set_option linter.unusedVariables false
set_option linter.unusedSimpArgs false

/-- Some truth value; new memory at most. -/
def BB (w : World) (e : Ending) (w' : World) : Prop := ∃ r, e = .returned (.bool r) ∧ Below w.heap.size w w'
theorem fits2E (A : Option Addr) (n c : Nat) (l : List ByteArray) (w : World) (h : Rd w A (strs l)) (hn : l.length = n) (hb : n ≤ 9223372036854775807) : Calls Tryd.prog 35 #[.slice A n c] w fun e w' => ∃ r, e = .returned (.bool r) ∧ w = w' := by
  refine (fits2_calls A n c l w h hn (decide (n ≤ 2147483647 ∧ ∀ x ∈ l, x.size ≤ 2147483647)) (by rw [decide_eq_true_iff]) hb).mono ?_
  rintro e w' ⟨he, hw⟩
  exact ⟨_, he, hw⟩
def fV (f : FM) : Value := .agg #[.string f.d.name, .int .u8 f.d.kind, .bool f.d.is_, .bool f.d.minus, .int .u64 f.d.num, .string f.d.text, .slice f.A f.d.list.length f.c]
set_option maxHeartbeats 1000000 in
theorem fits10E (f : FM) (w : World) (h : Rd w f.A (strs f.d.list)) (hb : f.d.list.length ≤ 9223372036854775807) : Calls Tryd.prog 23 #[fV f] w (BB w) := by
  obtain ⟨⟨name, kind, is_, minus, num, text, list⟩, A, c⟩ := f
  have K := hidden (fun o => fits2E A list.length c list (w.alloc o) (h.alloc o) rfl hb)
  unfold fV
  clear h hb
  by_cases h1 : 2147483647 < name.size
  · have h1i : (2147483647 : Int) < (name.size : Int) := by omega
    go_enter Tryd.func23, Tryd.ntmps23
    go_wp2
    go_ret
    exact ⟨_, rfl, below_alloc0 _ _⟩
  have h1i : ¬ (2147483647 : Int) < (name.size : Int) := by omega
  by_cases h2 : 2147483647 < text.size
  · have h2i : (2147483647 : Int) < (text.size : Int) := by omega
    go_enter Tryd.func23, Tryd.ntmps23
    go_wp2
    go_ret
    exact ⟨_, rfl, below_alloc0 _ _⟩
  have h2i : ¬ (2147483647 : Int) < (text.size : Int) := by omega
  go_enter Tryd.func23, Tryd.ntmps23
  go_wp2_with (go_at_call 35; go_must (refine (K.out _).mono ?_; rintro e w1 ⟨r, rfl, rfl⟩; cases r))
  all_goals go_ret
  all_goals exact ⟨_, rfl, below_alloc0 _ _⟩
set_option maxRecDepth 100000 in
set_option maxHeartbeats 4000000 in
theorem fits9E (A : Option Addr) (n c : Nat) (l : List FM) (w : World) (hm : FMs w A l) (hn : l.length = n) (hb : n ≤ 9223372036854775807) : Calls Tryd.prog 7 #[.slice A n c] w (BB w) := by
  have HM := hidden (And.intro hm hn)
  clear hm hn
  by_cases hbig : 2147483647 < n
  · have h1i : (2147483647 : Int) < (n : Int) := by omega
    go_enter Tryd.func7, Tryd.ntmps7
    go_wp2
    go_ret
    exact ⟨_, rfl, Below.refl _ _⟩
  have h1i : ¬ (2147483647 : Int) < (n : Int) := by omega
  go_enter Tryd.func7, Tryd.ntmps7
  go_wp2
  go_loopw [10] (fun v wr => ∃ i : Nat, v = .int .i64 i ∧ i ≤ n ∧ Hid (Below w.heap.size w wr)) (fun v _ => n - (intOf v).toNat)
  case atStart => exact ⟨0, rfl, by omega, hidden (Below.refl _ _)⟩
  case round =>
    obtain ⟨i, rfl, hin, HB⟩ := hrel
    by_cases hlt : i < n
    · have hli : i < l.length := by rw [HM.out.2]; exact hlt
      obtain ⟨ab, ao, rfl, _, c0, c1, c2, c3, c4, c5, c6⟩ := fields_at (HM.out.1.below HB.out).rd i hli
      have hr := (HM.out.1.below HB.out).list _ (List.getElem_mem hli)
      obtain ⟨f, hf⟩ : ∃ f, l[i] = f := ⟨_, rfl⟩
      rw [hf] at c0 c1 c2 c3 c4 c5 c6 hr
      have K : Hid (∀ o, Calls Tryd.prog 23 #[.agg #[.string f.d.name, .int .u8 f.d.kind, .bool f.d.is_, .bool f.d.minus, .int .u64 f.d.num, .string f.d.text, .slice f.A f.d.list.length f.c]] (wr.alloc o) (BB (wr.alloc o))) := hidden (fun o => fits10E f (wr.alloc o) (hr.1.alloc o) hr.2)
      have hlti : (i : Int) < (n : Int) := by omega
      clear hf hr hli
      go_wp2_with (go_at_call 23; go_must (refine (K.out _).mono ?_; rintro e w1 ⟨r, rfl, hB⟩; have HB1 := hidden (below_next HB.out (below_next (below_alloc0 _ _) hB)); clear hB; cases r))
      · go_ret
        exact ⟨_, rfl, HB1.out⟩
      · exact ⟨⟨i + 1, by go_num, by omega, HB1⟩, by simp [intOf]; omega⟩
    · obtain rfl : i = n := by omega
      have hnlt : ¬ ((i : Int) < (i : Int)) := by omega
      go_wp2
      go_ret
      exact ⟨_, rfl, HB.out⟩
theorem grown_trans2 {w w1 w2 : World} {r : Option Nat} (h : w.grownBy w1 r) (k : w1.grownBy w2 r) : w.grownBy w2 r :=
  ⟨k.os.trans h.os, k.tape.trans h.tape, k.output.trans h.output, Nat.le_trans h.size k.size, fun i hi hne => (k.block i (Nat.lt_of_lt_of_le hi h.size) hne).trans (h.block i hi hne)⟩
/-! HeadFind. -/
def zeroF : Value := .agg #[.string ⟨#[]⟩, .int .u8 0, .bool false, .bool false, .int .u64 0, .string ⟨#[]⟩, .slice none 0 0]
inductive FindIs (l : List FM) (s : ByteArray) : Value → Bool → Prop
  | yes (i : Nat) (h : i < l.length) : l[i].d.name = s → (∀ j (hj : j < i), l[j].d.name ≠ s) → FindIs l s (fV l[i]) true
  | no : (∀ f ∈ l, f.d.name ≠ s) → FindIs l s zeroF false
def FindP (w : World) (l : List FM) (s : ByteArray) (e : Ending) (w' : World) : Prop := ∃ v b, e = .returned (.tuple #[v, .bool b]) ∧ FindIs l s v b ∧ Below w.heap.size w w'
set_option maxRecDepth 100000 in
set_option maxHeartbeats 4000000 in
theorem headFindE (A : Option Addr) (n c : Nat) (l : List FM) (s : ByteArray) (w : World) (hm : FMs w A l) (hn : l.length = n) (hn30 : n ≤ 31) : Calls Tryd.prog 11 #[.slice A n c, .string s] w (FindP w l s) := by
  have HM := hidden (And.intro hm hn)
  clear hm hn
  go_enter Tryd.func11, Tryd.ntmps11
  go_wp2
  refine wpAbs (fun W1 => Hid (Row W1 w.heap.size 29 [.string ⟨#[]⟩, .int .u8 0, .bool false, .bool false, .int .u64 0, .string ⟨#[]⟩, .slice none 0 0] ∧ Below w.heap.size w W1)) (hidden ⟨Row.new w 29 [.string ⟨#[]⟩, .int .u8 0, .bool false, .bool false, .int .u64 0, .string ⟨#[]⟩, .slice none 0 0], below_alloc0 w _⟩) ?_
  rintro W1 HW1
  obtain ⟨g, hg⟩ : ∃ g, w.heap.size = g := ⟨_, rfl⟩
  have HG := hidden hg
  rw [hg] at HW1 ⊢
  clear hg
  go_loopw [10] (fun v wr => ∃ i : Nat, v = .int .i64 i ∧ i ≤ n ∧ Hid (Row wr g 29 [.string ⟨#[]⟩, .int .u8 0, .bool false, .bool false, .int .u64 0, .string ⟨#[]⟩, .slice none 0 0] ∧ Below w.heap.size w wr ∧ ∀ j (hj : j < l.length), j < i → l[j].d.name ≠ s)) (fun v _ => n - (intOf v).toNat)
  case atStart => exact ⟨0, rfl, by omega, hidden ⟨HW1.out.1, by rw [HG.out]; exact HW1.out.2, fun j hj h => by omega⟩⟩
  case round =>
    obtain ⟨i, rfl, hin, HI⟩ := hrel
    by_cases hlt : i < n
    · have hli : i < l.length := by rw [HM.out.2]; exact hlt
      obtain ⟨ab, ao, rfl, _, c0, c1, c2, c3, c4, c5, c6⟩ := fields_at (HM.out.1.below HI.out.2.1).rd i hli
      obtain ⟨f, hf⟩ : ∃ f, l[i] = f := ⟨_, rfl⟩
      rw [hf] at c0 c1 c2 c3 c4 c5 c6
      have HLF : Hid (∀ h : i < l.length, l[i]'h = f) := hidden (fun _ => hf)
      have hlti : (i : Int) < (n : Int) := by omega
      have hgl : g < wr.heap.size := HI.out.1.lt
      have HR0 := hidden (HI.out.1.alloc (.cells #[.string f.d.name, .int .u8 f.d.kind, .bool f.d.is_, .bool f.d.minus, .int .u64 f.d.num, .string f.d.text, .slice f.A f.d.list.length f.c] 29))
      clear hf hli
      by_cases hq : f.d.name = s
      · have hqb : (f.d.name.toList == s.toList) = true := by rw [hq]; exact beq_self_eq_true _
        have HQ := hidden hq
        clear hq
        go_wp2_with (refine walk_store_row (vs := [.string f.d.name, .int .u8 f.d.kind, .bool f.d.is_, .bool f.d.minus, .int .u64 f.d.num, .string f.d.text, .slice f.A f.d.list.length f.c]) rfl 29 (.tmp 4) (.tmp 18) rfl HR0.out rfl rfl (by kernel_rfl) rfl (by simp [Value.oneCell']) ?_; rintro W5 hR5 hG5; have HR5 := hidden hR5; have HG5 := hidden hG5; clear hR5 hG5)
        have hlv := run_loadVar_row (P := Tryd.prog) W5 g 29 29 _ (0, 0) _ HR5.out Tryd.underlying29 rfl (by kernel_rfl)
        refine bodyPost_ret (v := .tuple #[fV f, .bool true]) (by simp [results, Tryd.results11, asAddr, hlv, fV]) rfl ?_
        refine ⟨_, _, rfl, ?_, HI.out.2.1.grown (grown_trans2 (grown_below (B := 0) (below_alloc0 wr _) _) HG5.out) HI.out.2.1.size (fun k hk => by cases hk; exact Nat.le_of_eq HG.out)⟩
        have hli : i < l.length := by rw [HM.out.2]; exact hlt
        have := FindIs.yes (l := l) (s := s) i hli (by rw [HLF.out]; exact HQ.out) (fun j hj => HI.out.2.2 j (by omega) hj)
        rwa [HLF.out] at this
      · have hqb : (f.d.name.toList == s.toList) = false := by rw [bytes_eq]; exact decide_eq_false hq
        have HQ := hidden hq
        clear hq
        go_wp2
        refine ⟨⟨i + 1, by go_num, by omega, hidden ⟨HR0.out, below_next HI.out.2.1 (below_alloc0 _ _), fun j hj h => ?_⟩⟩, by simp [intOf]; omega⟩
        rcases Nat.lt_succ_iff_lt_or_eq.1 h with h1 | h1
        · exact HI.out.2.2 j hj h1
        · subst h1; rw [HLF.out]; exact HQ.out
    · obtain rfl : i = n := by omega
      have hnlt : ¬ ((i : Int) < (i : Int)) := by omega
      have HR0 := hidden HI.out.1
      go_wp2_with (refine walk_store_row (vs := [.string ⟨#[]⟩, .int .u8 0, .bool false, .bool false, .int .u64 0, .string ⟨#[]⟩, .slice none 0 0]) rfl 29 (.tmp 4) (.tmp 20) rfl HR0.out rfl rfl (by kernel_rfl) rfl (by simp [Value.oneCell']) ?_; rintro W5 hR5 hG5; have HR5 := hidden hR5; have HG5 := hidden hG5; clear hR5 hG5)
      have hlv := run_loadVar_row (P := Tryd.prog) W5 g 29 29 _ (0, 0) _ HR5.out Tryd.underlying29 rfl (by kernel_rfl)
      refine bodyPost_ret (v := .tuple #[zeroF, .bool false]) (by simp [results, Tryd.results11, asAddr, hlv, zeroF]) rfl ?_
      refine ⟨_, _, rfl, FindIs.no (fun f hf => ?_), HI.out.2.1.grown HG5.out HI.out.2.1.size (fun k hk => by cases hk; exact Nat.le_of_eq HG.out)⟩
      obtain ⟨j, hj, rfl⟩ := List.mem_iff_getElem.1 hf
      exact HI.out.2.2 j hj (by have := HM.out.2; omega)
end Go.Proofs.YtbdmdajbdmdknaaDoor
namespace Go.Proofs.YtbdmdajbdmdknaaDoor
open Go.RowKit
set_option linter.unusedVariables false
set_option linter.unusedSimpArgs false

def namesF (l : List FM) : List ByteArray := l.map fun f => f.d.name
theorem namesF_succ (l : List FM) (i : Nat) (h : i < l.length) : namesF (l.take (i + 1)) = namesF (l.take i) ++ [l[i].d.name] := by
  rw [namesF, namesF, List.take_succ_eq_append_getElem h, List.map_append]; rfl
theorem strs_snoc (l : List ByteArray) (s : ByteArray) : strs (l ++ [s]) = strs l ++ [.string s] := by simp [strs]
def NamesP (w : World) (l : List ByteArray) (e : Ending) (w' : World) : Prop := ∃ v, e = .returned v ∧ Own w' w.heap.size 9 v (strs l) ∧ Below w.heap.size w w'
structure NA (w : World) (ns : List ByteArray) (v : Value) (W : World) : Prop where
  own : Own W w.heap.size 9 v (strs ns)
  below : Below w.heap.size w W
theorem NA.alloc {w W : World} {ns : List ByteArray} {v : Value} (h : NA w ns v W) (o : Obj) : NA w ns v (W.alloc o) := ⟨h.own.alloc o, below_next h.below (below_alloc0 W o)⟩
theorem NA.next {w W W2 : World} {ns : List ByteArray} {v : Value} (h : NA w ns v W) (hB : Below W.heap.size W W2) : NA w ns v W2 := ⟨h.own.below hB, below_next h.below hB⟩
theorem NA.put {w W W2 : World} {ns ms : List ByteArray} {v v2 : Value} (h : NA w ns v W) (hO : Own W2 w.heap.size 9 v2 (strs ns ++ strs ms)) (hg : W.grownBy W2 v.ownBlock) : NA w (ns ++ ms) v2 W2 :=
  ⟨by unfold strs at hO ⊢; rw [List.map_append]; exact hO, below_app h.below hg h.own (Nat.le_refl _) h.below.size⟩
theorem NA.first (w : World) (s : ByteArray) : NA w [s] (.slice (some ⟨w.heap.size, 0, none⟩) 1 1) (w.alloc (.cells #[.string s] 9)) :=
  ⟨Own.of_row (vs := strs [s]) (rest := []) (by simpa [strs] using Row.new w 9 [.string s]) (Nat.le_refl _) rfl (by decide), below_alloc0 w _⟩
set_option maxRecDepth 100000 in
set_option maxHeartbeats 4000000 in
theorem headNamesE (A : Option Addr) (n c : Nat) (l : List FM) (s : ByteArray) (w : World) (hm : FMs w A l) (hn : l.length = n) (hn30 : n ≤ 31) : Calls Tryd.prog 16 #[.slice A n c, .string s] w (NamesP w (s :: namesF l)) := by
  have HM := hidden (And.intro hm hn)
  clear hm hn
  have H0 := hidden (NA.first w s)
  go_enter Tryd.func16, Tryd.ntmps16
  go_wp2
  go_loopw [12, 5] (fun v12 v5 wr => ∃ i : Nat, v12 = .int .i64 i ∧ i ≤ n ∧ Hid (NA w (s :: namesF (l.take i)) v5 wr)) (fun v _ _ => n - (intOf v).toNat)
  case atStart => exact ⟨0, rfl, by omega, H0⟩
  case round =>
    obtain ⟨i, rfl, hin, HN⟩ := hrel
    by_cases hlt : i < n
    · have hli : i < l.length := by rw [HM.out.2]; exact hlt
      obtain ⟨ab, ao, rfl, _, c0, c1, c2, c3, c4, c5, c6⟩ := fields_at (HM.out.1.below HN.out.below).rd i hli
      obtain ⟨f, hf⟩ : ∃ f, l[i] = f := ⟨_, rfl⟩
      rw [hf] at c0 c1 c2 c3 c4 c5 c6
      have HNX : Hid (s :: namesF (l.take (i + 1)) = (s :: namesF (l.take i)) ++ [f.d.name]) := hidden (by rw [namesF_succ l i hli, hf]; rfl)
      have hlti : (i : Int) < (n : Int) := by omega
      have HZ : Hid ((strs (s :: namesF (l.take i))).length ≤ 32) := hidden (by rw [strs_len, List.length_cons, namesF, List.length_map, List.length_take]; omega)
      have HN1 := hidden ((HN.out.alloc (.cells #[.string f.d.name, .int .u8 f.d.kind, .bool f.d.is_, .bool f.d.minus, .int .u64 f.d.num, .string f.d.text, .slice f.A f.d.list.length f.c] 29)).alloc (.cells #[.string f.d.name] 9))
      have HR1 := hidden (Rd.new (wr.alloc (.cells #[.string f.d.name, .int .u8 f.d.kind, .bool f.d.is_, .bool f.d.minus, .int .u64 f.d.num, .string f.d.text, .slice f.A f.d.list.length f.c] 29)) 9 [.string f.d.name] (wr.heap.size + 1) (by simp))
      clear hf hli
      go_wp2_with (at_builtin; go_must (refine walk_app (base := w.heap.size) (ys := strs [f.d.name]) rfl (.tmp 16) (.tmp 19) rfl Tryd.underlying27 info_str rfl (by decide) rfl rfl HN1.out.own HR1.out rfl (strs_one _) HN1.out.below.size (by have := HZ.out; simp only [strs, List.length_map, List.length_cons, List.length_nil] at this ⊢; omega) ?_; intro v1 w5 hO5 hg5 _; have HN5 := hidden (HN1.out.put hO5 hg5); clear hO5 hg5))
      exact ⟨⟨i + 1, by go_num, by omega, hidden (by rw [HNX.out]; exact HN5.out)⟩, by simp [intOf]; omega⟩
    · obtain rfl : i = n := by omega
      have hnlt : ¬ ((i : Int) < (i : Int)) := by omega
      have HF : Hid (NA w (s :: namesF l) u5 wr) := hidden (by have := HN.out; rwa [List.take_of_length_le (by have := HM.out.2; omega)] at this)
      go_wp2
      go_ret
      exact ⟨_, rfl, HF.out.own, HF.out.below⟩
end Go.Proofs.YtbdmdajbdmdknaaDoor
namespace Go.Proofs.YtbdmdajbdmdknaaDoor
open Go.RowKit
set_option linter.unusedVariables false
set_option linter.unusedSimpArgs false

theorem containsE {w W : World} {ns : List ByteArray} {v : Value} (h : NA w ns v W) (hl : ns.length ≤ 1000) (s : ByteArray) (b : Bool) (hb : b = true ↔ s ∈ ns) : Calls Tryd.prog 24 #[v, .string s] W fun e w' => e = .returned (.bool b) ∧ w' = W := by
  obtain ⟨A, c, rfl, hc, hr, hA⟩ := h.own.read
  rw [strs_len]
  cases ns with
  | nil =>
    refine (Any.slices_Contains_string_empty Tryd.lCO A c s W).mono ?_
    rintro e w' ⟨rfl, rfl⟩
    refine ⟨?_, rfl⟩
    cases b with
    | false => rfl
    | true => exact absurd (hb.1 rfl) (by simp)
  | cons x xs =>
    obtain ⟨bk, o, rfl, hlt, hcell⟩ := hr.pos (by simp [strs])
    refine (Any.slices_Contains_string Tryd.lCO bk o _ c (x :: xs) s W (Nat.le_refl _) (by omega) (fun j hj => ?_)).mono ?_
    · have := hcell j _ (strs_at (x :: xs) j hj)
      rwa [si] at this
    · rintro e w' ⟨rfl, rfl⟩
      refine ⟨?_, rfl⟩
      rw [List.take_length]
      congr 2
      rw [Bool.eq_iff_iff, Lib.containsS_iff, hb]
structure FitV (f : FD) : Prop where
  fit : FitF f
  name : Lib.validD f.name.data.toList = true
  text : Lib.validD f.text.data.toList = true
  list : ∀ s ∈ f.list, Lib.validD s.data.toList = true
structure AllFit (l : List FM) : Prop where
  len : l.length ≤ 31
  fit : ∀ f ∈ l, FitV f.d
  nd : (namesF l).Nodup
def OkS (s : ByteArray) : Prop := s.size ≤ 200 ∧ Lib.validD s.data.toList = true
def FitsP (w : World) (l : List FM) (e : Ending) (w' : World) : Prop := ∃ r, e = .returned (.bool r) ∧ (r = true → AllFit l ∧ l.length ≤ 30) ∧ Below w.heap.size w w'
/-- Between two fields. -/
structure FO (w : World) (l : List FM) (i : Nat) (v : Value) (W : World) : Prop where
  na : NA w (namesF (l.take i)) v W
  fit : ∀ j (h : j < l.length), j < i → FitV l[j].d
  nd : (namesF (l.take i)).Nodup
/-- Between two texts of a field. -/
structure FI (w : World) (ns : List ByteArray) (v : Value) (gb : Nat) (nm : ByteArray) (A : Option Addr) (all : List ByteArray) (j : Nat) (W : World) : Prop where
  na : NA w ns v W
  cell : W.cell? ⟨gb, 0, none⟩ = some (.string nm)
  rd : Rd W A (strs all)
  ok : ∀ q (h : q < all.length), q < j → OkS all[q]
theorem FI.next {w : World} {ns : List ByteArray} {v : Value} {gb : Nat} {nm : ByteArray} {A : Option Addr} {all : List ByteArray} {j : Nat} {W W2 : World} (h : FI w ns v gb nm A all j W) (hB : Below W.heap.size W W2) (hj : j < all.length) (hok : OkS all[j]) : FI w ns v gb nm A all (j + 1) W2 :=
  ⟨h.na.next hB, cell_next hB h.cell, h.rd.below hB (Nat.le_refl _), fun q hq hlt => by
    rcases Nat.lt_succ_iff_lt_or_eq.1 hlt with h1 | h1
    · exact h.ok q hq h1
    · subst h1; exact hok⟩
theorem NA.keep {w W W2 : World} {ns : List ByteArray} {v : Value} {k N : Nat} (h : NA w ns v W) (hg : W.grownBy W2 (some k)) (hv : ∀ b, v.ownBlock = some b → b < N) (hk : N ≤ k) (hw : w.heap.size ≤ k) : NA w ns v W2 :=
  ⟨h.own.kept hg (by
    cases hb : v.ownBlock with
    | none => exact .inl rfl
    | some b => right; intro e; have := hv b hb; cases e; omega), h.below.grown hg h.below.size (fun b hb => by cases hb; exact hw)⟩
theorem FO.step {w W W2 : World} {l : List FM} {i : Nat} {v v2 : Value} {f : FM} {all : List ByteArray} (h : FO w l i v W) (hi : i < l.length) (hf : ∀ h : i < l.length, l[i]'h = f) (hn : f.d.name ∉ namesF (l.take i)) (hk : (f.d.kind ≤ 6 ∧ f.d.list.length ≤ 30) ∧ f.d.name :: f.d.text :: f.d.list = all)
    (hok : ∀ s ∈ all, OkS s) (hN : NA w (namesF (l.take i) ++ [f.d.name]) v2 W2) : FO w l (i + 1) v2 W2 := by
  obtain ⟨⟨hk1, hk2⟩, rfl⟩ := hk
  have e := namesF_succ l i hi
  rw [hf hi] at e
  refine ⟨by rw [e]; exact hN, fun j hj hlt => ?_, ?_⟩
  · rcases Nat.lt_succ_iff_lt_or_eq.1 hlt with h1 | h1
    · exact h.fit j hj h1
    · subst h1
      rw [hf hj]
      have h1 := hok f.d.name (by simp)
      have h2 := hok f.d.text (by simp)
      exact ⟨⟨hk1, hk2, h1.1, h2.1, fun s hs => (hok s (by simp [hs])).1⟩, h1.2, h2.2, fun s hs => (hok s (by simp [hs])).2⟩
  · rw [e, List.nodup_append]
    refine ⟨h.nd, by simp, ?_⟩
    intro a ha b hb e2
    simp only [List.mem_cons, List.not_mem_nil, or_false] at hb
    subst hb
    subst e2
    exact hn ha
theorem FI.start {w wr Wb w5 : World} {ns all : List ByteArray} {vn : Value} {nm : ByteArray} {A : Option Addr} (hb : Wb.heap.size = wr.heap.size + 2) (ha : NA w ns vn Wb) (hc : Wb.cell? ⟨wr.heap.size, 0, none⟩ = some (.string nm)) (hg : Wb.grownBy w5 (some (wr.heap.size + 1)))
    (hv : ∀ b, vn.ownBlock = some b → b < wr.heap.size) (hw : w.heap.size ≤ wr.heap.size) (hr : Rd w5 A (strs all)) : FI w ns vn wr.heap.size nm A all 0 w5 :=
  ⟨ha.keep hg hv (by omega) (by omega), (World.cell?_of_block (a := ⟨wr.heap.size, 0, none⟩) (hg.block wr.heap.size (by omega) (fun e => by have := Option.some.inj e; omega))).trans hc, hr, fun q h h0 => by omega⟩
set_option maxRecDepth 100000 in
set_option maxHeartbeats 8000000 in
theorem headFitsE (A : Option Addr) (n c : Nat) (l : List FM) (w : World) (hm : FMs w A l) (hn : l.length = n) (hT : Tabs w) : Calls Tryd.prog 8 #[.slice A n c] w (FitsP w l) := by
  have HM := hidden (And.intro hm hn)
  have HT := hidden hT
  clear hm hn hT
  by_cases h30 : 30 < n
  · have h1i : (30 : Int) < (n : Int) := by omega
    go_enter Tryd.func8, Tryd.ntmps8
    go_wp2
    go_ret
    exact ⟨_, rfl, (fun h => Bool.noConfusion h), Below.refl _ _⟩
  have h1i : ¬ (30 : Int) < (n : Int) := by omega
  go_enter Tryd.func8, Tryd.ntmps8
  go_wp2
  go_loopw [13, 3] (fun v13 v3 wr => ∃ i : Nat, v13 = .int .i64 i ∧ i ≤ n ∧ Hid (FO w l i v3 wr)) (fun v _ _ => n - (intOf v).toNat)
  case atStart => exact ⟨0, rfl, by omega, hidden ⟨⟨Own.nil _ _ _, Below.refl _ _⟩, fun j h h0 => by omega, by simp [namesF]⟩⟩
  case round =>
    obtain ⟨i, rfl, hin, HF⟩ := hrel
    by_cases hlt : i < n
    · have hli : i < l.length := by rw [HM.out.2]; exact hlt
      obtain ⟨ab, ao, rfl, _, c0, c1, c2, c3, c4, c5, c6⟩ := fields_at (HM.out.1.below HF.out.na.below).rd i hli
      have hlist := (HM.out.1.below HF.out.na.below).list _ (List.getElem_mem hli)
      obtain ⟨f, hf⟩ : ∃ f, l[i] = f := ⟨_, rfl⟩
      rw [hf] at c0 c1 c2 c3 c4 c5 c6 hlist
      have HLF : Hid (∀ h : i < l.length, l[i]'h = f) := hidden (fun _ => hf)
      have HLI := hidden hlist
      have hlti : (i : Int) < (n : Int) := by omega
      obtain ⟨vn, hvn⟩ : ∃ v, u3 = v := ⟨_, rfl⟩
      rw [hvn] at HF ⊢
      clear hvn hf hli hlist
      by_cases hk : 6 < f.d.kind
      · have hki : (6 : Int) < (f.d.kind : Int) := by omega
        go_wp2
        go_ret
        exact ⟨_, rfl, (fun h => Bool.noConfusion h), below_next HF.out.na.below (below_alloc0 _ _)⟩
      have hki : ¬ (6 : Int) < (f.d.kind : Int) := by omega
      by_cases hll : 30 < f.d.list.length
      · have hlli : (30 : Int) < (f.d.list.length : Int) := by omega
        go_wp2
        go_ret
        exact ⟨_, rfl, (fun h => Bool.noConfusion h), below_next HF.out.na.below (below_alloc0 _ _)⟩
      have hlli : ¬ (30 : Int) < (f.d.list.length : Int) := by omega
      have HA1 := hidden (HF.out.na.alloc (.cells #[.string f.d.name, .int .u8 f.d.kind, .bool f.d.is_, .bool f.d.minus, .int .u64 f.d.num, .string f.d.text, .slice f.A f.d.list.length f.c] 29))
      have HNL : Hid ((namesF (l.take i)).length ≤ 30) := hidden (by rw [namesF, List.length_map, List.length_take]; omega)
      by_cases hin2 : f.d.name ∈ namesF (l.take i)
      · have KC := hidden (containsE HA1.out (by have := HNL.out; omega) f.d.name true (by simp [hin2]))
        clear hin2
        go_wp2_with (go_at_call 24; go_must (refine KC.out.mono ?_; rintro e w1 ⟨rfl, rfl⟩))
        go_ret
        exact ⟨_, rfl, (fun h => Bool.noConfusion h), HA1.out.below⟩
      have KC := hidden (containsE HA1.out (by have := HNL.out; omega) f.d.name false (by simp [hin2]))
      have HNI := hidden hin2
      clear hin2
      have HA2 := hidden (HA1.out.alloc (.cells #[.string f.d.name, .string f.d.text] 9))
      have HO2 : Hid (Own ((wr.alloc (.cells #[.string f.d.name, .int .u8 f.d.kind, .bool f.d.is_, .bool f.d.minus, .int .u64 f.d.num, .string f.d.text, .slice f.A f.d.list.length f.c] 29)).alloc (.cells #[.string f.d.name, .string f.d.text] 9)) (wr.heap.size + 1) 9 (.slice (some ⟨wr.heap.size + 1, 0, none⟩) 2 2) (strs [f.d.name, f.d.text])) := hidden (by
        refine Own.of_row (vs := strs [f.d.name, f.d.text]) (rest := []) ?_ (Nat.le_refl _) rfl (by decide)
        have := Row.new (wr.alloc (.cells #[.string f.d.name, .int .u8 f.d.kind, .bool f.d.is_, .bool f.d.minus, .int .u64 f.d.num, .string f.d.text, .slice f.A f.d.list.length f.c] 29)) 9 [.string f.d.name, .string f.d.text]
        simpa [strs] using this)
      have HC2 : Hid (((wr.alloc (.cells #[.string f.d.name, .int .u8 f.d.kind, .bool f.d.is_, .bool f.d.minus, .int .u64 f.d.num, .string f.d.text, .slice f.A f.d.list.length f.c] 29)).alloc (.cells #[.string f.d.name, .string f.d.text] 9)).cell? ⟨wr.heap.size, 0, none⟩ = some (.string f.d.name)) := hidden (((Row.new wr 29 [.string f.d.name, .int .u8 f.d.kind, .bool f.d.is_, .bool f.d.minus, .int .u64 f.d.num, .string f.d.text, .slice f.A f.d.list.length f.c]).alloc _).cell 0)
      have HL2 := hidden ((HLI.out.1.alloc (.cells #[.string f.d.name, .int .u8 f.d.kind, .bool f.d.is_, .bool f.d.minus, .int .u64 f.d.num, .string f.d.text, .slice f.A f.d.list.length f.c] 29)).alloc (.cells #[.string f.d.name, .string f.d.text] 9))
      have HVB := hidden (fun b (h : vn.ownBlock = some b) => (HF.out.na.own.lt b h).2)
      have HWS : Hid (w.heap.size ≤ wr.heap.size) := hidden HF.out.na.below.size
      go_wp2_with (first
        | (go_at_call 24; go_must (refine KC.out.mono ?_; rintro e w1 ⟨rfl, rfl⟩))
        | (at_builtin; go_must (refine walk_app (base := wr.heap.size + 1) (ys := strs f.d.list) rfl (.tmp 36) (.tmp 38) rfl Tryd.underlying27 info_str rfl (by decide) rfl rfl HO2.out HL2.out (strs_len _) (strs_one _) (by simp) (by simp only [strs, List.length_map, List.length_cons, List.length_nil]; omega) ?_; intro v1 w5 hO5 hg5 _; obtain ⟨A5, c5', rfl, hc5, hr5, hA5⟩ := hO5.read; have HI5 : Hid (FI w (namesF (l.take i)) vn wr.heap.size f.d.name A5 (f.d.name :: f.d.text :: f.d.list) 0 w5) := hidden (FI.start (by simp) HA2.out HC2.out hg5 HVB.out HWS.out (by simpa [strs] using hr5)); rw [show (strs [f.d.name, f.d.text] ++ strs f.d.list).length = f.d.list.length + 2 by simp [strs]]; clear hO5 hg5 hc5 hr5 hA5)))
      obtain ⟨wo, hwo⟩ : ∃ wo, wo = wr := ⟨_, rfl⟩
      subst hwo
      have HI6 := hidden HI5.out
      obtain ⟨gb, hgb⟩ : ∃ g, wo.heap.size = g := ⟨_, rfl⟩
      rw [hgb] at HI6 ⊢
      obtain ⟨all, hall⟩ : ∃ a, f.d.name :: f.d.text :: f.d.list = a := ⟨_, rfl⟩
      have hal : all.length = f.d.list.length + 2 := by rw [← hall]; simp
      rw [hall] at HI6
      have HAL := hidden (And.intro hall hal)
      obtain ⟨m, hm⟩ : ∃ m, f.d.list.length + 2 = m := ⟨_, rfl⟩
      have hm2 : ((f.d.list.length : Int) + 2) = (m : Int) := by omega
      rw [hm] at HAL ⊢
      have hm32 : m ≤ 32 := by omega
      rw [hm2]
      clear hm2
      clear hgb hall hal HI5 HA1 HA2 HO2 HC2 HL2 KC c0 c1 c2 c3 c4 c5 c6 HVB HWS
      go_loopw [41] (fun v wx => ∃ j : Nat, v = .int .i64 j ∧ j ≤ m ∧ Hid (FI w (namesF (l.take i)) vn gb f.d.name A5 all j wx)) (fun v _ => m - (intOf v).toNat)
      case atStart => exact ⟨0, rfl, by omega, HI6⟩
      case round =>
        clear HI6
        obtain ⟨j, rfl, hjm, HJ⟩ := hrel
        by_cases hjl : j < m
        · have hja : j < all.length := by rw [HAL.out.2]; exact hjl
          obtain ⟨b5, o5, rfl, _, d0⟩ := HJ.out.rd.atS j hja
          have hsi : si all j = all[j] := by simp [si, List.getD_eq_getElem?_getD, List.getElem?_eq_getElem hja]
          obtain ⟨s, hs⟩ : ∃ s, all[j] = s := ⟨_, rfl⟩
          rw [hsi, hs] at d0
          have HSJ : Hid (∀ h : j < all.length, all[j]'h = s) := hidden (fun _ => hs)
          have hjli : (j : Int) < (m : Int) := by omega
          clear hsi hs hja
          by_cases hbig : 200 < s.size
          · have hbi : (200 : Int) < (s.size : Int) := by omega
            go_wp2
            go_ret
            exact ⟨_, rfl, (fun h => Bool.noConfusion h), HJ.out.na.below⟩
          have hbi : ¬ (200 : Int) < (s.size : Int) := by omega
          have KV := hidden (valid_calls s wr (by omega) (HT.out.next HJ.out.na.below))
          cases hv : Lib.validD s.data.toList with
          | false =>
            rw [hv] at KV
            clear hv
            go_wp2_with (go_at_call 9; go_must (refine KV.out.mono ?_; rintro e w6 ⟨rfl, hB⟩; have HB6 := hidden (below_next HJ.out.na.below hB); clear hB))
            go_ret
            exact ⟨_, rfl, (fun h => Bool.noConfusion h), HB6.out⟩
          | true =>
            rw [hv] at KV
            have HOK : Hid (OkS s) := hidden ⟨by omega, hv⟩
            clear hv
            go_wp2_with (go_at_call 9; go_must (refine KV.out.mono ?_; rintro e w6 ⟨rfl, hB⟩; have HB6 := hidden hB; clear hB))
            exact ⟨⟨j + 1, by go_num, by omega, hidden (HJ.out.next HB6.out (by rw [HAL.out.2]; exact hjl) (by rw [HSJ.out]; exact HOK.out))⟩, by simp [intOf]; omega⟩
        · obtain rfl : j = m := by omega
          have hjn : ¬ ((j : Int) < (j : Int)) := by omega
          have hcl := HJ.out.cell
          have HNA := hidden (HJ.out.na.alloc (.cells #[.string f.d.name] 9))
          have HRN := hidden (Rd.new wr 9 [.string f.d.name] wr.heap.size rfl)
          go_wp2_with (at_builtin; go_must (refine walk_app (base := w.heap.size) (ys := strs [f.d.name]) rfl (.tmp 54) (.tmp 57) rfl Tryd.underlying27 info_str rfl (by decide) rfl rfl HNA.out.own HRN.out rfl (strs_one _) HNA.out.below.size (by have := HNL.out; simp only [strs, List.length_map, List.length_cons, List.length_nil] at this ⊢; omega) ?_; intro v1 w7 hO7 hg7 _; have HN7 := hidden (HNA.out.put hO7 hg7); clear hO7 hg7))
          exact ⟨⟨i + 1, by go_num, by omega, hidden (FO.step HF.out (by rw [HM.out.2]; exact hlt) HLF.out HNI.out ⟨⟨by omega, by omega⟩, HAL.out.1⟩ (fun s hs => by
            obtain ⟨q, hq, rfl⟩ := List.mem_iff_getElem.1 hs
            exact HJ.out.ok q hq (by have := HAL.out.2; omega)) HN7.out)⟩, by simp [intOf]; omega⟩
    · obtain rfl : i = n := by omega
      have hnlt : ¬ ((i : Int) < (i : Int)) := by omega
      go_wp2
      go_ret
      refine ⟨_, rfl, fun _ => ⟨⟨by have := HM.out.2; omega, fun f hf => ?_, ?_⟩, by have := HM.out.2; omega⟩, HF.out.na.below⟩
      · obtain ⟨j, hj, rfl⟩ := List.mem_iff_getElem.1 hf
        exact HF.out.fit j hj (by have := HM.out.2; omega)
      · have := HF.out.nd
        rwa [List.take_of_length_le (by have := HM.out.2; omega)] at this
end Go.Proofs.YtbdmdajbdmdknaaDoor
