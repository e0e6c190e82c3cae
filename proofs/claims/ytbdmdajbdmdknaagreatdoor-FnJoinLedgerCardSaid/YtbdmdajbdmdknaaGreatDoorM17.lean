/- Slices of texts: equal, cloned. Heads and marks of compact forms that are signed. Texts that may stand as they are: the walks of FnPartSafeJoined and FnPartSafe. Texts that may stand within a header: the walk of joinSafe. -/
import Derived.Test.YtbdmdajbdmdknaaGreatDoorProg
import Derived.Test.YtbdmdajbdmdknaaGreatDoorM1
import Derived.Lib.Bytes
import Derived.StillTailTactics
import Derived.Test.YtbdmdajbdmdknaaGreatDoorShaC
import Derived.Test.YtbdmdajbdmdknaaGreatDoorM16
import Derived.Test.YtbdmdajbdmdknaaGreatDoorM14
import Derived.Test.YtbdmdajbdmdknaaGreatDoorM13
namespace Go.Proofs.YtbdmdajbdmdknaaGreatDoor
open Go.RowKit
set_option linter.unusedVariables false
set_option linter.unusedSimpArgs false

def strs (l : List ByteArray) : List Value := l.map Value.string
def si (l : List ByteArray) (i : Nat) : ByteArray := l.getD i ByteArray.empty
theorem strs_len (l : List ByteArray) : (strs l).length = l.length := List.length_map ..
theorem strs_at (l : List ByteArray) (i : Nat) (hi : i < l.length) : (strs l)[i]? = some (.string (si l i)) := by
  simp [strs, si, List.getD_eq_getElem?_getD, hi]
theorem strs_one (l : List ByteArray) : ∀ u ∈ strs l, u.oneCell' = true := by
  intro u hu
  obtain ⟨x, _, rfl⟩ := List.mem_map.1 hu
  rfl
theorem si_ext {a b : List ByteArray} (hl : a.length = b.length) (h : ∀ i, i < a.length → si a i = si b i) : a = b := by
  apply List.ext_getElem hl
  intro i h1 h2
  have := h i h1
  simpa [si, List.getD_eq_getElem?_getD, h1, h2] using this
theorem Rd.atS {w : World} {A : Option Addr} {l : List ByteArray} (h : Rd w A (strs l)) (i : Nat) (hi : i < l.length) : ∃ b o, A = some ⟨b, o, none⟩ ∧ b < w.heap.size ∧ w.cell? ⟨b, o + i, none⟩ = some (.string (si l i)) :=
  h i _ (strs_at l i hi)
theorem info_str : (Tryz.prog.info? 9).map (fun i => (i.zero, i.size, i.bytes)) = some (some (.string ByteArray.empty), 1, 16) := by kernel_rfl
theorem bytes_eq (x y : ByteArray) : (x.toList == y.toList) = decide (x = y) := by
  rw [Bool.eq_iff_iff, beq_iff_eq, decide_eq_true_iff]
  constructor
  · intro h
    have hx : ∀ z : ByteArray, z.toList = z.data.toList := fun z => Lib.toList_data z
    rw [hx, hx] at h
    cases x; cases y
    congr 1
    exact Array.toList_inj.1 h
  · rintro rfl; rfl
end Go.Proofs.YtbdmdajbdmdknaaGreatDoor
namespace Go.Proofs.YtbdmdajbdmdknaaGreatDoor
open Go.RowKit
set_option linter.unusedVariables false
set_option linter.unusedSimpArgs false

theorem shaOut_isB (hs : List Int) : ∀ k, IsB (shaOut hs k)
  | 0 => fun x hx => by have := List.eq_of_mem_replicate (show x ∈ List.replicate 32 (0 : Int) from hx); omega
  | k + 1 => fun x hx => by
    rw [shaOut_succ] at hx
    rcases List.mem_or_eq_of_mem_set hx with h | rfl
    · exact shaOut_isB hs k x h
    · unfold shaByte; omega
theorem SumIs.isB {l r : List Int} (h : SumIs l r) : IsB r := by rw [h.eq]; unfold shaSum; exact shaOut_isB _ _
theorem SumIs.len {l r : List Int} (h : SumIs l r) : r.length = 32 := by rw [h.eq]; exact shaSum_len l
theorem SumIs.uniq {l r s : List Int} (h : SumIs l r) (k : SumIs l s) : r = s := h.eq.trans k.eq.symm
/-- The bytes of a text. -/
def bts (s : ByteArray) : List Int := s.data.toList.map fun b => (b.toNat : Int)
theorem bts_len (s : ByteArray) : (bts s).length = s.size := by unfold bts; rw [List.length_map]; rfl
theorem bts_isB (s : ByteArray) : IsB (bts s) := by
  intro x hx
  obtain ⟨b, _, rfl⟩ := List.mem_map.1 hx
  have := b.toNat_lt
  omega
theorem bts_app (a b : ByteArray) : bts (a ++ b) = bts a ++ bts b := by unfold bts; rw [ByteArray.data_append, Array.toList_append, List.map_append]
theorem rd_bts (w : World) (e : Nat) (s : ByteArray) : Rd (Go.Lib.bytesWorld w e s) (some ⟨w.heap.size, 0, none⟩) (nums .u8 (bts s)) := by
  intro i v hv
  have hi : i < (bts s).length := by rw [← nums_len .u8]; exact (List.getElem?_eq_some_iff.1 hv).1
  rw [nums_at _ _ _ hi] at hv
  cases hv
  rw [bts_len] at hi
  have hi2 : i < s.data.toList.length := hi
  refine ⟨_, _, rfl, by rw [Go.Lib.bytesWorld_size]; omega, ?_⟩
  rw [Nat.zero_add, Go.Lib.bytesWorld_cell _ _ _ _ hi]
  have h3 : s.data[i]? = some s.data[i] := Array.getElem?_eq_getElem hi
  unfold gi bts
  simp [List.getD_eq_getElem?_getD, h3]
/-- The header with the name of an algorithm and that of a key. -/
def headS (a k : ByteArray) : ByteArray := ((((⟨#[123, 34, 97, 108, 103, 34, 58, 34]⟩ : ByteArray) ++ a) ++ ⟨#[34, 44, 34, 107, 105, 100, 34, 58, 34]⟩) ++ k) ++ ⟨#[34, 125]⟩
theorem headS_len (a k : ByteArray) : (bts (headS a k)).length = a.size + k.size + 19 := by
  rw [bts_len]
  unfold headS
  simp only [ByteArray.size_append]
  show 8 + a.size + 9 + k.size + 2 = _
  omega
/-- A text of one's own. -/
structure HeadB (w : World) (n : Nat) (l : List Int) (e : Ending) (w' : World) : Prop where
  below : Below w.heap.size w w'
  res : ∃ A c, e = .returned (.slice A n c) ∧ ArgB w' A n c l
set_option maxRecDepth 100000 in
set_option maxHeartbeats 1000000 in
theorem joinHead_calls (a k : ByteArray) (n : Nat) (l : List Int) (hl : l = bts (headS a k)) (hn : n = a.size + k.size + 19) (w : World) (ha : a.size ≤ 1000) (hk : k.size ≤ 1000) :
    Calls Tryz.prog 39 #[.string a, .string k] w (HeadB w n l) := by
  have hsz : (headS a k).size = n := by rw [hn, ← headS_len, bts_len]
  have hcv : ∀ W : World, (convert 9 31 (.string (headS a k))).run Tryz.prog W = .ok (.slice (some ⟨W.heap.size, 0, none⟩) n (grownCap W n 0 5)) (Go.Lib.bytesWorld W 5 (headS a k)) := fun W => by
    have := Go.Lib.run_convert_string_bytes (P := Tryz.prog) W 9 31 5 (headS a k) Tryz.underlying9 Tryz.underlying31 Tryz.underlying5
    rw [hsz] at this
    exact this
  have HRd : Hid (Rd (Go.Lib.bytesWorld w 5 (headS a k)) (some ⟨w.heap.size, 0, none⟩) (nums .u8 l)) := hidden (by rw [hl]; exact rd_bts w _ _)
  have HB0 := hidden (below_bytes w 5 (headS a k))
  have Hge := hidden (grownCap_ge w n 0 5)
  have HI : Hid (IsB l ∧ l.length = n) := hidden ⟨by rw [hl]; exact bts_isB _, by rw [hl, bts_len, hsz]⟩
  clear hl hsz hn
  unfold headS at hcv HRd HB0
  have hcv := hcv w
  have c1 : ¬ 9223372036854775807 < 8 + a.size := by omega
  have c2 : ¬ 9223372036854775807 < 8 + a.size + 9 := by omega
  have c3 : ¬ 9223372036854775807 < 8 + a.size + 9 + k.size := by omega
  have c4 : ¬ 9223372036854775807 < 8 + a.size + 9 + k.size + 2 := by omega
  go_enter Tryz.func39, Tryz.ntmps39
  go_wp2
  go_ret
  exact ⟨HB0.out, _, _, rfl, HRd.out, HI.out.2, Hge.out, fun h => (by cases h), HI.out.1⟩
def markL (key sg : List Int) : List Int := key ++ [0] ++ sg
set_option maxRecDepth 100000 in
set_option maxHeartbeats 4000000 in
theorem joinMark_calls (A : Option Addr) (n c : Nat) (key : List Int) (B : Option Addr) (m d : Nat) (sg r : List Int) (w : World) (h1 : ArgB w A n c key) (n1 : n ≤ 20000) (h2 : ArgB w B m d sg) (n2 : m ≤ 60000) (hr : SumIs (markL key sg) r) :
    Calls Tryz.prog 24 #[.slice A n c, .slice B m d] w (HeadB w 32 r) := by
  have K1 : Hid (∀ W, Below w.heap.size w W → Calls Tryz.prog 18 #[.slice A n c] W (NewB W key)) := hidden (fun W hB => have hx := h1.below hB (Nat.le_refl _); partOwn_calls A n c key W hx.rd hx.len (by omega))
  have hmk : (markL key sg).length = n + 1 + m := by simp [markL, h1.len, h2.len]; omega
  have hmB : IsB (markL key sg) := isB_app (isB_app h1.isB (by intro x hx; simp at hx; omega)) h2.isB
  have HS : Hid (∀ W C c', Rd W C (nums .u8 (markL key sg)) → Calls Tryz.prog 43 #[.slice C (n + 1 + m) c'] W fun e w' => e = .returned (.agg (nums .u8 r).toArray) ∧ Below W.heap.size W w') := hidden (fun W C c' h => by rw [hr.eq]; exact shaSum_calls C (n + 1 + m) c' _ W h hmk hmB (by omega))
  have hkl : key.length ≤ 20000 := by rw [h1.len]; exact n1
  have hsl : sg.length ≤ 60000 := by rw [h2.len]; exact n2
  have H2 := hidden h2
  have Hrl := hidden hr.len
  have HrB := hidden hr.isB
  have Hmk : Hid ((nums .u8 (key ++ [0] ++ sg)).length = n + 1 + m) := hidden (by rw [nums_len]; exact hmk)
  unfold markL at HS
  have HZ : Hid (∀ W : World, Row (W.alloc (.cells #[.int .u8 0, .int .u8 0, .int .u8 0, .int .u8 0, .int .u8 0, .int .u8 0, .int .u8 0, .int .u8 0, .int .u8 0, .int .u8 0, .int .u8 0, .int .u8 0, .int .u8 0, .int .u8 0, .int .u8 0, .int .u8 0, .int .u8 0, .int .u8 0, .int .u8 0, .int .u8 0, .int .u8 0, .int .u8 0, .int .u8 0, .int .u8 0, .int .u8 0, .int .u8 0, .int .u8 0, .int .u8 0, .int .u8 0, .int .u8 0, .int .u8 0, .int .u8 0] 79)) W.heap.size 79 (nums .u8 z32)) := hidden (fun W => Row.new W _ (nums .u8 z32))
  clear h1 h2 hmk hmB hr
  go_enter Tryz.func24, Tryz.ntmps24
  go_wp2_with (first
    | (go_at_call 18; go_must (refine (K1.out _ (Below.refl _ _)).mono ?_; rintro e w1 ⟨v1, rfl, hO, hB⟩; have HP1 : Hid (OB w w1 v1 key) := hidden ⟨hO, hB⟩; clear hO hB))
    | (at_builtin; refine walk_app (base := w.heap.size) rfl (.tmp 7) (.tmp 8) rfl Tryz.underlying31 info_u8 rfl (by decide) rfl rfl (HP1.out.own.alloc _) (Rd.new w1 5 (nums .u8 [0]) _ rfl) rfl (nums_one _ _) (Nat.le_trans HP1.out.below.size (below_alloc0 w1 _).size) (by simp only [List.length_append, nums_len, List.length_cons, List.length_nil]; omega) ?_; intro v2 w2 hO2 hg2 _; have HP2 := hidden (HP1.out.put (below_alloc0 w1 _) hO2 hg2); clear hO2 hg2)
    | (at_builtin; refine walk_app (base := w.heap.size) rfl (.tmp 9) (.tmp 10) rfl Tryz.underlying31 info_u8 rfl (by decide) rfl rfl HP2.out.own (H2.out.rd.below HP2.out.below (Nat.le_refl _)) (by rw [nums_len]; exact H2.out.len) (nums_one _ _) HP2.out.below.size (by simp only [List.length_append, nums_len, List.length_cons, List.length_nil]; omega) ?_; intro v4 w4 hO4 hg4 _; have HP4 := hidden (HP2.out.put (Below.refl _ _) hO4 hg4); clear hO4 hg4; obtain ⟨A4, c4, hv4, _, hr4, _⟩ := HP4.out.own.read; rw [Hmk.out] at hv4; subst hv4; have HR4 := hidden hr4; clear hr4)
    | (go_at_call 43; go_must (refine (HS.out w4 A4 c4 HR4.out).mono ?_; rintro e w5 ⟨rfl, hB⟩; have HB5 := hidden (below_next HP4.out.below hB); clear hB))
    | (with_reducible refine at_store 5 ?_; go_must (refine walk_store_row (vs := nums .u8 r) rfl 79 (.tmp 5) (.tmp 12) rfl (HZ.out w5) rfl rfl (by rw [nums_len, Hrl.out]; kernel_rfl) (by rw [nums_len, nums_len, Hrl.out]; simp [z32]) (nums_one _ _) ?_; intro w6 hR hg; have HR6 := hidden hR; have HB6 := hidden ((below_next HB5.out (below_alloc0 w5 _)).grown hg (below_next HB5.out (below_alloc0 w5 _)).size (by rintro q ⟨⟩; exact HB5.out.size)); clear hR hg)))
  go_ret
  exact ⟨HB6.out, _, _, rfl, Rd.row HR6.out, Hrl.out, Nat.le_refl _, fun h => (by cases h), HrB.out⟩
end Go.Proofs.YtbdmdajbdmdknaaGreatDoor
namespace Go.Proofs.YtbdmdajbdmdknaaGreatDoor
open Go.RowKit
set_option linter.unusedVariables false
set_option linter.unusedSimpArgs false

def okN (n : Nat) : Bool := decide (32 ≤ n) && decide (n < 127) && !(n == 34) && !(n == 92)
def safeL (l : List UInt8) : Bool := l.all fun b => okN b.toNat
def safeS (s : ByteArray) : Bool := safeL s.data.toList
theorem safeS_app (a b : ByteArray) : safeS (a ++ b) = (safeS a && safeS b) := by
  unfold safeS safeL
  rw [ByteArray.data_append, Array.toList_append, List.all_append]
theorem safe_take {s : ByteArray} {k : Nat} (hk : k < s.size) : safeL (s.data.toList.take (k + 1)) = (safeL (s.data.toList.take k) && okN (s[k]'hk).toNat) := by
  have hk2 : k < s.data.toList.length := hk
  unfold safeL
  rw [List.take_succ_eq_append_getElem hk2, List.all_append]
  simp
  rfl
theorem safe_all (s : ByteArray) : safeL (s.data.toList.take s.size) = safeS s := by
  have : s.data.toList.length = s.size := rfl
  rw [safeS, ← this, List.take_length]
theorem safe_false {s : ByteArray} {k : Nat} (h : k ≤ s.size) (hf : safeL (s.data.toList.take k) = false) : safeS s = false := by
  rw [Bool.eq_false_iff] at hf ⊢
  intro hs
  apply hf
  unfold safeS safeL at *
  rw [List.all_eq_true] at *
  exact fun x hx => hs x (List.mem_of_mem_take hx)
end Go.Proofs.YtbdmdajbdmdknaaGreatDoor
namespace Go.Proofs.YtbdmdajbdmdknaaGreatDoor
open Go.RowKit
set_option linter.unusedVariables false
set_option linter.unusedSimpArgs false

def okS (s : ByteArray) : Bool := decide (s.size ≤ 60) && safeS s
theorem okS_all {ss : List ByteArray} {n : Nat} (hn : ss.length = n) (h : ∀ j, j < n → okS (si ss j) = true) : ss.all okS = true := by
  rw [List.all_eq_true]
  intro x hx
  obtain ⟨j, hj, rfl⟩ := List.mem_iff_getElem.1 hx
  have := h j (by omega)
  simpa [si, List.getD_eq_getElem?_getD, hj] using this
theorem okS_not {ss : List ByteArray} {j : Nat} (hj : j < ss.length) (h : okS (si ss j) = false) : ss.all okS = false := by
  rw [List.all_eq_false]
  refine ⟨ss[j], List.getElem_mem _, ?_⟩
  have : si ss j = ss[j] := by simp [si, List.getD_eq_getElem?_getD, hj]
  rw [← this, h]; simp
set_option maxRecDepth 100000 in
set_option maxHeartbeats 2000000 in
theorem joinSafe_calls (X : Option Addr) (n c : Nat) (ss : List ByteArray) (w : World) (h : Rd w X (strs ss)) (hn : ss.length = n) (hb : n ≤ 1000) (r : Bool) (hr : r = ss.all okS) :
    Calls Tryz.prog 16 #[.slice X n c] w fun e w' => e = .returned (.bool r) ∧ w = w' := by
  have Hr := hidden hr
  clear hr
  go_enter Tryz.func16, Tryz.ntmps16
  go_wp2
  go_loop [8] (fun i => ∃ k : Nat, k ≤ n ∧ i = .int .i64 k ∧ Hid (∀ j, j < k → okS (si ss j) = true)) (fun i => n - (intOf i).toNat)
  case atStart => exact ⟨0, by omega, rfl, hidden (by omega)⟩
  case round =>
    obtain ⟨k, hk, rfl, hle⟩ := hrel
    by_cases hlt : k < n
    · have hlt' : k < ss.length := by omega
      obtain ⟨b0, o0, rfl, _, c0⟩ := h.atS k hlt'
      have HF : Hid (okS (si ss k) = false → ss.all okS = false) := hidden (okS_not hlt')
      have HN : Hid (okS (si ss k) = true → ∀ j, j < k + 1 → okS (si ss j) = true) := hidden (fun e j hj => by
        rcases Nat.lt_succ_iff_lt_or_eq.1 hj with h | rfl
        · exact hle.out j h
        · exact e)
      generalize si ss k = s at c0 HF HN
      by_cases h2 : s.size ≤ 60
      · have h2i : ¬ (60 : Int) < (s.size : Int) := by omega
        clear h
        go_wp2
        go_loop [5] (fun i => ∃ j : Nat, j ≤ s.size ∧ i = .int .i64 j ∧ Hid (safeL (s.data.toList.take j) = true)) (fun i => s.size - (intOf i).toNat)
        case atStart => exact ⟨0, by omega, rfl, hidden rfl⟩
        case round =>
          obtain ⟨j, hj, rfl, Hall⟩ := hrel
          by_cases hlj : j < s.size
          · have hlji : (j : Int) < (s.size : Int) := by omega
            have Ht := hidden (safe_take hlj)
            have HB : Hid (safeL (s.data.toList.take (j + 1)) = false → r = false) := hidden (fun h => by rw [Hr.out, HF.out (by rw [okS, safe_false (s := s) (k := j + 1) (by omega) h]; simp)])
            obtain ⟨x, hx⟩ : ∃ x, s[j]'hlj = x := ⟨_, rfl⟩
            rw [hx] at Ht
            obtain ⟨a, ha⟩ : ∃ a : Nat, x.toNat = a := ⟨_, rfl⟩
            have Hnext : Hid (safeL (s.data.toList.take (j + 1)) = okN a) := hidden (by rw [Ht.out, Hall.out, ha]; rfl)
            clear Ht
            by_cases h1 : a < 32
            · have h1i : (a : Int) < 32 := by omega
              have hrf : r = false := HB.out (by rw [Hnext.out, okN, decide_eq_false (by omega)]; rfl)
              subst hrf
              go_wp2
              go_ret
              exact ⟨rfl, rfl⟩
            · have h1i : ¬ (a : Int) < 32 := by omega
              by_cases h2 : 127 ≤ a
              · have h2i : (126 : Int) < (a : Int) := by omega
                have hrf : r = false := HB.out (by rw [Hnext.out, okN, decide_eq_false (show ¬ a < 127 by omega)]; simp)
                subst hrf
                go_wp2
                go_ret
                exact ⟨rfl, rfl⟩
              · have h2i : ¬ (126 : Int) < (a : Int) := by omega
                by_cases h3 : a = 34
                · subst h3
                  have hrf : r = false := HB.out (by rw [Hnext.out]; rfl)
                  subst hrf
                  go_wp2
                  go_ret
                  exact ⟨rfl, rfl⟩
                · have h3i : ((a : Int) == 34) = false := beq_eq_false_iff_ne.2 (by omega)
                  by_cases h4 : a = 92
                  · subst h4
                    have hrf : r = false := HB.out (by rw [Hnext.out]; rfl)
                    subst hrf
                    go_wp2
                    go_ret
                    exact ⟨rfl, rfl⟩
                  · have h4i : ((a : Int) == 92) = false := beq_eq_false_iff_ne.2 (by omega)
                    have HNN : Hid (safeL (s.data.toList.take (j + 1)) = true) := hidden (by
                      rw [Hnext.out, okN, decide_eq_true (show 32 ≤ a by omega), decide_eq_true (show a < 127 by omega), beq_eq_false_iff_ne.2 h3, beq_eq_false_iff_ne.2 h4]; rfl)
                    go_wp2
                    go_round
                    case rel => exact ⟨j + 1, by omega, by go_num, HNN⟩
                    case measure => simp [intOf]; omega
          · obtain rfl : j = s.size := by omega
            have HO : Hid (∀ j, j < k + 1 → okS (si ss j) = true) := hidden (HN.out (by rw [okS, decide_eq_true h2, ← safe_all, Hall.out]; rfl))
            go_wp2
            go_round
            case rel => exact ⟨k + 1, by omega, by go_num, HO⟩
            case measure => simp [intOf]; omega
      · have h2i : (60 : Int) < (s.size : Int) := by omega
        have hrf : r = false := by rw [Hr.out, HF.out (by rw [okS, decide_eq_false h2]; rfl)]
        subst hrf
        go_wp2
        go_ret
        exact ⟨rfl, rfl⟩
    · obtain rfl : k = n := by omega
      have hrt : r = true := by rw [Hr.out, okS_all hn hle.out]
      subst hrt
      go_wp2
      go_ret
      exact ⟨rfl, rfl⟩
end Go.Proofs.YtbdmdajbdmdknaaGreatDoor
