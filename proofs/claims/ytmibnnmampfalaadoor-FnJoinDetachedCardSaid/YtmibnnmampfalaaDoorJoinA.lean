/- Heads and marks of compact forms that are signed. -/
import Derived.Test.YtmibnnmampfalaaDoorShaC
import Derived.Test.YtmibnnmampfalaaDoorB64Y
import Derived.Test.YtmibnnmampfalaaDoorNum2
import Derived.Test.YtmibnnmampfalaaDoorJoined
import Derived.Test.YtmibnnmampfalaaDoorStr
namespace Go.Proofs.YtmibnnmampfalaaDoor
open Go.RowKit
set_option linter.unusedVariables false
set_option linter.unusedSimpArgs false

theorem shaOut_isB (hs : List Int) : ∀ k, IsB (shaOut hs k)
  | 0 => fun x hx => by have := List.eq_of_mem_replicate (show x ∈ List.replicate 32 (0 : Int) from hx); omega
  | k + 1 => fun x hx => by
    rw [shaOut_succ] at hx
    rcases List.mem_or_eq_of_mem_set hx with h | rfl
    · exact shaOut_isB hs k x h
    · unfold shaByte; omega
theorem SumIs.isB {l r : List Int} (h : SumIs l r) : IsB r := by rw [h.eq]; unfold shaSum; exact shaOut_isB _ _
theorem SumIs.len {l r : List Int} (h : SumIs l r) : r.length = 32 := by rw [h.eq]; exact shaSum_len l
theorem SumIs.uniq {l r s : List Int} (h : SumIs l r) (k : SumIs l s) : r = s := h.eq.trans k.eq.symm
/-- The bytes of a text. -/
def bts (s : ByteArray) : List Int := s.data.toList.map fun b => (b.toNat : Int)
theorem bts_len (s : ByteArray) : (bts s).length = s.size := by unfold bts; rw [List.length_map]; rfl
theorem bts_isB (s : ByteArray) : IsB (bts s) := by
  intro x hx
  obtain ⟨b, _, rfl⟩ := List.mem_map.1 hx
  have := b.toNat_lt
  omega
theorem bts_app (a b : ByteArray) : bts (a ++ b) = bts a ++ bts b := by unfold bts; rw [ByteArray.data_append, Array.toList_append, List.map_append]
theorem rd_bts (w : World) (e : Nat) (s : ByteArray) : Rd (Go.Lib.bytesWorld w e s) (some ⟨w.heap.size, 0, none⟩) (nums .u8 (bts s)) := by
  intro i v hv
  have hi : i < (bts s).length := by rw [← nums_len .u8]; exact (List.getElem?_eq_some_iff.1 hv).1
  rw [nums_at _ _ _ hi] at hv
  cases hv
  rw [bts_len] at hi
  have hi2 : i < s.data.toList.length := hi
  refine ⟨_, _, rfl, by rw [Go.Lib.bytesWorld_size]; omega, ?_⟩
  rw [Nat.zero_add, Go.Lib.bytesWorld_cell _ _ _ _ hi]
  have h3 : s.data[i]? = some s.data[i] := Array.getElem?_eq_getElem hi
  unfold gi bts
  simp [List.getD_eq_getElem?_getD, h3]
/-- The header with the name of an algorithm and that of a key. -/
def headS (a k : ByteArray) : ByteArray := ((((⟨#[123, 34, 97, 108, 103, 34, 58, 34]⟩ : ByteArray) ++ a) ++ ⟨#[34, 44, 34, 107, 105, 100, 34, 58, 34]⟩) ++ k) ++ ⟨#[34, 125]⟩
theorem headS_len (a k : ByteArray) : (bts (headS a k)).length = a.size + k.size + 19 := by
  rw [bts_len]
  unfold headS
  simp only [ByteArray.size_append]
  show 8 + a.size + 9 + k.size + 2 = _
  omega
/-- A text of one's own. -/
structure HeadB (w : World) (n : Nat) (l : List Int) (e : Ending) (w' : World) : Prop where
  below : Below w.heap.size w w'
  res : ∃ A c, e = .returned (.slice A n c) ∧ ArgB w' A n c l
set_option maxRecDepth 100000 in
set_option maxHeartbeats 1000000 in
theorem joinHead_calls (a k : ByteArray) (n : Nat) (l : List Int) (hl : l = bts (headS a k)) (hn : n = a.size + k.size + 19) (w : World) (ha : a.size ≤ 1000) (hk : k.size ≤ 1000) :
    Calls Tryd.prog 14 #[.string a, .string k] w (HeadB w n l) := by
  have hsz : (headS a k).size = n := by rw [hn, ← headS_len, bts_len]
  have hcv : ∀ W : World, (convert 9 22 (.string (headS a k))).run Tryd.prog W = .ok (.slice (some ⟨W.heap.size, 0, none⟩) n (grownCap W n 0 5)) (Go.Lib.bytesWorld W 5 (headS a k)) := fun W => by
    have := Go.Lib.run_convert_string_bytes (P := Tryd.prog) W 9 22 5 (headS a k) Tryd.underlying9 Tryd.underlying22 Tryd.underlying5
    rw [hsz] at this
    exact this
  have HRd : Hid (Rd (Go.Lib.bytesWorld w 5 (headS a k)) (some ⟨w.heap.size, 0, none⟩) (nums .u8 l)) := hidden (by rw [hl]; exact rd_bts w _ _)
  have HB0 := hidden (below_bytes w 5 (headS a k))
  have Hge := hidden (grownCap_ge w n 0 5)
  have HI : Hid (IsB l ∧ l.length = n) := hidden ⟨by rw [hl]; exact bts_isB _, by rw [hl, bts_len, hsz]⟩
  clear hl hsz hn
  unfold headS at hcv HRd HB0
  have hcv := hcv w
  have c1 : ¬ 9223372036854775807 < 8 + a.size := by omega
  have c2 : ¬ 9223372036854775807 < 8 + a.size + 9 := by omega
  have c3 : ¬ 9223372036854775807 < 8 + a.size + 9 + k.size := by omega
  have c4 : ¬ 9223372036854775807 < 8 + a.size + 9 + k.size + 2 := by omega
  go_enter Tryd.func14, Tryd.ntmps14
  go_wp2
  go_ret
  exact ⟨HB0.out, _, _, rfl, HRd.out, HI.out.2, Hge.out, fun h => (by cases h), HI.out.1⟩
def markL (key sg : List Int) : List Int := key ++ [0] ++ sg
set_option maxRecDepth 100000 in
set_option maxHeartbeats 4000000 in
theorem joinMark_calls (A : Option Addr) (n c : Nat) (key : List Int) (B : Option Addr) (m d : Nat) (sg r : List Int) (w : World) (h1 : ArgB w A n c key) (n1 : n ≤ 20000) (h2 : ArgB w B m d sg) (n2 : m ≤ 60000) (hr : SumIs (markL key sg) r) :
    Calls Tryd.prog 15 #[.slice A n c, .slice B m d] w (HeadB w 32 r) := by
  have K1 : Hid (∀ W, Below w.heap.size w W → Calls Tryd.prog 10 #[.slice A n c] W (NewB W key)) := hidden (fun W hB => have hx := h1.below hB (Nat.le_refl _); partOwn_calls A n c key W hx.rd hx.len (by omega))
  have hmk : (markL key sg).length = n + 1 + m := by simp [markL, h1.len, h2.len]; omega
  have hmB : IsB (markL key sg) := isB_app (isB_app h1.isB (by intro x hx; simp at hx; omega)) h2.isB
  have HS : Hid (∀ W C c', Rd W C (nums .u8 (markL key sg)) → Calls Tryd.prog 23 #[.slice C (n + 1 + m) c'] W fun e w' => e = .returned (.agg (nums .u8 r).toArray) ∧ Below W.heap.size W w') := hidden (fun W C c' h => by rw [hr.eq]; exact shaSum_calls C (n + 1 + m) c' _ W h hmk hmB (by omega))
  have hkl : key.length ≤ 20000 := by rw [h1.len]; exact n1
  have hsl : sg.length ≤ 60000 := by rw [h2.len]; exact n2
  have H2 := hidden h2
  have Hrl := hidden hr.len
  have HrB := hidden hr.isB
  have Hmk : Hid ((nums .u8 (key ++ [0] ++ sg)).length = n + 1 + m) := hidden (by rw [nums_len]; exact hmk)
  unfold markL at HS
  have HZ : Hid (∀ W : World, Row (W.alloc (.cells #[.int .u8 0, .int .u8 0, .int .u8 0, .int .u8 0, .int .u8 0, .int .u8 0, .int .u8 0, .int .u8 0, .int .u8 0, .int .u8 0, .int .u8 0, .int .u8 0, .int .u8 0, .int .u8 0, .int .u8 0, .int .u8 0, .int .u8 0, .int .u8 0, .int .u8 0, .int .u8 0, .int .u8 0, .int .u8 0, .int .u8 0, .int .u8 0, .int .u8 0, .int .u8 0, .int .u8 0, .int .u8 0, .int .u8 0, .int .u8 0, .int .u8 0, .int .u8 0] 47)) W.heap.size 47 (nums .u8 z32)) := hidden (fun W => Row.new W _ (nums .u8 z32))
  clear h1 h2 hmk hmB hr
  go_enter Tryd.func15, Tryd.ntmps15
  go_wp2_with (first
    | (go_at_call 10; go_must (refine (K1.out _ (Below.refl _ _)).mono ?_; rintro e w1 ⟨v1, rfl, hO, hB⟩; have HP1 : Hid (OB w w1 v1 key) := hidden ⟨hO, hB⟩; clear hO hB))
    | (at_builtin; refine walk_app (base := w.heap.size) rfl (.tmp 7) (.tmp 8) rfl Tryd.underlying22 info_u8 rfl (by decide) rfl rfl (HP1.out.own.alloc _) (Rd.new w1 5 (nums .u8 [0]) _ rfl) rfl (nums_one _ _) (Nat.le_trans HP1.out.below.size (below_alloc0 w1 _).size) (by simp only [List.length_append, nums_len, List.length_cons, List.length_nil]; omega) ?_; intro v2 w2 hO2 hg2 _; have HP2 := hidden (HP1.out.put (below_alloc0 w1 _) hO2 hg2); clear hO2 hg2)
    | (at_builtin; refine walk_app (base := w.heap.size) rfl (.tmp 9) (.tmp 10) rfl Tryd.underlying22 info_u8 rfl (by decide) rfl rfl HP2.out.own (H2.out.rd.below HP2.out.below (Nat.le_refl _)) (by rw [nums_len]; exact H2.out.len) (nums_one _ _) HP2.out.below.size (by simp only [List.length_append, nums_len, List.length_cons, List.length_nil]; omega) ?_; intro v4 w4 hO4 hg4 _; have HP4 := hidden (HP2.out.put (Below.refl _ _) hO4 hg4); clear hO4 hg4; obtain ⟨A4, c4, hv4, _, hr4, _⟩ := HP4.out.own.read; rw [Hmk.out] at hv4; subst hv4; have HR4 := hidden hr4; clear hr4)
    | (go_at_call 23; go_must (refine (HS.out w4 A4 c4 HR4.out).mono ?_; rintro e w5 ⟨rfl, hB⟩; have HB5 := hidden (below_next HP4.out.below hB); clear hB))
    | (with_reducible refine at_store 5 ?_; go_must (refine walk_store_row (vs := nums .u8 r) rfl 47 (.tmp 5) (.tmp 12) rfl (HZ.out w5) rfl rfl (by rw [nums_len, Hrl.out]; kernel_rfl) (by rw [nums_len, nums_len, Hrl.out]; simp [z32]) (nums_one _ _) ?_; intro w6 hR hg; have HR6 := hidden hR; have HB6 := hidden ((below_next HB5.out (below_alloc0 w5 _)).grown hg (below_next HB5.out (below_alloc0 w5 _)).size (by rintro q ⟨⟩; exact HB5.out.size)); clear hR hg)))
  go_ret
  exact ⟨HB6.out, _, _, rfl, Rd.row HR6.out, Hrl.out, Nat.le_refl _, fun h => (by cases h), HrB.out⟩
end Go.Proofs.YtmibnnmampfalaaDoor
