/- The doors of reading, and the fixed example. What a slice of whole numbers that comes in reads as; its weight bounds its length. Words for the laws about parts of compact forms. The walk of FnPartLetters. -/
import Derived.Test.YtbdmdajbdmdknaaGreatDoorM12
import Derived.Lib.SmallJoins
import Derived.Test.YtbdmdajbdmdknaaGreatDoorProg
import Derived.Test.YtbdmdajbdmdknaaGreatDoorM1
import Derived.WalkKit
import Derived.ProofKit
import Derived.OpenShut
import Derived.ShutString
import Derived.ChangeOld
import Derived.Below
import Derived.SizedLaws
import Derived.ChangeSlices
namespace Go.Proofs.YtbdmdajbdmdknaaGreatDoor
open Go.RowKit
set_option linter.unusedVariables false
set_option linter.unusedSimpArgs false

theorem defDec_calls (A : Option Addr) (n c : Nat) (l : List Int) (w : World) (h : Rd w A (nums .u8 l)) (hn : l.length = n) (hc : n ≤ c) (hb : IsB l) (hN : n ≤ 100000) :
    Calls Tryz.prog 158 #[.agg #[], .slice A n c] w fun e w' => DecPost w l e w' := by
  cases hu : stdIn l <;> cases hp : padded? l
  · exact dec_zzRawURL A n c l w h hn hc hb hN hu.symm hp.symm
  · exact dec_zzURL A n c l w h hn hc hb hN hu.symm hp.symm
  · exact dec_zzRawStd A n c l w h hn hc hb hN hu.symm hp.symm
  · exact dec_zzStdPadded A n c l w h hn hc hb hN hu.symm hp.symm
set_option maxHeartbeats 1000000 in
theorem getDec_calls (w : World) : Calls Tryz.prog 71 #[] w fun e w' => e = .returned (.iface 157 (.agg #[])) ∧ w = w' := by
  go_enter Tryz.func71, Tryz.ntmps71
  go_wp2
  go_ret
  exact ⟨rfl, rfl⟩
set_option maxHeartbeats 1000000 in
theorem decodeB_calls (A : Option Addr) (n c : Nat) (l : List Int) (w : World) (h : Rd w A (nums .u8 l)) (hn : l.length = n) (hc : n ≤ c) (hb : IsB l) (hN : n ≤ 100000) :
    Calls Tryz.prog 53 #[.slice A n c] w fun e w' => DecPost w l e w' := by
  have H := hidden h
  have Hn := hidden hn
  clear h hn
  go_enter Tryz.func53, Tryz.ntmps53
  go_wp2_with (first
    | (go_at_call 71; go_must (refine (getDec_calls _).mono ?_; rintro e w1 ⟨rfl, rfl⟩))
    | (go_at_call 158; go_must (refine (defDec_calls A n c l _ H.out Hn.out hc hb hN).mono ?_; intro e w2 hd; have HD := hidden hd; rcases hd.res with ⟨v, out, rfl, hdec, hO, hIB⟩ | ⟨t', v', rfl, hdec⟩; all_goals clear hdec; all_goals dsimp only)))
  · go_ret2
    exact HD.out
  · go_ret2
    exact HD.out
/-- What the door of reading gives. -/
structure ImpPost (w : World) (l : List Int) (e : Ending) (w' : World) : Prop where
  below : Below w.heap.size w w'
  res : (∃ (v : Value) (out : List Int), e = .returned (.tuple #[v, .bool true]) ∧ decOf l = some out ∧ Own w' w.heap.size 5 v (nums .u8 out) ∧ IsB out) ∨
    (e = .returned (.tuple #[.slice none 0 0, .bool false]) ∧ decOf l = none)
set_option maxHeartbeats 1000000 in
theorem decoded_calls (A : Option Addr) (n c : Nat) (l : List Int) (w : World) (h : Rd w A (nums .u8 l)) (hn : l.length = n) (hc : n ≤ c) (hA : A = none → c = 0) (hb : IsB l) (hN : n ≤ 100000) :
    Calls Tryz.prog 36 #[.slice A n c] w fun e w' => ImpPost w l e w' := by
  have H := hidden h
  have Hn := hidden hn
  have HA := hidden hA
  clear h hn hA
  go_enter Tryz.func36, Tryz.ntmps36
  go_wp2_with (first
    | (go_at_call 12; go_must (refine (clone_calls A n c l _ H.out Hn.out hc HA.out (by omega)).mono ?_; rintro e w1 ⟨v1, rfl, hO1, hB1⟩; obtain ⟨A1, c1, rfl, hc1, hr1, hA1⟩ := hO1.read; rw [nums_len, Hn.out]; rw [nums_len, Hn.out] at hc1))
    | (go_at_call 53; go_must (refine (decodeB_calls A1 n c1 l _ hr1 Hn.out hc1 hb hN).mono ?_; intro e w2 hd; have hB2 := below_next hB1 hd.below; rcases hd.res with ⟨v, out, rfl, hdec, hO, hIB⟩ | ⟨t', v', rfl, hdec⟩; all_goals (have HD := hidden hdec); all_goals clear hdec; all_goals dsimp only)))
  · go_ret2
    exact ⟨hB2, .inl ⟨v, out, rfl, HD.out, hO.lower hB1.size, hIB⟩⟩
  · go_ret2
    exact ⟨hB2, .inr ⟨rfl, HD.out⟩⟩
theorem Rd.marked (w : World) (t : Nat) (vs : List Value) (fr : Nat × Nat) (k : Nat) (h : k = w.heap.size) : Rd (w.alloc (.cells vs.toArray t fr)) (some ⟨k, 0, none⟩) vs := by
  subst h
  intro i v hv
  refine ⟨_, _, rfl, by simp, ?_⟩
  rw [Nat.zero_add, World.cell?_alloc_mark]
  simpa using hv
theorem awake_dec : decOf [90, 109, 56] = some [102, 111] := by kernel_rfl
theorem awake_enc : encF (alpha true) [102, 111] = [90, 109, 56] := by kernel_rfl
set_option maxRecDepth 100000 in
set_option maxHeartbeats 1000000 in
theorem partAwake_calls (w : World) : Calls Tryz.prog 17 #[] w fun e w' => e = .returned (.bool true) ∧ Below w.heap.size w w' := by
  have hb1 : Hid (IsB [90, 109, 56]) := hidden (by unfold IsB; decide)
  have hb2 : Hid (IsB [102, 111]) := hidden (by unfold IsB; decide)
  have hd : Hid (decOf [90, 109, 56] = some [102, 111]) := hidden awake_dec
  have he : Hid (encF (alpha true) [102, 111] = [90, 109, 56]) := hidden awake_enc
  have s1 : strOfNums [102, 111] = ⟨#[102, 111]⟩ := by rfl
  have s2 : strOfNums [90, 109, 56] = ⟨#[90, 109, 56]⟩ := by rfl
  have hcv1 := Go.Joins.run_convert_bytes_const_at (P := Tryz.prog) w 31 5 #[.int .u8 90, .int .u8 109, .int .u8 56] 3 3 _ rfl Tryz.underlying31 Tryz.underlying5
  go_enter Tryz.func17, Tryz.ntmps17
  go_wp2_with (first
    | (go_at_call 36; go_must (refine (decoded_calls _ 3 3 [90, 109, 56] _ (Rd.marked w 5 (nums .u8 [90, 109, 56]) _ _ rfl) rfl (by omega) (by intro h; cases h) hb1.out (by omega)).mono ?_; intro e w1 hq; have hB1 := below_next (below_alloc0 _ _) hq.below; obtain ⟨v, rfl, hO1⟩ : ∃ v, e = .returned (.tuple #[v, .bool true]) ∧ Own w1 _ 5 v (nums .u8 [102, 111]) := (by rcases hq.res with ⟨v, out, h1, h2, h3, h4⟩ | ⟨h1, h2⟩; (rw [hd.out] at h2; cases h2; exact ⟨v, h1, h3⟩); (rw [hd.out] at h2; cases h2)); obtain ⟨A1, c1, rfl, hc1, hr1, hA1⟩ := hO1.read; rw [show (nums .u8 [102, 111]).length = 2 from rfl] at hc1; rw [show (nums .u8 [102, 111]).length = 2 from rfl]; have k1 := run_string (P := Tryz.prog) (c := c1) Tryz.underlying31 Tryz.underlying5 Tryz.underlying9 hr1 (n := 2) rfl; rw [s1] at k1; clear hq; clear hcv1; have hcv2 := Go.Joins.run_convert_bytes_const_at (P := Tryz.prog) w1 31 5 #[.int .u8 102, .int .u8 111] 2 2 _ rfl Tryz.underlying31 Tryz.underlying5; dsimp only))
    | (go_at_call 37; go_must (refine (encoded_calls _ 2 2 [102, 111] _ (Rd.marked w1 5 (nums .u8 [102, 111]) _ _ rfl) rfl hb2.out (by omega) (by intro h; cases h) (by omega)).mono ?_; rintro e w2 ⟨v2, rfl, hO2, hB2⟩; clear hcv2; rw [he.out] at hO2; obtain ⟨A2, c2, rfl, hc2, hr2, hA2⟩ := hO2.read; rw [show (nums .u8 [90, 109, 56]).length = 3 from rfl]; have k2 := run_string (P := Tryz.prog) (c := c2) Tryz.underlying31 Tryz.underlying5 Tryz.underlying9 hr2 (n := 3) rfl; rw [s2] at k2)))
  go_ret
  exact ⟨rfl, below_next (below_next hB1 (below_alloc0 _ _)) hB2⟩
end Go.Proofs.YtbdmdajbdmdknaaGreatDoor
namespace Go.Proofs.YtbdmdajbdmdknaaGreatDoor
open Go.ChangeShapes Go.WideShapes Go.ChangeAt Go.RowKit
set_option linter.unusedVariables false
set_option linter.unusedSimpArgs false

theorem noKnob : ownKnob Tryz.prog.godebug = none := by kernel_rfl
theorem laidOut : laidOutB Tryz.prog = true := by kernel_rfl
def IsRow (k : IntKind) (w : World) (a : Option Addr) (len cap : Nat) (zs : List Int) : Prop :=
  (a = none ∧ len = 0 ∧ cap = 0 ∧ zs = []) ∨
  ∃ x, a = some x ∧ len ≤ cap ∧ cap ≤ maxLen ∧ zs.length = cap ∧ (∀ i, i < zs.length → w.cell? (x.add i) = some (.int k (zs.getD i 0))) ∧ ∀ n ∈ zs, (Lit.int k n).wf = true
/-- A slice that came in: what it reads as, and how long it is. -/
structure Came (k : IntKind) (w : World) (a : Option Addr) (len cap : Nat) (l : List Int) : Prop where
  hlen : l.length = len
  hcap : len ≤ cap
  nil : a = none → cap = 0
  rd : Rd w a (nums k l)
  wf : ∀ x ∈ l, (Lit.int k x).wf = true
theorem IsRow.came {k : IntKind} {w : World} {a : Option Addr} {len cap : Nat} {zs : List Int} (h : IsRow k w a len cap zs) : Came k w a len cap (zs.take len) := by
  rcases h with ⟨rfl, rfl, rfl, rfl⟩ | ⟨x, rfl, hl, hm, hz, hc, hw⟩
  · exact ⟨rfl, Nat.le_refl _, fun _ => rfl, by simpa [nums] using Rd.nil w none, by simp⟩
  · refine ⟨by rw [List.length_take]; omega, hl, (fun h => by cases h), ?_, fun n hn => hw n (List.mem_of_mem_take hn)⟩
    intro i v hv
    have hi : i < (nums k (zs.take len)).length := (List.getElem?_eq_some_iff.1 hv).1
    rw [nums_len, List.length_take] at hi
    have h0 := hc 0 (by omega)
    have hi' := hc i (by omega)
    obtain ⟨b, o, sp⟩ := x
    have hsp : sp = none := by
      cases sp with
      | none => rfl
      | some s =>
        simp only [Addr.add, if_pos] at h0
        unfold World.cell? at h0
        split at h0 <;> simp at h0
    subst hsp
    rw [addr_add] at hi'
    refine ⟨b, o, rfl, World.block_lt_of_cell? w ⟨b, o + i, none⟩ hi', ?_⟩
    rw [hi', ← hv, nums_at _ _ _ (by rw [List.length_take]; omega), gi_take _ (by omega)]
    rfl
theorem Came.isB {w : World} {a : Option Addr} {len cap : Nat} {l : List Int} (h : Came .u8 w a len cap l) : IsB l := by
  intro x hx
  have := h.wf x hx
  simp [Lit.wf, IntKind.min, IntKind.max, IntKind.wrap, IntKind.bits, IntKind.signed] at this
  omega
theorem sizedInts {H : Type} {enc : TypeId × Value → H} {P : Program} {W : World} {base : Nat} {spare : Nat → Bool} {held : Bool} {t e : TypeId} {k : IntKind} {a : Option Addr} {len cap : Nat} {d : DataW H} {ps : List MemPlace} {ts : List TypeId} {ds : List (DataW H)} {j : Nat}
    (hsz : (DataW.weightsEach P ts ds).all (· ≤ reachBytes) = true) (ht : ts[j]? = some t) (hd : ds[j]? = some d) (hu : P.underlying t = some (.slice e)) (he : P.underlying e = some (.int k)) (hc : P.cellsOf e = 1) {B : Nat} (hB : P.bytesOf e = B)
    (h : DataW.Trod enc P W base spare held t (.slice a len cap) d ps) : len * B ≤ 140737488351232 := by
  obtain ⟨fuel, hf⟩ := h
  rcases open_ints hu he hc hf with ⟨hcs, _⟩ | ⟨x, l, c, zs, hcs, _, hl, _, hz, hx, _, _⟩
  · simp [Value.cells] at hcs
    obtain ⟨rfl, rfl, rfl⟩ := hcs
    simp
  · simp [Value.cells] at hcs
    obtain ⟨rfl, rfl, rfl⟩ := hcs
    obtain ⟨hx, _⟩ := Prod.mk.inj hx
    subst hx
    have z := sized_slice hsz ht hd hu
    rw [hB] at z
    have hl2 : len ≤ zs.length := by
      rw [hz]
      split
      · exact hl
      · exact Nat.le_refl _
    have h1 : (lits (H := H) k (zs.take len)).length + (lits (H := H) k (zs.drop len)).length = zs.length := by
      simp [lits]
      omega
    rw [h1] at z
    exact Nat.le_trans (Nat.mul_le_mul_right _ hl2) z
end Go.Proofs.YtbdmdajbdmdknaaGreatDoor
namespace Go.Proofs.YtbdmdajbdmdknaaGreatDoor
open Go.RowKit
set_option linter.unusedVariables false
set_option linter.unusedSimpArgs false

def slvs (l : List (Option Addr × Nat × Nat)) : List Value := l.map fun x => .slice x.1 x.2.1 x.2.2
theorem slvs_at (l : List (Option Addr × Nat × Nat)) (i : Nat) (h : i < l.length) : (slvs l)[i]? = some (.slice (l[i]'h).1 (l[i]'h).2.1 (l[i]'h).2.2) := by simp [slvs, h]
set_option maxHeartbeats 400000 in
theorem partShort_calls (X : Option Addr) (n c : Nat) (l : List (Option Addr × Nat × Nat)) (w : World) (h : Rd w X (slvs l)) (hn : l.length = n) (hb : n ≤ 1000) (r : Bool) (hr : r = true ↔ ∀ x ∈ l, x.2.1 ≤ 2000) :
    Calls Tryz.prog 15 #[.slice X n c] w fun e w' => e = .returned (.bool r) ∧ w = w' := by
  have Hr := hidden hr
  clear hr
  go_enter Tryz.func15, Tryz.ntmps15
  go_wp2
  go_loop [7] (fun i => ∃ k : Nat, k ≤ n ∧ i = .int .i64 k ∧ Hid (∀ j (hj : j < l.length), j < k → (l[j]'hj).2.1 ≤ 2000)) (fun i => n - (intOf i).toNat)
  case atStart => exact ⟨0, by omega, rfl, hidden (by omega)⟩
  case round =>
    obtain ⟨k, hk, rfl, hle⟩ := hrel
    by_cases hlt : k < n
    · have hlt' : k < l.length := by omega
      obtain ⟨b0, o0, rfl, _, c0⟩ := h k _ (slvs_at l k hlt')
      have hx : Hid (∀ x, x = l[k] → x ∈ l) := hidden (fun x hx => hx ▸ List.getElem_mem _)
      generalize hs : l[k] = s at c0
      have Hs := hidden hs
      clear hs h
      obtain ⟨sA, sn, sc⟩ := s
      simp only at c0
      by_cases h2 : sn ≤ 2000
      · have h2i : ¬ (2000 : Int) < (sn : Int) := by omega
        go_wp2
        go_round
        case rel =>
          refine ⟨k + 1, by omega, by go_num, hidden (fun j hj hjk => ?_)⟩
          rcases Nat.lt_succ_iff_lt_or_eq.1 hjk with h | rfl
          · exact hle.out j hj h
          · rw [Hs.out]; exact h2
        case measure => simp [intOf]; omega
      · have h2i : (2000 : Int) < (sn : Int) := by omega
        have hrf : r = false := by
          cases r with
          | false => rfl
          | true => exact absurd (Hr.out.1 rfl _ (hx.out _ Hs.out.symm)) h2
        subst hrf
        go_wp2
        go_ret
        exact ⟨rfl, rfl⟩
    · obtain rfl : k = n := by omega
      have hrt : r = true := Hr.out.2 fun x hx => by
        obtain ⟨j, hj, rfl⟩ := List.mem_iff_getElem.1 hx
        exact hle.out j hj (by omega)
      subst hrt
      go_wp2
      go_ret
      exact ⟨rfl, rfl⟩
structure RetP (w w' : World) (l : List Int) (A : Option Addr) (c : Nat) : Prop where
  cap : l.length ≤ c
  nil : A = none → c = 0
  rd : Rd w' A (nums .u8 l)
  bel : Below w.heap.size w w'
theorem RetP.of {w w' : World} {e : Ending} {l : List Int} (h : NewB w l e w') : ∃ A c, e = .returned (.slice A l.length c) ∧ RetP w w' l A c := by
  obtain ⟨v, rfl, hO, hB⟩ := h
  obtain ⟨A, c, rfl, hc, hr, hA⟩ := hO.read
  rw [nums_len] at hc ⊢
  exact ⟨A, c, rfl, ⟨hc, hA, hr, hB⟩⟩
end Go.Proofs.YtbdmdajbdmdknaaGreatDoor
namespace Go.Proofs.YtbdmdajbdmdknaaGreatDoor
open Go.RowKit
set_option linter.unusedVariables false
set_option linter.unusedSimpArgs false

def isUrl (a : Int) : Prop := (65 ≤ a ∧ a ≤ 90) ∨ (97 ≤ a ∧ a ≤ 122) ∨ (48 ≤ a ∧ a ≤ 57) ∨ a = 45 ∨ a = 95
def okUrl : Bool := (List.range 64).all fun i => (decide (65 ≤ gi (alpha true) i) && decide (gi (alpha true) i ≤ 90)) || (decide (97 ≤ gi (alpha true) i) && decide (gi (alpha true) i ≤ 122)) || (decide (48 ≤ gi (alpha true) i) && decide (gi (alpha true) i ≤ 57)) || gi (alpha true) i == 45 || gi (alpha true) i == 95
theorem okUrl_true : okUrl = true := by kernel_rfl
theorem alpha_url {i : Nat} (h : i < 64) : isUrl (gi (alpha true) i) := by
  have := okUrl_true
  simp only [okUrl, List.all_eq_true, List.mem_range, Bool.or_eq_true, Bool.and_eq_true, decide_eq_true_iff, beq_iff_eq] at this
  have := this i h
  unfold isUrl
  omega
theorem encF_url {l : List Int} (hb : IsB l) {x : Int} (hx : x ∈ encF (alpha true) l) : isUrl x := by
  obtain ⟨i, hi, rfl⟩ := encF_mem _ l hb x hx
  exact alpha_url hi
end Go.Proofs.YtbdmdajbdmdknaaGreatDoor
