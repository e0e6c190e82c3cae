/- laws.joinLedger on links, on links that changed places, and on links of which one is torn. Texts and slices of texts in rows of the law's own. Layers of compact forms: how long they are. Nothing here speaks of the program. zzFits6. -/
import Derived.Test.YtbdmdajbdmdknaaGreatDoorM21
import Derived.Test.YtbdmdajbdmdknaaGreatDoorM19
namespace Go.Proofs.YtbdmdajbdmdknaaGreatDoor
open Go.RowKit
set_option linter.unusedVariables false
set_option linter.unusedSimpArgs false

/-- What the law knows of the links. -/
structure LkCtx (w : World) (A : Option Addr) (k c : Nat) (key : List Int) (ts e : Nat → List Int) (n : Nat) : Prop where
  arg : ArgB w A k c key
  small : k ≤ 2000
  isB : ∀ j, IsB (e j)
  len : ∀ j, j < n → (e j).length ≤ 200
  eq : ∀ j, ts j = linkL key (prevT ts j) (e j)
  syn : SynAt w
  err : ∃ ae, ErrAt w ae
section
variable {w W : World} {A : Option Addr} {k c : Nat} {key : List Int} {ts e : Nat → List Int} {n : Nat}
theorem LkCtx.next (h : LkCtx w A k c key ts e n) (hB : Below w.heap.size w W) : LkCtx W A k c key ts e n :=
  ⟨h.arg.below hB (Nat.le_refl _), h.small, h.isB, h.len, h.eq, h.syn.next hB, by obtain ⟨ae, hE⟩ := h.err; exact ⟨ae, hE.below hB⟩⟩
theorem LkCtx.ts_len (h : LkCtx w A k c key ts e n) {j : Nat} (hj : j < n) : (ts j).length ≤ 20000 := by
  rw [h.eq]; exact linkL_len (h.len j hj)
/-- Texts that are read at a slice of slices. -/
def TxtsAt (w : World) (X : Option Addr) (us : List (Option Addr × Nat × Nat)) (n : Nat) (ts : Nat → List Int) : Prop := Rd w X (slvs us) ∧ us.length = n ∧ ∀ j (h : j < us.length), ArgB w (us[j]).1 (us[j]).2.1 (us[j]).2.2 (ts j) ∧ (us[j]).2.1 ≤ 20000
theorem TxtsAt.next {X : Option Addr} {us : List (Option Addr × Nat × Nat)} (h : TxtsAt w X us n ts) (hB : Below w.heap.size w W) : TxtsAt W X us n ts :=
  ⟨h.1.below hB (Nat.le_refl _), h.2.1, fun j hj => ⟨(h.2.2 j hj).1.below hB (Nat.le_refl _), (h.2.2 j hj).2⟩⟩
def ExC (key : List Int) (ts e : Nat → List Int) (σ : Nat → Nat) (j : Nat) (b : Bool) (a kd : ByteArray) (pl : List Int) : Prop := b = true ∧ a = linkS ∧ kd = kidL key (prevT ts (σ j)) ∧ pl = e (σ j)
theorem LkCtx.open (h : LkCtx w A k c key ts e n) {σ : Nat → Nat} {j : Nat} (hj : σ j < n) {X : Option Addr} {m f : Nat} (hB : Below w.heap.size w W) (ha : ArgB W X m f (ts (σ j))) : Calls Tryz.prog 20 #[.slice A k c, .slice X m f, .bool true] W (OpenC (ExC key ts e σ j) W) := by
  rw [h.eq] at ha
  exact openLink_calls A k c key X m f (prevT ts (σ j)) (e (σ j)) W (h.next hB).arg h.small ha (h.isB _) (h.len _ hj) (h.next hB).syn
def GoodL (w : World) (n : Nat) (e : Nat → List Int) (en : Ending) (w' : World) : Prop := Below w.heap.size w w' ∧ ∃ (X : Option Addr) (c : Nat) (us : List (Option Addr × Nat × Nat)), en = .returned (.tuple #[.slice X n c, .bool true]) ∧ us.length = n ∧ Rd w' X (slvs us) ∧ ∀ j (h : j < us.length), ArgB w' (us[j]).1 (us[j]).2.1 (us[j]).2.2 (e j)
theorem ledgerGood_calls (h : LkCtx w A k c key ts e n) (hn : n ≤ 8) (X : Option Addr) (d : Nat) (us : List (Option Addr × Nat × Nat)) (ht : TxtsAt w X us n ts) :
    Calls Tryz.prog 23 #[.slice A k c, .slice X n d] w (GoodL w n e) := by
  refine (ledger_calls A k c key X n d us ts (ExC key ts e id) w h.arg h.small ht.1 ht.2.1 hn ht.2.2 (fun j hj W Y m f hB ha _ => h.open (σ := id) hj hB ha)).mono ?_
  rintro en w' ⟨hB, hh⟩
  refine ⟨hB, ?_⟩
  rcases hh with ⟨Y, f, vs, g, rfl, hl, hR, hC⟩ | ⟨_, j, b, a, kd, pl, hj, ⟨h1, h2, h3, _⟩, hno⟩
  · exact ⟨Y, f, vs, rfl, hl, hR, fun j hj => by have := (hC j hj).1; rw [(hC j hj).2.2.2.2] at this; exact this⟩
  · exact absurd ⟨h1, h2, h3⟩ hno
def LB (w : World) (P : Bool → Prop) (en : Ending) (w' : World) : Prop := Below w.heap.size w w' ∧ ∃ (X : Option Addr) (m c : Nat) (b : Bool), en = .returned (.tuple #[.slice X m c, .bool b]) ∧ P b
theorem ledgerSwap_calls (h : LkCtx w A k c key ts e n) (hn : n ≤ 8) (σ : Nat → Nat) (hσ : ∀ j, j < n → σ j < n) (X : Option Addr) (d : Nat) (us : List (Option Addr × Nat × Nat)) (ht : TxtsAt w X us n (fun j => ts (σ j))) :
    Calls Tryz.prog 23 #[.slice A k c, .slice X n d] w (LB w fun b => b = true ↔ ∀ j, j < n → tellsM key ts n (strOfNums (ts (σ j))) = markS key (prevT (fun j => ts (σ j)) j)) := by
  have key1 : ∀ j, j < n → (tellsM key ts n (strOfNums (ts (σ j))) = markS key (prevT (fun j => ts (σ j)) j) ↔ kidL key (prevT ts (σ j)) = kidL key (prevT (fun j => ts (σ j)) j)) := by
    intro j hj
    rw [tellsM_at h.isB h.eq n (σ j) (hσ j hj), markS_eq, kidL_eq]
  refine (ledger_calls A k c key X n d us (fun j => ts (σ j)) (ExC key ts e σ) w h.arg h.small ht.1 ht.2.1 hn ht.2.2 (fun j hj W Y m f hB ha _ => h.open (hσ j hj) hB ha)).mono ?_
  rintro en w' ⟨hB, hh⟩
  refine ⟨hB, ?_⟩
  rcases hh with ⟨Y, f, vs, g, rfl, hl, hR, hC⟩ | ⟨rfl, j, b, a, kd, pl, hj, ⟨h1, h2, h3, _⟩, hno⟩
  · refine ⟨Y, n, f, true, rfl, ⟨fun _ j hj => ?_, fun _ => rfl⟩⟩
    obtain ⟨_, _, h3, _⟩ := (hC j (by omega)).2
    exact (key1 j hj).2 h3.symm
  · refine ⟨none, 0, 0, false, rfl, ⟨fun h => (by cases h), fun hall => absurd ?_ hno⟩⟩
    exact ⟨h1, h2, h3.trans ((key1 j hj).1 (hall j hj))⟩
theorem ledgerBad_calls (h : LkCtx w A k c key ts e n) (hn : n ≤ 8) (i : Nat) (tb : Nat → List Int) (S' r0 : List Int) (hr0 : IsB r0) (hi : tb i = S' ++ 46 :: encF (alpha true) r0) (hb : ∀ j, j ≠ i → tb j = ts j) (hlt : i < n) (X : Option Addr) (d : Nat) (us : List (Option Addr × Nat × Nat)) (ht : TxtsAt w X us n tb) :
    Calls Tryz.prog 23 #[.slice A k c, .slice X n d] w (LB w fun b => b = true → shaSum (markL key S') = r0) := by
  have li : (tb i).length ≤ 20000 := by
    have := ht.2.2 i (by rw [ht.2.1]; exact hlt)
    rw [this.1.len]; exact this.2
  refine (ledger_calls A k c key X n d us tb (fun j b a kd pl => if j = i then (b = true → ∃ P T M r, ThreeP (tb i) P T M ∧ SumIs (markL key (P ++ [46] ++ T)) r ∧ decOf M = some r) else ExC key ts e id j b a kd pl) w h.arg h.small ht.1 ht.2.1 hn ht.2.2 (fun j hj W Y m f hB ha hm => ?_)).mono ?_
  · by_cases hji : j = i
    · subst hji
      obtain ⟨ae, hE⟩ := (h.next hB).err
      refine (joinOpenedT_calls A k c key Y m f (tb j) W (h.next hB).arg h.small ha hm ae hE (h.next hB).syn).mono ?_
      rintro en w' ⟨g1, Z, m2, c2, a, kd, b, pl, rfl, g2, g3, g4, g5⟩
      exact ⟨g1, Z, m2, c2, a, kd, b, pl, rfl, g2, by omega, g4, (by dsimp only; rw [if_pos rfl]; exact g5)⟩
    · rw [hb j hji] at ha
      simp only [if_neg hji]
      exact h.open (σ := id) hj hB ha
  rintro en w' ⟨hB, hh⟩
  refine ⟨hB, ?_⟩
  rcases hh with ⟨Y, f, vs, g, rfl, hl, hR, hC⟩ | ⟨rfl, _⟩
  · refine ⟨Y, n, f, true, rfl, fun _ => ?_⟩
    have := (hC i (by omega)).2
    dsimp only at this
    rw [if_pos rfl] at this
    obtain ⟨P, T, M, r, h3, h4, h5⟩ := this rfl
    rw [hi] at h3
    exact turned_mark hr0 h3 h4 h5
  · exact ⟨none, 0, 0, false, rfl, fun h => by cases h⟩
end
end Go.Proofs.YtbdmdajbdmdknaaGreatDoor
namespace Go.Proofs.YtbdmdajbdmdknaaGreatDoor
open Go.RowKit
set_option linter.unusedVariables false
set_option linter.unusedSimpArgs false

theorem xor8 (x y : Int) : 0 ≤ bits .xor .u8 x y ∧ bits .xor .u8 x y < 256 := by
  have h := (BitVec.ofInt 8 x ^^^ BitVec.ofInt 8 y).isLt
  show 0 ≤ IntKind.u8.wrap ((BitVec.ofInt 8 x ^^^ BitVec.ofInt 8 y).toNat : Int) ∧ IntKind.u8.wrap ((BitVec.ofInt 8 x ^^^ BitVec.ofInt 8 y).toNat : Int) < 256
  rw [IntKind.wrap_u8]; omega
def TxtRow (w : World) (B g n cc : Nat) (l : List Int) : Prop := ∃ rest, Row w g 5 (nums .u8 l ++ rest) ∧ B ≤ g ∧ l.length = n ∧ cc = n + rest.length ∧ IsB l
section
variable {w w1 : World} {B g n cc : Nat} {l : List Int}
theorem TxtRow.arg (h : TxtRow w B g n cc l) : ArgB w (some ⟨g, 0, none⟩) n cc l := by
  obtain ⟨rest, hR, _, hl, hc, hb⟩ := h
  exact ⟨(Rd.row hR).left, hl, by omega, fun e => (by cases e), hb⟩
theorem TxtRow.cell (h : TxtRow w B g n cc l) {i : Nat} (hi : i < n) : w.cell? ⟨g, i, none⟩ = some (.int .u8 (gi l i)) := by
  obtain ⟨rest, hR, _, hl, _, _⟩ := h
  rw [hR.cell, List.getElem?_append_left (by rw [nums_len]; omega)]
  exact nums_at .u8 l i (by omega)
theorem TxtRow.free (h : TxtRow w B g n cc l) (i : Nat) : w.frozen? ⟨g, i, none⟩ = false := by
  obtain ⟨rest, hR, _⟩ := h
  exact hR.free i
theorem TxtRow.set (h : TxtRow w B g n cc l) {i : Nat} (hi : i < n) {x : Int} (hx : 0 ≤ x ∧ x < 256) : TxtRow (w.setCell ⟨g, i, none⟩ (.int .u8 x)) B g n cc (l.set i x) := by
  obtain ⟨rest, hR, hB, hl, hc, hb⟩ := h
  refine ⟨rest, ?_, hB, by simpa using hl, hc, fun y hy => ?_⟩
  · have := hR.set i (.int .u8 x)
    rwa [List.set_append_left _ _ (by rw [nums_len]; omega), nums, ← List.map_set] at this
  · rcases List.mem_or_eq_of_mem_set hy with h1 | rfl
    · exact hb y h1
    · exact hx
theorem TxtRow.below (h : TxtRow w B g n cc l) (hb : Below w.heap.size w w1) : TxtRow w1 B g n cc l := by
  obtain ⟨rest, hR, r⟩ := h
  exact ⟨rest, hR.below hb hR.lt, r⟩
theorem TxtRow.far (h : TxtRow w B g n cc l) {a : Addr} (ha : a.block ≠ g) (v : Value) : TxtRow (w.setCell a v) B g n cc l := by
  obtain ⟨rest, hR, r⟩ := h
  exact ⟨rest, hR.far ha v, r⟩
theorem TxtRow.lt (h : TxtRow w B g n cc l) : g < w.heap.size := by obtain ⟨rest, hR, _⟩ := h; exact hR.lt
theorem TxtRow.base (h : TxtRow w B g n cc l) : B ≤ g := by obtain ⟨rest, _, h, _⟩ := h; exact h
end
theorem ownRow_calls (W : World) (A : Option Addr) (n c : Nat) (l : List Int) (h : ArgB W A n c l) (hn : n ≤ 1000000) (h0 : 0 < n) :
    Calls Tryz.prog 18 #[.slice A n c] W fun e w' => Below W.heap.size W w' ∧ ∃ g cc, e = .returned (.slice (some ⟨g, 0, none⟩) n cc) ∧ TxtRow w' W.heap.size g n cc l :=
  (partOwn_calls A n c l W h.rd h.len (by omega)).mono fun e w' k => by
    obtain ⟨v, rfl, hO, hB⟩ := k
    have hl := h.len
    rcases hO.block with ⟨_, h2⟩ | ⟨g, rest, rfl, hg, hR, _⟩
    · have := congrArg List.length h2
      rw [nums_len, List.length_nil] at this
      omega
    · rw [nums_len, hl]
      exact ⟨hB, g, _, rfl, rest, hR, hg, hl, rfl, h.isB⟩
def SlcRow (w : World) (B g n cc : Nat) (us : List (Option Addr × Nat × Nat)) : Prop := ∃ rest, Row w g 31 (slvs us ++ rest) ∧ B ≤ g ∧ us.length = n ∧ cc = n + rest.length
section
variable {w w1 : World} {B g n cc : Nat} {us : List (Option Addr × Nat × Nat)}
theorem SlcRow.rd (h : SlcRow w B g n cc us) : Rd w (some ⟨g, 0, none⟩) (slvs us) := by
  obtain ⟨rest, hR, _⟩ := h
  exact (Rd.row hR).left
theorem SlcRow.cell (h : SlcRow w B g n cc us) {i : Nat} (hi : i < us.length) : w.cell? ⟨g, i, none⟩ = some (.slice (us[i]).1 (us[i]).2.1 (us[i]).2.2) := by
  obtain ⟨rest, hR, _⟩ := h
  rw [hR.cell, List.getElem?_append_left (by rw [slvs_len]; exact hi)]
  exact slvs_at us i hi
theorem SlcRow.free (h : SlcRow w B g n cc us) (i : Nat) : w.frozen? ⟨g, i, none⟩ = false := by
  obtain ⟨rest, hR, _⟩ := h
  exact hR.free i
theorem SlcRow.set (h : SlcRow w B g n cc us) {i : Nat} (hi : i < n) (a : Option Addr) (m d : Nat) : SlcRow (w.setCell ⟨g, i, none⟩ (.slice a m d)) B g n cc (us.set i (a, m, d)) := by
  obtain ⟨rest, hR, hB, hl, hc⟩ := h
  refine ⟨rest, ?_, hB, by simpa using hl, hc⟩
  have := hR.set i (.slice a m d)
  rw [List.set_append_left _ _ (by rw [slvs_len]; omega)] at this
  have e : (slvs us).set i (.slice a m d) = slvs (us.set i (a, m, d)) := by unfold slvs; rw [List.map_set]
  rwa [e] at this
theorem SlcRow.below (h : SlcRow w B g n cc us) (hb : Below w.heap.size w w1) : SlcRow w1 B g n cc us := by
  obtain ⟨rest, hR, r⟩ := h
  exact ⟨rest, hR.below hb hR.lt, r⟩
theorem SlcRow.lt (h : SlcRow w B g n cc us) : g < w.heap.size := by obtain ⟨rest, hR, _⟩ := h; exact hR.lt
theorem SlcRow.base (h : SlcRow w B g n cc us) : B ≤ g := by obtain ⟨rest, _, h, _⟩ := h; exact h
theorem SlcRow.of_own {v : Value} (h : Own w B 31 v (slvs us)) (hn : us.length = n) (h0 : 0 < n) : ∃ g cc, v = .slice (some ⟨g, 0, none⟩) n cc ∧ SlcRow w B g n cc us := by
  rcases h.block with ⟨_, h2⟩ | ⟨g, rest, rfl, hg, hR, _⟩
  · have := congrArg List.length h2
    rw [slvs_len, List.length_nil] at this
    omega
  · rw [slvs_len, hn]
    exact ⟨g, _, rfl, rest, hR, hg, hn, rfl⟩
theorem txts_set {X : Option Addr} {ts : Nat → List Int} {a : Option Addr} {m d i : Nat} {l : List Int} (h : TxtsAt w X us n ts) (hr : SlcRow w B g n cc (us.set i (a, m, d))) (ha : ArgB w a m d l) (hm : m ≤ 20000) : TxtsAt w (some ⟨g, 0, none⟩) (us.set i (a, m, d)) n (fun j => if j = i then l else ts j) := by
  refine ⟨hr.rd, by simpa using h.2.1, fun j hj => ?_⟩
  rw [List.getElem_set]
  by_cases hji : i = j
  · subst hji
    simp only [if_true]
    exact ⟨ha, hm⟩
  · simp only [if_neg hji, if_neg (Ne.symm hji)]
    exact h.2.2 j (by simpa using hj)
theorem txts_swap {X : Option Addr} {ts : Nat → List Int} {i k : Nat} {x y : Option Addr × Nat × Nat} (h : TxtsAt w X us n ts) (hi : i < us.length) (hk : k < us.length) (hx : us[k] = x) (hy : us[i] = y) (hr : SlcRow w B g n cc ((us.set i x).set k y)) : TxtsAt w (some ⟨g, 0, none⟩) ((us.set i x).set k y) n (fun j => ts (if j = k then i else if j = i then k else j)) := by
  refine ⟨hr.rd, by simpa using h.2.1, fun j hj => ?_⟩
  rw [List.getElem_set]
  by_cases hjk : k = j
  · subst hjk
    simp only [if_true]
    rw [← hy]
    exact h.2.2 i hi
  · simp only [if_neg hjk, if_neg (Ne.symm hjk)]
    rw [List.getElem_set]
    by_cases hji : i = j
    · subst hji
      simp only [if_true]
      rw [← hx]
      exact h.2.2 k hk
    · simp only [if_neg hji, if_neg (Ne.symm hji)]
      exact h.2.2 j (by simpa using hj)
end
theorem link_split (key bf e : List Int) (he : IsB e) : ∃ S r0, linkL key bf e = S ++ 46 :: encF (alpha true) r0 ∧ r0 = shaSum (markL key S) ∧ IsB r0 ∧ 1 ≤ S.length ∧ (∀ q, S.length < q → q < (linkL key bf e).length → gi (linkL key bf e) q ≠ 46) ∧ gi (linkL key bf e) S.length = 46 ∧ S.length < (linkL key bf e).length := by
  have h1 : linkL key bf e = signF true (headK key bf) e ++ 46 :: encF (alpha true) (shaSum (markL key (signF true (headK key bf) e))) := by simp [linkL]
  refine ⟨signF true (headK key bf) e, _, h1, rfl, shaSum_isB _, ?_, fun q hq hq2 => ?_, ?_, ?_⟩
  · simp [signF]; omega
  · rw [h1] at hq2 ⊢
    rw [gi_app2 (Nat.le_of_lt hq)]
    obtain ⟨d, hd⟩ : ∃ d, q - (signF true (headK key bf) e).length = d + 1 := ⟨q - (signF true (headK key bf) e).length - 1, by omega⟩
    rw [hd]
    intro h46
    rw [List.length_append, List.length_cons] at hq2
    have hm : gi (encF (alpha true) (shaSum (markL key (signF true (headK key bf) e)))) d ∈ encF (alpha true) (shaSum (markL key (signF true (headK key bf) e))) := gi_mem (by omega)
    have e2 : gi (46 :: encF (alpha true) (shaSum (markL key (signF true (headK key bf) e)))) (d + 1) = gi (encF (alpha true) (shaSum (markL key (signF true (headK key bf) e)))) d := by simp [gi]
    rw [← e2, h46] at hm
    exact encF_no46 (shaSum_isB _) hm
  · rw [h1, gi_app2 (Nat.le_refl _), Nat.sub_self]; rfl
  · rw [h1]; simp
end Go.Proofs.YtbdmdajbdmdknaaGreatDoor
namespace Go.Proofs.YtbdmdajbdmdknaaGreatDoor
open Go.RowKit
set_option linter.unusedVariables false
set_option linter.unusedSimpArgs false

/-- One layer around a text. -/
def layS (hd pl : List Int) : List Int := signF true hd pl
def layR (hd key pl : List Int) : List Int := shaSum (markL key (layS hd pl))
def lay1 (hd key pl : List Int) : List Int := layS hd pl ++ [46] ++ encF (alpha true) (layR hd key pl)
/-- The first i layers. -/
def layN (hd : List Int) (keys : List (List Int)) (pl : List Int) : Nat → List Int
  | 0 => pl
  | i + 1 => lay1 hd (keys.getD i []) (layN hd keys pl i)
theorem layR_sum (hd key pl : List Int) : SumIs (markL key (layS hd pl)) (layR hd key pl) := ⟨rfl⟩
theorem layR_len (hd key pl : List Int) : (layR hd key pl).length = 32 := (layR_sum hd key pl).len
theorem layS_len {hd pl : List Int} (h : hd.length ≤ 82) : (layS hd pl).length ≤ 113 + (4 * pl.length + 5) / 3 := by
  unfold layS signF tailF
  rw [if_pos rfl, List.length_append, List.length_append, encF_len, encF_len]
  simp only [List.length_cons, List.length_nil]
  omega
theorem lay1_len {hd key pl : List Int} (h : hd.length ≤ 82) : (lay1 hd key pl).length ≤ 160 + (4 * pl.length + 5) / 3 := by
  unfold lay1
  have := layS_len (pl := pl) h
  rw [List.length_append, List.length_append, encF_len (alpha true) (layR hd key pl), layR_len]
  simp only [List.length_cons, List.length_nil]
  omega
theorem layN_len {hd : List Int} {keys : List (List Int)} {pl : List Int} (h : hd.length ≤ 82) (hp : pl.length ≤ 2000) (i : Nat) (hi : i ≤ 6) : (layN hd keys pl i).length ≤ 14000 ∧ (i ≤ 5 → (layN hd keys pl i).length ≤ 10200) := by
  have h1 : (layN hd keys pl 1).length ≤ 160 + (4 * (layN hd keys pl 0).length + 5) / 3 := lay1_len h
  have h2 : (layN hd keys pl 2).length ≤ 160 + (4 * (layN hd keys pl 1).length + 5) / 3 := lay1_len h
  have h3 : (layN hd keys pl 3).length ≤ 160 + (4 * (layN hd keys pl 2).length + 5) / 3 := lay1_len h
  have h4 : (layN hd keys pl 4).length ≤ 160 + (4 * (layN hd keys pl 3).length + 5) / 3 := lay1_len h
  have h5 : (layN hd keys pl 5).length ≤ 160 + (4 * (layN hd keys pl 4).length + 5) / 3 := lay1_len h
  have h6 : (layN hd keys pl 6).length ≤ 160 + (4 * (layN hd keys pl 5).length + 5) / 3 := lay1_len h
  have h0 : (layN hd keys pl 0).length ≤ 2000 := hp
  match i, hi with
  | 0, _ | 1, _ | 2, _ | 3, _ | 4, _ | 5, _ | 6, _ => constructor <;> omega
theorem layN_isB {hd : List Int} {keys : List (List Int)} {pl : List Int} (h : IsB hd) (hp : IsB pl) : ∀ i, IsB (layN hd keys pl i)
  | 0 => hp
  | i + 1 => isB_app (isB_app (signF_isB h (layN_isB h hp i)) isB_46) (encF_isB true (layR_sum _ _ _).isB)
end Go.Proofs.YtbdmdajbdmdknaaGreatDoor
namespace Go.Proofs.YtbdmdajbdmdknaaGreatDoor
open Go.RowKit
set_option linter.unusedVariables false
set_option linter.unusedSimpArgs false

set_option maxRecDepth 100000 in
set_option maxHeartbeats 1000000 in
theorem fits6_calls (A : Option Addr) (n c : Nat) (vs : List (Option Addr × Nat × Nat)) (w : World) (h : Rd w A (slvs vs)) (hn : vs.length = n) (hb : n ≤ 9223372036854775807) (r : Bool) (hr : r = true ↔ n ≤ 2147483647 ∧ ∀ x ∈ vs, x.2.1 ≤ 2147483647) :
    Calls Tryz.prog 14 #[.slice A n c] w fun e w' => e = .returned (.bool r) ∧ w = w' := by
  by_cases hz : n ≤ 2147483647
  case neg =>
    have hi : (2147483647 : Int) < (n : Int) := by omega
    obtain rfl : r = false := by
      cases r with
      | false => rfl
      | true => exact absurd (hr.1 rfl).1 hz
    clear h hn hr
    go_enter Tryz.func14, Tryz.ntmps14
    go_wp2
    go_ret
    exact ⟨rfl, rfl⟩
  have hi : ¬ (2147483647 : Int) < (n : Int) := by omega
  have H := hidden h
  have HN := hidden hn
  have HR := hidden hr
  clear h hn hr
  go_enter Tryz.func14, Tryz.ntmps14
  go_wp2
  go_loopw [10] (fun i wr => ∃ k : Nat, k ≤ n ∧ i = .int .i64 k ∧ wr = w ∧ Hid (∀ j (hj : j < vs.length), j < k → (vs[j]).2.1 ≤ 2147483647)) (fun i _ => n - (intOf i).toNat)
  case atStart => exact ⟨0, by omega, rfl, rfl, hidden (fun j _ h => by omega)⟩
  case round =>
    obtain ⟨k, hk, rfl, rfl, HJ⟩ := hrel
    by_cases hlt : k < n
    · have hkv : k < vs.length := by rw [HN.out]; exact hlt
      obtain ⟨b, o, rfl, hb1, hc1⟩ := H.out k _ (slvs_at vs k hkv)
      obtain ⟨x, hx⟩ : ∃ x, vs[k] = x := ⟨_, rfl⟩
      rw [hx] at hc1
      have HX := hidden hx
      clear hx
      obtain ⟨X, m, d⟩ := x
      by_cases hm : (2147483647 : Int) < (m : Int)
      · obtain rfl : r = false := by
          cases r with
          | false => rfl
          | true =>
            have := (HR.out.1 rfl).2 _ (List.getElem_mem hkv)
            rw [HX.out] at this
            dsimp only at this
            omega
        go_wp2
        go_ret
        exact ⟨rfl, rfl⟩
      · have HJ' : Hid (∀ j (hj : j < vs.length), j < k + 1 → (vs[j]).2.1 ≤ 2147483647) := hidden (fun j hj h => by
          by_cases e : j = k
          · subst e
            rw [HX.out]
            dsimp only
            omega
          · exact HJ.out j hj (by omega))
        go_wp2
        exact ⟨⟨k + 1, by omega, by go_num, trivial, HJ'⟩, by simp [intOf]; omega⟩
    · obtain rfl : k = n := by omega
      obtain rfl : r = true := HR.out.2 ⟨hz, fun x hx => by
        obtain ⟨j, hj, rfl⟩ := List.getElem_of_mem hx
        exact HJ.out j hj (by rw [← HN.out]; exact hj)⟩
      go_wp2
      go_ret
      exact ⟨rfl, rfl⟩
end Go.Proofs.YtbdmdajbdmdknaaGreatDoor
