/- One quantum is read: up to four letters. -/
import Derived.Test.YtbdmdajbdmdknaaGreatDoorM10
import Derived.Deep.DeepCutAuto
import Derived.Deep.CutBlock
namespace Go.Proofs.YtbdmdajbdmdknaaGreatDoor
open Go.RowKit
set_option linter.unusedVariables false
set_option linter.unusedSimpArgs false

/-- The digits that stand in the small row, zeros behind. -/
def pad4 (d : List Int) : List Int := d ++ List.replicate (4 - d.length) 0
theorem pad4_len (d : List Int) (h : d.length ≤ 4) : (pad4 d).length = 4 := by simp [pad4]; omega
theorem pad4_set (d : List Int) (x : Int) (h : d.length < 4) : (pad4 d).set d.length x = pad4 (d ++ [x]) := by
  unfold pad4
  rw [List.set_append_right _ _ (Nat.le_refl _), Nat.sub_self, show 4 - d.length = (4 - (d ++ [x]).length) + 1 by simp; omega, List.replicate_succ, List.set_cons_zero, List.append_assoc]
  rfl
theorem gi_pad4 (d : List Int) (i : Nat) : gi (pad4 d) i = gi d i := by
  unfold pad4
  by_cases h : i < d.length
  · exact gi_app1 _ h
  · rw [gi_app2 (by omega)]
    simp only [gi, List.getD_eq_getElem?_getD, List.getElem?_eq_none (Nat.le_of_not_lt h), Option.getD_none]
    rw [List.getElem?_replicate]
    split <;> rfl
def IsD (d : List Int) : Prop := ∀ x ∈ d, 0 ≤ x ∧ x < 64
theorem IsD.gi {d : List Int} (h : IsD d) (i : Nat) : 0 ≤ gi d i ∧ gi d i < 64 := by
  by_cases hi : i < d.length
  · exact h _ (gi_mem hi)
  · simp [Go.Proofs.YtbdmdajbdmdknaaGreatDoor.gi, List.getD_eq_getElem?_getD, List.getElem?_eq_none (Nat.le_of_not_lt hi)]
theorem IsD.snoc {d : List Int} {x : Int} (h : IsD d) (h0 : 0 ≤ x) (h1 : x < 64) : IsD (d ++ [x]) := by
  intro y hy
  rcases List.mem_append.1 hy with hy | hy
  · exact h y hy
  · rw [List.mem_singleton.1 hy]; exact ⟨h0, h1⟩
theorem drop_gi (l : List Int) {k : Nat} (h : k < l.length) : l.drop k = gi l k :: l.drop (k + 1) := by
  rw [List.drop_eq_getElem_cons h]; simp [gi, List.getD_eq_getElem?_getD, h]
/-- What is left to be read when some digits have been read. -/
def leftA (dm : List Int) (pad : Int) (r d : List Int) : Option (List Int) :=
  if d.length = 4 then (decA dm pad r []).map (outB d ++ ·) else decA dm pad r d
/-- Between two letters. -/
structure QSt (w : World) (g2 : Nat) (dm : List Int) (pad : Int) (l : List Int) (si0 si n : Nat) (d : List Int) (wr : World) : Prop where
  le : si0 + d.length ≤ si
  ub : si ≤ n
  d4 : d.length ≤ 4
  dig : IsD d
  eq : decA dm pad (l.drop si0) [] = leftA dm pad (l.drop si) d
  row : Row wr g2 231 (nums .u8 (pad4 d))
  below : Below w.heap.size w wr
/-- A table of letters. -/
def IsTab (dm : List Int) : Prop := ∀ x : Nat, x < 256 → gi dm x = 255 ∨ (0 ≤ gi dm x ∧ gi dm x < 64)
theorem tab_isTab (url : Bool) : IsTab (tab url) := fun x hx => by
  rcases tab_cases url hx with h | h
  · exact .inl h
  · exact .inr ⟨h.1, h.2.1⟩
theorem qst_start (w : World) (g2 : Nat) (hg : g2 = w.heap.size) (dm : List Int) (pad : Int) (l : List Int) (si0 n : Nat) (h : si0 ≤ n) : QSt w g2 dm pad l si0 si0 n [] (w.alloc (.cells (nums .u8 (List.replicate 4 0)).toArray 231)) :=
  ⟨by simp, h, by simp, (fun x hx => by cases hx), by simp [leftA], by rw [hg]; exact Row.new w _ _, below_alloc0 w _⟩
theorem info_four : (Tryz.prog.info? 231).map (fun i => i.zero.map Value.cells) = some (some (nums .u8 (List.replicate 4 0)).toArray) := by kernel_rfl
theorem size_256 : (Tryz.prog.info? 83).map (·.size) = some 256 := by kernel_rfl
/-- What is left behind the digits. -/
structure QEnd (w : World) (g2 : Nat) (dm : List Int) (pad : Int) (l : List Int) (si0 si n : Nat) (d : List Int) (s10 : Value) (wr : World) : Prop where
  le : si0 + d.length ≤ si
  ub : si ≤ n
  d4 : d.length ≤ 4
  d2 : 2 ≤ d.length
  short : d.length < 4 → pad ≠ -1 → si0 + 4 ≤ si
  fin : d.length < 4 → s10 = .nilIface → si = n
  dig : IsD d
  eq : s10 = .nilIface → decA dm pad (l.drop si0) [] = (decA dm pad (l.drop si) []).map (outB d ++ ·)
  bad : s10 = .nilIface ∨ ((∃ v, s10 = .iface 232 v) ∧ decA dm pad (l.drop si0) [] = none)
  row : Row wr g2 231 (nums .u8 (pad4 d))
  below : Below w.heap.size w wr
/-- What one quantum gives. -/
structure QPost (w : World) (gd T o m : Nat) (dm : List Int) (pad : Int) (l L : List Int) (si0 n : Nat) (e : Ending) (w' : World) : Prop where
  gr : w.grownBy w' (some gd)
  res : (∃ (si : Nat) (out : List Int), e = .returned (.tuple #[.int .i64 si, .int .i64 out.length, .nilIface]) ∧ si ≤ n ∧ (si = n ∨ (out.length = 3 ∧ si0 + 4 ≤ si)) ∧ decA dm pad (l.drop si0) [] = (decA dm pad (l.drop si) []).map (out ++ ·) ∧ IsB out ∧ out.length ≤ m ∧ o + out.length ≤ L.length ∧ Row w' gd T (nums .u8 (splice L o out))) ∨
    (∃ (a b : Int) (v : Value) (L' : List Int), e = .returned (.tuple #[.int .i64 a, .int .i64 b, .iface 232 v]) ∧ decA dm pad (l.drop si0) [] = none ∧ L'.length = L.length ∧ Row w' gd T (nums .u8 L'))
theorem decA_nil (dm : List Int) (pad : Int) : decA dm pad [] [] = some [] := rfl
section
variable {w wr : World} {g2 gd T o m : Nat} {dm : List Int} {pad : Int} {l L : List Int} {si0 si n : Nat} {d : List Int}
theorem QSt.full (h : QSt w g2 dm pad l si0 si n d wr) (hd : d.length = 4) : QEnd w g2 dm pad l si0 si n d .nilIface wr :=
  ⟨h.le, h.ub, h.d4, by omega, fun h4 => by omega, fun h4 => by omega, h.dig, fun _ => by rw [h.eq, leftA, if_pos hd], .inl rfl, h.row, h.below⟩
theorem QSt.grown (h : QSt w g2 dm pad l si0 si n d wr) (q : Nat) : w.grownBy (wr.drewN q) (some gd) := grown_drewN (grown_below (B := 0) h.below (some gd)) q
theorem QSt.rowL (h : QSt w g2 dm pad l si0 si n d wr) (hR : Row w gd T (nums .u8 L)) (q : Nat) : Row (wr.drewN q) gd T (nums .u8 L) := (hR.below h.below hR.lt).drewN q
/-- The text is at its end, and nothing has been read. -/
theorem QSt.over (h : QSt w g2 dm pad l si0 n n d wr) (hl : l.length = n) (hd : d.length = 0) (hR : Row w gd T (nums .u8 L)) (hol : o ≤ L.length) :
    QPost w gd T o m dm pad l L si0 n (.returned (.tuple #[.int .i64 n, .int .i64 0, .nilIface])) wr := by
  refine ⟨h.grown 0, .inl ⟨n, [], rfl, Nat.le_refl _, .inl rfl, ?_, (fun x hx => by cases hx), by simp, by simpa using hol, by rw [splice_nil]; exact h.rowL hR 0⟩⟩
  rw [h.eq, leftA, if_neg (by omega), List.drop_of_length_le (by omega), decA, atEnd, if_pos hd]
  simp [decA, atEnd]
theorem QSt.bad (h : QSt w g2 dm pad l si0 si n d wr) (hn : leftA dm pad (l.drop si) d = none) (hR : Row w gd T (nums .u8 L)) (a b : Int) (v : Value) (q : Nat) :
    QPost w gd T o m dm pad l L si0 n (.returned (.tuple #[.int .i64 a, .int .i64 b, .iface 232 v])) (wr.drewN q) :=
  ⟨h.grown q, .inr ⟨a, b, v, L, rfl, h.eq.trans hn, rfl, h.rowL hR q⟩⟩
theorem QSt.stop (h : QSt w g2 dm (-1) l si0 n n d wr) (hl : l.length = n) (h2 : 2 ≤ d.length) (h4 : d.length < 4) : QEnd w g2 dm (-1) l si0 n n d .nilIface wr :=
  ⟨h.le, h.ub, h.d4, h2, (fun _ hp => absurd rfl hp), (fun _ _ => rfl), h.dig, (fun _ => by
    rw [h.eq, leftA, if_neg (by omega), List.drop_of_length_le (by omega), decA, atEnd, if_neg (by omega), if_neg (by omega), if_pos rfl]
    simp [decA, atEnd]), .inl rfl, h.row, h.below⟩
theorem QSt.next (h : QSt w g2 dm pad l si0 si n d wr) (hl : l.length = n) (hs : si < n) (hd : d.length < 4) (a : Nat) (ha : gi l si = (a : Int)) (q : Int) (hq : gi dm a = q) (h0 : 0 ≤ q) (h1 : q < 64) {j : Nat} (hj : d.length = j) (z : Nat) (hg2 : g2 = w.heap.size) :
    QSt w g2 dm pad l si0 (si + 1) n (d ++ [q]) ((wr.setCell ⟨g2, j, none⟩ (.int .u8 q)).drewN z) := by
  subst hj
  refine ⟨by have := h.le; simp; omega, hs, by simp; omega, h.dig.snoc h0 h1, ?_, ?_, below_drewN0 (h.below.setCell (by rw [hg2]; exact Nat.le_refl _) _) z⟩
  · rw [h.eq, leftA, if_neg (by omega), drop_gi l (by omega), ha, decA, Int.toNat_natCast, hq, if_pos (by omega)]
    by_cases h3 : d.length = 3
    · rw [if_pos h3, leftA, if_pos (by simp; omega)]
    · rw [if_neg h3, leftA, if_neg (by simp; omega)]
  · rw [← pad4_set d q hd]
    exact (h.row.iset _ _).drewN z
theorem QSt.line (h : QSt w g2 dm pad l si0 si n d wr) (hl : l.length = n) (hs : si < n) (hd : d.length < 4) (a : Nat) (ha : gi l si = (a : Int)) (hq : gi dm a = 255) (hn : a = 10 ∨ a = 13) (m : Nat) :
    QSt w g2 dm pad l si0 (si + 1) n d (wr.drewN m) := by
  refine ⟨by have := h.le; omega, hs, h.d4, h.dig, ?_, h.row.drewN m, below_drewN0 h.below m⟩
  rw [h.eq, leftA, if_neg (by omega), leftA, if_neg (by omega), drop_gi l (by omega), ha, decA, Int.toNat_natCast, hq, if_neg (by simp), if_pos (by omega)]
theorem QSt.foreign (h : QSt w g2 dm pad l si0 si n d wr) (hl : l.length = n) (hs : si < n) (hd : d.length < 4) (a : Nat) (ha : gi l si = (a : Int)) (hq : gi dm a = 255) (hn : ¬ (a = 10 ∨ a = 13)) (hp : (a : Int) ≠ pad) : leftA dm pad (l.drop si) d = none := by
  rw [leftA, if_neg (by omega), drop_gi l (by omega), ha, decA, Int.toNat_natCast, hq, if_neg (by simp), if_neg (by omega), if_neg hp]
theorem skipNL_step (l : List Int) {k : Nat} (hk : k < l.length) (h : gi l k = 10 ∨ gi l k = 13) : skipNL (l.drop k) = skipNL (l.drop (k + 1)) := by
  rw [drop_gi l hk]
  unfold skipNL
  rw [List.dropWhile_cons, if_pos (by simpa using h)]
theorem skipNL_stop (l : List Int) {k : Nat} (h : k < l.length → ¬ (gi l k = 10 ∨ gi l k = 13)) : skipNL (l.drop k) = l.drop k := by
  by_cases hk : k < l.length
  · rw [drop_gi l hk]
    unfold skipNL
    rw [List.dropWhile_cons, if_neg (by simpa using h hk)]
  · rw [List.drop_of_length_le (by omega)]; rfl
theorem leftA_pad (hl : l.length = n) (hs : si < n) (hd : d.length < 4) (ha : gi l si = 61) (hq : gi dm 61 = 255) : leftA dm 61 (l.drop si) d = padEnd 61 d (l.drop (si + 1)) := by
  rw [leftA, if_neg (by omega), drop_gi l (by omega), ha, decA, show (61 : Int).toNat = 61 from rfl, hq, if_neg (by simp), if_neg (by omega), if_pos rfl]
theorem QSt.close2 (h : QSt w g2 dm 61 l si0 si n d wr) (hl : l.length = n) (hs : si < n) (hd : d.length = 2) (ha : gi l si = 61) (hq : gi dm 61 = 255) {k k2 : Nat} (hk : skipNL (l.drop (si + 1)) = l.drop k) (hkn : k < n) (hsk : si + 1 ≤ k) (h61 : gi l k = 61) (hk2 : skipNL (l.drop (k + 1)) = l.drop k2) (hkk : k + 1 ≤ k2) (hk2n : k2 ≤ n)
    (s10 : Value) (hs10 : (k2 = n ∧ s10 = .nilIface) ∨ (k2 < n ∧ ∃ v, s10 = .iface 232 v)) (m : Nat) : QEnd w g2 dm 61 l si0 k2 n d s10 (wr.drewN m) := by
  have hle := h.le
  have hpe : leftA dm 61 (l.drop si) d = if l.drop k2 = [] then some (outB d) else none := by
    rw [leftA_pad hl hs (by omega) ha hq, padEnd, if_neg (by omega), if_pos hd, hk, drop_gi l (by omega)]
    simp only [h61, hk2, true_and]
  refine ⟨by omega, hk2n, h.d4, by omega, (fun _ _ => by omega), ?_, h.dig, ?_, ?_, h.row.drewN m, below_drewN0 h.below m⟩
  · intro _ h10
    rcases hs10 with ⟨h1, _⟩ | ⟨_, v, hv⟩
    · exact h1
    · rw [h10] at hv; cases hv
  · intro h10
    rcases hs10 with ⟨h1, _⟩ | ⟨_, v, hv⟩
    · rw [h.eq, hpe, List.drop_of_length_le (by omega), if_pos rfl]
      simp [decA, atEnd]
    · rw [h10] at hv; cases hv
  · rcases hs10 with ⟨_, h1⟩ | ⟨h2, hv⟩
    · exact .inl h1
    · refine .inr ⟨hv, ?_⟩
      rw [h.eq, hpe, if_neg]
      intro e
      have := congrArg List.length e
      rw [List.length_drop] at this
      simp at this; omega
theorem QSt.close3 (h : QSt w g2 dm 61 l si0 si n d wr) (hl : l.length = n) (hs : si < n) (hd : d.length = 3) (ha : gi l si = 61) (hq : gi dm 61 = 255) {k2 : Nat} (hk2 : skipNL (l.drop (si + 1)) = l.drop k2) (hkk : si + 1 ≤ k2) (hk2n : k2 ≤ n)
    (s10 : Value) (hs10 : (k2 = n ∧ s10 = .nilIface) ∨ (k2 < n ∧ ∃ v, s10 = .iface 232 v)) (m : Nat) : QEnd w g2 dm 61 l si0 k2 n d s10 (wr.drewN m) := by
  have hle := h.le
  have hpe : leftA dm 61 (l.drop si) d = if l.drop k2 = [] then some (outB d) else none := by
    rw [leftA_pad hl hs (by omega) ha hq, padEnd, if_neg (by omega), if_neg (by omega), hk2]
  refine ⟨by omega, hk2n, h.d4, by omega, (fun _ _ => by omega), ?_, h.dig, ?_, ?_, h.row.drewN m, below_drewN0 h.below m⟩
  · intro _ h10
    rcases hs10 with ⟨h1, _⟩ | ⟨_, v, hv⟩
    · exact h1
    · rw [h10] at hv; cases hv
  · intro h10
    rcases hs10 with ⟨h1, _⟩ | ⟨_, v, hv⟩
    · rw [h.eq, hpe, List.drop_of_length_le (by omega), if_pos rfl]
      simp [decA, atEnd]
    · rw [h10] at hv; cases hv
  · rcases hs10 with ⟨_, h1⟩ | ⟨h2, hv⟩
    · exact .inl h1
    · refine .inr ⟨hv, ?_⟩
      rw [h.eq, hpe, if_neg]
      intro e
      have := congrArg List.length e
      rw [List.length_drop] at this
      simp at this; omega
theorem grown_setNew {r : Option Nat} (h : w.grownBy wr r) {g2 : Nat} (hp : g2 = w.heap.size) (i : Nat) (v : Value) : w.grownBy (wr.setCell ⟨g2, i, none⟩ v) r :=
  ⟨h.os, h.tape, h.output, by simpa using h.size, fun k hk hne => (Below.heap_setCell wr ⟨g2, i, none⟩ v k (by show k ≠ g2; omega)).trans (h.block k hk hne)⟩
theorem QEnd.post {s10 : Value} {wc w' : World} (h : QEnd w g2 dm pad l si0 si n d s10 wc) (hg : w.grownBy w' (some gd)) (hout : Row w' gd T (nums .u8 (splice L o (outB d)))) (hL : o + (outB d).length ≤ L.length) (hm : (outB d).length ≤ m) (k : Int) (hk : k = ((d.length - 1 : Nat) : Int)) :
    QPost w gd T o m dm pad l L si0 n (.returned (.tuple #[.int .i64 si, .int .i64 k, s10])) w' := by
  have hol := outB_len d h.d4
  refine ⟨hg, ?_⟩
  rcases h.bad with h10 | ⟨⟨v, hv⟩, hbad⟩
  · refine .inl ⟨si, outB d, by rw [h10, hk, hol], h.ub, ?_, h.eq h10, outB_isB d, hm, hL, hout⟩
    by_cases h4 : d.length = 4
    · right
      have := h.le
      rw [hol]
      omega
    · exact .inl (h.fin (by have := h.d4; omega) h10)
  · exact .inr ⟨_, _, v, _, by rw [hv], hbad, splice_len L o _ hL, hout⟩
theorem splice_one (L : List Int) (o : Nat) (y0 : Int) (h : o + 1 ≤ L.length) : L.set o y0 = splice L o [y0] := by
  have := splice_snoc L o [] y0 (by simp; omega)
  simpa [splice_nil] using this
theorem splice_two (L : List Int) (o : Nat) (y0 y1 : Int) (h : o + 2 ≤ L.length) : (L.set (o + 1) y1).set o y0 = splice L o [y0, y1] := by
  have := splice_snoc2 L o o [] y0 y1 rfl h
  rw [splice_nil] at this
  rw [List.set_comm _ _ (by omega)]
  simpa using this
theorem splice_three (L : List Int) (o : Nat) (y0 y1 y2 : Int) (h : o + 3 ≤ L.length) : ((L.set (o + 2) y2).set (o + 1) y1).set o y0 = splice L o [y0, y1, y2] := by
  have := splice_snoc3 L o o [] y0 y1 y2 rfl h
  rw [splice_nil] at this
  have e1 : (L.set (o + 2) y2).set (o + 1) y1 = (L.set (o + 1) y1).set (o + 2) y2 := List.set_comm _ _ (by omega)
  have e2 : ((L.set (o + 1) y1).set (o + 2) y2).set o y0 = ((L.set (o + 1) y1).set o y0).set (o + 2) y2 := List.set_comm _ _ (by omega)
  have e3 : (L.set (o + 1) y1).set o y0 = (L.set o y0).set (o + 1) y1 := List.set_comm _ _ (by omega)
  rw [e1, e2, e3]
  simpa using this
end
set_option maxRecDepth 100000 in
set_option maxHeartbeats 2000000 in
theorem quantum_calls (g gd T o m cd b0 oa n c si0 : Nat) (al dm : List Int) (pad : Int) (l L : List Int) (w : World) (hE : EncAt w g al dm pad) (hT : IsTab dm) (hp : pad = -1 ∨ pad = 61) (h61 : gi dm 61 = 255)
    (hl : l.length = n) (hb : IsB l) (hcl : ∀ i, i < n → w.cell? ⟨b0, oa + i, none⟩ = some (.int .u8 (gi l i))) (hb0 : b0 < w.heap.size) (hsi : si0 ≤ n) (hn : n ≤ 100000)
    (hR : Row w gd T (nums .u8 L)) (hcd : m ≤ cd) (ho : m = 0 ∨ o + m ≤ L.length) (hol : o ≤ L.length) (hg : g ≠ gd)
    (m4 : si0 + 4 ≤ n → 3 ≤ m) (m3 : pad = -1 → si0 + 3 ≤ n → 2 ≤ m) (m2 : pad = -1 → si0 + 2 ≤ n → 1 ≤ m) :
    Calls Tryz.prog 170 #[.pointer (some ⟨g, 0, none⟩), .slice (some ⟨gd, o, none⟩) m cd, .slice (some ⟨b0, oa, none⟩) n c, .int .i64 si0] w fun e w' => QPost w gd T o m dm pad l L si0 n e w' := by
  have size256 : (Tryz.prog.info? 83).map (·.size) = some (nums .u8 dm).length := by rw [nums_len, hE.ld]; exact size_256
  obtain ⟨g2, hg2⟩ : ∃ g2, g2 = w.heap.size := ⟨_, rfl⟩
  have HE := hidden hE
  have HR := hidden hR
  have HT := hidden hT
  have Hp := hidden hp
  have H61 := hidden h61
  have Hl := hidden hl
  have Hb := hidden hb
  have Hcl := hidden hcl
  have Hg2 := hidden hg2
  have M4 := hidden m4
  have M3 := hidden m3
  have M2 := hidden m2
  have HO := hidden ho
  clear hE hR hT hp h61 hl hb hcl m4 m3 m2 hg2 ho
  go_enter Tryz.func170, Tryz.ntmps170
  go_upto_block 0 with (first
    | (with_reducible refine at_dst 11 ?_; go_must (refine walk_alloc rfl rfl info_four ?_; refine wpAbsL (fun W => QSt w g2 dm pad l si0 si0 n [] W) (qst_start w g2 Hg2.out dm pad l si0 n hsi) ?_; rw [← Hg2.out]; intro w1 hQ1))
    | (with_reducible refine at_dst 20 ?_; go_must (refine walk_load_at (off := 64) (cs := nums .u8 dm) rfl _ _ rfl (fun j v hv => by
        have hj : j < dm.length := by rw [← nums_len .u8]; exact (List.getElem?_eq_some_iff.1 hv).1
        rw [nums_at _ _ _ hj] at hv; cases hv; exact (HE.out.below hQ1.below HE.out.lt).digit j (by rw [← HE.out.ld]; exact hj)) rfl Tryz.underlying83 rfl size256 ?_)))
  go_cut [3, 10, 12] (fun s3 s10 s12 wc => ∃ (si : Nat) (d : List Int), s3 = .int .i64 si ∧ s12 = .int .i64 d.length ∧ QEnd w g2 dm pad l si0 si n d s10 wc)
  case first =>
    go_wp2_with (fail)
    go_loopw [3, 10, 12, 13] (fun s3 s10 s12 s13 wr => ∃ (si : Nat) (d : List Int), s3 = .int .i64 si ∧ s10 = .nilIface ∧ s12 = .int .i64 4 ∧ s13 = .int .i64 d.length ∧ QSt w g2 dm pad l si0 si n d wr) (fun s3 _ _ _ _ => n - (intOf s3).toNat)
    case atStart => exact ⟨si0, [], rfl, rfl, rfl, rfl, hQ1⟩
    case round =>
      obtain ⟨si, d, rfl, rfl, rfl, rfl, hQ⟩ := hrel
      clear hQ1
      obtain ⟨j, hj⟩ : ∃ j, d.length = j := ⟨_, rfl⟩
      have hj4 : j ≤ 4 := hj ▸ hQ.d4
      have HJ := hidden hj
      rw [hj]
      clear hj
      have hB := hQ.below
      have hEw := HE.out.below hB HE.out.lt
      have cpad := hEw.padc
      by_cases hd4 : j = 4
      · subst hd4
        clear hj4 cpad hEw hB
        have HQ := hidden hQ
        clear hQ
        go_wp2_with (fail)
        go_meet
        exact ⟨si, d, rfl, by rw [HJ.out]; rfl, HQ.out.full HJ.out⟩
      · have hj4i : (j : Int) < 4 := by omega
        by_cases hend : si = n
        · subst hend
          clear hB hEw
          have HQ := hidden hQ
          clear hQ
          rcases (show j = 0 ∨ j = 1 ∨ j = 2 ∨ j = 3 by omega) with rfl | rfl | rfl | rfl
          · clear cpad
            go_wp2_with (fail)
            (try simp only [Exit.inBlock, Exit.then])
            go_ret3
            exact HQ.out.over Hl.out HJ.out HR.out hol
          · clear cpad
            have HB : Hid (leftA dm pad (l.drop si) d = none) := hidden (by rw [leftA, if_neg (by rw [HJ.out]; omega), List.drop_of_length_le (by rw [Hl.out]; omega), decA, atEnd, if_neg (by rw [HJ.out]; omega), if_pos HJ.out])
            go_wp2_with (fail)
            (try simp only [Exit.inBlock, Exit.then])
            go_ret3
            exact HQ.out.bad HB.out HR.out _ _ _ 0
          · rcases Hp.out with rfl | rfl
            · go_wp2_with (fail)
              go_meet
              exact ⟨si, d, rfl, by rw [HJ.out]; rfl, HQ.out.stop Hl.out (by rw [HJ.out]; omega) (by rw [HJ.out]; omega)⟩
            · have HB : Hid (leftA dm 61 (l.drop si) d = none) := hidden (by rw [leftA, if_neg (by rw [HJ.out]; omega), List.drop_of_length_le (by rw [Hl.out]; omega), decA, atEnd, if_neg (by rw [HJ.out]; omega), if_neg (by rw [HJ.out]; omega), if_neg (by omega)])
              go_wp2_with (fail)
              (try simp only [Exit.inBlock, Exit.then])
              go_ret3
              exact HQ.out.bad HB.out HR.out _ _ _ 0
          · rcases Hp.out with rfl | rfl
            · go_wp2_with (fail)
              go_meet
              exact ⟨si, d, rfl, by rw [HJ.out]; rfl, HQ.out.stop Hl.out (by rw [HJ.out]; omega) (by rw [HJ.out]; omega)⟩
            · have HB : Hid (leftA dm 61 (l.drop si) d = none) := hidden (by rw [leftA, if_neg (by rw [HJ.out]; omega), List.drop_of_length_le (by rw [Hl.out]; omega), decA, atEnd, if_neg (by rw [HJ.out]; omega), if_neg (by rw [HJ.out]; omega), if_neg (by omega)])
              go_wp2_with (fail)
              (try simp only [Exit.inBlock, Exit.then])
              go_ret3
              exact HQ.out.bad HB.out HR.out _ _ _ 0
        · have hlt : si < n := by have := hQ.ub; omega
          have hlti : (si : Int) < (n : Int) := by omega
          have hne : ¬ (n : Int) = (si : Int) := by omega
          have hne2 : ¬ n = si := by omega
          have hneb : ((n : Int) == (si : Int)) = false := beq_eq_false_iff_ne.2 hne
          obtain ⟨a, ha⟩ : ∃ a : Nat, gi l si = (a : Int) := ⟨(gi l si).toNat, (Int.toNat_of_nonneg (gi_byte Hb.out si).1).symm⟩
          have ha2 := (gi_byte Hb.out si).2
          have ka : wr.cell? ⟨b0, oa + si, none⟩ = some (.int .u8 (a : Int)) := by rw [← ha, ← Hcl.out si hlt]; exact hB.cell (p := ⟨b0, oa + si, none⟩) hb0
          rw [ha] at ha2
          have ha3 : a < 256 := by omega
          have kd := hEw.digit a ha3
          obtain ⟨q, hq⟩ : ∃ q, gi dm a = q := ⟨_, rfl⟩
          have hqt := HT.out a ha3
          rw [hq] at kd hqt
          have kb := hQ.row.icell j (by rw [pad4_len _ hQ.d4]; omega)
          have kf := hQ.row.free j
          have HA := hidden ha
          have HQe := hidden hq
          clear ha hq hB hEw
          by_cases hq255 : q = 255
          · subst hq255
            by_cases hnl : a = 10 ∨ a = 13
            · clear cpad
              have HQ := hidden (hQ.line Hl.out hlt (by rw [HJ.out]; omega) a HA.out HQe.out hnl 0)
              clear hQ hqt
              have hz : Hid (Value.int .i64 (wrap64 (wrap64 ((j : Int) - 1) + 1)) = .int .i64 (j : Int)) := hidden (by
                congr 1
                unfold wrap64; omega)
              rcases hnl with rfl | rfl
              · go_wp2_with (fail)
                go_roundw
                case rel => exact ⟨si + 1, d, by go_num, rfl, rfl, by rw [HJ.out]; first | done | exact hz.out, HQ.out⟩
                case measure => simp [intOf]; omega
              · go_wp2_with (fail)
                go_roundw
                case rel => exact ⟨si + 1, d, by go_num, rfl, rfl, by rw [HJ.out]; first | done | exact hz.out, HQ.out⟩
                case measure => simp [intOf]; omega
            · have hq10 : ((a : Int) == 10) = false := beq_eq_false_iff_ne.2 (by omega)
              have hq13 : ((a : Int) == 13) = false := beq_eq_false_iff_ne.2 (by omega)
              have hr10 : ¬ a = 10 := by omega
              have hr13 : ¬ a = 13 := by omega
              have ha32 : IntKind.i32.wrap (a : Int) = (a : Int) := by simp only [IntKind.wrap, IntKind.bits, IntKind.signed]; simp; omega
              clear hqt
              by_cases hpd : (a : Int) = pad
              · obtain rfl : pad = 61 := by rcases Hp.out with h | h; omega; exact h
                obtain rfl : a = 61 := by omega
                have KB : Hid (∀ k, k < n → wr.cell? ⟨b0, oa + k, none⟩ = some (.int .u8 (gi l k))) := hidden (fun k hk => by rw [← Hcl.out k hk]; exact hQ.below.cell (p := ⟨b0, oa + k, none⟩) hb0)
                have HQ := hidden hQ
                clear hQ hnl hpd
                rcases (show j = 0 ∨ j = 1 ∨ j = 2 ∨ j = 3 by omega) with rfl | rfl | rfl | rfl
                · have HB : Hid (leftA dm 61 (l.drop si) d = none) := hidden (by rw [leftA_pad Hl.out hlt (by rw [HJ.out]; omega) HA.out H61.out, padEnd, if_pos (by rw [HJ.out]; omega)])
                  go_wp2_with (fail)
                  (try simp only [Exit.inBlock, Exit.then])
                  go_ret3
                  exact HQ.out.bad HB.out HR.out _ _ _ 0
                · have HB : Hid (leftA dm 61 (l.drop si) d = none) := hidden (by rw [leftA_pad Hl.out hlt (by rw [HJ.out]; omega) HA.out H61.out, padEnd, if_pos (by rw [HJ.out]; omega)])
                  go_wp2_with (fail)
                  (try simp only [Exit.inBlock, Exit.then])
                  go_ret3
                  exact HQ.out.bad HB.out HR.out _ _ _ 0
                · go_wp2_with (fail)
                  go_loopw [3] (fun s3 wx => ∃ k : Nat, si + 1 ≤ k ∧ k ≤ n ∧ s3 = .int .i64 k ∧ Hid (skipNL (l.drop (si + 1)) = skipNL (l.drop k)) ∧ ∃ z, wx = wr.drewN z) (fun s3 _ => n - (intOf s3).toNat)
                  case atStart => exact ⟨si + 1, by omega, by omega, by go_num, hidden rfl, 0, rfl⟩
                  case round =>
                    obtain ⟨k, hk1', hkn, rfl, HS, z, rfl⟩ := hrel
                    by_cases hke : k = n
                    · subst hke
                      have HB : Hid (leftA dm 61 (l.drop si) d = none) := hidden (by
                        rw [leftA_pad Hl.out hlt (by rw [HJ.out]; omega) HA.out H61.out, padEnd, if_neg (by rw [HJ.out]; omega), if_pos HJ.out, HS.out, skipNL_stop l (fun h => by rw [Hl.out] at h; omega), List.drop_of_length_le (by rw [Hl.out]; omega)])
                      go_wp2_with (fail)
                      (try simp only [Exit.inBlock, Exit.then])
                      go_ret3
                      exact HQ.out.bad HB.out HR.out _ _ _ z
                    · have hkl : k < n := by omega
                      have hkli : (k : Int) < (n : Int) := by omega
                      have hknb : ((k : Int) == (n : Int)) = false := beq_eq_false_iff_ne.2 (by omega)
                      have hknn : ¬ k = n := hke
                      obtain ⟨b1, hb1⟩ : ∃ a : Nat, gi l k = (a : Int) := ⟨(gi l k).toNat, (Int.toNat_of_nonneg (gi_byte Hb.out k).1).symm⟩
                      have kb1 := KB.out k hkl
                      rw [hb1] at kb1
                      have hb1lt : b1 < 256 := by have := (gi_byte Hb.out k).2; omega
                      have HB1 := hidden hb1
                      clear hb1
                      by_cases hnl1 : b1 = 10 ∨ b1 = 13
                      · have HS3 : Hid (skipNL (l.drop (si + 1)) = skipNL (l.drop (k + 1))) := hidden (HS.out.trans (skipNL_step l (by rw [Hl.out]; exact hkl) (by rw [HB1.out]; omega)))
                        rcases hnl1 with rfl | rfl
                        · go_wp2_with (fail)
                          go_roundw
                          case rel => exact ⟨k + 1, by omega, by omega, by go_num, HS3, _, rfl⟩
                          case measure => simp [intOf]; omega
                        · go_wp2_with (fail)
                          go_roundw
                          case rel => exact ⟨k + 1, by omega, by omega, by go_num, HS3, _, rfl⟩
                          case measure => simp [intOf]; omega
                      · have HK : Hid (skipNL (l.drop (si + 1)) = l.drop k) := hidden (HS.out.trans (skipNL_stop l (fun _ => by rw [HB1.out]; omega)))
                        have hs10 : ((b1 : Int) == 10) = false := beq_eq_false_iff_ne.2 (by omega)
                        have hs13 : ((b1 : Int) == 13) = false := beq_eq_false_iff_ne.2 (by omega)
                        have ht10 : ¬ b1 = 10 := by omega
                        have ht13 : ¬ b1 = 13 := by omega
                        have hb32 : IntKind.i32.wrap (b1 : Int) = (b1 : Int) := by simp only [IntKind.wrap, IntKind.bits, IntKind.signed]; simp; omega
                        clear hnl1
                        by_cases h61 : b1 = 61
                        · subst h61
                          go_wp2_with (fail)
                          go_quiet (fail)
                          go_wp2_with (fail)
                          go_loopw [3] (fun s3 wx => ∃ k2 : Nat, k + 1 ≤ k2 ∧ k2 ≤ n ∧ s3 = .int .i64 k2 ∧ Hid (skipNL (l.drop (k + 1)) = skipNL (l.drop k2)) ∧ ∃ z, wx = wr.drewN z) (fun s3 _ => n - (intOf s3).toNat)
                          case atStart => exact ⟨k + 1, by omega, by omega, by go_num, hidden rfl, _, rfl⟩
                          case round =>
                            obtain ⟨k2, hk1, hk2, rfl, HS2, z2, rfl⟩ := hrel
                            by_cases hk2n : k2 = n
                            · subst hk2n
                              have HS3 : Hid (skipNL (l.drop (k + 1)) = l.drop k2) := hidden (HS2.out.trans (skipNL_stop l (fun h => by rw [Hl.out] at h; omega)))
                              go_wp2_with (fail)
                              go_meet
                              exact ⟨k2, d, rfl, by rw [HJ.out]; rfl, HQ.out.close2 Hl.out hlt HJ.out HA.out H61.out HK.out hkl hk1' HB1.out HS3.out hk1 hk2 .nilIface (.inl ⟨rfl, rfl⟩) z2⟩
                            · have hk2l : k2 < n := by omega
                              have hk2i : (k2 : Int) < (n : Int) := by omega
                              obtain ⟨b2, hb2⟩ : ∃ a : Nat, gi l k2 = (a : Int) := ⟨(gi l k2).toNat, (Int.toNat_of_nonneg (gi_byte Hb.out k2).1).symm⟩
                              have kb2 := KB.out k2 hk2l
                              rw [hb2] at kb2
                              have HB2 := hidden hb2
                              clear hb2
                              by_cases hnl : b2 = 10 ∨ b2 = 13
                              · have HS3 : Hid (skipNL (l.drop (k + 1)) = skipNL (l.drop (k2 + 1))) := hidden (HS2.out.trans (skipNL_step l (by rw [Hl.out]; exact hk2l) (by rw [HB2.out]; omega)))
                                rcases hnl with rfl | rfl
                                · go_wp2_with (fail)
                                  go_roundw
                                  case rel => exact ⟨k2 + 1, by omega, by omega, by go_num, HS3, _, rfl⟩
                                  case measure => simp [intOf]; omega
                                · go_wp2_with (fail)
                                  go_roundw
                                  case rel => exact ⟨k2 + 1, by omega, by omega, by go_num, HS3, _, rfl⟩
                                  case measure => simp [intOf]; omega
                              · have HS3 : Hid (skipNL (l.drop (k + 1)) = l.drop k2) := hidden (HS2.out.trans (skipNL_stop l (fun _ => by rw [HB2.out]; omega)))
                                have hq10 : ((b2 : Int) == 10) = false := beq_eq_false_iff_ne.2 (by omega)
                                have hq13 : ((b2 : Int) == 13) = false := beq_eq_false_iff_ne.2 (by omega)
                                have hr10 : ¬ b2 = 10 := by omega
                                have hr13 : ¬ b2 = 13 := by omega
                                clear hnl
                                go_wp2_with (fail)
                                go_meet
                                exact ⟨k2, d, rfl, by rw [HJ.out]; rfl, HQ.out.close2 Hl.out hlt HJ.out HA.out H61.out HK.out hkl hk1' HB1.out HS3.out hk1 hk2 _ (.inr ⟨hk2l, _, rfl⟩) z2⟩
                        · have HB : Hid (leftA dm 61 (l.drop si) d = none) := hidden (by
                            rw [leftA_pad Hl.out hlt (by rw [HJ.out]; omega) HA.out H61.out, padEnd, if_neg (by rw [HJ.out]; omega), if_pos HJ.out, HK.out, drop_gi l (by rw [Hl.out]; exact hkl)]
                            simp only [HB1.out]
                            rw [if_neg (fun e => h61 (by omega))])
                          have h61b : ((b1 : Int) == 61) = false := beq_eq_false_iff_ne.2 (by omega)
                          go_wp2_with (fail)
                          go_quiet (fail)
                          go_wp2_with (fail)
                          (try simp only [Exit.inBlock, Exit.then])
                          go_ret3
                          exact HQ.out.bad HB.out HR.out _ _ _ _
                · go_wp2_with (fail)
                  go_loopw [3] (fun s3 wx => ∃ k2 : Nat, si + 1 ≤ k2 ∧ k2 ≤ n ∧ s3 = .int .i64 k2 ∧ Hid (skipNL (l.drop (si + 1)) = skipNL (l.drop k2)) ∧ ∃ z, wx = wr.drewN z) (fun s3 _ => n - (intOf s3).toNat)
                  case atStart => exact ⟨si + 1, by omega, by omega, by go_num, hidden rfl, 0, rfl⟩
                  case round =>
                    obtain ⟨k2, hk1, hk2, rfl, HS2, z2, rfl⟩ := hrel
                    by_cases hk2n : k2 = n
                    · subst hk2n
                      have HS3 : Hid (skipNL (l.drop (si + 1)) = l.drop k2) := hidden (HS2.out.trans (skipNL_stop l (fun h => by rw [Hl.out] at h; omega)))
                      go_wp2_with (fail)
                      go_meet
                      exact ⟨k2, d, rfl, by rw [HJ.out]; rfl, HQ.out.close3 Hl.out hlt HJ.out HA.out H61.out HS3.out hk1 hk2 .nilIface (.inl ⟨rfl, rfl⟩) z2⟩
                    · have hk2l : k2 < n := by omega
                      have hk2i : (k2 : Int) < (n : Int) := by omega
                      obtain ⟨b2, hb2⟩ : ∃ a : Nat, gi l k2 = (a : Int) := ⟨(gi l k2).toNat, (Int.toNat_of_nonneg (gi_byte Hb.out k2).1).symm⟩
                      have kb2 := KB.out k2 hk2l
                      rw [hb2] at kb2
                      have HB2 := hidden hb2
                      clear hb2
                      by_cases hnl : b2 = 10 ∨ b2 = 13
                      · have HS3 : Hid (skipNL (l.drop (si + 1)) = skipNL (l.drop (k2 + 1))) := hidden (HS2.out.trans (skipNL_step l (by rw [Hl.out]; exact hk2l) (by rw [HB2.out]; omega)))
                        rcases hnl with rfl | rfl
                        · go_wp2_with (fail)
                          go_roundw
                          case rel => exact ⟨k2 + 1, by omega, by omega, by go_num, HS3, _, rfl⟩
                          case measure => simp [intOf]; omega
                        · go_wp2_with (fail)
                          go_roundw
                          case rel => exact ⟨k2 + 1, by omega, by omega, by go_num, HS3, _, rfl⟩
                          case measure => simp [intOf]; omega
                      · have HS3 : Hid (skipNL (l.drop (si + 1)) = l.drop k2) := hidden (HS2.out.trans (skipNL_stop l (fun _ => by rw [HB2.out]; omega)))
                        have hq10 : ((b2 : Int) == 10) = false := beq_eq_false_iff_ne.2 (by omega)
                        have hq13 : ((b2 : Int) == 13) = false := beq_eq_false_iff_ne.2 (by omega)
                        have hr10 : ¬ b2 = 10 := by omega
                        have hr13 : ¬ b2 = 13 := by omega
                        clear hnl
                        go_wp2_with (fail)
                        go_meet
                        exact ⟨k2, d, rfl, by rw [HJ.out]; rfl, HQ.out.close3 Hl.out hlt HJ.out HA.out H61.out HS3.out hk1 hk2 _ (.inr ⟨hk2l, _, rfl⟩) z2⟩
              · have HB : Hid (leftA dm pad (l.drop si) d = none) := hidden (hQ.foreign Hl.out hlt (by rw [HJ.out]; omega) a HA.out HQe.out hnl hpd)
                have hpb : ((a : Int) == pad) = false := beq_eq_false_iff_ne.2 hpd
                have HQ := hidden hQ
                clear hQ
                go_wp2_with (fail)
                (try simp only [Exit.inBlock, Exit.then])
                go_ret3
                exact HQ.out.bad HB.out HR.out _ _ _ 0
          · have hqb : (q == 255) = false := by simpa using hq255
            have hq0 : 0 ≤ q ∧ q < 64 := by omega
            clear cpad
            have HQ := hidden hQ
            clear hQ hqt
            go_wp2_with (fail)
            go_roundw
            case rel => exact ⟨si + 1, d ++ [q], by go_num, rfl, rfl, by rw [List.length_append, HJ.out]; go_num, HQ.out.next Hl.out hlt (by rw [HJ.out]; omega) a HA.out q HQe.out hq0.1 hq0.2 HJ.out 0 Hg2.out⟩
            case measure => simp [intOf]; omega
  case rest =>
    obtain ⟨si, d, rfl, rfl, hQ⟩ := hcut
    clear hQ1
    have hEw := HE.out.below hQ.below HE.out.lt
    have clax := hEw.lax
    have hRw := HR.out.below hQ.below HR.out.lt
    have gd2 : gd < g2 := by rw [Hg2.out]; exact HR.out.lt
    have gg2 : g < g2 := by rw [Hg2.out]; exact HE.out.lt
    obtain ⟨X0, hX0⟩ : ∃ X : Nat, gi d 0 = (X : Int) := ⟨(gi d 0).toNat, (Int.toNat_of_nonneg (hQ.dig.gi 0).1).symm⟩
    obtain ⟨X1, hX1⟩ : ∃ X : Nat, gi d 1 = (X : Int) := ⟨(gi d 1).toNat, (Int.toNat_of_nonneg (hQ.dig.gi 1).1).symm⟩
    obtain ⟨X2, hX2⟩ : ∃ X : Nat, gi d 2 = (X : Int) := ⟨(gi d 2).toNat, (Int.toNat_of_nonneg (hQ.dig.gi 2).1).symm⟩
    obtain ⟨X3, hX3⟩ : ∃ X : Nat, gi d 3 = (X : Int) := ⟨(gi d 3).toNat, (Int.toNat_of_nonneg (hQ.dig.gi 3).1).symm⟩
    have b0' := (hQ.dig.gi 0).2
    have b1' := (hQ.dig.gi 1).2
    have b2' := (hQ.dig.gi 2).2
    have b3' := (hQ.dig.gi 3).2
    have c0 := hQ.row.icell 0 (by rw [pad4_len _ hQ.d4]; omega)
    have c1 := hQ.row.icell 1 (by rw [pad4_len _ hQ.d4]; omega)
    have c2 := hQ.row.icell 2 (by rw [pad4_len _ hQ.d4]; omega)
    have c3 := hQ.row.icell 3 (by rw [pad4_len _ hQ.d4]; omega)
    have f0 := hQ.row.free 0
    have f1 := hQ.row.free 1
    have f2 := hQ.row.free 2
    rw [gi_pad4, hX0] at c0
    rw [gi_pad4, hX1] at c1
    rw [gi_pad4, hX2] at c2
    rw [gi_pad4, hX3] at c3
    rw [hX0] at b0'
    rw [hX1] at b1'
    rw [hX2] at b2'
    rw [hX3] at b3'
    obtain ⟨U1, hU1⟩ : ∃ U, U = X0 * 262144 + X1 * 4096 := ⟨_, rfl⟩
    obtain ⟨U2, hU2⟩ : ∃ U, U = U1 + X2 * 64 := ⟨_, rfl⟩
    obtain ⟨V, hV⟩ : ∃ U, U = U2 + X3 := ⟨_, rfl⟩
    have hv4 : val4 d = (V : Int) := by unfold val4; rw [hX0, hX1, hX2, hX3]; omega
    have v1 : bits .or .u64 ((X0 : Int) * 262144) ((X1 : Int) * 4096) = (U1 : Int) := by rw [hU1]; exact or64 (X0 * 262144) (X1 * 4096) 18 (by omega) (by omega) (by omega)
    have v2 : bits .or .u64 (U1 : Int) ((X2 : Int) * 64) = (U2 : Int) := by rw [hU2]; exact or64 U1 (X2 * 64) 12 (by omega) (by omega) (by omega)
    have v3 : bits .or .u64 (U2 : Int) (X3 : Int) = (V : Int) := by rw [hV]; exact or64 U2 X3 6 (by omega) (by omega) (by omega)
    have hVb : V < 16777216 := by omega
    obtain ⟨Y2, hY2⟩ : ∃ Y, Y = V % 256 := ⟨_, rfl⟩
    obtain ⟨Y1, hY1⟩ : ∃ Y, Y = V / 256 % 256 := ⟨_, rfl⟩
    obtain ⟨Y0, hY0⟩ : ∃ Y, Y = V / 65536 := ⟨_, rfl⟩
    have y2 : (V : Int) % 256 = (Y2 : Int) := by omega
    have y1 : (V : Int) / 256 % 256 = (Y1 : Int) := by omega
    have y0 : (V : Int) / 65536 = (Y0 : Int) := by omega
    have y0' : (V : Int) / 65536 % 256 = (Y0 : Int) := by omega
    have Hout : Hid (outB d = [(Y0 : Int), (Y1 : Int), (Y2 : Int)].take (d.length - 1)) := hidden (by rw [outB, hv4, y0', y1, y2])
    clear hX0 hX1 hX2 hX3 hU1 hU2 hV hv4 hY2 hY1 hY0 hEw y0'
    have HRw := hidden hRw
    have HQ := hidden hQ
    have hd2 := hQ.d2
    have hd4 := hQ.d4
    obtain ⟨j, hj⟩ : ∃ j, d.length = j := ⟨_, rfl⟩
    have HJ := hidden hj
    rw [hj] at hd2 hd4
    rw [hj]
    clear hQ hRw hj
    have gne : ¬ gd = g2 := by omega
    have gne2 : ¬ g2 = gd := by omega
    have gne3 : ¬ g = g2 := by omega
    have gne4 : ¬ g2 = g := by omega
    rcases (show j = 2 ∨ j = 3 ∨ j = 4 by omega) with rfl | rfl | rfl
    · have hm : 1 ≤ m := by
        rcases Hp.out with h | h
        · exact M2.out h (by have := HQ.out.le; have := HQ.out.ub; rw [HJ.out] at *; omega)
        · have := M4.out (by have := HQ.out.short (by rw [HJ.out]; omega) (by omega); have := HQ.out.ub; omega); omega
      have hmL : o + m ≤ L.length := by rcases HO.out with h | h; omega; exact h
      have d0 := HRw.out.icell o (by omega)
      have e0 := HRw.out.free o
      have m0i : (0 : Int) < (m : Int) := by omega
      go_wp2_with (fail)
      (try simp only [Exit.inBlock, Exit.then])
      go_ret3
      have ho1 : outB d = [(Y0 : Int)] := by rw [Hout.out, HJ.out]; rfl
      refine HQ.out.post ?_ ?_ (by rw [ho1]; simp; omega) (by rw [ho1]; simp; omega) _ (by rw [HJ.out]; rfl)
      · exact (grown_setD (grown_setNew (grown_setNew (grown_setNew (grown_below (B := 0) HQ.out.below (some gd)) Hg2.out 2 (.int .u8 (Y2 : Int))) Hg2.out 1 (.int .u8 (Y1 : Int))) Hg2.out 0 (.int .u8 (Y0 : Int))) o (.int .u8 (Y0 : Int)))
      · rw [ho1, ← splice_one L o _ (by omega)]
        exact (Row.iset (Row.far (Row.far (Row.far HRw.out (a := ⟨g2, 2, none⟩) gne2 (.int .u8 (Y2 : Int))) (a := ⟨g2, 1, none⟩) gne2 (.int .u8 (Y1 : Int))) (a := ⟨g2, 0, none⟩) gne2 (.int .u8 (Y0 : Int))) o (Y0 : Int))
    · have hm : 2 ≤ m := by
        rcases Hp.out with h | h
        · exact M3.out h (by have := HQ.out.le; have := HQ.out.ub; rw [HJ.out] at *; omega)
        · have := M4.out (by have := HQ.out.short (by rw [HJ.out]; omega) (by omega); have := HQ.out.ub; omega); omega
      have hmL : o + m ≤ L.length := by rcases HO.out with h | h; omega; exact h
      have d0 := HRw.out.icell o (by omega)
      have e0 := HRw.out.free o
      have m0i : (0 : Int) < (m : Int) := by omega
      have d1 := HRw.out.icell (o + 1) (by omega)
      have e1 := HRw.out.free (o + 1)
      have m1i : (1 : Int) < (m : Int) := by omega
      go_wp2_with (fail)
      (try simp only [Exit.inBlock, Exit.then])
      go_ret3
      have ho1 : outB d = [(Y0 : Int), (Y1 : Int)] := by rw [Hout.out, HJ.out]; rfl
      refine HQ.out.post ?_ ?_ (by rw [ho1]; simp; omega) (by rw [ho1]; simp; omega) _ (by rw [HJ.out]; rfl)
      · exact (grown_setD (grown_setNew (grown_setD (grown_setNew (grown_setNew (grown_setNew (grown_below (B := 0) HQ.out.below (some gd)) Hg2.out 2 (.int .u8 (Y2 : Int))) Hg2.out 1 (.int .u8 (Y1 : Int))) Hg2.out 0 (.int .u8 (Y0 : Int))) (o + 1) (.int .u8 (Y1 : Int))) Hg2.out 1 (.int .u8 0)) o (.int .u8 (Y0 : Int)))
      · rw [ho1, ← splice_two L o _ _ (by omega)]
        exact (Row.iset (Row.far (Row.iset (Row.far (Row.far (Row.far HRw.out (a := ⟨g2, 2, none⟩) gne2 (.int .u8 (Y2 : Int))) (a := ⟨g2, 1, none⟩) gne2 (.int .u8 (Y1 : Int))) (a := ⟨g2, 0, none⟩) gne2 (.int .u8 (Y0 : Int))) (o + 1) (Y1 : Int)) (a := ⟨g2, 1, none⟩) gne2 (.int .u8 0)) o (Y0 : Int))
    · have hm : 3 ≤ m := M4.out (by have := HQ.out.le; have := HQ.out.ub; rw [HJ.out] at *; omega)
      have hmL : o + m ≤ L.length := by rcases HO.out with h | h; omega; exact h
      have d0 := HRw.out.icell o (by omega)
      have e0 := HRw.out.free o
      have m0i : (0 : Int) < (m : Int) := by omega
      have d1 := HRw.out.icell (o + 1) (by omega)
      have e1 := HRw.out.free (o + 1)
      have m1i : (1 : Int) < (m : Int) := by omega
      have d2 := HRw.out.icell (o + 2) (by omega)
      have e2 := HRw.out.free (o + 2)
      have m2i : (2 : Int) < (m : Int) := by omega
      go_wp2_with (fail)
      (try simp only [Exit.inBlock, Exit.then])
      go_ret3
      have ho1 : outB d = [(Y0 : Int), (Y1 : Int), (Y2 : Int)] := by rw [Hout.out, HJ.out]; rfl
      refine HQ.out.post ?_ ?_ (by rw [ho1]; simp; omega) (by rw [ho1]; simp; omega) _ (by rw [HJ.out]; rfl)
      · exact (grown_setD (grown_setNew (grown_setD (grown_setNew (grown_setD (grown_setNew (grown_setNew (grown_setNew (grown_below (B := 0) HQ.out.below (some gd)) Hg2.out 2 (.int .u8 (Y2 : Int))) Hg2.out 1 (.int .u8 (Y1 : Int))) Hg2.out 0 (.int .u8 (Y0 : Int))) (o + 2) (.int .u8 (Y2 : Int))) Hg2.out 2 (.int .u8 0)) (o + 1) (.int .u8 (Y1 : Int))) Hg2.out 1 (.int .u8 0)) o (.int .u8 (Y0 : Int)))
      · rw [ho1, ← splice_three L o _ _ _ (by omega)]
        exact (Row.iset (Row.far (Row.iset (Row.far (Row.iset (Row.far (Row.far (Row.far HRw.out (a := ⟨g2, 2, none⟩) gne2 (.int .u8 (Y2 : Int))) (a := ⟨g2, 1, none⟩) gne2 (.int .u8 (Y1 : Int))) (a := ⟨g2, 0, none⟩) gne2 (.int .u8 (Y0 : Int))) (o + 2) (Y2 : Int)) (a := ⟨g2, 2, none⟩) gne2 (.int .u8 0)) (o + 1) (Y1 : Int)) (a := ⟨g2, 1, none⟩) gne2 (.int .u8 0)) o (Y0 : Int))
end Go.Proofs.YtbdmdajbdmdknaaGreatDoor
