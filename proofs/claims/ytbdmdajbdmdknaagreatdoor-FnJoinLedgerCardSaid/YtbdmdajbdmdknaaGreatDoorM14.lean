/- The walk of FnPartAgain. The reference's base64: spec.PartEncoded, spec.PartOf. Numbers: how they are written, and what they are read as. Texts that are read, and the walk of FnPartNumber. -/
import Derived.Test.YtbdmdajbdmdknaaGreatDoorM13
import Derived.Lib.ConvBytes
namespace Go.Proofs.YtbdmdajbdmdknaaGreatDoor
open Go.RowKit
set_option linter.unusedVariables false
set_option linter.unusedSimpArgs false

/-- What is written is taken for what it is. -/
theorem guess_enc {l : List Int} (hb : IsB l) : stdIn (encF (alpha true) l) = false ∧ padded? (encF (alpha true) l) = false := by
  constructor
  · rw [Bool.eq_false_iff]
    intro h
    obtain ⟨x, hx, hx2⟩ := List.any_eq_true.1 h
    have := encF_url hb hx
    unfold isUrl at this
    simp at hx2
    omega
  · unfold padded?
    by_cases h0 : 0 < (encF (alpha true) l).length
    · have := encF_url hb (gi_mem (l := encF (alpha true) l) (i := (encF (alpha true) l).length - 1) (by omega))
      rw [decide_eq_true h0, Bool.true_and, beq_eq_false_iff_ne]
      unfold isUrl at this
      omega
    · rw [decide_eq_false h0]; rfl
theorem decOf_enc {l : List Int} (hb : IsB l) : decOf (encF (alpha true) l) = some l := by
  unfold decOf padOf
  rw [(guess_enc hb).1, (guess_enc hb).2]
  exact decA_encF true l hb
theorem decOf_len {l out : List Int} (h : decOf l = some out) : out.length ≤ l.length := by
  have := (decA_some _ _ l [] out (by simp) h).2.1
  simpa using this
/-- What is read of letters that were written. -/
structure ImpBack (w : World) (l : List Int) (e : Ending) (w' : World) : Prop where
  below : Below w.heap.size w w'
  res : ∃ v, e = .returned (.tuple #[v, .bool true]) ∧ Own w' w.heap.size 5 v (nums .u8 l)
theorem ImpPost.back {w w' : World} {l : List Int} {e : Ending} (hb : IsB l) (h : ImpPost w (encF (alpha true) l) e w') : ImpBack w l e w' := by
  refine ⟨h.below, ?_⟩
  rcases h.res with ⟨v, out, h1, h2, h3, h4⟩ | ⟨h1, h2⟩
  · rw [decOf_enc hb] at h2; cases h2
    exact ⟨v, h1, h3⟩
  · rw [decOf_enc hb] at h2; cases h2
end Go.Proofs.YtbdmdajbdmdknaaGreatDoor
namespace Go.Proofs.YtbdmdajbdmdknaaGreatDoor
open Go.RowKit
set_option linter.unusedVariables false
set_option linter.unusedSimpArgs false

/-- The letters as a text. -/
structure IsLet (s : ByteArray) : Prop where
  sz : s.size = 64
  eq : s.data.toList.map (fun b => (b.toNat : Int)) = alpha true
structure LetP (w : World) (e : Ending) (w' : World) : Prop where
  res : ∃ s, e = .returned (.string s) ∧ IsLet s
  wd : w = w'
theorem and32_63 (x : Nat) (h : x < 4294967296) : bits .and .u32 (x : Int) 63 = ((x % 64 : Nat) : Int) := by
  show IntKind.u32.wrap ((BitVec.ofInt 32 (x : Int) &&& BitVec.ofInt 32 63).toNat : Int) = _
  rw [BitVec.toNat_and, BitVec.ofInt_natCast, BitVec.toNat_ofNat, Nat.mod_eq_of_lt (by omega), show (BitVec.ofInt 32 63).toNat = 2 ^ 6 - 1 from rfl, Nat.and_two_pow_sub_one_eq_mod, wrapU32]
  omega
/-- The number that the first bytes make. -/
def nv (a0 a1 a2 : Nat) : Nat → Nat
  | 0 => 0
  | 1 => a0
  | 2 => a0 * 256 + a1
  | _ => (a0 * 256 + a1) * 256 + a2
def quad (al : List Int) (V : Nat) : List Int := [gi al (V / 262144), gi al (V / 4096 % 64), gi al (V / 64 % 64), gi al (V % 64)]
theorem quad_at (al : List Int) (V : Nat) : (quad al V).take 1 = (quad al V).take 0 ++ [gi al (V / 262144)] ∧ (quad al V).take 2 = (quad al V).take 1 ++ [gi al (V / 4096 % 64)] ∧ (quad al V).take 3 = (quad al V).take 2 ++ [gi al (V / 64 % 64)] ∧ (quad al V).take 4 = (quad al V).take 3 ++ [gi al (V % 64)] :=
  ⟨rfl, rfl, rfl, rfl⟩
theorem encF_quad (al : List Int) (l : List Int) (kk : Nat) (h0 : 0 < l.length) (hk : kk = min 3 l.length) (a0 a1 a2 V : Nat) (h1 : gi l 0 = a0) (h2 : gi l 1 = a1) (h3 : gi l 2 = a2) (hV : V = nv a0 a1 a2 3) : encF al l = (quad al V).take (kk + 1) ++ encF al (l.drop kk) := by
  have hV' : V = (a0 * 256 + a1) * 256 + a2 := hV
  match l, h0 with
  | [a], _ =>
    obtain rfl : kk = 1 := by rw [hk]; rfl
    have e1 : a1 = 0 := by have : (0 : Int) = a1 := h2; omega
    have e2 : a2 = 0 := by have : (0 : Int) = a2 := h3; omega
    have e0 : a = (a0 : Int) := h1
    simp only [encF, quad, List.take_succ_cons, List.take_zero, List.drop_succ_cons, List.drop_zero, List.append_nil]
    rw [show (val3 a 0 0 / 262144).toNat = V / 262144 by unfold val3; omega, show (val3 a 0 0 / 4096 % 64).toNat = V / 4096 % 64 by unfold val3; omega]
  | [a, b], _ =>
    obtain rfl : kk = 2 := by rw [hk]; rfl
    have e2 : a2 = 0 := by have : (0 : Int) = a2 := h3; omega
    have e0 : a = (a0 : Int) := h1
    have e1 : b = (a1 : Int) := h2
    simp only [encF, quad, List.take_succ_cons, List.take_zero, List.drop_succ_cons, List.drop_zero, List.append_nil]
    rw [show (val3 a b 0 / 262144).toNat = V / 262144 by unfold val3; omega, show (val3 a b 0 / 4096 % 64).toNat = V / 4096 % 64 by unfold val3; omega, show (val3 a b 0 / 64 % 64).toNat = V / 64 % 64 by unfold val3; omega]
  | a :: b :: c :: r, _ =>
    obtain rfl : kk = 3 := by rw [hk]; simp only [List.length_cons]; omega
    have e0 : a = (a0 : Int) := h1
    have e1 : b = (a1 : Int) := h2
    have e2 : c = (a2 : Int) := h3
    simp only [encF, quad, List.take_succ_cons, List.take_zero, List.drop_succ_cons, List.drop_zero, List.cons_append, List.nil_append]
    rw [show (val3 a b c / 262144).toNat = V / 262144 by unfold val3; omega, show (val3 a b c / 4096 % 64).toNat = V / 4096 % 64 by unfold val3; omega, show (val3 a b c / 64 % 64).toNat = V / 64 % 64 by unfold val3; omega, show (val3 a b c % 64).toNat = V % 64 by unfold val3; omega]
/-- Between two groups. -/
structure PSt (w : World) (al l : List Int) (d s : Value) (wr : World) (n' : Nat) : Prop where
  st : ∃ (A' : Option Addr) (c' : Nat) (l' pre : List Int), s = .slice A' n' c' ∧ Own wr w.heap.size 5 d (nums .u8 pre) ∧ encF al l = pre ++ encF al l' ∧ Rd wr A' (nums .u8 l') ∧ l'.length = n' ∧ n' ≤ c' ∧ IsB l'
  bel : Below w.heap.size w wr
  blk : 0 < n' → ∀ A' k c', s = .slice A' k c' → ∀ b f, A' = some ⟨b, f, none⟩ → b < w.heap.size
  pl : ∀ (pre l' : List Int), encF al l = pre ++ encF al l' → pre.length ≤ 200000
theorem rd_own {W w1 : World} {b0 oa base e : Nat} {v : Value} {l vs : List Value} {o : Obj} (hR : Rd W (some ⟨b0, oa, none⟩) l) (hg : (W.alloc o).grownBy w1 v.ownBlock) (hO : Own W base e v vs) (hb : b0 < base) : Rd w1 (some ⟨b0, oa, none⟩) l := by
  intro i x hx
  obtain ⟨b, f, he, hlt, hc⟩ := hR i x hx
  cases he
  refine ⟨b0, oa, rfl, Nat.lt_of_lt_of_le (by simp; omega) hg.size, ?_⟩
  have h1 : (W.alloc o).cell? ⟨b0, oa + i, none⟩ = some x := cell_next (below_alloc0 W o) hc
  have hne : some b0 ≠ v.ownBlock := fun e => by have := (hO.lt b0 e.symm).1; omega
  have := hg.block b0 (by simp; omega) hne
  unfold World.cell? at h1 ⊢
  rw [this]; exact h1
theorem len_pre {al l pre l' : List Int} {n : Nat} (hl : l.length = n) (hn : n ≤ 100000) (h : encF al l = pre ++ encF al l') : pre.length ≤ 200000 := by
  have := congrArg List.length h
  rw [List.length_append, encLen_eq, hl] at this
  unfold encLen at this
  omega
theorem pst_next {w wr : World} {al l l' pre : List Int} {V K n' c0 b0 oa : Nat} {d : Value} (hK : K ≤ n') (hn : l'.length = n') (hc : n' ≤ c0) (hb : IsB l') (hq : encF al l' = (quad al V).take (K + 1) ++ encF al (l'.drop K)) (heq : encF al l = pre ++ encF al l')
    (hO : Own wr w.heap.size 5 d (nums .u8 (pre ++ (quad al V).take (K + 1)))) (hB : Below w.heap.size w wr) (hR : Rd wr (some ⟨b0, oa, none⟩) (nums .u8 l')) (hb0 : b0 < w.heap.size) (hpl : ∀ (pre l' : List Int), encF al l = pre ++ encF al l' → pre.length ≤ 200000) :
    PSt w al l d (.slice (if c0 = K then some ⟨b0, oa, none⟩ else some ⟨b0, oa + K, none⟩) (n' - K) (c0 - K)) wr (n' - K) := by
  refine ⟨⟨_, _, l'.drop K, pre ++ (quad al V).take (K + 1), rfl, hO, by rw [heq, hq, List.append_assoc], hR.drop3 (by omega), by rw [List.length_drop]; omega, by omega, fun x hx => hb x (List.mem_of_mem_drop hx)⟩, hB, ?_, hpl⟩
  intro _ A' k c' e b f e2
  cases e
  split at e2 <;> cases e2 <;> exact hb0
end Go.Proofs.YtbdmdajbdmdknaaGreatDoor
namespace Go.Proofs.YtbdmdajbdmdknaaGreatDoor
open Go.RowKit
set_option linter.unusedVariables false
set_option linter.unusedSimpArgs false

def bytes8 (V : Nat) : List Int := [((V / 72057594037927936 % 256 : Nat) : Int), ((V / 281474976710656 % 256 : Nat) : Int), ((V / 1099511627776 % 256 : Nat) : Int), ((V / 4294967296 % 256 : Nat) : Int), ((V / 16777216 % 256 : Nat) : Int), ((V / 65536 % 256 : Nat) : Int), ((V / 256 % 256 : Nat) : Int), ((V % 256 : Nat) : Int)]
theorem bytes8_len (V : Nat) : (bytes8 V).length = 8 := rfl
theorem bytes8_isB (V : Nat) : IsB (bytes8 V) := by
  intro x hx
  simp only [bytes8, List.mem_cons, List.not_mem_nil, or_false] at hx
  rcases hx with rfl | rfl | rfl | rfl | rfl | rfl | rfl | rfl <;> omega
def numD (V : Nat) : List Int := (bytes8 V).dropWhile (· == 0)
def numOf (l : List Int) : Nat := l.foldl (fun a x => a * 256 + x.toNat) 0
theorem numOf_drop (l : List Int) (a : Nat) (h : a = 0) : (l.dropWhile (· == 0)).foldl (fun a x => a * 256 + x.toNat) a = l.foldl (fun a x => a * 256 + x.toNat) a := by
  subst h
  induction l with
  | nil => rfl
  | cons x l ih =>
    rw [List.dropWhile_cons]
    by_cases hx : (x == 0) = true
    · rw [if_pos hx, ih, List.foldl_cons, eq_of_beq hx]; rfl
    · rw [if_neg hx]
theorem numOf_numD (V : Nat) (hV : V < 18446744073709551616) : numOf (numD V) = V := by
  unfold numOf numD
  rw [numOf_drop _ _ rfl]
  simp only [bytes8, List.foldl_cons, List.foldl_nil, Int.toNat_natCast]
  omega
theorem numD_isB (V : Nat) : IsB (numD V) := fun x hx => bytes8_isB V x (by
  have h : List.dropWhile (· == 0) (bytes8 V) <:+ bytes8 V := List.dropWhile_suffix _
  exact h.subset hx)
theorem numD_len (V : Nat) : (numD V).length ≤ 8 := by
  have h : List.dropWhile (· == 0) (bytes8 V) <:+ bytes8 V := List.dropWhile_suffix _
  exact h.length_le
theorem dw_head (l : List Int) (x : Int) (r : List Int) (h : l.dropWhile (· == 0) = x :: r) : x ≠ 0 := by
  induction l with
  | nil => cases h
  | cons a l ih =>
    rw [List.dropWhile_cons] at h
    by_cases ha : (a == 0) = true
    · rw [if_pos ha] at h; exact ih h
    · rw [if_neg ha] at h
      cases h
      simpa using ha
theorem numD_head (V : Nat) (hV : V < 18446744073709551616) (h0 : 0 < V) : 0 < (numD V).length ∧ gi (numD V) 0 ≠ 0 := by
  have h := numOf_numD V hV
  cases hn : numD V with
  | nil => rw [hn] at h; simp [numOf] at h; omega
  | cons x r => exact ⟨by simp, by simpa [gi] using dw_head _ x r hn⟩
theorem drop_dw (l : List Int) (k : Nat) (hk : k ≤ l.length) (h : ∀ j, j < k → gi l j = 0) (hs : k = l.length ∨ gi l k ≠ 0) : l.drop k = l.dropWhile (· == 0) := by
  induction l generalizing k with
  | nil => simp
  | cons a l ih =>
    cases k with
    | zero =>
      rcases hs with h | h
      · simp at h
      · rw [List.drop_zero, List.dropWhile_cons, if_neg (by simpa [gi] using h)]
    | succ k =>
      have ha : a = 0 := by have := h 0 (by omega); simpa [gi] using this
      rw [List.drop_succ_cons, List.dropWhile_cons, if_pos (by simp [ha])]
      refine ih k (by simpa using hk) (fun j hj => ?_) ?_
      · have := h (j + 1) (by omega)
        simpa [gi] using this
      · rcases hs with h | h
        · left; simpa using h
        · right; simpa [gi] using h

set_option maxRecDepth 100000 in
theorem textB_calls (A : Option Addr) (n c : Nat) (l : List Int) (w : World) (h : Rd w A (nums .u8 l)) (hn : l.length = n) (hb : IsB l) (hc : n ≤ c) (hN : n ≤ 100000) :
    Calls Tryz.prog 61 #[.slice A n c] w fun e w' => e = .returned (.string (strOfNums (encF (alpha true) l))) ∧ Below w.heap.size w w' := by
  have H := hidden h
  have Hn := hidden hn
  clear h hn
  go_enter Tryz.func61, Tryz.ntmps61
  go_wp2_with (first
    | (go_at_call 74; go_must (refine (getEnc_calls _).mono ?_; rintro e w1 ⟨g, rfl, hE1, hg1, hB1⟩))
    | (go_at_call 176; go_must (refine (toText_calls g A n c _ _ l _ hE1 (H.out.below hB1 (Nat.le_refl _)) Hn.out hb hc hN).mono ?_; rintro e w2 ⟨rfl, hB2⟩)))
  go_ret
  exact ⟨rfl, below_next hB1 hB2⟩
end Go.Proofs.YtbdmdajbdmdknaaGreatDoor
namespace Go.Proofs.YtbdmdajbdmdknaaGreatDoor
open Go.RowKit
set_option linter.unusedVariables false
set_option linter.unusedSimpArgs false

theorem strOf_size (t : List Int) : (strOfNums t).size = t.length := by
  show (strOfNums t).data.toList.length = _
  rw [strOfNums_data, List.length_map]
theorem strOf_get {t : List Int} (hb : IsB t) (j : Nat) (hj : j < t.length) : (((strOfNums t).data.toList.getD j 0).toNat : Int) = gi t j := by
  rw [strOfNums_data]
  have h := hb _ (List.getElem_mem hj)
  simp only [List.getD_eq_getElem?_getD, List.getElem?_map, List.getElem?_eq_getElem hj, Option.map_some, Option.getD_some, gi, UInt8.toNat_ofNat']
  omega
theorem rd_bytes (w : World) (e : Nat) {t : List Int} (hb : IsB t) : Rd (Go.Lib.bytesWorld w e (strOfNums t)) (some ⟨w.heap.size, 0, none⟩) (nums .u8 t) := by
  intro i v hv
  have hi : i < t.length := by rw [← nums_len .u8]; exact (List.getElem?_eq_some_iff.1 hv).1
  rw [nums_at _ _ _ hi] at hv
  cases hv
  refine ⟨_, _, rfl, by rw [Go.Lib.bytesWorld_size]; omega, ?_⟩
  rw [Nat.zero_add, Go.Lib.bytesWorld_cell _ _ _ _ (by rw [strOf_size]; exact hi), strOf_get hb i hi]
theorem below_bytes (w : World) (e : Nat) (s : ByteArray) : Below w.heap.size w (Go.Lib.bytesWorld w e s) :=
  ⟨rfl, rfl, rfl, by rw [Go.Lib.bytesWorld_size]; omega, fun k hk => Go.Lib.bytesWorld_at_old w e s k hk⟩
theorem numOf_snoc (l : List Int) (x : Int) : numOf (l ++ [x]) = numOf l * 256 + x.toNat := by simp [numOf, List.foldl_append]
theorem numOf_lt {l : List Int} (hb : IsB l) : ∀ k, k ≤ l.length → numOf (l.take k) < 256 ^ k
  | 0, _ => by simp [numOf]
  | k + 1, h => by
    rw [take_gi l (by omega), numOf_snoc, Nat.pow_succ]
    have := numOf_lt hb k (by omega)
    have := (gi_byte hb k).2
    have := (gi_byte hb k).1
    omega
end Go.Proofs.YtbdmdajbdmdknaaGreatDoor
