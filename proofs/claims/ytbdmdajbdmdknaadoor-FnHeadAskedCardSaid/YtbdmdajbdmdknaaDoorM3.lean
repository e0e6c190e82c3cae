/- What unescapeStringBestEffort makes of a text, on lists of bytes. Nothing here speaks of the program. What a style writes of a text is read as this text again. Nothing here speaks of the program. The parser's store of values: getValue. The names of an object: getKV; the resets. -/
import Derived.Test.YtbdmdajbdmdknaaDoorM1
import Derived.Laws.Runes
import Derived.Test.YtbdmdajbdmdknaaDoorHdE
import Derived.Lib.MapLaws
import Derived.Lib.ValidLaws
import Derived.Lib.QuoteLoop
import Derived.Test.YtbdmdajbdmdknaaDoorJsonA
import Derived.StillTailTactics
import Derived.Deep.DeepCutAuto
namespace Go.Proofs.YtbdmdajbdmdknaaDoor
set_option linter.unusedVariables false
set_option linter.unusedSimpArgs false

/-- The digit of a hexadecimal letter. -/
def hexD (c : UInt8) : Option Nat :=
  if 48 ≤ c ∧ c ≤ 57 then some (c.toNat - 48)
  else if 97 ≤ c ∧ c ≤ 102 then some (c.toNat - 87)
  else if 65 ≤ c ∧ c ≤ 70 then some (c.toNat - 55)
  else none
def hexL : Nat → Bs → Option Nat
  | n, [] => some n
  | n, c :: l => match hexD c with
    | none => none
    | some d => hexL (n * 16 + d) l
def hex4 (l : Bs) : Option Nat := hexL 0 l
def utf (r : Int) : Bs := (Utf8.encode r).data.toList
def sur (x : Nat) : Bool := decide (55296 ≤ x ∧ x < 57344)
def decR (x y : Nat) : Int := if 55296 ≤ x ∧ x < 56320 ∧ 56320 ≤ y ∧ y < 57344 then ((x : Int) - 55296) * 1024 + ((y : Int) - 56320) + 65536 else 65533
/-- What stands for the escape of a letter, and what is left of the text behind it. -/
def escU (s : Bs) : Bs × Bs :=
  if s.length < 4 then ([92, 117], s)
  else match hex4 (s.take 4) with
    | none => ([92, 117], s)
    | some x =>
      if sur x = false then (utf x, s.drop 4)
      else if (s.drop 4).length < 6 ∨ (s.drop 4).getD 0 0 ≠ 92 ∨ (s.drop 4).getD 1 0 ≠ 117 then ([92, 117] ++ s.take 4, s.drop 4)
      else match hex4 ((s.drop 6).take 4) with
        | none => ([92, 117] ++ s.take 4, s.drop 4)
        | some y => (utf (decR x y), s.drop 10)
def esc1 (c : UInt8) : Bs :=
  if c = 34 ∨ c = 92 ∨ c = 47 then [c] else if c = 98 then [8] else if c = 102 then [12] else if c = 110 then [10] else if c = 114 then [13] else if c = 116 then [9] else [92, c]
def escB (c : UInt8) (s : Bs) : Bs × Bs := if c = 117 then escU s else (esc1 c, s)
/-- The text ahead of its first backslash, and what stands behind that. -/
def unA (s : Bs) : Bs := s.takeWhile (· != 92)
def unZ (s : Bs) : Bs := (s.dropWhile (· != 92)).drop 1
/-- What is made of the text behind a backslash. -/
def unT : Nat → Bs → Bs
  | 0, _ => []
  | _ + 1, [] => []
  | n + 1, c :: s => (escB c s).1 ++ (unA (escB c s).2 ++ unT n (unZ (escB c s).2))
def unB (s : Bs) : Bs := unA s ++ unT s.length (unZ s)

theorem escU_len (s : Bs) : (escU s).2.length ≤ s.length := by
  unfold escU
  split
  · simp
  · split
    · simp
    · split
      · simp
      · split
        · simp
        · split <;> simp
theorem escB_len (c : UInt8) (s : Bs) : (escB c s).2.length ≤ s.length := by
  unfold escB
  split
  · exact escU_len s
  · simp
theorem unZ_len (s : Bs) : (unZ s).length ≤ s.length := by
  have := List.Sublist.length_le (List.dropWhile_sublist (· != (92 : UInt8)) (l := s))
  unfold unZ
  rw [List.length_drop]; omega
theorem unT_fuel : ∀ (n m : Nat) (s : Bs), s.length ≤ n → s.length ≤ m → unT n s = unT m s
  | 0, m, s, h, _ => by
    obtain rfl : s = [] := List.eq_nil_of_length_eq_zero (by omega)
    cases m <;> rfl
  | n + 1, 0, s, _, h => by
    obtain rfl : s = [] := List.eq_nil_of_length_eq_zero (by omega)
    rfl
  | n + 1, m + 1, [], _, _ => rfl
  | n + 1, m + 1, c :: s, h1, h2 => by
    have h3 := unZ_len (escB c s).2
    have h4 := escB_len c s
    simp only [List.length_cons] at h1 h2
    unfold unT
    rw [unT_fuel n m (unZ (escB c s).2) (by omega) (by omega)]
theorem unA_nil : unA [] = [] := rfl
theorem unZ_nil : unZ [] = [] := rfl
theorem unA_cons {c : UInt8} (h : c ≠ 92) (s : Bs) : unA (c :: s) = c :: unA s := by simp [unA, h]
theorem unZ_cons {c : UInt8} (h : c ≠ 92) (s : Bs) : unZ (c :: s) = unZ s := by simp [unZ, h]
theorem unA_esc (s : Bs) : unA (92 :: s) = [] := by simp [unA]
theorem unZ_esc (s : Bs) : unZ (92 :: s) = s := by simp [unZ]
theorem unB_nil : unB [] = [] := rfl
theorem unB_eq (s : Bs) (n : Nat) (h : s.length ≤ n) : unB s = unA s ++ unT n (unZ s) := by
  unfold unB
  rw [unT_fuel s.length n _ (unZ_len s) (Nat.le_trans (unZ_len s) h)]
theorem unB_cons {c : UInt8} (h : c ≠ 92) (s : Bs) : unB (c :: s) = c :: unB s := by
  rw [unB_eq (c :: s) (s.length + 1) (by simp), unB_eq s (s.length + 1) (by omega), unA_cons h, unZ_cons h]; rfl
theorem unB_esc (c : UInt8) (s : Bs) : unB (92 :: c :: s) = (escB c s).1 ++ unB (escB c s).2 := by
  have h4 := escB_len c s
  rw [unB_eq (92 :: c :: s) (s.length + 1 + 1) (by simp), unA_esc, unZ_esc, unB_eq (escB c s).2 (s.length + 1) (by omega)]
  rfl
theorem unB_raw : ∀ (a s : Bs), (92 : UInt8) ∉ a → unB (a ++ s) = a ++ unB s
  | [], s, _ => rfl
  | c :: a, s, h => by
    have h1 : c ≠ 92 := fun e => h (by rw [e]; exact List.mem_cons_self)
    rw [List.cons_append, unB_cons h1, unB_raw a s (fun e => h (List.mem_cons_of_mem _ e))]; rfl
theorem unB_plain (s : Bs) (h : (92 : UInt8) ∉ s) : unB s = s := by
  have := unB_raw s [] h
  simpa [unB_nil] using this
theorem unB_one (s : Bs) (c : UInt8) (h : c ≠ 117) : unB (92 :: c :: s) = esc1 c ++ unB s := by
  rw [unB_esc]; simp [escB, h]
end Go.Proofs.YtbdmdajbdmdknaaDoor
namespace Go.Proofs.YtbdmdajbdmdknaaDoor
set_option linter.unusedVariables false
set_option linter.unusedSimpArgs false
set_option maxRecDepth 100000

/-- A piece within a text in quotation marks. -/
def RawIn (x : Bs) : Prop := ∀ r, rawS false (x ++ r) = (rawS false r).map fun p => (x ++ p.1, p.2)
theorem RawIn.nil : RawIn [] := fun r => by
  cases h : rawS false r <;> simp [h]
theorem RawIn.app {a b : Bs} (ha : RawIn a) (hb : RawIn b) : RawIn (a ++ b) := fun r => by
  rw [List.append_assoc, ha, hb, Option.map_map]
  congr 1
  funext p
  simp
theorem RawIn.byte {c : UInt8} (h1 : c ≠ 34) (h2 : c ≠ 92) : RawIn [c] := fun r => by
  have h3 : (c == 92) = false := by rw [beq_eq_false_iff_ne]; exact h2
  simp only [List.cons_append, List.nil_append]
  rw [rawS, if_neg h1, h3]
theorem RawIn.esc (c : UInt8) : RawIn [92, c] := fun r => by
  simp only [List.cons_append, List.nil_append]
  rw [rawS, if_neg (by decide), show ((92 : UInt8) == 92) = true from rfl, rawS, Option.map_map]
  rfl
theorem RawIn.bytes : ∀ l : Bs, (∀ c ∈ l, c ≠ 34 ∧ c ≠ 92) → RawIn l
  | [], _ => RawIn.nil
  | c :: l, h => RawIn.app (a := [c]) (RawIn.byte (h c (by simp)).1 (h c (by simp)).2) (RawIn.bytes l (fun x hx => h x (by simp [hx])))
/-- A character's number. -/
def Sc (c : Nat) : Prop := c < 55296 ∨ (57343 < c ∧ c ≤ 1114111)
theorem Sc.valid {c : Nat} (h : Sc c) : Utf8.valid (c : Int) = true := by
  rw [validRune_eq, validRune]
  unfold Sc at h
  simp only [decide_eq_true_eq]
  omega
theorem encR_small {c : Nat} (h : c < 128) : encR (c : Int) = [UInt8.ofNat c] := by
  have hv : Utf8.valid (c : Int) = true := Sc.valid (.inl (by omega))
  unfold encR Utf8.encode
  simp only [hv, if_true, Int.toNat_natCast, h]
theorem encR_great {c : Nat} (hs : Sc c) (h : ¬ c < 128) : ∀ x ∈ encR (c : Int), 128 ≤ x.toNat := by
  have hv := hs.valid
  unfold Sc at hs
  unfold encR Utf8.encode
  simp only [hv, if_true, Int.toNat_natCast, h, if_false]
  intro x hx
  split at hx
  · simp only [List.mem_cons, List.not_mem_nil, or_false] at hx
    rcases hx with rfl | rfl <;> simp only [UInt8.toNat_ofNat'] <;> omega
  · split at hx
    · simp only [List.mem_cons, List.not_mem_nil, or_false] at hx
      rcases hx with rfl | rfl | rfl <;> simp only [UInt8.toNat_ofNat'] <;> omega
    · simp only [List.mem_cons, List.not_mem_nil, or_false] at hx
      rcases hx with rfl | rfl | rfl | rfl <;> simp only [UInt8.toNat_ofNat'] <;> omega
theorem encR_lib {c : Nat} (hs : Sc c) : Lib.encodeRune (c : Int) = encR (c : Int) := by
  have hv := hs.valid
  unfold Sc at hs
  unfold encR Utf8.encode
  simp only [hv, if_true, Int.toNat_natCast]
  have e : ∀ (z : Int) (n : Nat), z = (n : Int) → z.toNat.toUInt8 = UInt8.ofNat n := by rintro z n rfl; rfl
  split
  · unfold Lib.encodeRune
    rw [Lib.encodeRuneZ_one (by omega) (by omega)]
    simp only [List.map_cons, List.map_nil]
    rw [e _ c rfl]
  · split
    · unfold Lib.encodeRune
      rw [Lib.encodeRuneZ_two (by omega) (by omega)]
      simp only [List.map_cons, List.map_nil]
      rw [e _ (192 + c / 64) (by omega), e _ (128 + c % 64) (by omega)]
    · split
      · unfold Lib.encodeRune
        rw [Lib.encodeRuneZ_three (by omega)]
        simp only [List.map_cons, List.map_nil]
        rw [e _ (224 + c / 4096) (by omega), e _ (128 + c / 64 % 64) (by omega), e _ (128 + c % 64) (by omega)]
      · unfold Lib.encodeRune
        rw [Lib.encodeRuneZ_four (by omega) (by omega)]
        simp only [List.map_cons, List.map_nil]
        rw [e _ (240 + c / 262144) (by omega), e _ (128 + c / 4096 % 64) (by omega), e _ (128 + c / 64 % 64) (by omega), e _ (128 + c % 64) (by omega)]
theorem encR_raw {c : Nat} (hs : Sc c) (hm : ¬ mustR (c : Int)) : ∀ x ∈ encR (c : Int), x ≠ 34 ∧ x ≠ 92 := by
  unfold mustR at hm
  intro x hx
  by_cases h : c < 128
  · rw [encR_small h] at hx
    simp only [List.mem_cons, List.not_mem_nil, or_false] at hx
    subst hx
    constructor <;> intro e <;> have := congrArg UInt8.toNat e <;> simp only [UInt8.toNat_ofNat'] at this <;> simp at this <;> omega
  · have := encR_great hs h x hx
    constructor <;> rintro rfl <;> simp at this
theorem hexU4 (n : Nat) : hexU n 4 = [92, 117, hexG (n / 4096 % 16), hexG (n / 256 % 16), hexG (n / 16 % 16), hexG (n % 16)] := by
  simp [hexU]
theorem hexG_raw : ∀ d, d < 16 → hexG d ≠ 34 ∧ hexG d ≠ 92 := by decide
theorem hexG_back : ∀ d, d < 16 → hexD (hexG d) = some d := by decide
theorem hexU_raw (n : Nat) : RawIn (hexU n 4) := by
  rw [hexU4]
  refine RawIn.app (a := [92, 117]) (RawIn.esc 117) (RawIn.bytes _ ?_)
  intro c hc
  simp only [List.mem_cons, List.not_mem_nil, or_false] at hc
  rcases hc with rfl | rfl | rfl | rfl <;> exact hexG_raw _ (by omega)
theorem hex4_back (n : Nat) (h : n < 65536) : hex4 [hexG (n / 4096 % 16), hexG (n / 256 % 16), hexG (n / 16 % 16), hexG (n % 16)] = some n := by
  unfold hex4
  simp only [hexL, hexG_back _ (Nat.mod_lt _ (by decide : 0 < 16))]
  congr 1
  omega
theorem unB_hex (n : Nat) (h : n < 65536) (hs : sur n = false) (s : Bs) : unB (hexU n 4 ++ s) = utf n ++ unB s := by
  rw [hexU4]
  simp only [List.cons_append, List.nil_append]
  rw [unB_esc, escB, if_pos rfl, escU, if_neg (by simp), show List.take 4 (hexG (n / 4096 % 16) :: hexG (n / 256 % 16) :: hexG (n / 16 % 16) :: hexG (n % 16) :: s) = [hexG (n / 4096 % 16), hexG (n / 256 % 16), hexG (n / 16 % 16), hexG (n % 16)] from rfl, hex4_back n h]
  simp only [hs, if_true]
  rfl
theorem unB_pair (x y : Nat) (hx : x < 65536) (hy : y < 65536) (hs : sur x = true) (s : Bs) : unB (hexU x 4 ++ (hexU y 4 ++ s)) = utf (decR x y) ++ unB s := by
  rw [hexU4 x, hexU4 y]
  simp only [List.cons_append, List.nil_append]
  rw [unB_esc, escB, if_pos rfl, escU, if_neg (by simp)]
  rw [show List.take 4 (hexG (x / 4096 % 16) :: hexG (x / 256 % 16) :: hexG (x / 16 % 16) :: hexG (x % 16) :: 92 :: 117 :: hexG (y / 4096 % 16) :: hexG (y / 256 % 16) :: hexG (y / 16 % 16) :: hexG (y % 16) :: s) = [hexG (x / 4096 % 16), hexG (x / 256 % 16), hexG (x / 16 % 16), hexG (x % 16)] from rfl, hex4_back x hx]
  simp only [hs, Bool.true_eq_false, if_false]
  rw [if_neg (by simp)]
  rw [show List.take 4 (List.drop 6 (hexG (x / 4096 % 16) :: hexG (x / 256 % 16) :: hexG (x / 16 % 16) :: hexG (x % 16) :: 92 :: 117 :: hexG (y / 4096 % 16) :: hexG (y / 256 % 16) :: hexG (y / 16 % 16) :: hexG (y % 16) :: s)) = [hexG (y / 4096 % 16), hexG (y / 256 % 16), hexG (y / 16 % 16), hexG (y % 16)] from rfl, hex4_back y hy]
  rfl
theorem sur_no {c : Nat} (hs : Sc c) (h : c < 65536) : sur c = false := by
  unfold Sc at hs
  unfold sur
  rw [decide_eq_false_iff_not]
  omega
theorem hexR_un {c : Nat} (hs : Sc c) (s : Bs) : unB (hexR c ++ s) = encR (c : Int) ++ unB s := by
  unfold hexR
  split
  · rename_i h
    unfold Sc at hs
    rw [List.append_assoc, unB_pair _ _ (by omega) (by omega) (by unfold sur; rw [decide_eq_true_eq]; omega)]
    have : decR (55296 + (c - 65536) / 1024) (56320 + (c - 65536) % 1024) = (c : Int) := by
      unfold decR
      rw [if_pos (by omega)]
      omega
    rw [this]
    rfl
  · rename_i h
    rw [unB_hex c (by omega) (sur_no hs (by omega))]
    rfl
theorem hexR_raw (c : Nat) : RawIn (hexR c) := by
  unfold hexR
  split
  · exact RawIn.app (hexU_raw _) (hexU_raw _)
  · exact hexU_raw _
theorem short_cases (c : Nat) (h : shortB (c : Int) ≠ []) : ∃ e : UInt8, shortB (c : Int) = [92, e] ∧ e ≠ 117 ∧ esc1 e = encR (c : Int) := by
  have key : ∀ (k : Nat) (e : UInt8), k < 128 → (shortB (k : Int) = [92, e] ∧ e ≠ 117 ∧ esc1 e = [UInt8.ofNat k]) → c = k → ∃ e : UInt8, shortB (c : Int) = [92, e] ∧ e ≠ 117 ∧ esc1 e = encR (c : Int) := by
    rintro k e hk ⟨h1, h2, h3⟩ rfl
    exact ⟨e, h1, h2, by rw [encR_small hk]; exact h3⟩
  by_cases h0 : c = 34
  · exact key 34 34 (by decide) (by decide) h0
  by_cases h1 : c = 92
  · exact key 92 92 (by decide) (by decide) h1
  by_cases h2 : c = 47
  · exact key 47 47 (by decide) (by decide) h2
  by_cases h3 : c = 8
  · exact key 8 98 (by decide) (by decide) h3
  by_cases h4 : c = 9
  · exact key 9 116 (by decide) (by decide) h4
  by_cases h5 : c = 10
  · exact key 10 110 (by decide) (by decide) h5
  by_cases h6 : c = 12
  · exact key 12 102 (by decide) (by decide) h6
  by_cases h7 : c = 13
  · exact key 13 114 (by decide) (by decide) h7
  exfalso
  apply h
  unfold shortB
  rw [if_neg (by omega), if_neg (by omega), if_neg (by omega), if_neg (by omega), if_neg (by omega), if_neg (by omega), if_neg (by omega), if_neg (by omega)]
theorem escS_cases (st : Int) (c : Nat) : (escS st c).1 = hexR c ∨ ((escS st c).1 = shortB c ∧ shortB c ≠ []) := by
  unfold escS
  split
  · exact .inl rfl
  · rename_i h
    split
    · exact .inr ⟨rfl, h⟩
    · split
      · exact .inr ⟨rfl, h⟩
      · exact .inl rfl
theorem runeS_cases (st : Int) (c : Nat) : ((runeS st c).1 = hexR c ∨ ((runeS st c).1 = shortB c ∧ shortB c ≠ [])) ∨ ((runeS st c).1 = encR c ∧ ¬ mustR (c : Int)) := by
  unfold runeS
  generalize lcgN st 5 = n5
  generalize lcg st = st2
  by_cases h : mustR (c : Int)
  · rw [if_pos h]; exact .inl (escS_cases st c)
  · rw [if_neg h]
    generalize encR (c : Int) = E
    by_cases h0 : st = 0
    · rw [if_pos h0]; exact .inr ⟨rfl, h⟩
    · rw [if_neg h0]
      by_cases h5 : n5 = 0
      · rw [if_pos h5]; exact .inl (escS_cases st2 c)
      · rw [if_neg h5]; exact .inr ⟨rfl, h⟩
theorem runeS_raw (st : Int) {c : Nat} (hs : Sc c) : RawIn (runeS st c).1 := by
  rcases runeS_cases st c with (e | ⟨e, h⟩) | ⟨e, h⟩ <;> rw [e]
  · exact hexR_raw c
  · obtain ⟨x, hx, _⟩ := short_cases c h
    rw [hx]; exact RawIn.esc x
  · exact RawIn.bytes _ (encR_raw hs h)
theorem runeS_un (st : Int) {c : Nat} (hs : Sc c) (s : Bs) : unB ((runeS st c).1 ++ s) = encR (c : Int) ++ unB s := by
  rcases runeS_cases st c with (e | ⟨e, h⟩) | ⟨e, h⟩ <;> rw [e]
  · exact hexR_un hs s
  · obtain ⟨x, hx, h2, h3⟩ := short_cases c h
    rw [hx]
    simp only [List.cons_append, List.nil_append]
    rw [unB_one s x h2, h3]
  · exact unB_raw _ _ (fun hm => (encR_raw hs h 92 hm).2 rfl)
theorem textS_raw : ∀ (l : List Nat) (st : Int), (∀ c ∈ l, Sc c) → RawIn (textS st l).1
  | [], _, _ => RawIn.nil
  | c :: l, st, h => RawIn.app (runeS_raw st (h c (by simp))) (textS_raw l _ (fun x hx => h x (by simp [hx])))
theorem textS_un : ∀ (l : List Nat) (st : Int) (s : Bs), (∀ c ∈ l, Sc c) → unB ((textS st l).1 ++ s) = l.flatMap (fun (c : Nat) => encR (c : Int)) ++ unB s
  | [], _, s, _ => rfl
  | c :: l, st, s, h => by
    simp only [textS, List.append_assoc, List.flatMap_cons]
    rw [runeS_un st (h c (by simp)), textS_un l _ s (fun x hx => h x (by simp [hx]))]
theorem textS_len : ∀ (l : List Nat) (st : Int), (textS st l).1.length ≤ 12 * l.length
  | [], _ => by simp [textS]
  | c :: l, st => by
    have h1 := textS_len l (runeS st c).2
    have h2 := runeS_len st c
    simp only [textS, List.length_append, List.length_cons]; omega
theorem runesOf_len (s : ByteArray) : ∀ fuel pos, (runesOf s fuel pos).length ≤ fuel
  | 0, _ => by simp [runesOf]
  | f + 1, pos => by
    unfold runesOf
    split
    · have := runesOf_len s f (pos + (Utf8.decode s pos).2); simp; omega
    · simp
theorem decode_sc (s : ByteArray) (pos : Nat) : Sc (Utf8.decode s pos).1 := by
  rw [Lib.decode_at]
  have := Lib.decodeN_valid (s.size - pos) (s.get! pos).toNat (s.get! (pos + 1)).toNat (s.get! (pos + 2)).toNat (s.get! (pos + 3)).toNat (UInt8.toNat_lt _)
  exact this
theorem runesOf_sc (s : ByteArray) : ∀ fuel pos, ∀ c ∈ runesOf s fuel pos, Sc c
  | 0, _, c, h => by simp [runesOf] at h
  | f + 1, pos, c, h => by
    unfold runesOf at h
    split at h
    · rcases List.mem_cons.1 h with rfl | h
      · exact decode_sc s pos
      · exact runesOf_sc s f _ c h
    · simp at h
theorem runesOf_back (s : ByteArray) : ∀ fuel pos, s.size ≤ pos + fuel → Lib.validD (s.data.toList.drop pos) = true → (runesOf s fuel pos).flatMap (fun (c : Nat) => encR (c : Int)) = s.data.toList.drop pos
  | 0, pos, h, _ => by
    rw [List.drop_of_length_le (by have : s.data.toList.length = s.size := rfl; omega)]; rfl
  | f + 1, pos, h, hv => by
    unfold runesOf
    have hz : s.data.toList.length = s.size := rfl
    split
    · rename_i hp
      have hne : s.data.toList.drop pos ≠ [] := by
        intro e
        have := congrArg List.length e
        rw [List.length_drop] at this
        simp at this; omega
      have hd := Lib.decodeL_drop s pos
      rw [Lib.validD_step _ hne] at hv
      split at hv
      · simp at hv
      rename_i hv2
      have he := Lib.encode_decode _ hne hv2
      rw [hd] at he hv
      rw [encR_lib (decode_sc s pos)] at he
      rw [List.flatMap_cons, he]
      have hw : 1 ≤ (Utf8.decode s pos).2 := Lib.width_pos s pos
      rw [runesOf_back s f _ (by omega) (by rw [← List.drop_drop]; exact hv)]
      rw [← List.drop_drop, List.take_append_drop]
    · rw [List.drop_of_length_le (by omega)]; rfl
/-- What stands between the quotation marks. -/
def bodyS (st : Int) (s : ByteArray) : Bs := (textS st (runesOf s s.size 0)).1
theorem bodyS_raw (st : Int) (s : ByteArray) : RawIn (bodyS st s) := textS_raw _ _ (runesOf_sc s _ _)
theorem bodyS_un (st : Int) (s : ByteArray) (h : Lib.validD s.data.toList = true) : unB (bodyS st s) = s.data.toList := by
  have := textS_un (runesOf s s.size 0) st [] (runesOf_sc s _ _)
  rw [List.append_nil, unB_nil, List.append_nil] at this
  rw [bodyS, this]
  exact runesOf_back s s.size 0 (by omega) h
theorem bodyS_len (st : Int) (s : ByteArray) : (bodyS st s).length ≤ 12 * s.size := Nat.le_trans (textS_len _ _) (Nat.mul_le_mul_left _ (runesOf_len s _ _))
theorem bodyS_end (st : Int) (s : ByteArray) (r : Bs) : rawS false (bodyS st s ++ 34 :: r) = some (bodyS st s, r) := by
  rw [bodyS_raw st s]
  simp [rawS]
end Go.Proofs.YtbdmdajbdmdknaaDoor
namespace Go.Proofs.YtbdmdajbdmdknaaDoor
open Go.RowKit
set_option linter.unusedVariables false
set_option linter.unusedSimpArgs false

theorem walk_runapp {P : Program} {ops : Array Oper} {rest : List Oper} {o : Oper} {a : Act} {Q : Exit → Act → World → Prop} {W w1 : World} {t : Nat} (hgd : o.guard = none) (s x : Operand)
    (ho : o.op = .call { callee := .builtin .append, args := #[s, x], argTypes := #[t, t] }) {v y r : Value} (hs : a.eval s = v) (hx : a.eval x = y) (hrun : (Builtin.append_ #[t, t] o.type #[v, y]).run P W = .ok r w1)
    (h : wpList P ops Q rest (a.put o.dst r) w1) : wpList P ops Q (o :: rest) a W := by
  refine wpList_plain hgd fun K hK => ?_
  unfold Oper.wp execOp
  simp only [ho, resolve, invoke, builtin, Sem.run_bind, Sem.run_pure, Result.andThen_ok, List.map_toArray, List.map_cons, List.map_nil, hs, hx, hrun]
  exact hK _ _ h
theorem run_upto_k {P : Program} {W : World} {t e : TypeId} (ht : P.underlying t = some (.slice e)) {sz : Nat} (hsz : (P.info? e).map (·.size) = some sz) (A : Option Addr) (len cap : Nat) (l : Int) (j : Nat) (hl : l = (j : Int)) (hc : j ≤ cap) :
    (Instr.slice t (.slice A len cap) none (some (.int .i64 l)) none).run P W = .ok (.slice A j cap) W := by
  subst hl
  obtain ⟨i0, hi, hs⟩ := Option.map_eq_some_iff.1 hsz
  cases A <;> simp [Instr.slice, run_underlying ht, Instr.sliceBounds, run_sliceBound, sizeOf, typeInfo, hi, hs, hc, Addr.add]
/-- A new value is given out. -/
structure GotV (w : World) (C co : Nat) (VB : Option Nat) (n : Nat) (w' : World) (vb cap : Nat) : Prop where
  cache : Cache w' C co (some vb) (n + 1) cap
  zero : Zero5 w' vb (5 * n)
  alt : AltC w w' (fun x y => x = C ∧ y = co)
  grew : Grew w VB n (some vb) (n + 1)
theorem Cache.drewN {w : World} {C co n cap : Nat} {VB : Option Nat} (h : Cache w C co VB n cap) (m : Nat) : Cache (w.drewN m) C co VB n cap := ⟨h.fld, h.le, h.nil, h.ne, h.lt, h.old, h.spare⟩
theorem GotV.drewN {w w' : World} {C co n vb cap : Nat} {VB : Option Nat} (h : GotV w C co VB n w' vb cap) (m : Nat) : GotV w C co VB n (w'.drewN m) vb cap :=
  ⟨h.cache.drewN m, h.zero, h.alt.trans (AltC.drewN w' m (fun _ _ => False)) (fun _ _ _ h => h.elim), h.grew⟩
theorem GotV.room {w : World} {C co vb n cap m : Nat} (h : Cache w C co (some vb) n cap) (hc : n < cap) : GotV w C co (some vb) n ((w.drewN m).setCell ⟨C, co, none⟩ (.slice (some ⟨vb, 0, none⟩) (n + 1) cap)) vb cap := by
  have hA : AltC w ((w.drewN m).setCell ⟨C, co, none⟩ (.slice (some ⟨vb, 0, none⟩) (n + 1) cap)) (fun x y => x = C ∧ y = co) := (AltC.drewN w m _).trans (AltC.set _ _ _ _) (fun _ _ _ e => e)
  have hne : vb ≠ C := fun e => h.ne (by rw [e])
  have hz := h.spare vb rfl n (Nat.le_refl _) hc
  have hz' := hz.alt hA (fun y _ _ e => hne e.1)
  have hf : Slot (w.drewN m) C co (.slice (some ⟨vb, 0, none⟩) n cap) := h.fld
  refine ⟨⟨hf.set _, hc, (fun e => by cases e), h.ne, fun b hb => by simpa using h.lt b hb, ?_, ?_⟩, hz', hA, ⟨by omega, .inl rfl⟩⟩
  · intro b hb j hj
    cases hb
    rcases Nat.lt_or_ge j (5 * n) with hj2 | hj2
    · obtain ⟨v, hv⟩ := h.old vb rfl j hj2
      exact ⟨v, hv.alt hA (fun e => hne e.1)⟩
    · obtain ⟨k, rfl⟩ : ∃ k, j = 5 * n + k := ⟨j - 5 * n, by omega⟩
      have hk : k < 5 := by omega
      match k, hk with
      | 0, _ => exact ⟨_, hz'.1⟩
      | 1, _ => exact ⟨_, hz'.2.1⟩
      | 2, _ => exact ⟨_, hz'.2.2.1⟩
      | 3, _ => exact ⟨_, hz'.2.2.2.1⟩
      | 4, _ => exact ⟨_, hz'.2.2.2.2⟩
  · intro b hb i hi hic
    cases hb
    exact (h.spare vb rfl i (by omega) hic).alt hA (fun y _ _ e => hne e.1)
def zero5 : List Value := [.slice none 0 0, .bool false, .slice none 0 0, .string ⟨#[]⟩, .int .i64 0]
theorem zero_at {w : World} {g t : Nat} {vs zs : List Value} {m i : Nat} (h : Row w g t (vs ++ zs)) (hz : ∀ i k v, i < m → zero5[k]? = some v → zs[5 * i + k]? = some v) {o : Nat} (ho : o = vs.length + 5 * i) (hi : i < m) : Zero5 w g o := by
  subst ho
  have key : ∀ k v, zero5[k]? = some v → Slot w g (vs.length + 5 * i + k) v := fun k v hv => Slot.of_row h _ (by
    rw [Nat.add_assoc, List.getElem?_append_right (by omega), Nat.add_sub_cancel_left]
    exact hz i k v hi hv)
  exact ⟨key 0 _ rfl, key 1 _ rfl, key 2 _ rfl, key 3 _ rfl, key 4 _ rfl⟩
theorem info_val : (Tryd.prog.info? 115).map (fun i => (i.zero, i.size, i.bytes)) = some (some (.agg zero5.toArray), 5, 80) := by kernel_rfl
/-- The values that were given out, as cells. -/
theorem cache_olds {w : World} {C co n cap : Nat} {VB : Option Nat} (h : Cache w C co VB n cap) : ∃ olds : List Value, olds.length = n * 5 ∧ (∀ j v, olds[j]? = some v → ∃ b, VB = some b ∧ Slot w b j v) := by
  cases VB with
  | none =>
    have hn : n = 0 := by have := h.nil rfl; have := h.le; omega
    subst hn
    exact ⟨[], rfl, fun j v e => by simp at e⟩
  | some b =>
    refine ⟨(List.range (n * 5)).map (fun j => (w.cell? ⟨b, j, none⟩).getD undef), by simp, fun j v e => ⟨b, rfl, ?_⟩⟩
    have hj : j < n * 5 := by have := (List.getElem?_eq_some_iff.1 e).1; simpa using this
    obtain ⟨u, hu⟩ := h.old b rfl j (by omega)
    simp [hj, hu.1] at e
    subst e
    exact hu
theorem GotV.full {w w1 : World} {C co n cap g : Nat} {VB : Option Nat} {olds : List Value} (h : Cache w C co VB n n) (hol : olds.length = n * 5) (hg : w.heap.size ≤ g) (hcap : n + 1 ≤ cap)
    (hR : Row w1 g 115 (olds ++ zero5 ++ (Builtin.zeroCells zero5.toArray (cap - (n + 1))).toList)) (hB : Below w.heap.size w w1) :
    GotV w C co VB n (w1.setCell ⟨C, co, none⟩ (.slice (some ⟨g, 0, none⟩) (n + 1) cap)) g cap := by
  have hC : C < w.heap.size := h.fld.lt
  have hA : AltC w (w1.setCell ⟨C, co, none⟩ (.slice (some ⟨g, 0, none⟩) (n + 1) cap)) (fun x y => x = C ∧ y = co) := (AltC.of_below hB _).trans (AltC.set _ _ _ _) (fun _ _ _ e => e)
  have hne : g ≠ C := by omega
  have hR2 : Row (w1.setCell ⟨C, co, none⟩ (.slice (some ⟨g, 0, none⟩) (n + 1) cap)) g 115 (olds ++ zero5 ++ (Builtin.zeroCells zero5.toArray (cap - (n + 1))).toList) := hR.far (fun e => hne e.symm) _
  have hz5 : ∀ (m i k : Nat) (v : Value), i < m → zero5[k]? = some v → (Builtin.zeroCells zero5.toArray m).toList[5 * i + k]? = some v := fun m i k v hi hv => by
    have hk : k < zero5.toArray.size := (List.getElem?_eq_some_iff.1 hv).1
    have := zero_get zero5.toArray m i k hk hi
    rw [show zero5.toArray.size = 5 from rfl] at this
    rw [this]
    rw [← hv]
    simp [show k < zero5.length from hk]
  refine ⟨⟨(h.fld.below hB).set _, by omega, (fun e => by cases e), by simpa using hne, fun b hb => by cases hb; exact hR2.lt, ?_, ?_⟩, ?_, hA, ⟨by omega, .inr ⟨g, rfl, hg⟩⟩⟩
  · intro b hb j hj
    cases hb
    have hjl : j < (olds ++ zero5 ++ (Builtin.zeroCells zero5.toArray (cap - (n + 1))).toList).length := by simp [hol, zero5]; omega
    exact ⟨_, Slot.of_row hR2 j (List.getElem?_eq_getElem hjl)⟩
  · intro b hb i hi hic
    cases hb
    exact zero_at (m := cap - (n + 1)) (i := i - (n + 1)) hR2 (hz5 _) (by simp [hol, zero5]; omega) (by omega)
  · rw [List.append_assoc] at hR2
    refine zero_at (vs := olds) (m := 1) (i := 0) hR2 (fun i k v hi hv => ?_) (by rw [hol]; omega) (by omega)
    obtain rfl : i = 0 := by omega
    have hk := (List.getElem?_eq_some_iff.1 hv).1
    rw [Nat.mul_zero, Nat.zero_add, List.getElem?_append_left hk, hv]
theorem ret_ptr {b o o' : Nat} (h : o = o') : Ending.returned (.pointer (some ⟨b, o, none⟩)) = .returned (.pointer (some ⟨b, o', none⟩)) := by rw [h]
set_option maxRecDepth 100000 in
set_option maxHeartbeats 1000000 in
theorem getValue_room (w : World) (C co vb n cap : Nat) (h : Cache w C co (some vb) n cap) (hc : n < cap) (hN : n ≤ 1000000000) :
    Calls Tryd.prog 78 #[.pointer (some ⟨C, co, none⟩)] w fun e w' => e = .returned (.pointer (some ⟨vb, 5 * n, none⟩)) ∧ GotV w C co (some vb) n w' vb cap := by
  have HC := hidden h
  have c0 := h.fld.1
  have f0 := h.fld.2
  simp only [Option.map_some] at c0
  have hci : (n : Int) < (cap : Int) := by omega
  have hw : IntKind.i64.wrap ((n : Int) + 1) = (n : Int) + 1 := by rw [IntKind.wrap_i64]; omega
  have hsl : ∀ W : World, (Instr.slice 100 (.slice (some ⟨vb, 0, none⟩) n cap) none (some (.int .i64 ((n : Int) + 1))) none).run Tryd.prog W = .ok (.slice (some ⟨vb, 0, none⟩) (n + 1) cap) W := fun W =>
    run_upto_k (sz := 5) Tryd.underlying100 (by kernel_rfl) _ n cap _ (n + 1) (by omega) hc
  clear h
  go_enter Tryd.func78, Tryd.ntmps78
  go_wp2
  go_quiet (fail)
  go_wp2
  obtain ⟨W1, hW1⟩ : ∃ W1, w.drewN nq = W1 := ⟨_, rfl⟩
  rw [hW1]
  have c1 : W1.cell? ⟨C, co, none⟩ = some (.slice (some ⟨vb, 0, none⟩) n cap) := by rw [← hW1]; exact c0
  have f1 : W1.frozen? ⟨C, co, none⟩ = false := by rw [← hW1]; exact f0
  have HW := hidden hW1
  clear hW1 c0 f0
  go_still_tail 14, (by kernel_rfl)
  change wpList _ _ _ _ _ W1.drew
  go_wp2
  refine wpAbs (fun W => Hid (GotV w C co (some vb) n W vb cap)) (hidden (by have := GotV.room (m := nq + 1) HC.out hc; rw [← HW.out]; exact this)) ?_
  rintro W2 HG
  have c2 := HG.out.cache.fld.1
  simp only [Option.map_some] at c2
  have hw3 : IntKind.i64.wrap ((n : Int) + 1 - 1) = (n : Int) := by rw [IntKind.wrap_i64]; omega
  have hw4 : IntKind.i64.wrap (((n + 1 : Nat) : Int) - 1) = (n : Int) := by rw [IntKind.wrap_i64]; omega
  have hnn : n < n + 1 := by omega
  clear c1 f1 hsl
  go_quiet (fail)
  go_wp2
  go_ret
  exact ⟨ret_ptr (by omega), HG.out.drewN _⟩
set_option maxRecDepth 100000 in
set_option maxHeartbeats 1000000 in
theorem getValue_full (w : World) (C co n : Nat) (VB : Option Nat) (h : Cache w C co VB n n) (hN : n ≤ 1000000000) :
    Calls Tryd.prog 78 #[.pointer (some ⟨C, co, none⟩)] w fun e w' => ∃ vb cap, e = .returned (.pointer (some ⟨vb, 5 * n, none⟩)) ∧ GotV w C co VB n w' vb cap := by
  have HC := hidden h
  have c0 := h.fld.1
  have f0 := h.fld.2
  have hlt := h.fld.lt
  obtain ⟨A, hA⟩ : ∃ A : Option Addr, VB.map (fun b => (⟨b, 0, none⟩ : Addr)) = A := ⟨_, rfl⟩
  rw [hA] at c0
  obtain ⟨i0, hi0, hzz⟩ := Option.map_eq_some_iff.1 info_val
  simp only [Prod.mk.injEq] at hzz
  obtain ⟨hz0, hz1, hz2⟩ := hzz
  obtain ⟨olds, hol, hrd⟩ := cache_olds h
  have hgrow : ∀ W : World, Below w.heap.size w W → ∃ cap w1, n + 1 ≤ cap ∧ (Builtin.append_ #[100, 100] 100 #[.slice A n n, .slice (some ⟨W.heap.size, 0, none⟩) 1 1]).run Tryd.prog (W.alloc (.cells zero5.toArray 115)) = .ok (.slice (some ⟨(W.alloc (.cells zero5.toArray 115)).heap.size, 0, none⟩) (n + 1) cap) w1 ∧ Row w1 (W.alloc (.cells zero5.toArray 115)).heap.size 115 (olds ++ zero5 ++ (Builtin.zeroCells zero5.toArray (cap - (n + 1))).toList) ∧ Below w.heap.size w w1 := fun W hB => by
    obtain ⟨cap, w1, h1, h2, h3, h4, _⟩ := run_grow_k (P := Tryd.prog) (W := W.alloc (.cells zero5.toArray 115)) (ty := 100) Tryd.underlying100 hi0 hz0 A n olds (by rw [hz1]; exact hol)
      (fun j v hv => by
        obtain ⟨b, hb, hs⟩ := hrd j v hv
        subst hb
        exact ⟨b, hA.symm, cell_next (below_alloc0 W _) (cell_next hB hs.1)⟩)
      (fun e => by
        cases VB with
        | none => have := h.nil rfl; omega
        | some b => rw [← hA] at e; cases e) W.heap.size 1 zero5 (by rw [hz1]; rfl) (Row.new W _ _) (by intro u hu; simp only [zero5, List.mem_cons, List.not_mem_nil, or_false] at hu; rcases hu with rfl | rfl | rfl | rfl | rfl <;> rfl) (by rw [hz2]; omega) (by omega)
    exact ⟨cap, w1, h1, h2, h3, below_next (below_next hB (below_alloc0 W _)) h4⟩
  have HG := hidden hgrow
  have HOL := hidden hol
  clear h hrd hz0 hz1 hz2 hi0 hgrow hol hA
  go_enter Tryd.func78, Tryd.ntmps78
  go_wp2
  go_quiet (fail)
  obtain ⟨W1, hW1⟩ : ∃ W1, w.drewN nq = W1 := ⟨_, rfl⟩
  rw [hW1]
  have c1 : W1.cell? ⟨C, co, none⟩ = some (.slice A n n) := by rw [← hW1]; exact c0
  have f1 : W1.frozen? ⟨C, co, none⟩ = false := by rw [← hW1]; exact f0
  have HB1 : Hid (Below w.heap.size w W1) := hidden (by rw [← hW1]; exact below_drewN0 (Below.refl _ _) _)
  clear hW1 c0 f0
  obtain ⟨cap, w2, hcap, hrun, hR, hB2⟩ := HG.out W1 HB1.out
  have hsz1 : (W1.alloc (.cells zero5.toArray 115)).heap.size = W1.heap.size + 1 := by simp
  rw [hsz1] at hrun hR
  have HRUN := hidden hrun
  have HR := hidden hR
  have HB2 := hidden hB2
  have c2 := cell_next hB2 HC.out.fld.1
  have f2 := (hB2.frozen (p := ⟨C, co, none⟩) hlt).trans HC.out.fld.2
  have HCAP := hidden hcap
  clear hrun hR hB2 hcap HG hsz1
  go_wp2_with ((with_reducible refine at_dst 35 ?_); go_must (refine walk_runapp rfl (.tmp 32) (.tmp 34) rfl rfl rfl HRUN.out ?_))
  obtain ⟨vb, hvb⟩ : ∃ vb, W1.heap.size + 1 = vb := ⟨_, rfl⟩
  rw [hvb] at HR ⊢
  have HVB : Hid (w.heap.size ≤ vb) := hidden (by rw [← hvb]; have := HB1.out.size; omega)
  clear hvb HRUN c1 f1 c2 f2
  refine wpAbs (fun W => Hid (GotV w C co VB n W vb cap)) (hidden (GotV.full HC.out HOL.out HVB.out HCAP.out HR.out HB2.out)) ?_
  rintro W2 HG
  have c2 := HG.out.cache.fld.1
  simp only [Option.map_some] at c2
  have hw3 : IntKind.i64.wrap ((n : Int) + 1 - 1) = (n : Int) := by rw [IntKind.wrap_i64]; omega
  have hw4 : IntKind.i64.wrap (((n + 1 : Nat) : Int) - 1) = (n : Int) := by rw [IntKind.wrap_i64]; omega
  have hnn : n < n + 1 := by omega
  go_quiet (fail)
  go_wp2
  go_ret
  exact ⟨vb, cap, ret_ptr (by omega), HG.out.drewN _⟩
theorem getValue_calls (w : World) (C co n cap : Nat) (VB : Option Nat) (h : Cache w C co VB n cap) (hN : n ≤ 1000000000) :
    Calls Tryd.prog 78 #[.pointer (some ⟨C, co, none⟩)] w fun e w' => ∃ vb cap, e = .returned (.pointer (some ⟨vb, 5 * n, none⟩)) ∧ GotV w C co VB n w' vb cap := by
  rcases Nat.lt_or_ge n cap with hc | hc
  · cases VB with
    | none => have := h.nil rfl; omega
    | some vb => exact (getValue_room w C co vb n cap h hc hN).mono fun e w' k => ⟨vb, cap, k⟩
  · have := h.le
    obtain rfl : cap = n := by omega
    exact getValue_full w C co cap VB h hN
end Go.Proofs.YtbdmdajbdmdknaaDoor
namespace Go.Proofs.YtbdmdajbdmdknaaDoor
open Go.RowKit
set_option linter.unusedVariables false
set_option linter.unusedSimpArgs false

/-- An object's names and values: the slice's field lies at ⟨b, o⟩. -/
structure KRow (w : World) (b o : Nat) (K : Option Nat) (n cap : Nat) : Prop where
  fld : Slot w b o (.slice (K.map fun k => ⟨k, 0, none⟩) n cap)
  le : n ≤ cap
  nil : K = none → cap = 0
  ne : K ≠ some b
  lt : ∀ k, K = some k → k < w.heap.size
  old : ∀ k, K = some k → ∀ j, j < 2 * cap → ∃ v, Slot w k j v
theorem KRow.alt {w w1 : World} {b o n cap : Nat} {K : Option Nat} (h : KRow w b o K n cap) {S : Nat → Nat → Prop} (k : AltC w w1 S) (h1 : ¬ S b o) (h2 : ∀ x y, K = some x → ¬ S x y) : KRow w1 b o K n cap :=
  ⟨h.fld.alt k h1, h.le, h.nil, h.ne, fun x hx => Nat.lt_of_lt_of_le (h.lt x hx) k.size, fun x hx j hj => by
    obtain ⟨v, hv⟩ := h.old x hx j hj
    exact ⟨v, hv.alt k (h2 x j hx)⟩⟩
/-- A new name's place is given out. -/
structure GotK (w : World) (b o : Nat) (K : Option Nat) (n : Nat) (w' : World) (k cap : Nat) : Prop where
  row : KRow w' b o (some k) (n + 1) cap
  alt : AltC w w' (fun x y => x = b ∧ y = o)
  keep : ∀ q, K = some q → ∀ j v, j < 2 * n → Slot w q j v → Slot w' k j v
  same : K = some k ∨ w.heap.size ≤ k
theorem KRow.drewN {w : World} {b o n cap : Nat} {K : Option Nat} (h : KRow w b o K n cap) (m : Nat) : KRow (w.drewN m) b o K n cap := ⟨h.fld, h.le, h.nil, h.ne, h.lt, h.old⟩
theorem GotK.drewN {w w' : World} {b o n k cap : Nat} {K : Option Nat} (h : GotK w b o K n w' k cap) (m : Nat) : GotK w b o K n (w'.drewN m) k cap :=
  ⟨h.row.drewN m, h.alt.trans (AltC.drewN w' m (fun _ _ => False)) (fun _ _ _ h => h.elim), h.keep, h.same⟩
theorem GotK.room {w : World} {b o k n cap m : Nat} (h : KRow w b o (some k) n cap) (hc : n < cap) : GotK w b o (some k) n ((w.drewN m).setCell ⟨b, o, none⟩ (.slice (some ⟨k, 0, none⟩) (n + 1) cap)) k cap := by
  have hA : AltC w ((w.drewN m).setCell ⟨b, o, none⟩ (.slice (some ⟨k, 0, none⟩) (n + 1) cap)) (fun x y => x = b ∧ y = o) := (AltC.drewN w m _).trans (AltC.set _ _ _ _) (fun _ _ _ e => e)
  have hne : k ≠ b := fun e => h.ne (by rw [e])
  have hf : Slot (w.drewN m) b o (.slice (some ⟨k, 0, none⟩) n cap) := h.fld
  refine ⟨⟨hf.set _, hc, (fun e => by cases e), h.ne, fun x hx => by simpa using h.lt x hx, fun x hx j hj => ?_⟩, hA, fun q hq j v hj hv => ?_, .inl rfl⟩
  · cases hx
    obtain ⟨v, hv⟩ := h.old k rfl j hj
    exact ⟨v, hv.alt hA (fun e => hne e.1)⟩
  · cases hq
    exact hv.alt hA (fun e => hne e.1)
def zero2 : List Value := [.string ⟨#[]⟩, .pointer none]
theorem info_kv : (Tryd.prog.info? 131).map (fun i => (i.zero, i.size, i.bytes)) = some (some (.agg zero2.toArray), 2, 24) := by kernel_rfl
theorem krow_olds {w : World} {b o n cap : Nat} {K : Option Nat} (h : KRow w b o K n cap) : ∃ olds : List Value, olds.length = n * 2 ∧ (∀ j v, olds[j]? = some v → ∃ k, K = some k ∧ Slot w k j v) := by
  cases K with
  | none =>
    have hn : n = 0 := by have := h.nil rfl; have := h.le; omega
    subst hn
    exact ⟨[], rfl, fun j v e => by simp at e⟩
  | some k =>
    refine ⟨(List.range (n * 2)).map (fun j => (w.cell? ⟨k, j, none⟩).getD undef), by simp, fun j v e => ⟨k, rfl, ?_⟩⟩
    have hj : j < n * 2 := by have := (List.getElem?_eq_some_iff.1 e).1; simpa using this
    obtain ⟨u, hu⟩ := h.old k rfl j (by have := h.le; omega)
    simp [hj, hu.1] at e
    subst e
    exact hu
theorem GotK.full {w w1 : World} {b o n cap g : Nat} {K : Option Nat} {olds rest : List Value} (h : KRow w b o K n n) (hol : olds.length = n * 2) (hrd : ∀ j v, olds[j]? = some v → ∃ k, K = some k ∧ Slot w k j v) (hg : w.heap.size ≤ g) (hcap : n + 1 ≤ cap) (hrl : rest.length = (cap - (n + 1)) * 2)
    (hR : Row w1 g 131 (olds ++ zero2 ++ rest)) (hB : Below w.heap.size w w1) :
    GotK w b o K n (w1.setCell ⟨b, o, none⟩ (.slice (some ⟨g, 0, none⟩) (n + 1) cap)) g cap := by
  have hC : b < w.heap.size := h.fld.lt
  have hA : AltC w (w1.setCell ⟨b, o, none⟩ (.slice (some ⟨g, 0, none⟩) (n + 1) cap)) (fun x y => x = b ∧ y = o) := (AltC.of_below hB _).trans (AltC.set _ _ _ _) (fun _ _ _ e => e)
  have hne : g ≠ b := by omega
  have hR2 : Row (w1.setCell ⟨b, o, none⟩ (.slice (some ⟨g, 0, none⟩) (n + 1) cap)) g 131 (olds ++ zero2 ++ rest) := hR.far (fun e => hne e.symm) _
  refine ⟨⟨(h.fld.below hB).set _, by omega, (fun e => by cases e), by simpa using hne, fun x hx => by cases hx; exact hR2.lt, fun x hx j hj => ?_⟩, hA, fun q hq j v hj hv => ?_, .inr hg⟩
  · cases hx
    have hjl : j < (olds ++ zero2 ++ rest).length := by simp [hol, zero2, hrl]; omega
    exact ⟨_, Slot.of_row hR2 j (List.getElem?_eq_getElem hjl)⟩
  · have hjl : j < olds.length := by omega
    obtain ⟨k, hk, hs⟩ := hrd j olds[j] (List.getElem?_eq_getElem hjl)
    rw [hq] at hk; cases hk
    have := hs.eq hv
    subst this
    exact Slot.of_row hR2 j (by rw [List.append_assoc, List.getElem?_append_left hjl, List.getElem?_eq_getElem hjl])
set_option maxRecDepth 100000 in
set_option maxHeartbeats 1000000 in
theorem getKV_room (w : World) (b o k n cap : Nat) (h : KRow w b o (some k) n cap) (hc : n < cap) (hN : n ≤ 1000000000) :
    Calls Tryd.prog 89 #[.pointer (some ⟨b, o, none⟩)] w fun e w' => e = .returned (.pointer (some ⟨k, 2 * n, none⟩)) ∧ GotK w b o (some k) n w' k cap := by
  have HC := hidden h
  have c0 := h.fld.1
  have f0 := h.fld.2
  simp only [Option.map_some] at c0
  have hci : (n : Int) < (cap : Int) := by omega
  have hw : IntKind.i64.wrap ((n : Int) + 1) = (n : Int) + 1 := by rw [IntKind.wrap_i64]; omega
  have hsl : ∀ W : World, (Instr.slice 110 (.slice (some ⟨k, 0, none⟩) n cap) none (some (.int .i64 ((n : Int) + 1))) none).run Tryd.prog W = .ok (.slice (some ⟨k, 0, none⟩) (n + 1) cap) W := fun W =>
    run_upto_k (sz := 2) Tryd.underlying110 (by kernel_rfl) _ n cap _ (n + 1) (by omega) hc
  clear h
  go_enter Tryd.func89, Tryd.ntmps89
  go_wp2
  go_quiet (fail)
  go_wp2
  obtain ⟨W1, hW1⟩ : ∃ W1, w.drewN nq = W1 := ⟨_, rfl⟩
  rw [hW1]
  have c1 : W1.cell? ⟨b, o, none⟩ = some (.slice (some ⟨k, 0, none⟩) n cap) := by rw [← hW1]; exact c0
  have f1 : W1.frozen? ⟨b, o, none⟩ = false := by rw [← hW1]; exact f0
  have HW := hidden hW1
  clear hW1 c0 f0
  go_still_tail 14, (by kernel_rfl)
  change wpList _ _ _ _ _ W1.drew
  go_wp2
  refine wpAbs (fun W => Hid (GotK w b o (some k) n W k cap)) (hidden (by have := GotK.room (m := nq + 1) HC.out hc; rw [← HW.out]; exact this)) ?_
  rintro W2 HG
  have c2 := HG.out.row.fld.1
  simp only [Option.map_some] at c2
  have hw3 : IntKind.i64.wrap ((n : Int) + 1 - 1) = (n : Int) := by rw [IntKind.wrap_i64]; omega
  have hw4 : IntKind.i64.wrap (((n + 1 : Nat) : Int) - 1) = (n : Int) := by rw [IntKind.wrap_i64]; omega
  have hnn : n < n + 1 := by omega
  clear c1 f1 hsl
  go_quiet (fail)
  go_wp2
  go_ret
  exact ⟨ret_ptr (by omega), HG.out.drewN _⟩
set_option maxRecDepth 100000 in
set_option maxHeartbeats 1000000 in
theorem getKV_full (w : World) (b o n : Nat) (K : Option Nat) (h : KRow w b o K n n) (hN : n ≤ 1000000000) :
    Calls Tryd.prog 89 #[.pointer (some ⟨b, o, none⟩)] w fun e w' => ∃ k cap, e = .returned (.pointer (some ⟨k, 2 * n, none⟩)) ∧ GotK w b o K n w' k cap := by
  have HC := hidden h
  have c0 := h.fld.1
  have f0 := h.fld.2
  have hlt := h.fld.lt
  obtain ⟨A, hA⟩ : ∃ A : Option Addr, K.map (fun b => (⟨b, 0, none⟩ : Addr)) = A := ⟨_, rfl⟩
  rw [hA] at c0
  obtain ⟨i0, hi0, hzz⟩ := Option.map_eq_some_iff.1 info_kv
  simp only [Prod.mk.injEq] at hzz
  obtain ⟨hz0, hz1, hz2⟩ := hzz
  obtain ⟨olds, hol, hrd⟩ := krow_olds h
  have hgrow : ∀ W : World, Below w.heap.size w W → ∃ cap w1, n + 1 ≤ cap ∧ (Builtin.append_ #[110, 110] 110 #[.slice A n n, .slice (some ⟨W.heap.size, 0, none⟩) 1 1]).run Tryd.prog (W.alloc (.cells zero2.toArray 131)) = .ok (.slice (some ⟨(W.alloc (.cells zero2.toArray 131)).heap.size, 0, none⟩) (n + 1) cap) w1 ∧ Row w1 (W.alloc (.cells zero2.toArray 131)).heap.size 131 (olds ++ zero2 ++ (Builtin.zeroCells zero2.toArray (cap - (n + 1))).toList) ∧ Below w.heap.size w w1 := fun W hB => by
    obtain ⟨cap, w1, h1, h2, h3, h4, _⟩ := run_grow_k (P := Tryd.prog) (W := W.alloc (.cells zero2.toArray 131)) (ty := 110) Tryd.underlying110 hi0 hz0 A n olds (by rw [hz1]; exact hol)
      (fun j v hv => by
        obtain ⟨k, hk, hs⟩ := hrd j v hv
        subst hk
        exact ⟨k, hA.symm, cell_next (below_alloc0 W _) (cell_next hB hs.1)⟩)
      (fun e => by
        cases K with
        | none => have := h.nil rfl; omega
        | some b => rw [← hA] at e; cases e) W.heap.size 1 zero2 (by rw [hz1]; rfl) (Row.new W _ _) (by intro u hu; simp only [zero2, List.mem_cons, List.not_mem_nil, or_false] at hu; rcases hu with rfl | rfl <;> rfl) (by rw [hz2]; omega) (by omega)
    exact ⟨cap, w1, h1, h2, h3, below_next (below_next hB (below_alloc0 W _)) h4⟩
  have HG := hidden hgrow
  have HOL := hidden hol
  have HRD := hidden hrd
  clear h hrd hz0 hz1 hz2 hi0 hgrow hol hA
  go_enter Tryd.func89, Tryd.ntmps89
  go_wp2
  go_quiet (fail)
  obtain ⟨W1, hW1⟩ : ∃ W1, w.drewN nq = W1 := ⟨_, rfl⟩
  rw [hW1]
  have c1 : W1.cell? ⟨b, o, none⟩ = some (.slice A n n) := by rw [← hW1]; exact c0
  have f1 : W1.frozen? ⟨b, o, none⟩ = false := by rw [← hW1]; exact f0
  have HB1 : Hid (Below w.heap.size w W1) := hidden (by rw [← hW1]; exact below_drewN0 (Below.refl _ _) _)
  clear hW1 c0 f0
  obtain ⟨cap, w2, hcap, hrun, hR, hB2⟩ := HG.out W1 HB1.out
  have hsz1 : (W1.alloc (.cells zero2.toArray 131)).heap.size = W1.heap.size + 1 := by simp
  rw [hsz1] at hrun hR
  have HRUN := hidden hrun
  have HR := hidden hR
  have HB2 := hidden hB2
  have c2 := cell_next hB2 HC.out.fld.1
  have f2 := (hB2.frozen (p := ⟨b, o, none⟩) hlt).trans HC.out.fld.2
  have HCAP := hidden hcap
  clear hrun hR hB2 hcap HG hsz1
  go_wp2_with ((with_reducible refine at_dst 35 ?_); go_must (refine walk_runapp rfl (.tmp 32) (.tmp 34) rfl rfl rfl HRUN.out ?_))
  obtain ⟨vb, hvb⟩ : ∃ vb, W1.heap.size + 1 = vb := ⟨_, rfl⟩
  rw [hvb] at HR ⊢
  have HVB : Hid (w.heap.size ≤ vb) := hidden (by rw [← hvb]; have := HB1.out.size; omega)
  clear hvb HRUN c1 f1 c2 f2
  refine wpAbs (fun W => Hid (GotK w b o K n W vb cap)) (hidden (GotK.full HC.out HOL.out HRD.out HVB.out HCAP.out (by rw [Array.length_toList, size_zeroCells]; rfl) HR.out HB2.out)) ?_
  rintro W2 HG
  have c2 := HG.out.row.fld.1
  simp only [Option.map_some] at c2
  have hw3 : IntKind.i64.wrap ((n : Int) + 1 - 1) = (n : Int) := by rw [IntKind.wrap_i64]; omega
  have hw4 : IntKind.i64.wrap (((n + 1 : Nat) : Int) - 1) = (n : Int) := by rw [IntKind.wrap_i64]; omega
  have hnn : n < n + 1 := by omega
  go_quiet (fail)
  go_wp2
  go_ret
  exact ⟨vb, cap, ret_ptr (by omega), HG.out.drewN _⟩
theorem getKV_calls (w : World) (b o n cap : Nat) (K : Option Nat) (h : KRow w b o K n cap) (hN : n ≤ 1000000000) :
    Calls Tryd.prog 89 #[.pointer (some ⟨b, o, none⟩)] w fun e w' => ∃ k cap, e = .returned (.pointer (some ⟨k, 2 * n, none⟩)) ∧ GotK w b o K n w' k cap := by
  rcases Nat.lt_or_ge n cap with hc | hc
  · cases K with
    | none => have := h.nil rfl; omega
    | some k => exact (getKV_room w b o k n cap h hc hN).mono fun e w' x => ⟨k, cap, x⟩
  · have := h.le
    obtain rfl : cap = n := by omega
    exact getKV_full w b o cap K h hN
theorem run_clear_nil (ty : TypeId) (W : World) : (Builtin.clear_ #[110] ty #[.slice none 0 0]).run Tryd.prog W = .ok (.tuple #[]) W := by kernel_rfl
set_option maxRecDepth 100000 in
set_option maxHeartbeats 1000000 in
/-- An object that is all zero is laid anew: nothing but its own cells is written, and they read as they did. -/
theorem oReset_calls (w : World) (b o : Nat) (h1 : Slot w b o (.slice none 0 0)) (h2 : Slot w b (o + 1) (.bool false)) :
    Calls Tryd.prog 88 #[.pointer (some ⟨b, o, none⟩)] w fun e w' => e = .returned (.tuple #[]) ∧ AltC w w' (fun x y => x = b ∧ o ≤ y ∧ y < o + 2) ∧ Slot w' b o (.slice none 0 0) ∧ Slot w' b (o + 1) (.bool false) := by
  have c1 := h1.1
  have f1 := h1.2
  have c2 := h2.1
  have f2 := h2.2
  have H1 := hidden h1
  have H2 := hidden h2
  clear h1 h2
  have hcl := run_clear_nil
  go_enter Tryd.func88, Tryd.ntmps88
  go_wp2
  go_end0
  have hA1 : AltC w (w.setCell ⟨b, o, none⟩ (.slice none 0 0)) (fun x y => x = b ∧ o ≤ y ∧ y < o + 2) := (AltC.set w b o _).mono (fun x y _ h => ⟨h.1, by omega, by omega⟩)
  have hA2 := hA1.trans (AltC.set (w.setCell ⟨b, o, none⟩ (.slice none 0 0)) b (o + 1) (.bool false)) (fun x y _ h => ⟨h.1, by omega, by omega⟩)
  have s1 : Slot (w.setCell ⟨b, o, none⟩ (.slice none 0 0)) b o (.slice none 0 0) := H1.out.set _
  have s2 : Slot (w.setCell ⟨b, o, none⟩ (.slice none 0 0)) b (o + 1) (.bool false) := H2.out.alt (AltC.set w b o _) (fun h => by omega)
  exact ⟨rfl, hA2, s1.alt (AltC.set _ b (o + 1) _) (fun h => by omega), s2.set _⟩
end Go.Proofs.YtbdmdajbdmdknaaDoor
