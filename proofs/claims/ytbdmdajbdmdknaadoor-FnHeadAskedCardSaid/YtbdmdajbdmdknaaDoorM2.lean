/- spec.headStyle: its numbers, and the escapes of a character. spec.headHex. spec.headDigits. (*spec.headStyle).text: plain, and its parts in the form of rows. -/
import Derived.Test.YtbdmdajbdmdknaaDoorM1
import Derived.Test.YtbdmdajbdmdknaaDoorJsonA
import Derived.Lib.OthersKept
import Derived.Lib.BufferKept
import Derived.Lib.RuneBytes
namespace Go.Proofs.YtbdmdajbdmdknaaDoor
open Go.RowKit
set_option linter.unusedVariables false
set_option linter.unusedSimpArgs false

/-- The next state of a style. -/
def lcg (s : Int) : Int := IntKind.u64.wrap (IntKind.u64.wrap (s * 6364136223846793005) + 1442695040888963407)
/-- A number below n, of a state. -/
def lcgN (s n : Int) : Int := (lcg s / 8589934592).tmod n
set_option maxHeartbeats 1000000 in
theorem next_calls (g : Nat) (st n : Int) (w : World) (hc : w.cell? ⟨g, 0, none⟩ = some (.int .u64 st)) (hf : w.frozen? ⟨g, 0, none⟩ = false) (hn : ¬ n = 0) :
    Calls Tryd.prog 37 #[.pointer (some ⟨g, 0, none⟩), .int .u64 n] w fun e w' => e = .returned (.int .u64 (lcgN st n)) ∧ w' = w.setCell ⟨g, 0, none⟩ (.int .u64 (lcg st)) := by
  go_enter Tryd.func37, Tryd.ntmps37
  go_wp2
  go_ret
  exact ⟨rfl, rfl⟩
/-- The short escape of a character. -/
def shortB (c : Int) : Bs :=
  if c = 34 then [92, 34] else
  if c = 92 then [92, 92] else
  if c = 47 then [92, 47] else
  if c = 8 then [92, 98] else
  if c = 9 then [92, 116] else
  if c = 10 then [92, 110] else
  if c = 12 then [92, 102] else
  if c = 13 then [92, 114] else
  []
theorem headShort_calls (c : Int) (w : World) : Calls Tryd.prog 38 #[.int .i32 c] w fun e w' => e = .returned (.string (bs (shortB c))) ∧ w' = w := by
  by_cases h0 : c = 34
  · subst h0
    go_enter Tryd.func38, Tryd.ntmps38
    go_wp2
    go_ret
    exact ⟨rfl, rfl⟩
  by_cases h1 : c = 92
  · subst h1
    go_enter Tryd.func38, Tryd.ntmps38
    go_wp2
    go_ret
    exact ⟨rfl, rfl⟩
  by_cases h2 : c = 47
  · subst h2
    go_enter Tryd.func38, Tryd.ntmps38
    go_wp2
    go_ret
    exact ⟨rfl, rfl⟩
  by_cases h3 : c = 8
  · subst h3
    go_enter Tryd.func38, Tryd.ntmps38
    go_wp2
    go_ret
    exact ⟨rfl, rfl⟩
  by_cases h4 : c = 9
  · subst h4
    go_enter Tryd.func38, Tryd.ntmps38
    go_wp2
    go_ret
    exact ⟨rfl, rfl⟩
  by_cases h5 : c = 10
  · subst h5
    go_enter Tryd.func38, Tryd.ntmps38
    go_wp2
    go_ret
    exact ⟨rfl, rfl⟩
  by_cases h6 : c = 12
  · subst h6
    go_enter Tryd.func38, Tryd.ntmps38
    go_wp2
    go_ret
    exact ⟨rfl, rfl⟩
  by_cases h7 : c = 13
  · subst h7
    go_enter Tryd.func38, Tryd.ntmps38
    go_wp2
    go_ret
    exact ⟨rfl, rfl⟩
  have e : shortB c = [] := by unfold shortB; simp [h0, h1, h2, h3, h4, h5, h6, h7]
  rw [e]
  clear e
  have n0 : (c == 34) = false := by rw [beq_eq_false_iff_ne]; exact h0
  have n1 : (c == 92) = false := by rw [beq_eq_false_iff_ne]; exact h1
  have n2 : (c == 47) = false := by rw [beq_eq_false_iff_ne]; exact h2
  have n3 : (c == 8) = false := by rw [beq_eq_false_iff_ne]; exact h3
  have n4 : (c == 9) = false := by rw [beq_eq_false_iff_ne]; exact h4
  have n5 : (c == 10) = false := by rw [beq_eq_false_iff_ne]; exact h5
  have n6 : (c == 12) = false := by rw [beq_eq_false_iff_ne]; exact h6
  have n7 : (c == 13) = false := by rw [beq_eq_false_iff_ne]; exact h7
  clear h0 h1 h2 h3 h4 h5 h6 h7
  go_enter Tryd.func38, Tryd.ntmps38
  go_wp2
  go_ret
  exact ⟨rfl, rfl⟩
end Go.Proofs.YtbdmdajbdmdknaaDoor
namespace Go.Proofs.YtbdmdajbdmdknaaDoor
open Go.RowKit
set_option linter.unusedVariables false
set_option linter.unusedSimpArgs false

def hexG (d : Nat) : UInt8 := if d < 10 then UInt8.ofNat (48 + d) else UInt8.ofNat (87 + d)
/-- The escape of a number of 16 bits, up to j digits. -/
def hexU (n : Nat) : Nat → Bs
  | 0 => [92, 117]
  | j + 1 => hexU n j ++ [hexG (n / 2 ^ (12 - 4 * j) % 16)]
theorem hexU_len (n : Nat) : ∀ j, (hexU n j).length = 2 + j
  | 0 => rfl
  | j + 1 => by simp only [hexU, List.length_append, hexU_len n j, List.length_cons, List.length_nil]; omega
theorem hex_extract : ∀ d, d < 16 → (⟨#[48, 49, 50, 51, 52, 53, 54, 55, 56, 57, 97, 98, 99, 100, 101, 102]⟩ : ByteArray).extract d (d + 1) = bs [hexG d] := by decide
theorem band15 (m : Nat) (hm : m < 65536) : bits .and .i32 (m : Int) 15 = ((m % 16 : Nat) : Int) := by
  have h : (BitVec.ofInt 32 (m : Int) &&& BitVec.ofInt 32 15).toNat = m % 16 := by
    rw [BitVec.ofInt_natCast, BitVec.toNat_and, BitVec.toNat_ofNat]
    have h15 : (BitVec.ofInt 32 15).toNat = 2 ^ 4 - 1 := by decide
    rw [h15, Nat.and_two_pow_sub_one_eq_mod]
    omega
  show IntKind.i32.wrap ((BitVec.ofInt 32 (m : Int) &&& BitVec.ofInt 32 15).toNat : Int) = _
  rw [h, IntKind.wrap_i32]
  omega
theorem bs_app (a b : Bs) : bs a ++ bs b = bs (a ++ b) := by
  have : (bs a ++ bs b).data.toList = (bs (a ++ b)).data.toList := by rw [ByteArray.data_append, Array.toList_append, toL_bs, toL_bs, toL_bs]
  rw [← bs_self (bs a ++ bs b), this, bs_self]
set_option maxHeartbeats 4000000 in
theorem headHex_calls (n : Nat) (hn : n < 65536) (w : World) : Calls Tryd.prog 39 #[.int .i32 n] w fun e w' => e = .returned (.string (bs (hexU n 4))) ∧ w' = w := by
  go_enter Tryd.func39, Tryd.ntmps39
  go_wp2
  go_loopw [4, 3] (fun k v wr => ∃ j : Nat, j ≤ 4 ∧ k = .int .i64 (12 - 4 * (j : Int)) ∧ v = .string (bs (hexU n j)) ∧ w = wr) (fun k _ _ => ((intOf k) + 4).toNat)
  case atStart => exact ⟨0, by omega, rfl, rfl, rfl⟩
  case round =>
    obtain ⟨j, hj, rfl, rfl, rfl⟩ := hrel
    by_cases h4 : j < 4
    · obtain ⟨d, hd⟩ : ∃ d : Nat, n / 2 ^ (12 - 4 * j) % 16 = d := ⟨_, rfl⟩
      have hd16 : d < 16 := by rw [← hd]; omega
      have hb : bits .and .i32 ((n : Int) / 2 ^ (12 - 4 * j)) 15 = (d : Int) := by
        have h1 : ((n : Int) / 2 ^ (12 - 4 * j)) = ((n / 2 ^ (12 - 4 * j) : Nat) : Int) := by push_cast; rfl
        rw [h1, band15 _ (Nat.lt_of_le_of_lt (Nat.div_le_self _ _) hn), hd]
      have hw : wrap32 ((d : Int) + 1) = (d : Int) + 1 := by unfold wrap32; omega
      have hs : (bs (hexU n j)).size = 2 + j := by rw [size_bs, hexU_len]
      have hx := hex_extract d hd16
      have hnx : bs (hexU n (j + 1)) = bs (hexU n j) ++ bs [hexG d] := by rw [bs_app]; simp only [hexU, hd]
      obtain ⟨o, ho⟩ : ∃ o, bs (hexU n j) = o := ⟨_, rfl⟩
      rw [ho] at hs hnx ⊢
      have HNX := hidden hnx
      have HX := hidden hx
      have hj12 : (0 : Int) ≤ 12 - 4 * (j : Int) := by omega
      clear hd ho hnx hx
      go_wp2
      exact ⟨⟨j + 1, by omega, congrArg (Value.int .i64) (by omega), by rw [HNX.out, HX.out], trivial⟩, by simp [intOf]; omega⟩
    · obtain rfl : j = 4 := by omega
      go_wp2
      go_ret
      exact ⟨rfl, rfl⟩
end Go.Proofs.YtbdmdajbdmdknaaDoor
namespace Go.Proofs.YtbdmdajbdmdknaaDoor
open Go.RowKit
set_option linter.unusedVariables false
set_option linter.unusedSimpArgs false

def digD (d : Nat) : UInt8 := UInt8.ofNat (48 + d)
/-- A number in decimal digits. -/
def decB (n : Nat) : Bs := if h : n < 10 then [digD n] else decB (n / 10) ++ [digD (n % 10)]
termination_by n
decreasing_by omega
theorem decB_small {n : Nat} (h : n < 10) : decB n = [digD n] := by rw [decB, dif_pos h]
theorem decB_great {n : Nat} (h : ¬ n < 10) : decB n = decB (n / 10) ++ [digD (n % 10)] := by rw [decB, dif_neg h]
theorem decB_len : ∀ (k n : Nat), n < 10 ^ (k + 1) → (decB n).length ≤ k + 1
  | 0, n, h => by rw [decB_small (by simpa using h)]; exact Nat.le_refl _
  | k + 1, n, h => by
    by_cases h1 : n < 10
    · rw [decB_small h1]; simp
    · rw [decB_great h1]
      have := decB_len k (n / 10) (by rw [Nat.pow_succ] at h; omega)
      simp only [List.length_append, List.length_cons, List.length_nil]; omega
theorem dig_extract : ∀ d, d < 10 → (⟨#[48, 49, 50, 51, 52, 53, 54, 55, 56, 57]⟩ : ByteArray).extract d (d + 1) = bs [digD d] := by decide
set_option maxHeartbeats 4000000 in
theorem headDigits_calls (n : Nat) (hn : n < 18446744073709551616) (w : World) : Calls Tryd.prog 40 #[.int .u64 n] w fun e w' => e = .returned (.string (bs (decB n))) ∧ w' = w := by
  have hL := decB_len 19 n (by omega)
  have HL := hidden hL
  clear hL
  obtain ⟨N, hN⟩ : ∃ N, decB n = N := ⟨_, rfl⟩
  rw [hN] at HL
  have HN := hidden hN
  rw [hN]
  go_enter Tryd.func40, Tryd.ntmps40
  go_wp2
  go_loopw [0, 3] (fun x v wr => ∃ (m : Nat) (o : Bs), x = .int .u64 (m : Int) ∧ v = .string (bs o) ∧ w = wr ∧ m ≤ n ∧ Hid (decB m ++ o = N)) (fun x _ _ => (intOf x).toNat)
  case atStart => exact ⟨n, [], rfl, rfl, rfl, Nat.le_refl _, hidden (by rw [List.append_nil]; exact HN.out)⟩
  case round =>
    obtain ⟨m, o, rfl, rfl, rfl, hmn, HM⟩ := hrel
    have hrem : ((m : Int)).tmod 10 = ((m % 10 : Nat) : Int) := by rw [Int.tmod_eq_emod_of_nonneg (by omega)]; omega
    have hquo : ((m : Int)).tdiv 10 = ((m / 10 : Nat) : Int) := by rw [Int.tdiv_eq_ediv_of_nonneg (by omega)]; omega
    obtain ⟨d, hd⟩ : ∃ d, m % 10 = d := ⟨_, rfl⟩
    have hd10 : d < 10 := by omega
    rw [hd] at hrem
    have hx := dig_extract d hd10
    have hol : o.length ≤ 20 := by
      have := congrArg List.length HM.out
      rw [List.length_append] at this
      have := HL.out
      omega
    have hs : (bs o).size ≤ 20 := by rw [size_bs]; exact hol
    have hcons : bs [digD d] ++ bs o = bs (digD d :: o) := by rw [bs_app]; rfl
    obtain ⟨oB, ho⟩ : ∃ x, bs o = x := ⟨_, rfl⟩
    rw [ho] at hs hcons ⊢
    have HX := hidden (And.intro hx hcons)
    by_cases h0 : m / 10 = 0
    · have hm10 : m < 10 := by omega
      have hfin : digD d :: o = N := by
        have := HM.out
        rw [decB_small hm10] at this
        have e : m = d := by omega
        rw [← e]; exact this
      rw [h0] at hquo
      have HF := hidden hfin
      clear hx hcons hd ho hfin h0 HM
      go_wp2
      go_ret
      exact ⟨congrArg (fun x => Ending.returned (.string x)) (show (⟨#[48, 49, 50, 51, 52, 53, 54, 55, 56, 57]⟩ : ByteArray).extract d (d + 1) ++ oB = bs N by rw [HX.out.1, HX.out.2, HF.out]), rfl⟩
    · have hm10 : ¬ m < 10 := by omega
      have hnext : decB (m / 10) ++ (digD d :: o) = N := by
        have := HM.out
        rw [decB_great hm10, hd] at this
        simpa using this
      obtain ⟨m2, hm2⟩ : ∃ k, m / 10 = k := ⟨_, rfl⟩
      rw [hm2] at hquo h0 hnext
      have hlt : m2 < m := by omega
      have HF := hidden hnext
      clear hx hcons hd ho hnext hm2 HM
      go_wp2
      exact ⟨⟨m2, digD d :: o, rfl, by rw [HX.out.1, HX.out.2], trivial, by omega, HF⟩, by simp [intOf]; omega⟩
end Go.Proofs.YtbdmdajbdmdknaaDoor
namespace Go.Proofs.YtbdmdajbdmdknaaDoor
open Go.RowKit
set_option linter.unusedVariables false
set_option linter.unusedSimpArgs false

/-- A style in memory. -/
def StyAt (w : World) (g : Nat) (st : Int) : Prop := Row w g 67 [.int .u64 st]
theorem nextS_calls (g : Nat) (st n : Int) (w : World) (h : StyAt w g st) (hn : ¬ n = 0) :
    Calls Tryd.prog 37 #[.pointer (some ⟨g, 0, none⟩), .int .u64 n] w fun e w' => e = .returned (.int .u64 (lcgN st n)) ∧ StyAt w' g (lcg st) ∧ w.grownBy w' (some g) :=
  (next_calls g st n w (h.cell 0) (h.free 0) hn).mono fun e w' hh => by
    obtain ⟨rfl, rfl⟩ := hh
    exact ⟨rfl, h.set 0 _, grown_set w g 0 _⟩
/-- Must a character be escaped. -/
def mustR (c : Int) : Prop := c < 32 ∨ c = 34 ∨ c = 92
instance (c : Int) : Decidable (mustR c) := by unfold mustR; infer_instance
/-- The escape of a character by its number. -/
def hexR (c : Nat) : Bs := if 65536 ≤ c then hexU (55296 + (c - 65536) / 1024) 4 ++ hexU (56320 + (c - 65536) % 1024) 4 else hexU c 4
def encR (c : Int) : Bs := (Utf8.encode c).data.toList
/-- What a style writes of a character that it escapes, and its next state. -/
def escS (st : Int) (c : Nat) : Bs × Int :=
  if shortB c = [] then (hexR c, st)
  else if st = 0 then (shortB c, st)
  else if lcgN st 2 = 0 then (shortB c, lcg st) else (hexR c, lcg st)
/-- What a style writes of a character, and its next state. -/
def runeS (st : Int) (c : Nat) : Bs × Int :=
  if mustR c then escS st c
  else if st = 0 then (encR c, st)
  else if lcgN st 5 = 0 then escS (lcg st) c else (encR c, lcg st)
end Go.Proofs.YtbdmdajbdmdknaaDoor
