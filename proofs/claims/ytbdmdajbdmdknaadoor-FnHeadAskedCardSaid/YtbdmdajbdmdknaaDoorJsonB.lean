/- Texts of a JSON text: strings.IndexByte, parseRawString, parseRawKey. -/
import Derived.Test.YtbdmdajbdmdknaaDoorJsonA
import Derived.Test.YtbdmdajbdmdknaaDoorM4
import Derived.Deep.DeepCutAuto
import Derived.Deep.CutBlock
namespace Go.Proofs.YtbdmdajbdmdknaaDoor
open Go.RowKit
set_option linter.unusedVariables false
set_option linter.unusedSimpArgs false

set_option maxRecDepth 100000 in
set_option maxHeartbeats 1000000 in
theorem idx0_calls (s : ByteArray) (c : Int) (w : World) :
    Calls Tryd.prog 68 #[.string s, .int .u8 c] w fun e w' => e = .returned (.int .i64 (Go.Lib.indexByte s.data.toList c.toNat.toUInt8)) ∧ w = w' := by
  have hf : Tryd.prog.funcs[85]? = some Tryd.f85 := by kernel_rfl
  go_enter Tryd.func68, Tryd.ntmps68
  go_wp2
  rw [run_callFunc_extern hf (by kernel_rfl) (by kernel_rfl) (by kernel_rfl) (e := Extern.BytealgIndexByte.indexByte) (by kernel_rfl), Go.Lib.run_indexByteString]
  simp only [Result.andThen]
  rw [Oper.upon_value]
  go_wp2
  go_ret
  exact ⟨rfl, rfl⟩
set_option maxRecDepth 100000 in
set_option maxHeartbeats 1000000 in
theorem idx_calls (s : ByteArray) (c : Int) (w : World) :
    Calls Tryd.prog 57 #[.string s, .int .u8 c] w fun e w' => e = .returned (.int .i64 (Go.Lib.indexByte s.data.toList c.toNat.toUInt8)) ∧ w = w' := by
  go_enter Tryd.func57, Tryd.ntmps57
  go_wp2_with (go_at_call 68; go_must (refine (idx0_calls _ _ _).mono ?_; rintro e w1 ⟨rfl, rfl⟩))
  go_ret
  exact ⟨rfl, rfl⟩
/-- An error is made. -/
def NewE (w : World) (e : Ending) (w' : World) : Prop := ∃ T a, e = .returned (.iface T (.pointer (some a))) ∧ Below w.heap.size w w'
set_option maxRecDepth 100000 in
set_option maxHeartbeats 1000000 in
theorem newErr_calls (s : ByteArray) (w : World) : Calls Tryd.prog 48 #[.string s] w (NewE w) := by
  go_enter Tryd.func48, Tryd.ntmps48
  go_wp2
  go_ret
  exact ⟨_, _, rfl, below_alloc0 w _⟩
/-- What the two functions tell of a text: a text and what stands behind it, or an error. -/
def RawOk (w : World) (x y : Bs) (e : Ending) (w' : World) : Prop := e = .returned (.tuple #[.string (bs x), .string (bs y), .nilIface]) ∧ Below w.heap.size w w'
def RawNo (w : World) (e : Ending) (w' : World) : Prop := ∃ t u T a, e = .returned (.tuple #[.string t, .string u, .iface T (.pointer (some a))]) ∧ Below w.heap.size w w'
theorem ret3 {a b c d : ByteArray} {v : Value} (h : a = c) (k : b = d) : Ending.returned (.tuple #[.string a, .string b, v]) = .returned (.tuple #[.string c, .string d, v]) := by rw [h, k]
theorem cut_q {s : ByteArray} {x y : Bs} {n : Nat} (h : s.data.toList = x ++ 34 :: y) (hn : x.length = n) : s.extract 0 n = bs x ∧ s.extract (n + 1) s.size = bs y := by
  subst hn
  rw [extract_take, extract_drop, h]
  refine ⟨by rw [List.take_left], ?_⟩
  rw [List.drop_append, List.drop_eq_nil_of_le (by omega)]
  simp
theorem get_at {s : ByteArray} {x y : Bs} (h : s.data.toList = x ++ 34 :: y) (i : Nat) (hi : i < x.length) (hs : i < s.size) : s[i]'hs = x[i] := by
  have h1 : s[i]'hs = s.data.toList[i]'hs := rfl
  rw [h1]
  have : s.data.toList[i]? = x[i]? := by rw [h, List.getElem?_append_left hi]
  rw [List.getElem?_eq_getElem (show i < s.data.toList.length from hs), List.getElem?_eq_getElem hi, Option.some.injEq] at this
  exact this
set_option maxRecDepth 100000 in
set_option maxHeartbeats 1000000 in
theorem rawStr_no (s : ByteArray) (w : World) (hN : s.size ≤ 1000000000) (h : (34 : UInt8) ∉ s.data.toList) (hi : Go.Lib.indexByte s.data.toList 34 = -1) :
    Calls Tryd.prog 77 #[.string s] w (RawNo w) := by
  have HI : Hid (Go.Lib.indexByte s.data.toList (34 : Int).toNat.toUInt8 = -1) := hidden hi
  clear hi h
  go_enter Tryd.func77, Tryd.ntmps77
  go_wp2_with (first
    | (go_at_call 57; go_must (refine (idx_calls _ _ _).mono ?_; rintro e w1 ⟨rfl, rfl⟩; rw [HI.out]))
    | (go_at_call 48; go_must (refine (newErr_calls _ _).mono ?_; rintro e w1 ⟨T, a, rfl, hB⟩; have HB := hidden hB; clear hB)))
  go_ret3
  exact ⟨_, _, _, _, rfl, HB.out⟩
def RawP (w : World) (r : Option (Bs × Bs)) (e : Ending) (w' : World) : Prop := match r with
  | some p => RawOk w p.1 p.2 e w'
  | none => RawNo w e w'
set_option maxRecDepth 100000 in
set_option maxHeartbeats 1000000 in
theorem rawStr_fast0 (s : ByteArray) (w : World) (hN : s.size ≤ 1000000000) (y : Bs) (h : s.data.toList = 34 :: y) :
    Calls Tryd.prog 77 #[.string s] w (RawOk w [] y) := by
  have HI : Hid (Go.Lib.indexByte s.data.toList (34 : Int).toNat.toUInt8 = 0) := hidden (by rw [h]; rfl)
  have HC := hidden (cut_q (x := []) (n := 0) h rfl)
  have hsz : 1 ≤ s.size := by rw [size_toL, h]; simp
  clear h
  go_enter Tryd.func77, Tryd.ntmps77
  go_wp2_with (first
    | (go_at_call 57; go_must (refine (idx_calls _ _ _).mono ?_; rintro e w1 ⟨rfl, rfl⟩; rw [HI.out])))
  go_quiet (fail)
  go_wp2
  go_ret3
  exact ⟨ret3 rfl HC.out.2, below_drewN0 (Below.refl _ _) _⟩
set_option maxRecDepth 100000 in
set_option maxHeartbeats 1000000 in
theorem rawStr_fast (s : ByteArray) (w : World) (hN : s.size ≤ 1000000000) (x y : Bs) (q : Nat) (h : s.data.toList = x ++ 34 :: y) (hx : x.length = q + 1) (hi : Go.Lib.indexByte s.data.toList 34 = (x.length : Int)) (c : UInt8) (hc : ∀ hs, s[q]'hs = c) (h92 : c ≠ 92) :
    Calls Tryd.prog 77 #[.string s] w (RawOk w x y) := by
  have HI : Hid (Go.Lib.indexByte s.data.toList (34 : Int).toNat.toUInt8 = (q : Int) + 1) := hidden (by rw [show (34 : Int).toNat.toUInt8 = 34 from rfl, hi, hx]; rfl)
  have HC := hidden (cut_q h hx)
  have hsz : q + 2 ≤ s.size := by rw [size_toL, h, List.length_append, hx]; simp; omega
  have hqs : q < s.size := by omega
  have hcq := hc hqs
  obtain ⟨a, ha⟩ : ∃ a : Nat, c.toNat = a := ⟨_, rfl⟩
  obtain ⟨e1, f1⟩ := ne_both (a := a) (k := 92) (fun e => h92 (UInt8.toNat_inj.1 (by rw [ha]; show a = 92; omega)))
  clear h hx hi hc h92
  go_enter Tryd.func77, Tryd.ntmps77
  go_wp2_with (first
    | (go_at_call 57; go_must (refine (idx_calls _ _ _).mono ?_; rintro e w1 ⟨rfl, rfl⟩; rw [HI.out])))
  go_quiet (fail)
  go_wp2
  go_ret3
  exact ⟨ret3 HC.out.1 HC.out.2, below_drewN0 (Below.refl _ _) _⟩
/-- A text of which a part is read: what is left, whose first quotation mark may be escaped. -/
structure RS (L : Bs) (s1 : ByteArray) (q p : Nat) (pre x y : Bs) : Prop where
  cut : s1.data.toList = x ++ 34 :: y
  len : x.length = q + 1
  no : (34 : UInt8) ∉ x
  last : ∀ h, x[q]'h = 92
  all : L = pre ++ s1.data.toList
  plen : pre.length = p
  raw : rawS false L = (rawS false s1.data.toList).map fun z => (pre ++ z.1, z.2)
theorem RS.start {s : ByteArray} {x y : Bs} {q : Nat} (h : s.data.toList = x ++ 34 :: y) (hx : x.length = q + 1) (hno : (34 : UInt8) ∉ x) (hl : ∀ h, x[q]'h = 92) : RS s.data.toList s q 0 [] x y :=
  ⟨h, hx, hno, hl, rfl, rfl, by cases rawS false s.data.toList <;> rfl⟩
theorem tail_of {x : Bs} {q i : Nat} (hx : x.length = q + 1) (hi : i ≤ q + 1) (hall : ∀ j (h : j < x.length), i ≤ j → x[j] = 92) (hno : i = 0 ∨ ∀ h, x[i - 1]'h ≠ 92) : TailS x i :=
  ⟨by omega, hall, fun h h0 => by
    rcases hno with e | e
    · omega
    · exact e h⟩
section
variable {L : Bs} {s1 : ByteArray} {q p : Nat} {pre x y : Bs}
theorem RS.even (h : RS L s1 q p pre x y) {i : Nat} (ht : TailS x i) (he : (q + 1 - i) % 2 = 0) : rawS false L = some (pre ++ x, y) := by
  rw [h.raw, h.cut, rawS_even ht h.no (by rw [h.len]; exact he)]; rfl
theorem RS.odd (h : RS L s1 q p pre x y) {i : Nat} (ht : TailS x i) (he : (q + 1 - i) % 2 = 1) : rawS false L = (rawS false y).map fun z => (pre ++ (x ++ 34 :: z.1), z.2) := by
  rw [h.raw, h.cut, rawS_odd ht h.no (by rw [h.len]; exact he)]
  cases rawS false y <;> rfl
theorem RS.size (h : RS L s1 q p pre x y) : s1.size = q + 2 + y.length := by
  rw [size_toL, h.cut, List.length_append, h.len]; simp; omega
theorem RS.next (h : RS L s1 q p pre x y) {i : Nat} (ht : TailS x i) (he : (q + 1 - i) % 2 = 1) {s2 : ByteArray} (hs : s2.data.toList = y) {x2 y2 : Bs} {q2 : Nat} (h2 : y = x2 ++ 34 :: y2) (hx2 : x2.length = q2 + 1) (hno : (34 : UInt8) ∉ x2) (hl : ∀ h, x2[q2]'h = 92) : RS L s2 q2 (p + (q + 2)) (pre ++ (x ++ [34])) x2 y2 := by
  refine ⟨hs.trans h2, hx2, hno, hl, ?_, ?_, ?_⟩
  · rw [h.all, h.cut, hs]; simp
  · rw [List.length_append, List.length_append, h.plen, h.len]; simp
  · rw [h.odd ht he, hs]
    cases rawS false y <;> simp
theorem RS.done (h : RS L s1 q p pre x y) {i : Nat} (ht : TailS x i) (he : (q + 1 - i) % 2 = 1) {x2 y2 : Bs} (h2 : y = x2 ++ 34 :: y2) (hr : rawS false y = some (x2, y2)) : rawS false L = some (pre ++ (x ++ [34]) ++ x2, y2) := by
  rw [h.odd ht he, hr]; simp
end
theorem take_pre {s : ByteArray} {a b : Bs} {n : Nat} (h : s.data.toList = a ++ b) (hn : a.length = n) : s.extract 0 n = bs a := by
  subst hn
  rw [extract_take, h, List.take_left]
theorem idx34 (s : ByteArray) {x y : Bs} (h : s.data.toList = x ++ 34 :: y) (hx : (34 : UInt8) ∉ x) : Go.Lib.indexByte s.data.toList 34 = (x.length : Int) := by
  rcases idx_cases s.data.toList with ⟨_, h2⟩ | ⟨x', y', h2, h3, h4⟩
  · exact absurd (by rw [h]; simp) h2
  · have e : x = x' := by
      have h5 := h.symm.trans h2
      clear h h2 h4
      induction x generalizing x' with
      | nil =>
        cases x' with
        | nil => rfl
        | cons c x' => simp at h5; exact absurd (by rw [← h5.1]; exact List.mem_cons_self) h3
      | cons c x ih =>
        cases x' with
        | nil => simp at h5; exact absurd (by rw [h5.1]; exact List.mem_cons_self) hx
        | cons c' x' =>
          simp only [List.cons_append, List.cons.injEq] at h5
          rw [h5.1, ih (fun hm => hx (List.mem_cons_of_mem _ hm)) x' (fun hm => h3 (List.mem_cons_of_mem _ hm)) h5.2]
    rw [h4, e]
set_option maxRecDepth 100000 in
set_option maxHeartbeats 4000000 in
theorem rawStr_slow (s : ByteArray) (w : World) (hN : s.size ≤ 1000000000) (x y : Bs) (q : Nat) (h : s.data.toList = x ++ 34 :: y) (hx : x.length = q + 1) (hno : (34 : UInt8) ∉ x) (hl : ∀ h, x[q]'h = 92) (r : Option (Bs × Bs)) (hr : r = rawS false s.data.toList) :
    Calls Tryd.prog 77 #[.string s] w (RawP w r) := by
  have HI : Hid (Go.Lib.indexByte s.data.toList (34 : Int).toNat.toUInt8 = (q : Int) + 1) := hidden (by rw [show (34 : Int).toNat.toUInt8 = 34 from rfl, idx34 s h hno, hx]; rfl)
  have HS := hidden (RS.start h hx hno hl)
  have Hr := hidden hr
  have hsz : q + 2 ≤ s.size := by rw [size_toL, h, List.length_append, hx]; simp; omega
  have hqs : q < s.size := by omega
  obtain ⟨c, hc⟩ : ∃ c, s[q]'hqs = c := ⟨_, rfl⟩
  have hc92 : c = 92 := by rw [← hc, get_at h q (by omega) hqs]; exact hl _
  subst hc92
  have hz1 : (((q : Int) + 1) == 0) = false := beq_eq_false_iff_ne.2 (by omega)
  have hz2 : decide ((q : Int) + 1 < 0) = false := decide_eq_false (by omega)
  clear h hx hl hno hr
  go_enter Tryd.func77, Tryd.ntmps77
  go_wp2_with (first
    | (go_at_call 57; go_must (refine (idx_calls _ _ _).mono ?_; rintro e w1 ⟨rfl, rfl⟩; rw [HI.out])))
  go_loop [0, 5] (fun u n => ∃ (s1 : ByteArray) (q1 : Nat), u = .string s1 ∧ n = .int .i64 ((q1 : Int) + 1) ∧ s1.size ≤ s.size ∧ Hid (∃ p pre x y, RS s.data.toList s1 q1 p pre x y)) (fun u _ => match u with | .string s1 => s1.size | _ => 0)
  case atStart => exact ⟨s, q, rfl, rfl, Nat.le_refl _, hidden ⟨_, _, _, _, HS.out⟩⟩
  case round =>
    obtain ⟨s1, q1, rfl, rfl, hle, HR⟩ := hrel
    obtain ⟨p, pre, x, y, hR⟩ := HR.out
    have hs1 : q1 + 2 ≤ s1.size := by have := hR.size; omega
    have HR1 := hidden hR
    clear hR HR hc
    go_upto_block 2 with (fail)
    go_cut [7] (fun i wy => ∃ k : Nat, k ≤ q1 ∧ i = .int .i64 k ∧ Hid (TailS x k) ∧ wy = w)
    case first =>
      go_wp2
      go_loop [7] (fun i => ∃ k : Nat, k ≤ q1 ∧ i = .int .i64 k ∧ Hid (∀ j (h : j < x.length), k ≤ j → x[j] = 92)) (fun i => (intOf i).toNat)
      case atStart => exact ⟨q1, Nat.le_refl _, rfl, hidden (fun j hj hk => by
        have e : j = q1 := by have := HR1.out.len; omega
        subst e; exact HR1.out.last hj)⟩
      case round =>
        obtain ⟨k, hk, rfl, HA⟩ := hrel
        by_cases h0 : k = 0
        · subst h0
          have HT := hidden (tail_of (i := 0) HR1.out.len (by omega) HA.out (.inl rfl))
          go_wp2
          go_meet
          case rel => exact ⟨0, by omega, rfl, HT, rfl⟩
        · obtain ⟨k', rfl⟩ : ∃ k', k = k' + 1 := ⟨k - 1, by omega⟩
          have hks : k' < s1.size := by omega
          have hkx : k' < x.length := by have := HR1.out.len; omega
          obtain ⟨c, hc⟩ : ∃ c, s1[k']'hks = c := ⟨_, rfl⟩
          have hcx : x[k'] = c := by rw [← hc, get_at HR1.out.cut k' hkx hks]
          by_cases h92 : c = 92
          · subst h92
            have HA2 := hidden (fun j (hj : j < x.length) (hkj : k' ≤ j) => (by
              rcases Nat.lt_or_ge j (k' + 1) with h | h
              · have e : j = k' := by omega
                subst e; exact hcx
              · exact HA.out j hj h : x[j] = 92))
            clear h0 hcx
            go_wp2
            go_round
            case rel => exact ⟨k', by omega, by go_num, HA2⟩
            case measure => simp [intOf]
          · have HT := hidden (tail_of (i := k' + 1) HR1.out.len (by omega) HA.out (.inr (fun h => (fun e => h92 (hcx.symm.trans e) : x[k'] ≠ 92))))
            obtain ⟨a, ha⟩ : ∃ a : Nat, c.toNat = a := ⟨_, rfl⟩
            obtain ⟨e1, f1⟩ := ne_both (a := a) (k := 92) (fun e => h92 (UInt8.toNat_inj.1 (by rw [ha]; show a = 92; omega)))
            clear h0 hcx h92
            go_wp2
            go_meet
            case rel => exact ⟨k' + 1, hk, by go_num, HT, rfl⟩
    case rest =>
      obtain ⟨k, hk, rfl, HT, rfl⟩ := hcut
      obtain ⟨m, hm⟩ : ∃ m, q1 + 1 - k = m := ⟨_, rfl⟩
      have hw1 : IntKind.i64.wrap ((q1 : Int) + 1 - (k : Int)) = (m : Int) := by rw [IntKind.wrap_i64]; omega
      have hw2 : (q1 : Int) + 1 - (k : Int) = (m : Int) := by omega
      have HM := hidden hm
      by_cases he : m % 2 = 0
      · have hp1 : ((m : Int) % 2 == 0) = true := by rw [show (m : Int) % 2 = 0 by omega]; rfl
        have hp2 : (((m : Int)).tmod 2 == 0) = true := by rw [Int.tmod_eq_emod_of_nonneg (by omega)]; exact hp1
        have HE := hidden he
        have hps : s.size = p + s1.size := by rw [size_toL s, HR1.out.all, List.length_append, HR1.out.plen]; rfl
        have hre := Hr.out.trans (HR1.out.even HT.out (by rw [HM.out]; exact he))
        subst hre
        obtain ⟨t, ht⟩ : ∃ t, p + (q1 + 1) = t := ⟨_, rfl⟩
        have ht2 : t ≤ s.size := by omega
        have HC1 := hidden (take_pre (s := s) (a := pre ++ x) (b := 34 :: y) (n := t) (by rw [HR1.out.all, HR1.out.cut, List.append_assoc]) (by rw [List.length_append, HR1.out.plen, HR1.out.len, ht]))
        have HC2 := hidden (cut_q HR1.out.cut HR1.out.len).2
        have hw4 : IntKind.i64.wrap ((s.size : Int) - (s1.size : Int)) = (p : Int) := by rw [IntKind.wrap_i64]; omega
        have hw5 : IntKind.i64.wrap ((p : Int) + ((q1 : Int) + 1)) = (t : Int) := by rw [IntKind.wrap_i64]; omega
        have hw6 : IntKind.i64.wrap ((q1 : Int) + 1 + 1) = ((q1 + 2 : Nat) : Int) := by rw [IntKind.wrap_i64]; omega
        have hs2 : q1 + 2 ≤ s1.size := hs1
        clear hm he hps ht
        go_wp2
        go_quiet (fail)
        go_wp2
        go_ret3
        exact ⟨ret3 HC1.out HC2.out, below_drewN0 (Below.refl _ _) _⟩
      · have hp1 : ((m : Int) % 2 == 0) = false := by rw [show (m : Int) % 2 = 1 by omega]; rfl
        have hp2 : (((m : Int)).tmod 2 == 0) = false := by rw [Int.tmod_eq_emod_of_nonneg (by omega)]; exact hp1
        have hodd : (q1 + 1 - k) % 2 = 1 := by omega
        have HO := hidden hodd
        obtain ⟨s2, hs2⟩ : ∃ s2, s1.extract (q1 + 1 + 1) s1.size = s2 := ⟨_, rfl⟩
        have hy : s2.data.toList = y := by rw [← hs2, (cut_q HR1.out.cut HR1.out.len).2, toL_bs]
        have hps : s.size = p + s1.size := by rw [size_toL s, HR1.out.all, List.length_append, HR1.out.plen]; rfl
        have hss : s1.size = q1 + 2 + s2.size := by have := HR1.out.size; rw [size_toL s2, hy]; exact this
        have hp3 : s.size = p + (q1 + 2) + s2.size := by omega
        have hlt2 : s2.size < s1.size := by omega
        obtain ⟨p2, hp2d⟩ : ∃ p2, p + (q1 + 2) = p2 := ⟨_, rfl⟩
        rw [hp2d] at hp3
        have HP2 := hidden hp2d
        have HY := hidden hy
        have HP3 := hidden hp3
        have hs2le : s2.size ≤ s.size := by omega
        have hw4 : IntKind.i64.wrap ((s.size : Int) - (s2.size : Int)) = (p2 : Int) := by rw [IntKind.wrap_i64]; omega
        clear hm he hodd hps hss hp2d hp3
        rcases idx_cases y with ⟨hi, hno⟩ | ⟨x2, y2, hxy, hno, hi⟩
        · have HI2 : Hid (Go.Lib.indexByte s2.data.toList (34 : Int).toNat.toUInt8 = -1) := hidden (by rw [hy]; exact hi)
          have hre : r = none := by rw [Hr.out, HR1.out.odd HT.out HO.out, rawS_none _ _ hno]; rfl
          subst hre
          clear hi hno hy
          go_wp2_with (first
            | (go_at_call 57; go_must (refine (idx_calls _ _ _).mono ?_; rintro e w1 ⟨rfl, rfl⟩; rw [HI2.out]))
            | (go_at_call 48; go_must (refine (newErr_calls _ _).mono ?_; rintro e w1 ⟨T, a, rfl, hB⟩; have HB := hidden hB; clear hB)))
          go_ret3
          exact ⟨_, _, _, _, rfl, HB.out⟩
        · rcases Nat.eq_zero_or_pos x2.length with h0 | h0
          · have hx0 : x2 = [] := List.eq_nil_of_length_eq_zero h0
            subst hx0
            have hsz2 : 1 ≤ s2.size := by rw [size_toL s2, hy, hxy]; simp
            have HI2 : Hid (Go.Lib.indexByte s2.data.toList (34 : Int).toNat.toUInt8 = 0) := hidden (by rw [hy]; exact hi)
            have hre := Hr.out.trans (HR1.out.done HT.out HO.out hxy (x2 := []) (by rw [hxy]; rfl))
            subst hre
            have HC1 := hidden (take_pre (s := s) (a := pre ++ (x ++ [34]) ++ []) (b := 34 :: y2) (n := p2) (by rw [HR1.out.all, HR1.out.cut, hxy]; simp) (by rw [← HP2.out, List.append_nil, List.length_append, List.length_append, HR1.out.plen, HR1.out.len]; simp))
            have HC2 := hidden (cut_q (HY.out.trans hxy) rfl).2
            have hp2le : p2 ≤ s.size := by have := HP3.out; omega
            have hw5 : IntKind.i64.wrap ((p2 : Int) + 0) = (p2 : Int) := by rw [IntKind.wrap_i64]; omega
            clear hi hno hy h0 hxy
            go_wp2_with (first
              | (go_at_call 57; go_must (refine (idx_calls _ _ _).mono ?_; rintro e w1 ⟨rfl, rfl⟩; rw [HI2.out])))
            go_quiet (fail)
            go_wp2
            go_ret3
            exact ⟨ret3 HC1.out HC2.out, below_drewN0 (Below.refl _ _) _⟩
          · obtain ⟨q2, hq2⟩ : ∃ q2, x2.length = q2 + 1 := ⟨x2.length - 1, by omega⟩
            have HI2 : Hid (Go.Lib.indexByte s2.data.toList (34 : Int).toNat.toUInt8 = (q2 : Int) + 1) := hidden (by rw [hy, show (34 : Int).toNat.toUInt8 = 34 from rfl, hi, hq2]; rfl)
            have hsz2 : q2 + 2 ≤ s2.size := by rw [size_toL s2, hy, hxy, List.length_append, hq2]; simp; omega
            have hqs2 : q2 < s2.size := by omega
            obtain ⟨c, hc⟩ : ∃ c, s2[q2]'hqs2 = c := ⟨_, rfl⟩
            have hcx : ∀ h, x2[q2]'h = c := fun h => by rw [← hc, get_at (HY.out.trans hxy) q2 h hqs2]
            by_cases h92 : c = 92
            · subst h92
              have HN := hidden (HR1.out.next HT.out HO.out hy hxy hq2 hno hcx)
              clear hi hno hy h0 hxy hq2 hcx hw4
              go_wp2_with (first
                | (go_at_call 57; go_must (refine (idx_calls _ _ _).mono ?_; rintro e w1 ⟨rfl, rfl⟩; rw [HI2.out])))
              go_round
              case rel => exact ⟨s2, q2, rfl, by go_num, hs2le, hidden ⟨_, _, _, _, HN.out⟩⟩
              case measure => simp; omega
            · obtain ⟨a, ha⟩ : ∃ a : Nat, c.toNat = a := ⟨_, rfl⟩
              obtain ⟨e1, f1⟩ := ne_both (a := a) (k := 92) (fun e => h92 (UInt8.toNat_inj.1 (by rw [ha]; show a = 92; omega)))
              have hTx : TailS x2 (q2 + 1) := ⟨by omega, fun j hj hk => by omega, fun h _ => by
                have := hcx (by omega)
                show x2[q2] ≠ 92
                rw [this]; exact h92⟩
              have hre := Hr.out.trans (HR1.out.done HT.out HO.out hxy (x2 := x2) (by rw [hxy, rawS_even hTx hno (by rw [hq2]; simp)]))
              subst hre
              obtain ⟨t, ht⟩ : ∃ t, p2 + (q2 + 1) = t := ⟨_, rfl⟩
              have ht2 : t ≤ s.size := by have := HP3.out; omega
              have HC1 := hidden (take_pre (s := s) (a := pre ++ (x ++ [34]) ++ x2) (b := 34 :: y2) (n := t) (by rw [HR1.out.all, HR1.out.cut, hxy]; simp) (by rw [← ht, ← HP2.out, List.length_append, List.length_append, List.length_append, HR1.out.plen, HR1.out.len, hq2]; simp))
              have HC2 := hidden (cut_q (HY.out.trans hxy) hq2).2
              have hw5 : IntKind.i64.wrap ((p2 : Int) + ((q2 : Int) + 1)) = (t : Int) := by rw [IntKind.wrap_i64]; omega
              have hw6 : IntKind.i64.wrap ((q2 : Int) + 1 + 1) = ((q2 + 2 : Nat) : Int) := by rw [IntKind.wrap_i64]; omega
              clear hi hno hy h0 hxy hq2 hcx h92 hTx ht
              go_wp2_with (first
                | (go_at_call 57; go_must (refine (idx_calls _ _ _).mono ?_; rintro e w1 ⟨rfl, rfl⟩; rw [HI2.out])))
              go_quiet (fail)
              go_wp2
              go_ret3
              exact ⟨ret3 HC1.out HC2.out, below_drewN0 (Below.refl _ _) _⟩
theorem rawStr_calls (s : ByteArray) (w : World) (hN : s.size ≤ 1000000000) (r : Option (Bs × Bs)) (hr : r = rawS false s.data.toList) :
    Calls Tryd.prog 77 #[.string s] w (RawP w r) := by
  rcases idx_cases s.data.toList with ⟨hi, hno⟩ | ⟨x, y, hxy, hno, hi⟩
  · rw [hr, rawS_none _ _ hno]
    exact rawStr_no s w hN hno hi
  · rcases Nat.eq_zero_or_pos x.length with h0 | h0
    · have hx0 : x = [] := List.eq_nil_of_length_eq_zero h0
      subst hx0
      rw [hr, hxy]
      exact rawStr_fast0 s w hN y hxy
    · obtain ⟨q, hq⟩ : ∃ q, x.length = q + 1 := ⟨x.length - 1, by omega⟩
      by_cases h92 : x[q]'(by omega) = 92
      · exact rawStr_slow s w hN x y q hxy hq hno (fun h => h92) r hr
      · have hTx : TailS x (q + 1) := ⟨by omega, fun j hj hk => by omega, fun h _ => h92⟩
        have e : rawS false s.data.toList = some (x, y) := by rw [hxy, rawS_even hTx hno (by rw [hq]; simp)]
        rw [hr, e]
        exact rawStr_fast s w hN x y q hxy hq hi _ (fun hs => get_at hxy q (by omega) hs) h92
/-- Ahead of a place there is neither a quotation mark nor a backslash. -/
structure Clear (l : Bs) (k : Nat) : Prop where
  no34 : (34 : UInt8) ∉ l.take k
  no92 : (92 : UInt8) ∉ l.take k
theorem Clear.zero (l : Bs) : Clear l 0 := ⟨by simp, by simp⟩
theorem Clear.succ {l : Bs} {k : Nat} (h : Clear l k) (hk : k < l.length) (h1 : l[k] ≠ 34) (h2 : l[k] ≠ 92) : Clear l (k + 1) := by
  refine ⟨?_, ?_⟩ <;> rw [List.take_succ_eq_append_getElem hk, List.mem_append, List.mem_singleton]
  · exact fun e => e.elim h.no34 (fun e => h1 e.symm)
  · exact fun e => e.elim h.no92 (fun e => h2 e.symm)
theorem stS_clear : ∀ (x : Bs), (92 : UInt8) ∉ x → stS false x = false
  | [], _ => rfl
  | c :: x, h => by
    have hc : (c == 92) = false := beq_eq_false_iff_ne.2 (fun e => h (by rw [e]; exact List.mem_cons_self))
    rw [stS_f, hc]
    exact stS_clear x (fun hm => h (List.mem_cons_of_mem _ hm))
theorem Clear.at_ {l : Bs} {k : Nat} (h : Clear l k) (hk : k < l.length) (h34 : l[k] = 34) : rawS false l = some (l.take k, l.drop (k + 1)) := by
  have e : l = l.take k ++ 34 :: l.drop (k + 1) := by
    conv => lhs; rw [← List.take_append_drop k l, List.drop_eq_getElem_cons hk, h34]
  conv => lhs; rw [e]
  rw [rawS_pass _ _ _ h.no34, stS_clear _ h.no92]
  simp [rawS]
theorem Clear.end_ {l : Bs} (h : Clear l l.length) : rawS false l = none := rawS_none _ _ (by have := h.no34; rwa [List.take_length] at this)
theorem get_toL {s : ByteArray} {k : Nat} (hk : k < s.size) : s.data.toList[k]'hk = s[k]'hk := rfl
theorem len_toL (s : ByteArray) : s.data.toList.length = s.size := rfl
theorem cut_key {s : ByteArray} {k : Nat} : s.extract 0 k = bs (s.data.toList.take k) ∧ s.extract (k + 1) s.size = bs (s.data.toList.drop (k + 1)) := ⟨extract_take s k, extract_drop s (k + 1)⟩
set_option maxRecDepth 100000 in
set_option maxHeartbeats 1000000 in
theorem rawKey_calls (s : ByteArray) (w : World) (hN : s.size ≤ 1000000000) (r : Option (Bs × Bs)) (hr : r = rawS false s.data.toList) :
    Calls Tryd.prog 90 #[.string s] w (RawP w r) := by
  have Hr := hidden hr
  have HS := hidden (rawStr_calls s w hN r hr)
  clear hr
  go_enter Tryd.func90, Tryd.ntmps90
  go_wp2
  go_loop [8] (fun i => ∃ k : Nat, k ≤ s.size ∧ i = .int .i64 k ∧ Hid (Clear s.data.toList k)) (fun i => s.size - (intOf i).toNat)
  case atStart => exact ⟨0, by omega, rfl, hidden (Clear.zero _)⟩
  case round =>
    obtain ⟨k, hk, rfl, HC⟩ := hrel
    by_cases hlt : k < s.size
    · have hlti : (k : Int) < (s.size : Int) := by omega
      obtain ⟨c, hc⟩ : ∃ c, s[k]'hlt = c := ⟨_, rfl⟩
      by_cases h34 : c = 34
      · subst h34
        have hre := Hr.out.trans (HC.out.at_ hlt hc)
        subst hre
        have hw6 : IntKind.i64.wrap ((k : Int) + 1) = ((k + 1 : Nat) : Int) := by rw [IntKind.wrap_i64]; omega
        have HK := hidden (@cut_key s k)
        go_wp2_with (fail)
        go_quiet (fail)
        go_wp2
        go_ret3
        exact ⟨ret3 HK.out.1 HK.out.2, below_drewN0 (Below.refl _ _) _⟩
      · obtain ⟨a, ha⟩ : ∃ a : Nat, c.toNat = a := ⟨_, rfl⟩
        obtain ⟨e1, f1⟩ := ne_both (a := a) (k := 34) (fun e => h34 (UInt8.toNat_inj.1 (by rw [ha]; show a = 34; omega)))
        by_cases h92 : c = 92
        · subst h92
          cases r with
          | none =>
            clear h34 ha e1 f1
            go_wp2_with (go_at_call 77; go_must (refine HS.out.mono ?_; rintro e w1 ⟨t, u, T, a, rfl, hB⟩; have HB := hidden hB; clear hB; dsimp only))
            go_ret3
            exact ⟨_, _, _, _, rfl, HB.out⟩
          | some z =>
            obtain ⟨x, y⟩ := z
            clear h34 ha e1 f1
            go_wp2_with (go_at_call 77; go_must (refine HS.out.mono ?_; rintro e w1 ⟨rfl, hB⟩; have HB := hidden hB; clear hB; dsimp only))
            go_ret3
            exact ⟨rfl, HB.out⟩
        · obtain ⟨e2, f2⟩ := ne_both (a := a) (k := 92) (fun e => h92 (UInt8.toNat_inj.1 (by rw [ha]; show a = 92; omega)))
          have HN := hidden (HC.out.succ hlt (by rw [get_toL hlt, hc]; exact h34) (by rw [get_toL hlt, hc]; exact h92))
          clear h34 h92
          go_wp2_with (fail)
          go_round
          case rel => exact ⟨k + 1, by omega, by go_num, HN⟩
          case measure => simp [intOf]; omega
    · obtain rfl : k = s.size := by omega
      have hre := Hr.out.trans (HC.out.end_)
      subst hre
      go_wp2_with (go_at_call 48; go_must (refine (newErr_calls _ _).mono ?_; rintro e w1 ⟨T, a, rfl, hB⟩; have HB := hidden hB; clear hB))
      go_ret3
      exact ⟨_, _, _, _, rfl, HB.out⟩
end Go.Proofs.YtbdmdajbdmdknaaDoor
