/- Which form a text has, and how it is read. -/
import Derived.Test.YtmibnnmampfalaaDoorB64L
namespace Go.Proofs.YtmibnnmampfalaaDoor
open Go.RowKit
set_option linter.unusedVariables false
set_option linter.unusedSimpArgs false

def stdIn (l : List Int) : Bool := l.any fun x => x == 43 || x == 47
def padded? (l : List Int) : Bool := decide (0 < l.length) && (gi l (l.length - 1) == 61)
def padOf (l : List Int) : Int := if padded? l then 61 else -1
def decOf (l : List Int) : Option (List Int) := decA (tab (!stdIn l)) (padOf l) l []
theorem quo_of (n k d : Nat) (h : d = n / k) : ((n : Int)).tdiv (k : Int) = (d : Int) := by subst h; rw [Int.tdiv_eq_ediv_of_nonneg (Int.natCast_nonneg n)]; rfl
theorem rem_of (n k d : Nat) (h : d = n % k) : ((n : Int)).tmod (k : Int) = (d : Int) := by subst h; rw [Int.tmod_eq_emod_of_nonneg (Int.natCast_nonneg n)]; rfl
theorem decodedLen_calls (N M : Nat) (pad : Int) (hp : roomFor pad N M) (hN : N ≤ 100000) (w : World) :
    Calls Tryd.prog 74 #[.int .i64 N, .int .i32 pad] w fun e w' => e = .returned (.int .i64 M) ∧ w' = w := by
  obtain ⟨d, hd⟩ : ∃ d, d = N / 4 := ⟨_, rfl⟩
  obtain ⟨r, hr⟩ : ∃ d, d = N % 4 := ⟨_, rfl⟩
  obtain ⟨r6, hr6⟩ : ∃ d, d = r * 6 := ⟨_, rfl⟩
  obtain ⟨q, hq⟩ : ∃ d, d = r6 / 8 := ⟨_, rfl⟩
  have hdb : d ≤ 25000 := by omega
  have hrb : r < 4 := by omega
  have hqb : q ≤ 2 := by omega
  have hm : (pad = -1 ∧ d * 3 + q = M) ∨ (pad = 61 ∧ d * 3 = M) := by
    rcases hp with ⟨h, hM⟩ | ⟨h, hM⟩
    · exact .inl ⟨h, by rw [hM, ← hd, ← hr, ← hr6, ← hq]⟩
    · exact .inr ⟨h, by rw [hM, ← hd]⟩
  have h1 := quo_of N 4 d hd
  have h2 := rem_of N 4 r hr
  have h3 := quo_of r6 8 q hq
  have e6 : (r : Int) * 6 = (r6 : Int) := by rw [hr6]; rfl
  have hr6b : r6 ≤ 18 := by omega
  clear hp hd hr hr6 hq hN
  have H1 := hidden h1
  have H2 := hidden h2
  have H3 := hidden h3
  clear h1 h2 h3
  have w1 : wrap64 (d : Int) = d := wrap64_id _ (by omega) (by omega)
  have w2 : wrap64 ((d : Int) * 3) = d * 3 := wrap64_id _ (by omega) (by omega)
  have w3 : wrap64 (r6 : Int) = r6 := wrap64_id _ (by omega) (by omega)
  have w4 : wrap64 (q : Int) = q := wrap64_id _ (by omega) (by omega)
  have w5 : wrap64 ((d : Int) * 3 + q) = d * 3 + q := wrap64_id _ (by omega) (by omega)
  have h1 : ((N : Int)).tdiv 4 = (d : Int) := H1.out
  have h2 : ((N : Int)).tmod 4 = (r : Int) := H2.out
  have h3 : ((r6 : Int)).tdiv 8 = (q : Int) := H3.out
  clear H1 H2 H3 hdb hrb hqb hr6b
  rcases hm with ⟨rfl, hm⟩ | ⟨rfl, hm⟩
  · have Hm : Hid ((d : Int) * 3 + q = (M : Int)) := hidden (by rw [← hm]; rfl)
    clear hm
    go_enter Tryd.func74, Tryd.ntmps74
    go_wp2
    go_ret
    exact ⟨congrArg (fun x => Ending.returned (.int .i64 x)) (w5.trans Hm.out), rfl⟩
  · have Hm : Hid ((d : Int) * 3 = (M : Int)) := hidden (by rw [← hm]; rfl)
    clear hm
    go_enter Tryd.func74, Tryd.ntmps74
    go_wp2
    go_ret
    exact ⟨congrArg (fun x => Ending.returned (.int .i64 x)) (w2.trans Hm.out), rfl⟩
theorem decodedLenM_calls (g N M : Nat) (al dm : List Int) (pad : Int) (hp : roomFor pad N M) (hN : N ≤ 100000) (w : World) (hE : EncAt w g al dm pad) :
    Calls Tryd.prog 58 #[.pointer (some ⟨g, 0, none⟩), .int .i64 N] w fun e w' => e = .returned (.int .i64 M) ∧ w' = w := by
  have cp := hE.padc
  have HP := hidden hp
  clear hp hE
  go_enter Tryd.func58, Tryd.ntmps58
  go_wp2_with (go_at_call 74; go_must (refine (decodedLen_calls N M pad HP.out hN _).mono ?_; rintro e w1 ⟨rfl, rfl⟩))
  go_ret
  exact ⟨rfl, rfl⟩
set_option maxHeartbeats 1000000 in
theorem zzStd_calls (A : Option Addr) (n c : Nat) (l : List Int) (w : World) (h : Rd w A (nums .u8 l)) (hn : l.length = n) (hb : IsB l) (hN : n ≤ 100000) (r : Bool) (hr : r = stdIn l) :
    Calls Tryd.prog 76 #[.slice A n c] w fun e w' => e = .returned (.bool r) ∧ w = w' := by
  have Hr := hidden hr
  have Hb := hidden hb
  have H := hidden h
  have Hn := hidden hn
  clear hr hb h hn
  go_enter Tryd.func76, Tryd.ntmps76
  go_wp2
  go_loop [7] (fun i => ∃ k : Nat, k ≤ n ∧ i = .int .i64 k ∧ Hid (∀ j, j < k → ¬ (gi l j = 43 ∨ gi l j = 47))) (fun i => n - (intOf i).toNat)
  case atStart => exact ⟨0, by omega, rfl, hidden (by omega)⟩
  case round =>
    obtain ⟨k, hk, rfl, Hall⟩ := hrel
    by_cases hlt : k < n
    · have hlti : (k : Int) < (n : Int) := by omega
      obtain ⟨b0, o0, rfl, _, c0⟩ := H.out.at k (by rw [Hn.out]; exact hlt)
      obtain ⟨a, ha⟩ : ∃ a : Nat, gi l k = (a : Int) := ⟨(gi l k).toNat, (Int.toNat_of_nonneg (gi_byte Hb.out k).1).symm⟩
      rw [ha] at c0
      have HA := hidden ha
      clear ha
      by_cases hs : a = 43 ∨ a = 47
      · have hrt : r = true := by
          rw [Hr.out, stdIn, List.any_eq_true]
          refine ⟨gi l k, gi_mem (by rw [Hn.out]; exact hlt), ?_⟩
          rw [HA.out]
          rcases hs with rfl | rfl <;> rfl
        subst hrt
        rcases hs with rfl | rfl
        · go_wp2
          go_ret
          exact ⟨rfl, rfl⟩
        · go_wp2
          go_ret
          exact ⟨rfl, rfl⟩
      · have h43 : ((a : Int) == 43) = false := beq_eq_false_iff_ne.2 (by omega)
        have h47 : ((a : Int) == 47) = false := beq_eq_false_iff_ne.2 (by omega)
        have hn43 : ¬ a = 43 := by omega
        have hn47 : ¬ a = 47 := by omega
        clear hs
        go_wp2
        go_round
        case rel => exact ⟨k + 1, by omega, by go_num, hidden (fun j hj => by rcases Nat.lt_succ_iff_lt_or_eq.1 hj with h | rfl; exact Hall.out j h; rw [HA.out]; omega)⟩
        case measure => simp [intOf]; omega
    · obtain rfl : k = n := by omega
      have hrf : r = false := by
        rw [Hr.out, stdIn]
        rw [Bool.eq_false_iff]
        intro h
        obtain ⟨x, hx, hx2⟩ := List.any_eq_true.1 h
        obtain ⟨j, hj, rfl⟩ := List.mem_iff_getElem.1 hx
        have := Hall.out j (by rw [← Hn.out]; exact hj)
        have e : gi l j = l[j] := by simp [gi, List.getD_eq_getElem?_getD, hj]
        rw [e] at this
        simp at hx2
        exact this hx2
      subst hrf
      go_wp2
      go_ret
      exact ⟨rfl, rfl⟩
theorem bytesEqual_calls (A B : Option Addr) (n c n' c' : Nat) (l l' : List Int) (w : World) (h : Rd w A (nums .u8 l)) (hn : l.length = n) (h' : Rd w B (nums .u8 l')) (hn' : l'.length = n') (hb : IsB l) (hb' : IsB l') (r : Bool) (hr : r = decide (l = l')) :
    Calls Tryd.prog 77 #[.slice A n c, .slice B n' c'] w fun e w' => e = .returned (.bool r) ∧ w = w' := by
  have k1 := run_string (P := Tryd.prog) (c := c) Tryd.underlying22 Tryd.underlying5 Tryd.underlying9 h hn
  have k2 := run_string (P := Tryd.prog) (c := c') Tryd.underlying22 Tryd.underlying5 Tryd.underlying9 h' hn'
  have Hr := hidden hr
  clear h h' hn hn' hr
  go_enter Tryd.func77, Tryd.ntmps77
  have k3 := hidden (same_str hb hb')
  go_wp2
  go_ret
  exact ⟨congrArg (fun b => Ending.returned (.bool b)) (k3.out.trans Hr.out.symm), rfl⟩
end Go.Proofs.YtmibnnmampfalaaDoor
