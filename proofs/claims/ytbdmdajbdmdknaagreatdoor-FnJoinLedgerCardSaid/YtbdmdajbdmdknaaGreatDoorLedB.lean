/- HeadString and Split, at every text. -/
import Derived.Test.YtbdmdajbdmdknaaGreatDoorM4
import Derived.Test.YtbdmdajbdmdknaaGreatDoorM7
import Derived.Test.YtbdmdajbdmdknaaGreatDoorUnescD
import Derived.Test.YtbdmdajbdmdknaaGreatDoorM18
namespace Go.Proofs.YtbdmdajbdmdknaaGreatDoor
open Go.RowKit
set_option linter.unusedVariables false
set_option linter.unusedSimpArgs false

theorem atoiNo_of (q : Bs) (hq : q.length ≤ 1000) (h : Lib.atoiAll q = .«syntax») : AtoiNo q := by
  intro w hS
  obtain ⟨T, a, hv⟩ := hS
  have hc := Any.strconv_Atoi_syntax (P := Tryz.prog) Tryz.lAT (bs q) (by rw [size_bs]; omega) (by rw [toL_bs]; exact h) (.iface T (.pointer (some a))) w hv (.inr ⟨_, _, rfl⟩)
  refine Calls.mono hc ?_
  rintro e w' ⟨N, rfl, _, _, hB⟩
  exact ⟨_, _, _, rfl, hB⟩
theorem atoiNo_alg : AtoiNo [97, 108, 103] := atoiNo_of _ (by decide) (by decide)
theorem atoiNo_kid : AtoiNo [107, 105, 100] := atoiNo_of _ (by decide) (by decide)
theorem getJ_mem {un : Bs → Bs} {l : List (Bs × JV)} {q : Bs} {v : JV} (h : getJ un l q = some v) : ∃ p ∈ l, p.2 = v := by
  unfold getJ at h
  split at h
  · rename_i p hp
    cases h
    split at hp
    · cases hp
    · exact ⟨p, List.mem_of_find?_eq_some hp, rfl⟩
  · obtain ⟨p, hp, rfl⟩ := Option.map_eq_some_iff.1 h
    exact ⟨p, List.mem_of_find?_eq_some hp, rfl⟩
theorem bI_str {l : List Int} (h : IsB l) : bI (strOfNums l) = l := by
  unfold bI
  rw [strOfNums_data, List.map_map]
  conv => { rhs; rw [← List.map_id l] }
  apply List.map_congr_left
  intro x hx
  have := h x hx
  simp [Function.comp]
  omega
theorem headStr_any (W : World) (A : Option Addr) (n c : Nat) (t : List Int) (h : ArgB W A n c t) (hn : n ≤ 10000000) (q : Bs) (hq : AtoiNo q) (hS : SynAt W) :
    Calls Tryz.prog 29 #[.slice A n c, .string (bs q)] W fun e w' => (∃ v b, e = .returned (.tuple #[.string v, .bool b])) ∧ Below W.heap.size W w' := by
  have hb := bI_str h.isB
  have hsz : (strOfNums t).size = n := by
    have := congrArg List.length hb
    rw [bI_len] at this
    rw [this]; exact h.len
  have hln : (strOfNums t).data.toList.length = n := hsz
  refine (implHeadString_calls W (strOfNums t) A n c unB q (by rw [hb]; exact h.rd) hsz h.cap h.nil (by omega) _ rfl ?_ ?_ hS _ rfl).mono ?_
  · intro v hv
    have ht := pText_top hv
    refine ⟨⟨fun l e => ⟨fun p hp => unC_all _ (by have := ((ht.obj l e).2 p hp).1; omega), by have := (ht.obj l e).1; omega⟩, fun l e => hq⟩, fun u e => by have := ht.flat.lit u e; omega⟩
  · intro v hv
    unfold headV at hv
    split at hv
    · rename_i u hu
      have ht := pText_top hu
      unfold getV at hv
      split at hv
      · rename_i l
        obtain ⟨p, hp, rfl⟩ := getJ_mem hv
        have hf := ((ht.obj l rfl).2 p hp).2
        exact ⟨fun t e => by have := hf.lit t e; omega, fun s e => unC_all s (by have := hf.str s e; omega)⟩
      · cases hv
    · cases hv
  · rintro e w' ⟨hB, rfl⟩
    exact ⟨⟨_, _, rfl⟩, hB⟩
set_option maxHeartbeats 1000000 in
theorem splitC_no3 (A : Option Addr) (n c : Nat) (p q s t : List Int) (w : World) (a : Addr) (hE : ErrAt w a) (h : ArgB w A n c (p ++ 46 :: (q ++ 46 :: (s ++ 46 :: t)))) (hp : (46 : Int) ∉ p) (hq : (46 : Int) ∉ q) (hs : (46 : Int) ∉ s) (hn : n ≤ 1000000) :
    Calls Tryz.prog 60 #[.slice A n c] w (Parts0 w (.iface 153 (.pointer (some a)))) := by
  have hl := h.len
  rw [List.length_append, List.length_cons, List.length_append, List.length_cons, List.length_append, List.length_cons] at hl
  have ht1 := isB_tail h.isB
  have ht2 := isB_tail ht1
  have ht3 := isB_tail ht2
  have K1 := hidden (zzCut_yes A n c p _ w h hp hn)
  have T1 := hidden ht1
  have T2 := hidden ht2
  have T3 := hidden ht3
  obtain ⟨u, hu⟩ : ∃ u, s ++ 46 :: t = u := ⟨_, rfl⟩
  obtain ⟨v, hv⟩ : ∃ v, q ++ 46 :: u = v := ⟨_, rfl⟩
  have hul : u.length ≤ 1000000 := by rw [← hu, List.length_append, List.length_cons]; omega
  have hvl : v.length ≤ 1000000 := by rw [← hv, List.length_append, List.length_cons, ← hu, List.length_append, List.length_cons]; omega
  have K2 : Hid (∀ W B m d, m = v.length → ArgB W B m d v → Calls Tryz.prog 75 #[.slice B m d] W (CutAt W B d q u)) := hidden (fun W B m d hm ha => zzCut_yes B m d q u W (by rw [hv]; exact ha) hq (by rw [hm]; exact hvl))
  have K3 : Hid (∀ W B m d, m = u.length → ArgB W B m d u → Calls Tryz.prog 75 #[.slice B m d] W (CutAt W B d s t)) := hidden (fun W B m d hm ha => zzCut_yes B m d s t W (by rw [hu]; exact ha) hs (by rw [hm]; exact hul))
  rw [hu, hv] at T1
  rw [hu] at T2
  rw [hu, hv] at K1
  have HE := hidden hE
  clear h hl ht1 ht2 ht3 hp hq hs hE hu hv hul hvl
  go_enter Tryz.func60, Tryz.ntmps60
  go_wp2_with (first
    | (go_at_call 75; first
      | ((with_reducible refine K1.out.mono ?_); intro e w1 hc1; obtain ⟨B1, d1, rfl, ha1, hb1⟩ := hc1.out T1.out; have HA1 := hidden ha1; have HB1 := hidden hb1; clear hc1 ha1 hb1)
      | ((with_reducible refine (K2.out w1 B1 _ d1 rfl HA1.out).mono ?_); intro e w2 hc2; obtain ⟨B2, d2, rfl, ha2, hb2⟩ := hc2.out T2.out; have HA2 := hidden ha2; have HB2 := hidden (below_next HB1.out hb2); clear hc2 ha2 hb2)
      | ((with_reducible refine (K3.out w2 B2 _ d2 rfl HA2.out).mono ?_); intro e w3 hc3; obtain ⟨B3, d3, rfl, ha3, hb3⟩ := hc3.out T3.out; have HB3 := hidden (below_next HB2.out hb3); clear hc3 ha3 hb3))
    | (go_at_call 76; ((with_reducible refine (errSeg_calls _ a (HE.out.below HB3.out)).mono ?_); rintro e w4 ⟨rfl, rfl⟩)))
  exact bodyPost_ret (v := .tuple #[.slice none 0 0, .slice none 0 0, .slice none 0 0, .iface 153 (.pointer (some a))]) (by simp [results, Tryz.results60, go_sem]) rfl ⟨rfl, HB3.out⟩
theorem cut46 (l : List Int) : (46 : Int) ∉ l ∨ ∃ p t, l = p ++ 46 :: t ∧ (46 : Int) ∉ p := by
  induction l with
  | nil => left; simp
  | cons x l ih =>
    by_cases hx : x = 46
    · right; exact ⟨[], l, by rw [hx]; rfl, by simp⟩
    · rcases ih with h | ⟨p, t, rfl, h⟩
      · left; rw [List.mem_cons, not_or]; exact ⟨fun e => hx e.symm, h⟩
      · right; exact ⟨x :: p, t, rfl, by rw [List.mem_cons, not_or]; exact ⟨fun e => hx e.symm, h⟩⟩
/-- A text has two periods, or no three parts. -/
def ThreeP (l p q s : List Int) : Prop := l = p ++ 46 :: (q ++ 46 :: s) ∧ (46 : Int) ∉ p ∧ (46 : Int) ∉ q ∧ (46 : Int) ∉ s
theorem three_or (l : List Int) : (∃ p q s, ThreeP l p q s) ∨ ∀ (n c : Nat) (A : Option Addr) (w : World) (a : Addr), ErrAt w a → ArgB w A n c l → n ≤ 1000000 → Calls Tryz.prog 60 #[.slice A n c] w (Parts0 w (.iface 153 (.pointer (some a)))) := by
  rcases cut46 l with h | ⟨p, t, rfl, hp⟩
  · exact .inr (fun n c A w a hE ha hn => splitC_no1 A n c l w a hE ha h hn)
  · rcases cut46 t with h | ⟨q, u, rfl, hq⟩
    · exact .inr (fun n c A w a hE ha hn => splitC_no2 A n c p t w a hE ha hp h hn)
    · rcases cut46 u with h | ⟨s, v, rfl, hs⟩
      · exact .inl ⟨p, q, u, rfl, hp, hq, h⟩
      · exact .inr (fun n c A w a hE ha hn => splitC_no3 A n c p q s v w a hE ha hp hq hs hn)
set_option maxHeartbeats 1000000 in
theorem split_noG (A : Option Addr) (n c : Nat) (l : List Int) (w : World) (a : Addr) (hE : ErrAt w a) (h : ArgB w A n c l) (hn : n ≤ 1000000)
    (hC : ∀ (n c : Nat) (A : Option Addr) (w : World) (a : Addr), ErrAt w a → ArgB w A n c l → n ≤ 1000000 → Calls Tryz.prog 60 #[.slice A n c] w (Parts0 w (.iface 153 (.pointer (some a))))) :
    Calls Tryz.prog 41 #[.slice A n c] w (Parts0 w (.bool false)) := by
  have I := hidden h.isB
  have Hl := hidden h.len
  have HE := hidden hE
  have K0 := hidden (clone_calls A n c _ w h.rd h.len h.cap h.nil (by omega))
  have K1 : Hid (∀ W B m d, m = n → ErrAt W a → ArgB W B m d l → Calls Tryz.prog 60 #[.slice B m d] W (Parts0 W (.iface 153 (.pointer (some a))))) := hidden (fun W B m d hm he ha => hC m d B W a he ha (by omega))
  clear h hE hC
  go_enter Tryz.func41, Tryz.ntmps41
  go_wp2_with (first
    | (go_at_call 12; ((with_reducible refine K0.out.mono ?_); rintro e w1 ⟨v1, rfl, hO, hB⟩; have HB1 := hidden hB; obtain ⟨A1, c1, rfl, ha⟩ := own_arg hO I.out; rw [Hl.out] at ha; rw [Hl.out]; have HA1 := hidden ha; clear hO hB ha))
    | (go_at_call 60; ((with_reducible refine (K1.out w1 A1 _ c1 rfl (HE.out.below HB1.out) HA1.out).mono ?_); rintro e w2 ⟨rfl, hB⟩; have HB2 := hidden (below_next HB1.out hB); clear hB)))
  exact bodyPost_ret (v := .tuple #[.slice none 0 0, .slice none 0 0, .slice none 0 0, .bool false]) (by simp [results, Tryz.results41, go_sem]) rfl ⟨rfl, HB2.out⟩
end Go.Proofs.YtbdmdajbdmdknaaGreatDoor
