/- SplitCompact, and Split of impl. -/
import Derived.Test.YtmibnnmampfalaaDoorSplit
namespace Go.Proofs.YtmibnnmampfalaaDoor
open Go.RowKit
set_option linter.unusedVariables false
set_option linter.unusedSimpArgs false

/-- What the package's error reads as. -/
def ErrAt (w : World) (a : Addr) : Prop := w.cell? ⟨0, 0, none⟩ = some (.iface 76 (.pointer (some a)))
theorem ErrAt.below {w w1 : World} {a : Addr} (h : ErrAt w a) (hb : Below w.heap.size w w1) : ErrAt w1 a := cell_next hb h
theorem errSeg_calls (w : World) (a : Addr) (h : ErrAt w a) :
    Calls Tryd.prog 30 #[] w fun e w' => e = .returned (.iface 76 (.pointer (some a))) ∧ w = w' := by
  unfold ErrAt at h
  go_enter Tryd.func30, Tryd.ntmps30
  go_wp2
  go_ret
  exact ⟨rfl, rfl⟩
theorem ArgB.left {w : World} {A : Option Addr} {n c : Nat} {p t : List Int} (h : ArgB w A n c (p ++ t)) : ArgB w A p.length c p :=
  ⟨by have := h.rd; rw [nums_app] at this; exact this.left, rfl, by have := h.cap; have := h.len; rw [List.length_append] at this; omega, h.nil, fun x hx => h.isB x (List.mem_append_left _ hx)⟩
theorem isB_tail {p t : List Int} (h : IsB (p ++ 46 :: t)) : IsB t := fun x hx => h x (List.mem_append_right _ (List.mem_cons_of_mem _ hx))
theorem CutAt.out {w : World} {A : Option Addr} {c : Nat} {p t : List Int} {e : Ending} {w' : World} (h : CutAt w A c p t e w') (hb : IsB t) : ∃ B d, e = .returned (.tuple #[.slice A p.length c, .slice B t.length d, .bool true]) ∧ ArgB w' B t.length d t ∧ Below w.heap.size w w' := by
  obtain ⟨B, d, rfl, h1, h2, h3, m, rfl⟩ := h
  exact ⟨B, d, rfl, ⟨h3, rfl, h1, h2, hb⟩, below_drewN0 (Below.refl _ _) m⟩
/-- The three parts of a compact form. -/
def Parts3 (w : World) (p q s : List Int) (last : Value) (e : Ending) (w' : World) : Prop := ∃ X x Y y Z z, e = .returned (.tuple #[.slice X p.length x, .slice Y q.length y, .slice Z s.length z, last]) ∧ ArgB w' X p.length x p ∧ ArgB w' Y q.length y q ∧ ArgB w' Z s.length z s ∧ Below w.heap.size w w'
def Parts0 (w : World) (last : Value) (e : Ending) (w' : World) : Prop := e = .returned (.tuple #[.slice none 0 0, .slice none 0 0, .slice none 0 0, last]) ∧ Below w.heap.size w w'
set_option maxHeartbeats 1000000 in
theorem splitC_yes (A : Option Addr) (n c : Nat) (p q s : List Int) (w : World) (h : ArgB w A n c (p ++ 46 :: (q ++ 46 :: s))) (hp : (46 : Int) ∉ p) (hq : (46 : Int) ∉ q) (hs : (46 : Int) ∉ s) (hn : n ≤ 1000000) :
    Calls Tryd.prog 20 #[.slice A n c] w (Parts3 w p q s .nilIface) := by
  have hl := h.len
  rw [List.length_append, List.length_cons, List.length_append, List.length_cons] at hl
  have ht1 : IsB (q ++ 46 :: s) := isB_tail h.isB
  have ht2 : IsB s := isB_tail ht1
  have H0 := hidden h.left
  have K1 := hidden (zzCut_yes A n c p (q ++ 46 :: s) w h hp hn)
  have T1 := hidden ht1
  have T2 := hidden ht2
  have K2 : Hid (∀ W B m d, m = (q ++ 46 :: s).length → ArgB W B m d (q ++ 46 :: s) → Calls Tryd.prog 29 #[.slice B m d] W (CutAt W B d q s)) := hidden (fun W B m d hm ha => zzCut_yes B m d q s W ha hq (by rw [hm, List.length_append, List.length_cons]; omega))
  have K3 : Hid (∀ W B m d, m = s.length → ArgB W B m d s → Calls Tryd.prog 29 #[.slice B m d] W fun e w' => e = .returned (.tuple #[.slice B m d, .slice none 0 0, .bool false]) ∧ W = w') := hidden (fun W B m d hm ha => zzCut_no B m d s W ha hs (by omega))
  generalize hL : (q ++ 46 :: s).length = lt at *
  have HLt := hidden hL
  clear h hl ht1 ht2 hp hq hs hL
  go_enter Tryd.func20, Tryd.ntmps20
  go_wp2_with (go_at_call 29; first
    | ((with_reducible refine K1.out.mono ?_); intro e w1 hc1; obtain ⟨B1, d1, rfl, ha1, hb1⟩ := hc1.out T1.out; have HA1 := hidden ha1; have HB1 := hidden hb1; rw [HLt.out] at HA1; rw [HLt.out]; clear hc1 ha1 hb1)
    | ((with_reducible refine (K2.out w1 B1 _ d1 rfl HA1.out).mono ?_); intro e w2 hc2; obtain ⟨B2, d2, rfl, ha2, hb2⟩ := hc2.out T2.out; have HQ2 := hidden (HA1.out.below hb2 (Nat.le_refl _)); have HA2 := hidden ha2; have HB2 := hidden (below_next HB1.out hb2); clear hc2 ha2 hb2)
    | ((with_reducible refine (K3.out w2 B2 _ d2 rfl HA2.out).mono ?_); rintro e w3 ⟨rfl, rfl⟩))
  refine bodyPost_ret (v := .tuple #[.slice A p.length c, .slice B1 q.length d1, .slice B2 s.length d2, .nilIface]) (by simp [results, Tryd.results20, go_sem]) rfl ⟨A, c, B1, d1, B2, d2, rfl, ?_, ?_, HA2.out, HB2.out⟩
  · exact H0.out.below HB2.out (Nat.le_refl _)
  · exact HQ2.out.left
set_option maxHeartbeats 1000000 in
theorem splitC_no1 (A : Option Addr) (n c : Nat) (l : List Int) (w : World) (a : Addr) (hE : ErrAt w a) (h : ArgB w A n c l) (hp : (46 : Int) ∉ l) (hn : n ≤ 1000000) :
    Calls Tryd.prog 20 #[.slice A n c] w (Parts0 w (.iface 76 (.pointer (some a)))) := by
  have K1 := hidden (zzCut_no A n c l w h hp hn)
  have HE := hidden hE
  clear h hp hE
  go_enter Tryd.func20, Tryd.ntmps20
  go_wp2_with (first
    | (go_at_call 29; ((with_reducible refine K1.out.mono ?_); rintro e w1 ⟨rfl, rfl⟩))
    | (go_at_call 30; ((with_reducible refine (errSeg_calls _ a HE.out).mono ?_); rintro e w2 ⟨rfl, rfl⟩)))
  exact bodyPost_ret (v := .tuple #[.slice none 0 0, .slice none 0 0, .slice none 0 0, .iface 76 (.pointer (some a))]) (by simp [results, Tryd.results20, go_sem]) rfl ⟨rfl, Below.refl _ _⟩
set_option maxHeartbeats 1000000 in
theorem splitC_no2 (A : Option Addr) (n c : Nat) (p t : List Int) (w : World) (a : Addr) (hE : ErrAt w a) (h : ArgB w A n c (p ++ 46 :: t)) (hp : (46 : Int) ∉ p) (hq : (46 : Int) ∉ t) (hn : n ≤ 1000000) :
    Calls Tryd.prog 20 #[.slice A n c] w (Parts0 w (.iface 76 (.pointer (some a)))) := by
  have hl := h.len
  rw [List.length_append, List.length_cons] at hl
  have T1 := hidden (isB_tail h.isB)
  have K1 := hidden (zzCut_yes A n c p t w h hp hn)
  have K3 : Hid (∀ W B m d, m = t.length → ArgB W B m d t → Calls Tryd.prog 29 #[.slice B m d] W fun e w' => e = .returned (.tuple #[.slice B m d, .slice none 0 0, .bool false]) ∧ W = w') := hidden (fun W B m d hm ha => zzCut_no B m d t W ha hq (by omega))
  have HE := hidden hE
  clear h hp hE hl hq
  go_enter Tryd.func20, Tryd.ntmps20
  go_wp2_with (first
    | (go_at_call 29; first
      | ((with_reducible refine K1.out.mono ?_); intro e w1 hc1; obtain ⟨B1, d1, rfl, ha1, hb1⟩ := hc1.out T1.out; have HA1 := hidden ha1; have HB1 := hidden hb1; clear hc1 ha1 hb1)
      | ((with_reducible refine (K3.out w1 B1 _ d1 rfl HA1.out).mono ?_); rintro e w3 ⟨rfl, rfl⟩))
    | (go_at_call 30; ((with_reducible refine (errSeg_calls _ a (HE.out.below HB1.out)).mono ?_); rintro e w2 ⟨rfl, rfl⟩)))
  exact bodyPost_ret (v := .tuple #[.slice none 0 0, .slice none 0 0, .slice none 0 0, .iface 76 (.pointer (some a))]) (by simp [results, Tryd.results20, go_sem]) rfl ⟨rfl, HB1.out⟩
set_option maxHeartbeats 1000000 in
theorem split_yes (A : Option Addr) (n c : Nat) (p q s : List Int) (w : World) (h : ArgB w A n c (p ++ 46 :: (q ++ 46 :: s))) (hp : (46 : Int) ∉ p) (hq : (46 : Int) ∉ q) (hs : (46 : Int) ∉ s) (hn : n ≤ 1000000) :
    Calls Tryd.prog 9 #[.slice A n c] w (Parts3 w p q s (.bool true)) := by
  have hl := h.len
  have hlb := hl
  rw [List.length_append, List.length_cons, List.length_append, List.length_cons] at hlb
  have hB1 : IsB p := fun x hx => h.isB x (List.mem_append_left _ hx)
  have hT : IsB (q ++ 46 :: s) := isB_tail h.isB
  have I := hidden h.isB
  have I1 := hidden hB1
  have I2 : Hid (IsB q) := hidden fun x hx => hT x (List.mem_append_left _ hx)
  have I3 := hidden (isB_tail hT)
  have K0 := hidden (clone_calls A n c _ w h.rd h.len h.cap h.nil (by omega))
  have K1 : Hid (∀ W B m d, m = n → ArgB W B m d (p ++ 46 :: (q ++ 46 :: s)) → Calls Tryd.prog 20 #[.slice B m d] W (Parts3 W p q s .nilIface)) := hidden (fun W B m d hm ha => splitC_yes B m d p q s W ha hp hq hs (by omega))
  have Kp : Hid (∀ W B d, ArgB W B p.length d p → Calls Tryd.prog 21 #[.slice B p.length d] W (NewB W p)) := hidden (fun W B d ha => clone_calls B _ d p W ha.rd ha.len ha.cap ha.nil (by omega))
  have Kq : Hid (∀ W B d, ArgB W B q.length d q → Calls Tryd.prog 21 #[.slice B q.length d] W (NewB W q)) := hidden (fun W B d ha => clone_calls B _ d q W ha.rd ha.len ha.cap ha.nil (by omega))
  have Ks : Hid (∀ W B d, ArgB W B s.length d s → Calls Tryd.prog 21 #[.slice B s.length d] W (NewB W s)) := hidden (fun W B d ha => clone_calls B _ d s W ha.rd ha.len ha.cap ha.nil (by omega))
  have Hl := hidden hl
  clear h hl hlb hB1 hT hp hq hs
  go_enter Tryd.func9, Tryd.ntmps9
  go_wp2_with (first
    | (go_at_call 21; first
      | ((with_reducible refine K0.out.mono ?_); rintro e w1 ⟨v1, rfl, hO, hB⟩; have HB1 := hidden hB; obtain ⟨A1, c1, rfl, ha⟩ := own_arg hO I.out; rw [Hl.out] at ha; rw [Hl.out]; have HA1 := hidden ha; clear hO hB ha)
      | ((with_reducible refine (Kp.out w2 X x HX.out).mono ?_); rintro e w3 ⟨v3, rfl, hO, hB⟩; have HB3 := hidden (below_next HB2.out hB); have HY3 := hidden (HY.out.below hB (Nat.le_refl _)); have HZ3 := hidden (HZ.out.below hB (Nat.le_refl _)); obtain ⟨A3, c3, rfl, ha⟩ := own_arg hO I1.out; have HA3 := hidden ha; clear hO hB ha)
      | ((with_reducible refine (Kq.out w3 Y y HY3.out).mono ?_); rintro e w4 ⟨v4, rfl, hO, hB⟩; have HB4 := hidden (below_next HB3.out hB); have HA34 := hidden (HA3.out.below hB (Nat.le_refl _)); have HZ4 := hidden (HZ3.out.below hB (Nat.le_refl _)); obtain ⟨A4, c4, rfl, ha⟩ := own_arg hO I2.out; have HA4 := hidden ha; clear hO hB ha)
      | ((with_reducible refine (Ks.out w4 Z z HZ4.out).mono ?_); rintro e w5 ⟨v5, rfl, hO, hB⟩; have HB5 := hidden (below_next HB4.out hB); have HA35 := hidden (HA34.out.below hB (Nat.le_refl _)); have HA45 := hidden (HA4.out.below hB (Nat.le_refl _)); obtain ⟨A5, c5, rfl, ha⟩ := own_arg hO I3.out; have HA5 := hidden ha; clear hO hB ha))
    | (go_at_call 20; ((with_reducible refine (K1.out w1 A1 _ c1 rfl HA1.out).mono ?_); rintro e w2 ⟨X, x, Y, y, Z, z, rfl, hx, hy, hz, hB⟩; have HB2 := hidden (below_next HB1.out hB); have HX := hidden hx; have HY := hidden hy; have HZ := hidden hz; clear hx hy hz hB)))
  exact bodyPost_ret (v := .tuple #[.slice A3 p.length c3, .slice A4 q.length c4, .slice A5 s.length c5, .bool true]) (by simp [results, Tryd.results9, go_sem]) rfl ⟨_, _, _, _, _, _, rfl, HA35.out, HA45.out, HA5.out, HB5.out⟩
set_option maxHeartbeats 1000000 in
theorem split_no (A : Option Addr) (n c : Nat) (l : List Int) (w : World) (a : Addr) (hE : ErrAt w a) (h : ArgB w A n c l) (hp : (46 : Int) ∉ l ∨ ∃ p t, l = p ++ 46 :: t ∧ (46 : Int) ∉ p ∧ (46 : Int) ∉ t) (hn : n ≤ 1000000) :
    Calls Tryd.prog 9 #[.slice A n c] w (Parts0 w (.bool false)) := by
  have I := hidden h.isB
  have Hl := hidden h.len
  have HE := hidden hE
  have K0 := hidden (clone_calls A n c _ w h.rd h.len h.cap h.nil (by omega))
  have K1 : Hid (∀ W B m d, m = n → ErrAt W a → ArgB W B m d l → Calls Tryd.prog 20 #[.slice B m d] W (Parts0 W (.iface 76 (.pointer (some a))))) := hidden (fun W B m d hm he ha => by
    rcases hp with hp | ⟨p, t, rfl, h1, h2⟩
    · exact splitC_no1 B m d l W a he ha hp (by omega)
    · exact splitC_no2 B m d p t W a he ha h1 h2 (by omega))
  clear h hp hE
  go_enter Tryd.func9, Tryd.ntmps9
  go_wp2_with (first
    | (go_at_call 21; ((with_reducible refine K0.out.mono ?_); rintro e w1 ⟨v1, rfl, hO, hB⟩; have HB1 := hidden hB; obtain ⟨A1, c1, rfl, ha⟩ := own_arg hO I.out; rw [Hl.out] at ha; rw [Hl.out]; have HA1 := hidden ha; clear hO hB ha))
    | (go_at_call 20; ((with_reducible refine (K1.out w1 A1 _ c1 rfl (HE.out.below HB1.out) HA1.out).mono ?_); rintro e w2 ⟨rfl, hB⟩; have HB2 := hidden (below_next HB1.out hB); clear hB)))
  exact bodyPost_ret (v := .tuple #[.slice none 0 0, .slice none 0 0, .slice none 0 0, .bool false]) (by simp [results, Tryd.results9, go_sem]) rfl ⟨rfl, HB2.out⟩
end Go.Proofs.YtmibnnmampfalaaDoor
