/- Two pairs of slices: what zzFits7 says; signing inputs that are the same have the same parts. A compact form, split at its periods. SplitCompact, and Split of impl. The parts of a compact form, as calls that hand back texts of their own. -/
import Derived.Test.YtbdmdajbdmdknaaGreatDoorM16
import Derived.Test.YtbdmdajbdmdknaaGreatDoorM13
import Derived.Test.YtbdmdajbdmdknaaGreatDoorM5
import Derived.Test.YtbdmdajbdmdknaaGreatDoorM17
import Derived.Test.YtbdmdajbdmdknaaGreatDoorM14
namespace Go.Proofs.YtbdmdajbdmdknaaGreatDoor
open Go.RowKit
set_option linter.unusedVariables false
set_option linter.unusedSimpArgs false

theorem cut_at {x : Int} : ∀ {p q t s : List Int}, x ∉ p → x ∉ q → p ++ x :: t = q ++ x :: s → p = q ∧ t = s
  | [], [], t, s, _, _, h => by
    simp only [List.nil_append, List.cons.injEq, true_and] at h
    exact ⟨rfl, h⟩
  | [], b :: q, t, s, _, hq, h => by
    simp only [List.nil_append, List.cons_append, List.cons.injEq] at h
    exact absurd (by rw [h.1]; exact List.mem_cons_self) hq
  | a :: p, [], t, s, hp, _, h => by
    simp only [List.nil_append, List.cons_append, List.cons.injEq] at h
    exact absurd (by rw [h.1]; exact List.mem_cons_self) hp
  | a :: p, b :: q, t, s, hp, hq, h => by
    simp only [List.cons_append, List.cons.injEq] at h
    have := cut_at (fun e => hp (List.mem_cons_of_mem _ e)) (fun e => hq (List.mem_cons_of_mem _ e)) h.2
    exact ⟨by rw [h.1, this.1], this.2⟩
theorem encF_no46 {l : List Int} (h : IsB l) : (46 : Int) ∉ encF (alpha true) l := fun hm => by
  have := encF_url h hm
  unfold isUrl at this
  omega
theorem encF_inj {a b : List Int} (ha : IsB a) (hb : IsB b) (h : encF (alpha true) a = encF (alpha true) b) : a = b := by
  have h1 := decA_encF true a ha
  rw [h, decA_encF true b hb] at h1
  exact (Option.some.inj h1).symm
theorem tailF_inj {enc : Bool} {a b : List Int} (ha : IsB a) (hb : IsB b) (h : tailF enc a = tailF enc b) : a = b := by
  cases enc
  · exact h
  · exact encF_inj ha hb h
theorem signF_inj {enc : Bool} {a b c d : List Int} (ha : IsB a) (hb : IsB b) (hc : IsB c) (hd : IsB d) : signF enc a b = signF enc c d ↔ a = c ∧ b = d := by
  constructor
  · intro h
    unfold signF at h
    rw [List.append_assoc, List.append_assoc, List.singleton_append, List.singleton_append] at h
    have := cut_at (encF_no46 ha) (encF_no46 hc) h
    exact ⟨encF_inj ha hc this.1, tailF_inj hb hd this.2⟩
  · rintro ⟨rfl, rfl⟩; rfl

theorem walk_index2 {P : Program} {ops : Array Oper} {rest : List Oper} {o : Oper} {a : Act} {Q : Exit → Act → World → Prop} {w : World} (hgd : o.guard = none) (t : TypeId) (x i : Operand) (ho : o.op = .index t x i) {vx vi v : Value} (hx : a.eval x = vx) (hi : a.eval i = vi) (hr : ∀ W, (Instr.index t vx vi).run P W = .ok v W) (h : wpList P ops Q rest (a.put o.dst v) w) : wpList P ops Q (o :: rest) a w := by
  refine wpList_plain hgd fun K hK => ?_
  unfold Oper.wp execOp
  simp only [ho, hx, hi, hr, Sem.run_bind, Sem.run_pure, Result.andThen_ok]
  exact hK _ _ h
/-- Two slices, as they are handed over. -/
def twoV (A : Option Addr) (n c : Nat) (B : Option Addr) (m d : Nat) : Value := .agg #[.slice A n c, .slice B m d]
end Go.Proofs.YtbdmdajbdmdknaaGreatDoor
namespace Go.Proofs.YtbdmdajbdmdknaaGreatDoor
open Go.RowKit
set_option linter.unusedVariables false
set_option linter.unusedSimpArgs false

/-- Bytes cut at the first period. -/
def CutAt (w : World) (A : Option Addr) (c : Nat) (p t : List Int) (e : Ending) (w' : World) : Prop := ∃ B d, e = .returned (.tuple #[.slice A p.length c, .slice B t.length d, .bool true]) ∧ t.length ≤ d ∧ (B = none → d = 0) ∧ Rd w' B (nums .u8 t) ∧ ∃ m, w' = w.drewN m
theorem zzCut_yes (A : Option Addr) (n c : Nat) (p t : List Int) (w : World) (h : ArgB w A n c (p ++ 46 :: t)) (hp : (46 : Int) ∉ p) (hn : n ≤ 1000000) :
    Calls Tryz.prog 75 #[.slice A n c] w (CutAt w A c p t) := by
  have hlen := h.len
  rw [List.length_append, List.length_cons] at hlen
  have hcap := h.cap
  have hA : ∃ b o, A = some ⟨b, o, none⟩ := by
    obtain ⟨b, o, rfl, _⟩ := h.rd.at 0 (by rw [h.len]; omega)
    exact ⟨b, o, rfl⟩
  obtain ⟨b, o, rfl⟩ := hA
  have Hrd := hidden h.rd
  have Hl := hidden h.len
  have HB := hidden h.isB
  have Hp := hidden hp
  have Hq : Hid (∀ k, k < p.length → gi (p ++ 46 :: t) k ≠ 46) := hidden (fun k hk => by rw [gi_app1 _ hk]; exact fun e => hp (e ▸ gi_mem hk))
  have Hk : Hid (gi (p ++ 46 :: t) p.length = 46) := hidden (by rw [gi_app2 (Nat.le_refl _), Nat.sub_self]; rfl)
  have Hrt : Hid (Rd w (if c = p.length + 1 then some ⟨b, o, none⟩ else (some (⟨b, o, none⟩ : Addr)).map (·.add (p.length + 1))) (nums .u8 t)) := hidden (by
    have := h.rd.drop (p.length + 1) c (by rw [nums_len, h.len]; exact hcap)
    have e : (nums .u8 (p ++ 46 :: t)).drop (p.length + 1) = nums .u8 t := by
      rw [nums, ← List.map_drop, List.drop_append, List.drop_of_length_le (by omega)]
      simp [nums]
    rwa [e] at this)
  obtain ⟨np, hnp⟩ : ∃ np, p.length = np := ⟨_, rfl⟩
  obtain ⟨nt, hnt⟩ : ∃ nt, t.length = nt := ⟨_, rfl⟩
  obtain ⟨B, hB⟩ : ∃ B : Option Addr, B = (if c = p.length + 1 then some ⟨b, o, none⟩ else (some (⟨b, o, none⟩ : Addr)).map (·.add (p.length + 1))) := ⟨_, rfl⟩
  obtain ⟨d, hd⟩ : ∃ d, d = c - (np + 1) := ⟨_, rfl⟩
  have hfrom : ∀ W : World, (Instr.slice 31 (.slice (some ⟨b, o, none⟩) n c) (some (.int .i64 ((np : Int) + 1))) none none).run Tryz.prog W = .ok (.slice B nt d) W := fun W => by
    rw [run_from Tryz.underlying31 (by kernel_rfl) (some ⟨b, o, none⟩) n c ((np : Int) + 1) (np + 1) (by omega) (by omega) hcap, hB, hnp, hd, show n - (np + 1) = nt by omega]
  have hupto : ∀ W : World, (Instr.slice 31 (.slice (some ⟨b, o, none⟩) n c) none (some (.int .i64 (np : Int))) none).run Tryz.prog W = .ok (.slice (some ⟨b, o, none⟩) np c) W := fun W => run_upto Tryz.underlying31 (by kernel_rfl) (some ⟨b, o, none⟩) n c (np : Int) np rfl (by omega)
  rw [← hB] at Hrt
  have Hnil : Hid (B = none → d = 0) := hidden (by
    rw [hB, hd, ← hnp]
    split
    · intro h; cases h
    · intro h; cases h)
  have Hd : Hid (nt ≤ d) := hidden (by omega)
  unfold CutAt
  rw [hnp] at Hq Hk ⊢
  rw [hnt] at ⊢
  clear hB hd hp h
  generalize hL : p ++ 46 :: t = L at *
  have hlt : np < n := by omega
  clear hL hlen hnp hnt
  go_enter Tryz.func75, Tryz.ntmps75
  go_wp2
  go_loop [9] (fun i => ∃ k : Nat, k ≤ np ∧ i = .int .i64 k) (fun i => n - (intOf i).toNat)
  case atStart => exact ⟨0, by omega, rfl⟩
  case round =>
    obtain ⟨k, hk, rfl⟩ := hrel
    obtain ⟨b0, o0, hb0, _, c0⟩ := Hrd.out.at k (by rw [Hl.out]; omega)
    cases hb0
    have hx2 := gi_byte HB.out k
    by_cases hlt2 : k < np
    · have hne : (gi L k == 46) = false := by simpa using Hq.out k hlt2
      generalize gi L k = x at *
      go_wp2
      go_round
      case rel => exact ⟨k + 1, by omega, by go_num⟩
      case measure => simp [intOf]; omega
    · obtain rfl : k = np := by omega
      rw [Hk.out] at c0
      clear hx2
      go_wp2
      go_quiet (fail)
      go_wp2
      exact bodyPost_ret (v := .tuple #[.slice (some ⟨b, o, none⟩) k c, .slice B nt d, .bool true]) (by simp [results, Tryz.results75, go_sem]) rfl ⟨_, _, rfl, Hd.out, Hnil.out, Hrt.out, _, rfl⟩
theorem zzCut_no (A : Option Addr) (n c : Nat) (l : List Int) (w : World) (h : ArgB w A n c l) (hp : (46 : Int) ∉ l) (hn : n ≤ 1000000) :
    Calls Tryz.prog 75 #[.slice A n c] w fun e w' => e = .returned (.tuple #[.slice A n c, .slice none 0 0, .bool false]) ∧ w = w' := by
  have Hrd := hidden h.rd
  have Hl := hidden h.len
  have HB := hidden h.isB
  have Hq : Hid (∀ k, k < n → gi l k ≠ 46) := hidden (fun k hk e => hp (e ▸ gi_mem (by rw [h.len]; exact hk)))
  clear h hp
  go_enter Tryz.func75, Tryz.ntmps75
  go_wp2
  go_loop [9] (fun i => ∃ k : Nat, k ≤ n ∧ i = .int .i64 k) (fun i => n - (intOf i).toNat)
  case atStart => exact ⟨0, by omega, rfl⟩
  case round =>
    obtain ⟨k, hk, rfl⟩ := hrel
    by_cases hlt2 : k < n
    · obtain ⟨b0, o0, rfl, _, c0⟩ := Hrd.out.at k (by rw [Hl.out]; omega)
      have hx2 := gi_byte HB.out k
      have hne : (gi l k == 46) = false := by simpa using Hq.out k hlt2
      generalize gi l k = x at *
      go_wp2
      go_round
      case rel => exact ⟨k + 1, by omega, by go_num⟩
      case measure => simp [intOf]; omega
    · obtain rfl : k = n := by omega
      go_wp2
      exact bodyPost_ret (v := .tuple #[.slice A k c, .slice none 0 0, .bool false]) (by simp [results, Tryz.results75, go_sem]) rfl ⟨rfl, rfl⟩
end Go.Proofs.YtbdmdajbdmdknaaGreatDoor
namespace Go.Proofs.YtbdmdajbdmdknaaGreatDoor
open Go.RowKit
set_option linter.unusedVariables false
set_option linter.unusedSimpArgs false

/-- What the package's error reads as. -/
def ErrAt (w : World) (a : Addr) : Prop := w.cell? ⟨2, 0, none⟩ = some (.iface 153 (.pointer (some a)))
theorem ErrAt.below {w w1 : World} {a : Addr} (h : ErrAt w a) (hb : Below w.heap.size w w1) : ErrAt w1 a := cell_next hb h
theorem errSeg_calls (w : World) (a : Addr) (h : ErrAt w a) :
    Calls Tryz.prog 76 #[] w fun e w' => e = .returned (.iface 153 (.pointer (some a))) ∧ w = w' := by
  unfold ErrAt at h
  go_enter Tryz.func76, Tryz.ntmps76
  go_wp2
  go_ret
  exact ⟨rfl, rfl⟩
theorem ArgB.left {w : World} {A : Option Addr} {n c : Nat} {p t : List Int} (h : ArgB w A n c (p ++ t)) : ArgB w A p.length c p :=
  ⟨by have := h.rd; rw [nums_app] at this; exact this.left, rfl, by have := h.cap; have := h.len; rw [List.length_append] at this; omega, h.nil, fun x hx => h.isB x (List.mem_append_left _ hx)⟩
theorem isB_tail {p t : List Int} (h : IsB (p ++ 46 :: t)) : IsB t := fun x hx => h x (List.mem_append_right _ (List.mem_cons_of_mem _ hx))
theorem CutAt.out {w : World} {A : Option Addr} {c : Nat} {p t : List Int} {e : Ending} {w' : World} (h : CutAt w A c p t e w') (hb : IsB t) : ∃ B d, e = .returned (.tuple #[.slice A p.length c, .slice B t.length d, .bool true]) ∧ ArgB w' B t.length d t ∧ Below w.heap.size w w' := by
  obtain ⟨B, d, rfl, h1, h2, h3, m, rfl⟩ := h
  exact ⟨B, d, rfl, ⟨h3, rfl, h1, h2, hb⟩, below_drewN0 (Below.refl _ _) m⟩
/-- The three parts of a compact form. -/
def Parts3 (w : World) (p q s : List Int) (last : Value) (e : Ending) (w' : World) : Prop := ∃ X x Y y Z z, e = .returned (.tuple #[.slice X p.length x, .slice Y q.length y, .slice Z s.length z, last]) ∧ ArgB w' X p.length x p ∧ ArgB w' Y q.length y q ∧ ArgB w' Z s.length z s ∧ Below w.heap.size w w'
def Parts0 (w : World) (last : Value) (e : Ending) (w' : World) : Prop := e = .returned (.tuple #[.slice none 0 0, .slice none 0 0, .slice none 0 0, last]) ∧ Below w.heap.size w w'
set_option maxHeartbeats 1000000 in
theorem splitC_yes (A : Option Addr) (n c : Nat) (p q s : List Int) (w : World) (h : ArgB w A n c (p ++ 46 :: (q ++ 46 :: s))) (hp : (46 : Int) ∉ p) (hq : (46 : Int) ∉ q) (hs : (46 : Int) ∉ s) (hn : n ≤ 1000000) :
    Calls Tryz.prog 60 #[.slice A n c] w (Parts3 w p q s .nilIface) := by
  have hl := h.len
  rw [List.length_append, List.length_cons, List.length_append, List.length_cons] at hl
  have ht1 : IsB (q ++ 46 :: s) := isB_tail h.isB
  have ht2 : IsB s := isB_tail ht1
  have H0 := hidden h.left
  have K1 := hidden (zzCut_yes A n c p (q ++ 46 :: s) w h hp hn)
  have T1 := hidden ht1
  have T2 := hidden ht2
  have K2 : Hid (∀ W B m d, m = (q ++ 46 :: s).length → ArgB W B m d (q ++ 46 :: s) → Calls Tryz.prog 75 #[.slice B m d] W (CutAt W B d q s)) := hidden (fun W B m d hm ha => zzCut_yes B m d q s W ha hq (by rw [hm, List.length_append, List.length_cons]; omega))
  have K3 : Hid (∀ W B m d, m = s.length → ArgB W B m d s → Calls Tryz.prog 75 #[.slice B m d] W fun e w' => e = .returned (.tuple #[.slice B m d, .slice none 0 0, .bool false]) ∧ W = w') := hidden (fun W B m d hm ha => zzCut_no B m d s W ha hs (by omega))
  generalize hL : (q ++ 46 :: s).length = lt at *
  have HLt := hidden hL
  clear h hl ht1 ht2 hp hq hs hL
  go_enter Tryz.func60, Tryz.ntmps60
  go_wp2_with (go_at_call 75; first
    | ((with_reducible refine K1.out.mono ?_); intro e w1 hc1; obtain ⟨B1, d1, rfl, ha1, hb1⟩ := hc1.out T1.out; have HA1 := hidden ha1; have HB1 := hidden hb1; rw [HLt.out] at HA1; rw [HLt.out]; clear hc1 ha1 hb1)
    | ((with_reducible refine (K2.out w1 B1 _ d1 rfl HA1.out).mono ?_); intro e w2 hc2; obtain ⟨B2, d2, rfl, ha2, hb2⟩ := hc2.out T2.out; have HQ2 := hidden (HA1.out.below hb2 (Nat.le_refl _)); have HA2 := hidden ha2; have HB2 := hidden (below_next HB1.out hb2); clear hc2 ha2 hb2)
    | ((with_reducible refine (K3.out w2 B2 _ d2 rfl HA2.out).mono ?_); rintro e w3 ⟨rfl, rfl⟩))
  refine bodyPost_ret (v := .tuple #[.slice A p.length c, .slice B1 q.length d1, .slice B2 s.length d2, .nilIface]) (by simp [results, Tryz.results60, go_sem]) rfl ⟨A, c, B1, d1, B2, d2, rfl, ?_, ?_, HA2.out, HB2.out⟩
  · exact H0.out.below HB2.out (Nat.le_refl _)
  · exact HQ2.out.left
set_option maxHeartbeats 1000000 in
theorem splitC_no1 (A : Option Addr) (n c : Nat) (l : List Int) (w : World) (a : Addr) (hE : ErrAt w a) (h : ArgB w A n c l) (hp : (46 : Int) ∉ l) (hn : n ≤ 1000000) :
    Calls Tryz.prog 60 #[.slice A n c] w (Parts0 w (.iface 153 (.pointer (some a)))) := by
  have K1 := hidden (zzCut_no A n c l w h hp hn)
  have HE := hidden hE
  clear h hp hE
  go_enter Tryz.func60, Tryz.ntmps60
  go_wp2_with (first
    | (go_at_call 75; ((with_reducible refine K1.out.mono ?_); rintro e w1 ⟨rfl, rfl⟩))
    | (go_at_call 76; ((with_reducible refine (errSeg_calls _ a HE.out).mono ?_); rintro e w2 ⟨rfl, rfl⟩)))
  exact bodyPost_ret (v := .tuple #[.slice none 0 0, .slice none 0 0, .slice none 0 0, .iface 153 (.pointer (some a))]) (by simp [results, Tryz.results60, go_sem]) rfl ⟨rfl, Below.refl _ _⟩
set_option maxHeartbeats 1000000 in
theorem splitC_no2 (A : Option Addr) (n c : Nat) (p t : List Int) (w : World) (a : Addr) (hE : ErrAt w a) (h : ArgB w A n c (p ++ 46 :: t)) (hp : (46 : Int) ∉ p) (hq : (46 : Int) ∉ t) (hn : n ≤ 1000000) :
    Calls Tryz.prog 60 #[.slice A n c] w (Parts0 w (.iface 153 (.pointer (some a)))) := by
  have hl := h.len
  rw [List.length_append, List.length_cons] at hl
  have T1 := hidden (isB_tail h.isB)
  have K1 := hidden (zzCut_yes A n c p t w h hp hn)
  have K3 : Hid (∀ W B m d, m = t.length → ArgB W B m d t → Calls Tryz.prog 75 #[.slice B m d] W fun e w' => e = .returned (.tuple #[.slice B m d, .slice none 0 0, .bool false]) ∧ W = w') := hidden (fun W B m d hm ha => zzCut_no B m d t W ha hq (by omega))
  have HE := hidden hE
  clear h hp hE hl hq
  go_enter Tryz.func60, Tryz.ntmps60
  go_wp2_with (first
    | (go_at_call 75; first
      | ((with_reducible refine K1.out.mono ?_); intro e w1 hc1; obtain ⟨B1, d1, rfl, ha1, hb1⟩ := hc1.out T1.out; have HA1 := hidden ha1; have HB1 := hidden hb1; clear hc1 ha1 hb1)
      | ((with_reducible refine (K3.out w1 B1 _ d1 rfl HA1.out).mono ?_); rintro e w3 ⟨rfl, rfl⟩))
    | (go_at_call 76; ((with_reducible refine (errSeg_calls _ a (HE.out.below HB1.out)).mono ?_); rintro e w2 ⟨rfl, rfl⟩)))
  exact bodyPost_ret (v := .tuple #[.slice none 0 0, .slice none 0 0, .slice none 0 0, .iface 153 (.pointer (some a))]) (by simp [results, Tryz.results60, go_sem]) rfl ⟨rfl, HB1.out⟩
set_option maxHeartbeats 1000000 in
theorem split_yes (A : Option Addr) (n c : Nat) (p q s : List Int) (w : World) (h : ArgB w A n c (p ++ 46 :: (q ++ 46 :: s))) (hp : (46 : Int) ∉ p) (hq : (46 : Int) ∉ q) (hs : (46 : Int) ∉ s) (hn : n ≤ 1000000) :
    Calls Tryz.prog 41 #[.slice A n c] w (Parts3 w p q s (.bool true)) := by
  have hl := h.len
  have hlb := hl
  rw [List.length_append, List.length_cons, List.length_append, List.length_cons] at hlb
  have hB1 : IsB p := fun x hx => h.isB x (List.mem_append_left _ hx)
  have hT : IsB (q ++ 46 :: s) := isB_tail h.isB
  have I := hidden h.isB
  have I1 := hidden hB1
  have I2 : Hid (IsB q) := hidden fun x hx => hT x (List.mem_append_left _ hx)
  have I3 := hidden (isB_tail hT)
  have K0 := hidden (clone_calls A n c _ w h.rd h.len h.cap h.nil (by omega))
  have K1 : Hid (∀ W B m d, m = n → ArgB W B m d (p ++ 46 :: (q ++ 46 :: s)) → Calls Tryz.prog 60 #[.slice B m d] W (Parts3 W p q s .nilIface)) := hidden (fun W B m d hm ha => splitC_yes B m d p q s W ha hp hq hs (by omega))
  have Kp : Hid (∀ W B d, ArgB W B p.length d p → Calls Tryz.prog 12 #[.slice B p.length d] W (NewB W p)) := hidden (fun W B d ha => clone_calls B _ d p W ha.rd ha.len ha.cap ha.nil (by omega))
  have Kq : Hid (∀ W B d, ArgB W B q.length d q → Calls Tryz.prog 12 #[.slice B q.length d] W (NewB W q)) := hidden (fun W B d ha => clone_calls B _ d q W ha.rd ha.len ha.cap ha.nil (by omega))
  have Ks : Hid (∀ W B d, ArgB W B s.length d s → Calls Tryz.prog 12 #[.slice B s.length d] W (NewB W s)) := hidden (fun W B d ha => clone_calls B _ d s W ha.rd ha.len ha.cap ha.nil (by omega))
  have Hl := hidden hl
  clear h hl hlb hB1 hT hp hq hs
  go_enter Tryz.func41, Tryz.ntmps41
  go_wp2_with (first
    | (go_at_call 12; first
      | ((with_reducible refine K0.out.mono ?_); rintro e w1 ⟨v1, rfl, hO, hB⟩; have HB1 := hidden hB; obtain ⟨A1, c1, rfl, ha⟩ := own_arg hO I.out; rw [Hl.out] at ha; rw [Hl.out]; have HA1 := hidden ha; clear hO hB ha)
      | ((with_reducible refine (Kp.out w2 X x HX.out).mono ?_); rintro e w3 ⟨v3, rfl, hO, hB⟩; have HB3 := hidden (below_next HB2.out hB); have HY3 := hidden (HY.out.below hB (Nat.le_refl _)); have HZ3 := hidden (HZ.out.below hB (Nat.le_refl _)); obtain ⟨A3, c3, rfl, ha⟩ := own_arg hO I1.out; have HA3 := hidden ha; clear hO hB ha)
      | ((with_reducible refine (Kq.out w3 Y y HY3.out).mono ?_); rintro e w4 ⟨v4, rfl, hO, hB⟩; have HB4 := hidden (below_next HB3.out hB); have HA34 := hidden (HA3.out.below hB (Nat.le_refl _)); have HZ4 := hidden (HZ3.out.below hB (Nat.le_refl _)); obtain ⟨A4, c4, rfl, ha⟩ := own_arg hO I2.out; have HA4 := hidden ha; clear hO hB ha)
      | ((with_reducible refine (Ks.out w4 Z z HZ4.out).mono ?_); rintro e w5 ⟨v5, rfl, hO, hB⟩; have HB5 := hidden (below_next HB4.out hB); have HA35 := hidden (HA34.out.below hB (Nat.le_refl _)); have HA45 := hidden (HA4.out.below hB (Nat.le_refl _)); obtain ⟨A5, c5, rfl, ha⟩ := own_arg hO I3.out; have HA5 := hidden ha; clear hO hB ha))
    | (go_at_call 60; ((with_reducible refine (K1.out w1 A1 _ c1 rfl HA1.out).mono ?_); rintro e w2 ⟨X, x, Y, y, Z, z, rfl, hx, hy, hz, hB⟩; have HB2 := hidden (below_next HB1.out hB); have HX := hidden hx; have HY := hidden hy; have HZ := hidden hz; clear hx hy hz hB)))
  exact bodyPost_ret (v := .tuple #[.slice A3 p.length c3, .slice A4 q.length c4, .slice A5 s.length c5, .bool true]) (by simp [results, Tryz.results41, go_sem]) rfl ⟨_, _, _, _, _, _, rfl, HA35.out, HA45.out, HA5.out, HB5.out⟩
set_option maxHeartbeats 1000000 in
theorem split_no (A : Option Addr) (n c : Nat) (l : List Int) (w : World) (a : Addr) (hE : ErrAt w a) (h : ArgB w A n c l) (hp : (46 : Int) ∉ l ∨ ∃ p t, l = p ++ 46 :: t ∧ (46 : Int) ∉ p ∧ (46 : Int) ∉ t) (hn : n ≤ 1000000) :
    Calls Tryz.prog 41 #[.slice A n c] w (Parts0 w (.bool false)) := by
  have I := hidden h.isB
  have Hl := hidden h.len
  have HE := hidden hE
  have K0 := hidden (clone_calls A n c _ w h.rd h.len h.cap h.nil (by omega))
  have K1 : Hid (∀ W B m d, m = n → ErrAt W a → ArgB W B m d l → Calls Tryz.prog 60 #[.slice B m d] W (Parts0 W (.iface 153 (.pointer (some a))))) := hidden (fun W B m d hm he ha => by
    rcases hp with hp | ⟨p, t, rfl, h1, h2⟩
    · exact splitC_no1 B m d l W a he ha hp (by omega)
    · exact splitC_no2 B m d p t W a he ha h1 h2 (by omega))
  clear h hp hE
  go_enter Tryz.func41, Tryz.ntmps41
  go_wp2_with (first
    | (go_at_call 12; ((with_reducible refine K0.out.mono ?_); rintro e w1 ⟨v1, rfl, hO, hB⟩; have HB1 := hidden hB; obtain ⟨A1, c1, rfl, ha⟩ := own_arg hO I.out; rw [Hl.out] at ha; rw [Hl.out]; have HA1 := hidden ha; clear hO hB ha))
    | (go_at_call 60; ((with_reducible refine (K1.out w1 A1 _ c1 rfl (HE.out.below HB1.out) HA1.out).mono ?_); rintro e w2 ⟨rfl, hB⟩; have HB2 := hidden (below_next HB1.out hB); clear hB)))
  exact bodyPost_ret (v := .tuple #[.slice none 0 0, .slice none 0 0, .slice none 0 0, .bool false]) (by simp [results, Tryz.results41, go_sem]) rfl ⟨rfl, HB2.out⟩
end Go.Proofs.YtbdmdajbdmdknaaGreatDoor
namespace Go.Proofs.YtbdmdajbdmdknaaGreatDoor
open Go.RowKit
set_option linter.unusedVariables false
set_option linter.unusedSimpArgs false

theorem HeadB.of {w w' : World} {e : Ending} {l : List Int} {n : Nat} (h : NewB w l e w') (hb : IsB l) (hn : l.length = n) : HeadB w n l e w' := by
  obtain ⟨v, rfl, hO, hB⟩ := h
  obtain ⟨A, c, rfl, ha⟩ := own_arg hO hb
  subst hn
  exact ⟨hB, A, c, rfl, ha⟩
theorem ownB_calls (W : World) (A : Option Addr) (n c : Nat) (l : List Int) (h : ArgB W A n c l) (hn : n ≤ 1000000) : Calls Tryz.prog 18 #[.slice A n c] W (HeadB W n l) :=
  (partOwn_calls A n c l W h.rd h.len (by omega)).mono fun e w' k => HeadB.of k h.isB h.len
theorem signB_calls (W : World) (A : Option Addr) (n c : Nat) (hd : List Int) (B : Option Addr) (m d : Nat) (pl : List Int) (enc : Bool) (S : List Int) (q : Nat) (hS : S = signF enc hd pl) (hq : S.length = q) (h1 : ArgB W A n c hd) (n1 : n ≤ 20000) (h2 : ArgB W B m d pl) (n2 : m ≤ 20000) :
    Calls Tryz.prog 38 #[.slice none 0 0, .slice A n c, .slice B m d, .bool enc] W (HeadB W q S) :=
  (signing_calls W none 0 0 [] A n c hd B m d pl enc (ArgB.nilB W) (by omega) h1 n1 h2 n2).mono fun e w' k => HeadB.of (by rw [hS]; exact k) (by rw [hS]; exact signF_isB h1.isB h2.isB) hq
/-- A text of one's own, and true. -/
structure HeadT (w : World) (n : Nat) (l : List Int) (e : Ending) (w' : World) : Prop where
  below : Below w.heap.size w w'
  res : ∃ A c, e = .returned (.tuple #[.slice A n c, .bool true]) ∧ ArgB w' A n c l
theorem decodeB_back (W : World) (A : Option Addr) (n c : Nat) (p : List Int) (l : List Int) (k : Nat) (hb : IsB l) (hk : l.length = k) (hp : p = encF (alpha true) l) (h : ArgB W A n c p) (hn : n ≤ 100000) :
    Calls Tryz.prog 36 #[.slice A n c] W (HeadT W k l) :=
  (decoded_calls A n c p W h.rd h.len h.cap h.nil h.isB hn).mono fun e w' hx => by
    rw [hp] at hx
    obtain ⟨v, rfl, hO⟩ := (hx.back hb).res
    obtain ⟨A', c', rfl, ha⟩ := own_arg hO hb
    subst hk
    exact ⟨(hx.back hb).below, A', c', rfl, ha⟩
/-- A slice lies in memory that was made between two worlds. -/
def FreshA (w w' : World) (A : Option Addr) : Prop := ∀ a, A = some a → w.heap.size ≤ a.block ∧ a.block < w'.heap.size
theorem FreshA.none (w w' : World) : FreshA w w' none := fun a h => by cases h
theorem FreshA.wide {w0 w w' w1 : World} {A : Option Addr} (h : FreshA w w' A) (h0 : w0.heap.size ≤ w.heap.size) (h1 : w'.heap.size ≤ w1.heap.size) : FreshA w0 w1 A := fun a e => ⟨Nat.le_trans h0 (h a e).1, Nat.lt_of_lt_of_le (h a e).2 h1⟩
theorem own_argF {w0 w : World} {v : Value} {l : List Int} (h : Own w w0.heap.size 5 v (nums .u8 l)) (hb : IsB l) : ∃ A c, v = .slice A l.length c ∧ ArgB w A l.length c l ∧ FreshA w0 w A := by
  rcases h.block with ⟨rfl, hl⟩ | ⟨g, rest, rfl, hg, hr, hm⟩
  · obtain rfl : l = [] := by cases l with | nil => rfl | cons x l => simp [nums] at hl
    exact ⟨none, 0, rfl, ArgB.nilB _, FreshA.none _ _⟩
  · obtain ⟨A, c, e, ha⟩ := own_arg h hb
    simp only [Value.slice.injEq] at e
    obtain ⟨rfl, _, rfl⟩ := e
    exact ⟨_, _, by rw [nums_len], ha, fun a e => by cases e; exact ⟨hg, hr.lt⟩⟩
/-- A text of one's own, and true; where it lies. -/
structure HeadF (w : World) (n : Nat) (l : List Int) (e : Ending) (w' : World) : Prop where
  below : Below w.heap.size w w'
  res : ∃ A c, e = .returned (.tuple #[.slice A n c, .bool true]) ∧ ArgB w' A n c l ∧ FreshA w w' A
theorem decodeB_backF (W : World) (A : Option Addr) (n c : Nat) (p : List Int) (l : List Int) (k : Nat) (hb : IsB l) (hk : l.length = k) (hp : p = encF (alpha true) l) (h : ArgB W A n c p) (hn : n ≤ 100000) :
    Calls Tryz.prog 36 #[.slice A n c] W (HeadF W k l) :=
  (decoded_calls A n c p W h.rd h.len h.cap h.nil h.isB hn).mono fun e w' hx => by
    rw [hp] at hx
    obtain ⟨v, rfl, hO⟩ := (hx.back hb).res
    obtain ⟨A', c', rfl, ha, hf⟩ := own_argF hO hb
    subst hk
    exact ⟨(hx.back hb).below, A', c', rfl, ha, hf⟩
theorem sameB_calls (W : World) (A B : Option Addr) (n c n' c' : Nat) (l l' : List Int) (h : ArgB W A n c l) (h' : ArgB W B n' c' l') (r : Bool) (hr : r = decide (l = l')) :
    Calls Tryz.prog 21 #[.slice A n c, .slice B n' c'] W fun e w' => e = .returned (.bool r) ∧ W = w' := by
  rw [hr]; exact partSame_calls A B n c n' c' l l' W h.rd h.len h'.rd h'.len h.isB h'.isB
/-- What Split tells: three texts, and true. -/
structure HeadS (w : World) (n1 n2 n3 : Nat) (p q s : List Int) (e : Ending) (w' : World) : Prop where
  below : Below w.heap.size w w'
  res : ∃ X x Y y Z z, e = .returned (.tuple #[.slice X n1 x, .slice Y n2 y, .slice Z n3 z, .bool true]) ∧ ArgB w' X n1 x p ∧ ArgB w' Y n2 y q ∧ ArgB w' Z n3 z s
theorem splitB_calls (W : World) (A : Option Addr) (n c : Nat) (J p q s : List Int) (n1 n2 n3 : Nat) (h1 : p.length = n1) (h2 : q.length = n2) (h3 : s.length = n3) (hJ : J = p ++ 46 :: (q ++ 46 :: s)) (hp : (46 : Int) ∉ p) (hq : (46 : Int) ∉ q) (hs : (46 : Int) ∉ s) (h : ArgB W A n c J) (hn : n ≤ 1000000) :
    Calls Tryz.prog 41 #[.slice A n c] W (HeadS W n1 n2 n3 p q s) := by
  subst h1 h2 h3
  rw [hJ] at h
  refine (split_yes A n c p q s W h hp hq hs hn).mono ?_
  rintro e w' ⟨X, x, Y, y, Z, z, rfl, hx, hy, hz, hB⟩
  exact ⟨hB, X, x, Y, y, Z, z, rfl, hx, hy, hz⟩
theorem joinF_parts (enc : Bool) (hd pl sg : List Int) : joinF enc hd pl sg = encF (alpha true) hd ++ 46 :: (tailF enc pl ++ 46 :: encF (alpha true) sg) := by
  simp [joinF, signF]
end Go.Proofs.YtbdmdajbdmdknaaGreatDoor
