/- (*spec.headStyle).blank, at every style. The texts of lists and objects, with blanks, as the parser reads them. Nothing here speaks of the program. Slices of texts: equal, cloned. A style in new memory: what its functions give, whatever its numbers are; the values of fields. -/
import Derived.Test.YtbdmdajbdmdknaaDoorM11
import Derived.Test.YtbdmdajbdmdknaaDoorM3
import Derived.Test.YtbdmdajbdmdknaaDoorProg
import Derived.Test.YtbdmdajbdmdknaaDoorM1
import Derived.Lib.Bytes
import Derived.StillTailTactics
namespace Go.Proofs.YtbdmdajbdmdknaaDoor
open Go.RowKit
set_option linter.unusedVariables false
set_option linter.unusedSimpArgs false

def lcgF (x : Nat) : Nat := (x * 6364136223846793005 + 1442695040888963407) % 18446744073709551616
theorem lcg_nat (x : Nat) : lcg (x : Int) = (lcgF x : Int) := by
  unfold lcg lcgF
  rw [IntKind.wrap_u64, IntKind.wrap_u64]
  omega
theorem lcgF_mod (x : Nat) : lcgF x % 34359738368 = (6364136223846793005 * x + 1442695040888963407) % 34359738368 := by
  unfold lcgF
  omega
theorem lcgN_nat (x n : Nat) : lcgN (x : Int) (n : Int) = ((lcgF x / 8589934592 % n : Nat) : Int) := by
  unfold lcgN
  rw [lcg_nat, Int.tmod_eq_emod_of_nonneg (by omega)]
  rw [show ((lcgF x : Nat) : Int) / 8589934592 = ((lcgF x / 8589934592 : Nat) : Int) by omega]
  exact (Int.natCast_emod _ _).symm
theorem lcgN_low (x : Nat) (h : lcgN (x : Int) 4 = 0) : lcgF x % 34359738368 < 8589934592 := by
  have := lcgN_nat x 4
  rw [show ((4 : Nat) : Int) = 4 from rfl, h] at this
  omega
theorem itF_one (f : Nat → Nat) (n x : Nat) : f (itF f n x) = itF f n (f x) := by
  have h1 := itF_add f n 1 x
  have h2 := itF_add f 1 n x
  rw [Nat.add_comm] at h2
  rw [h1] at h2
  exact h2
theorem itF_succ (f : Nat → Nat) (n x : Nat) : f (itF f n x) = itF f (n + 1) x := by rw [itF_add f n 1 x]; rfl
/-- A run of blanks ends. -/
theorem no_run (x : Nat) : ∃ n, n ≤ 65536 ∧ lcgN (itF lcgF (2 * n) x : Nat) 4 ≠ 0 := by
  apply Classical.byContradiction
  intro hno
  have h : ∀ n, n ≤ 65536 → lcgN (itF lcgF (2 * n) x : Nat) 4 = 0 := fun n hn => Classical.byContradiction fun e => hno ⟨n, hn, e⟩
  have h0 := lcgN_low _ (h 0 (by omega))
  have h1 := lcgN_low _ (h 32768 (by omega))
  have h2 := lcgN_low _ (h 65536 (by omega))
  rw [itF_one lcgF] at h1 h2
  rw [show 2 * 65536 = 65536 + 65536 from rfl, itF_add] at h2
  exact three_no lcgF lcgF_mod (lcgF x) h0 h1 h2
def wsC (k : Nat) : UInt8 := if k = 0 then 32 else if k = 1 then 9 else if k = 2 then 10 else 13
theorem ws_extract : ∀ k, k < 4 → (⟨#[32, 9, 10, 13]⟩ : ByteArray).extract k (k + 1) = bs [wsC k] := by decide
theorem ws_is : ∀ k, k < 4 → isWS (wsC k) = true := by decide
/-- Blanks, not too many. -/
structure IsBl (o : Bs) : Prop where
  ws : ∀ c ∈ o, isWS c = true
  len : o.length ≤ 65536
theorem IsBl.nil : IsBl [] := ⟨by simp, by simp⟩
structure BlAt (w wr : World) (g x i : Nat) (st : Int) (o : Bs) : Prop where
  sty : StyAt wr g st
  gr : w.grownBy wr (some g)
  st_eq : st = (itF lcgF (2 * i) x : Nat)
  ws : ∀ c ∈ o, isWS c = true
  len : o.length = i
set_option maxRecDepth 100000 in
set_option maxHeartbeats 2000000 in
theorem blank_calls (g x : Nat) (w : World) (h : StyAt w g x) : Calls Tryd.prog 26 #[.pointer (some ⟨g, 0, none⟩)] w fun e w' => ∃ (o : Bs) (y : Nat), e = .returned (.string (bs o)) ∧ IsBl o ∧ StyAt w' g y ∧ w.grownBy w' (some g) := by
  obtain ⟨N, hN, hstop⟩ := no_run x
  have HST := hidden hstop
  have H := hidden h
  clear hstop h
  go_enter Tryd.func26, Tryd.ntmps26
  go_wp2
  go_loopw [3] (fun v wr => ∃ (i : Nat) (st : Int) (o : Bs), v = .string (bs o) ∧ (bs o).size = i ∧ i ≤ N ∧ Hid (BlAt w wr g x i st o)) (fun v _ => match v with | .string s => N - s.size | _ => 0)
  case atStart => exact ⟨0, x, [], rfl, rfl, by omega, hidden ⟨H.out, World.grownBy.refl _ _, rfl, by simp, rfl⟩⟩
  case round =>
    obtain ⟨i, st, o, rfl, hoi, hiN, HB⟩ := hrel
    have hcell : wr.cell? ⟨g, 0, none⟩ = some (.int .u64 st) := HB.out.sty.cell 0
    obtain ⟨oB, hoB⟩ : ∃ y, bs o = y := ⟨_, rfl⟩
    rw [hoB] at hoi ⊢
    have HOB := hidden hoB
    clear hoB
    by_cases hst : st = 0
    · have hfin : Hid (BlAt w wr g x i 0 o) := hidden (by rw [← hst]; exact HB.out)
      clear HB
      subst hst
      go_wp2
      go_ret
      exact ⟨o, 0, by rw [HOB.out]; rfl, ⟨hfin.out.ws, by rw [hfin.out.len]; omega⟩, hfin.out.sty, hfin.out.gr⟩
    · have K1 := hidden (nextS_calls g st 4 wr HB.out.sty (by decide))
      have HS2 : Hid (lcgN st 4 = 0 → i < N) := hidden (fun e => by
        rcases Nat.lt_or_ge i N with h | h
        · exact h
        · obtain rfl : i = N := by omega
          exact absurd (by rw [← HB.out.st_eq]; exact e) HST.out)
      by_cases h4 : lcgN st 4 = 0
      · have hlt := HS2.out h4
        have hl4 : (lcgN st 4 == 0) = true := by rw [beq_iff_eq]; exact h4
        obtain ⟨n4, hn4⟩ : ∃ y, lcgN st 4 = y := ⟨_, rfl⟩
        rw [hn4] at K1 hl4
        have e1 : lcg st = (itF lcgF (2 * i + 1) x : Nat) := by rw [HB.out.st_eq, lcg_nat, itF_succ lcgF]
        have e2 : lcg (lcg st) = (itF lcgF (2 * (i + 1)) x : Nat) := by rw [e1, lcg_nat, itF_succ lcgF, show 2 * (i + 1) = 2 * i + 1 + 1 by omega]
        obtain ⟨k, hk, hk4⟩ : ∃ k : Nat, lcgN (lcg st) 4 = k ∧ k < 4 := ⟨lcgF (itF lcgF (2 * i + 1) x) / 8589934592 % 4, by rw [e1]; exact lcgN_nat _ 4, Nat.mod_lt _ (by decide)⟩
        have K2 := hidden (fun W (h : StyAt W g (lcg st)) => nextS_calls g (lcg st) 4 W h (by decide))
        rw [hk] at K2
        have HE2 := hidden e2
        obtain ⟨st1, hst1⟩ : ∃ y, lcg st = y := ⟨_, rfl⟩
        rw [hst1] at K1 K2 HE2
        have hx := ws_extract k hk4
        have HX := hidden hx
        have HWS := hidden (ws_is k hk4)
        have w1 : IntKind.u64.wrap ((k : Int) + 1) = (k : Int) + 1 := by rw [IntKind.wrap_u64]; omega
        have h40 : n4 = 0 := by rw [← hn4]; exact h4
        clear h4 HS2 hn4 e1 e2 hk hst1 hx
        subst h40
        clear hl4
        have hNi : (N : Int) ≤ 65536 := by omega
        go_wp2_with (go_at_call 37; first
          | ((with_reducible refine K1.out.mono ?_); (rintro e wa ⟨rfl, hS3, hG3⟩; have HS3 := hidden hS3; have HG3 := hidden hG3; clear hS3 hG3))
          | ((with_reducible refine (K2.out wa HS3.out).mono ?_); (rintro e wb ⟨rfl, hS4, hG4⟩; have HS4 := hidden hS4; have HG4 := hidden hG4; clear hS4 hG4)))
        refine ⟨⟨i + 1, _, o ++ [wsC k], ?_, ?_, hlt, hidden ⟨HS4.out, grown_more (grown_more HB.out.gr HG3.out) HG4.out, HE2.out, ?_, ?_⟩⟩, ?_⟩
        · rw [HX.out, ← HOB.out, bs_app]
        · rw [size_bs, List.length_append, HB.out.len]; rfl
        · intro c hc
          rcases List.mem_append.1 hc with hc | hc
          · exact HB.out.ws c hc
          · simp only [List.mem_cons, List.not_mem_nil, or_false] at hc
            rw [hc]; exact HWS.out
        · rw [List.length_append, HB.out.len]; rfl
        · rw [HX.out]
          show N - (oB ++ bs [wsC k]).size < N - oB.size
          rw [ByteArray.size_append, size_bs]
          show N - (oB.size + 1) < N - oB.size
          omega
      · have hl4 : (lcgN st 4 == 0) = false := by rw [beq_eq_false_iff_ne]; exact h4
        have e1 : lcg st = (itF lcgF (2 * i + 1) x : Nat) := by rw [HB.out.st_eq, lcg_nat, itF_succ lcgF]
        have HE1 := hidden e1
        obtain ⟨n4, hn4⟩ : ∃ y, lcgN st 4 = y := ⟨_, rfl⟩
        rw [hn4] at K1 hl4 h4
        clear hn4 e1 HS2
        go_wp2_with (go_at_call 37; go_must (refine K1.out.mono ?_; rintro e wa ⟨rfl, hS3, hG3⟩; have HS3 := hidden hS3; have HG3 := hidden hG3; clear hS3 hG3))
        go_ret
        exact ⟨o, _, by rw [HOB.out]; rfl, ⟨HB.out.ws, by rw [HB.out.len]; omega⟩, by rw [← HE1.out]; exact HS3.out, grown_more HB.out.gr HG3.out⟩
end Go.Proofs.YtbdmdajbdmdknaaDoor
namespace Go.Proofs.YtbdmdajbdmdknaaDoor
set_option linter.unusedVariables false
set_option linter.unusedSimpArgs false

/-- What may stand behind a value. -/
def Stops (r : Bs) : Prop := ∃ c r', r = c :: r' ∧ isNumC c = false
/-- A text that is read as a value. -/
structure Parses (n : Nat) (x : Bs) (J : JV) : Prop where
  head : ∃ c x', x = c :: x' ∧ isWS c = false ∧ c ≠ 93
  val : ∀ fu d r, x.length + 4 ≤ fu → d + n ≤ 299 → Stops r → pVal fu d (x ++ r) = some (J, r)
def AllWS (b : Bs) : Prop := ∀ c ∈ b, isWS c = true
theorem AllWS.nil : AllWS [] := by intro c h; simp at h
theorem Parses.skip {n : Nat} {x : Bs} {J : JV} (h : Parses n x J) (r : Bs) : skipW (x ++ r) = x ++ r := by
  obtain ⟨c, x', rfl, hc, _⟩ := h.head
  exact skipW_c _ hc
theorem skipW_bl {b : Bs} (hb : AllWS b) (r : Bs) : skipW (b ++ r) = skipW r := List.dropWhile_append_of_pos hb
theorem skipW_all {b : Bs} (hb : AllWS b) : skipW b = [] := by
  have := skipW_bl hb []
  rw [List.append_nil] at this
  exact this
theorem ws_num {c : UInt8} (h : isWS c = true) : isNumC c = false := by
  unfold isWS at h
  simp only [Bool.or_eq_true, beq_iff_eq] at h
  rcases h with ((rfl | rfl) | rfl) | rfl <;> decide
theorem stops_bl {b : Bs} (hb : AllWS b) {c : UInt8} (hc : isNumC c = false) (r : Bs) : Stops (b ++ c :: r) := by
  cases b with
  | nil => exact ⟨c, r, rfl, hc⟩
  | cons w b => exact ⟨w, b ++ c :: r, rfl, ws_num (hb w (by simp))⟩
/-! Lists. -/
structure Pc where
  b1 : Bs
  x : Bs
  J : JV
  b2 : Bs
def tailA : List Pc → Bs
  | [] => []
  | p :: ps => 44 :: (p.b1 ++ (p.x ++ (p.b2 ++ tailA ps)))
def bodyA : List Pc → Bs
  | [] => []
  | p :: ps => p.x ++ (p.b2 ++ tailA ps)
structure PcOk (n : Nat) (p : Pc) : Prop where
  w1 : AllWS p.b1
  w2 : AllWS p.b2
  ok : Parses n p.x p.J
theorem tailA_snoc : ∀ (ps : List Pc) (p : Pc), tailA (ps ++ [p]) = tailA ps ++ 44 :: (p.b1 ++ (p.x ++ p.b2))
  | [], p => by simp [tailA]
  | q :: ps, p => by simp [tailA, tailA_snoc ps p]
theorem bodyA_snoc (ps : List Pc) (p : Pc) (hne : ps ≠ []) : bodyA (ps ++ [p]) = bodyA ps ++ 44 :: (p.b1 ++ (p.x ++ p.b2)) := by
  cases ps with
  | nil => exact absurd rfl hne
  | cons q ps => simp [bodyA, tailA_snoc]
theorem bodyA_one (p : Pc) : bodyA [p] = p.x ++ p.b2 := by simp [bodyA, tailA]
theorem arr_parse {n : Nat} : ∀ (ps : List Pc) (p : Pc) (fu d : Nat) (r : Bs), PcOk n p → (∀ q ∈ ps, PcOk n q) → (p.x ++ (p.b2 ++ tailA ps)).length + 5 ≤ fu → d + n ≤ 299 →
    pArr fu d (p.b1 ++ (p.x ++ (p.b2 ++ (tailA ps ++ 93 :: r)))) = some (p.J :: ps.map Pc.J, r)
  | [], p, fu, d, r, hp, _, hf, hd => by
    obtain ⟨f, rfl⟩ : ∃ f, fu = f + 1 := ⟨fu - 1, by omega⟩
    simp only [tailA, List.nil_append, List.append_nil, List.length_append] at hf ⊢
    rw [pArr, skipW_bl hp.w1, hp.ok.skip, hp.ok.val f d _ (by omega) hd (stops_bl hp.w2 (by decide) r)]
    dsimp only
    rw [skipW_bl hp.w2, skipW_c _ (by decide)]
    dsimp only
    rw [if_neg (by decide), if_pos rfl]
    rfl
  | q :: ps, p, fu, d, r, hp, hps, hf, hd => by
    obtain ⟨f, rfl⟩ : ∃ f, fu = f + 1 := ⟨fu - 1, by omega⟩
    have ih := arr_parse ps q f d r (hps q (by simp)) (fun z hz => hps z (by simp [hz])) (by
      simp only [tailA, List.length_append, List.length_cons] at hf ⊢
      omega) hd
    simp only [tailA, List.length_append, List.length_cons] at hf
    simp only [tailA, List.cons_append, List.append_assoc]
    rw [pArr, skipW_bl hp.w1, hp.ok.skip, hp.ok.val f d _ (by omega) hd (stops_bl hp.w2 (by decide) _)]
    dsimp only
    rw [skipW_bl hp.w2, skipW_c _ (by decide)]
    dsimp only
    rw [if_pos rfl, ih]
    rfl
theorem arr_parses {n : Nat} (b0 : Bs) (ps : List Pc) (h0 : AllWS b0) (hps : ∀ q ∈ ps, PcOk n q) : Parses (n + 1) (91 :: (b0 ++ (bodyA ps ++ [93]))) (.arr (ps.map Pc.J)) where
  head := ⟨91, _, rfl, by decide, by decide⟩
  val := fun fu d r hf hd _ => by
    obtain ⟨f, rfl⟩ : ∃ f, fu = f + 1 := ⟨fu - 1, by omega⟩
    simp only [List.length_cons, List.length_append, List.length_nil] at hf
    simp only [List.cons_append, List.append_assoc, List.nil_append]
    rw [pVal, if_neg (by omega), if_neg (by decide), if_pos rfl, skipW_bl h0]
    cases ps with
    | nil =>
      simp only [bodyA, List.nil_append, List.map_nil]
      rw [skipW_c _ (by decide)]
      dsimp only
      rw [if_pos rfl]
    | cons p ps =>
      have hp := hps p (by simp)
      have := arr_parse ps { p with b1 := [] } f (d + 1) r ⟨AllWS.nil, hp.w2, hp.ok⟩ (fun z hz => hps z (by simp [hz])) (by
        simp only [bodyA, List.length_append] at hf ⊢
        omega) (by omega)
      simp only [List.nil_append] at this
      simp only [bodyA, List.append_assoc]
      rw [hp.ok.skip]
      obtain ⟨c, x', hx, hc, h93⟩ := hp.ok.head
      rw [hx] at this ⊢
      simp only [List.cons_append] at this ⊢
      rw [if_neg h93, this]
      rfl
/-! Objects. -/
structure Po where
  b1 : Bs
  B : Bs
  b2 : Bs
  b3 : Bs
  x : Bs
  J : JV
  b4 : Bs
def onePo (p : Po) : Bs := 34 :: (p.B ++ (34 :: (p.b2 ++ (58 :: (p.b3 ++ (p.x ++ p.b4))))))
def tailO : List Po → Bs
  | [] => []
  | p :: ps => 44 :: (p.b1 ++ (onePo p ++ tailO ps))
def bodyO : List Po → Bs
  | [] => []
  | p :: ps => onePo p ++ tailO ps
structure PoOk (n : Nat) (p : Po) : Prop where
  w1 : AllWS p.b1
  raw : RawIn p.B
  w2 : AllWS p.b2
  w3 : AllWS p.b3
  ok : Parses n p.x p.J
  w4 : AllWS p.b4
def kvO (p : Po) : Bs × JV := (p.B, p.J)
theorem tailO_snoc : ∀ (ps : List Po) (p : Po), tailO (ps ++ [p]) = tailO ps ++ 44 :: (p.b1 ++ onePo p)
  | [], p => by simp [tailO]
  | q :: ps, p => by simp [tailO, tailO_snoc ps p]
theorem bodyO_snoc (ps : List Po) (p : Po) (hne : ps ≠ []) : bodyO (ps ++ [p]) = bodyO ps ++ 44 :: (p.b1 ++ onePo p) := by
  cases ps with
  | nil => exact absurd rfl hne
  | cons q ps => simp [bodyO, tailO_snoc]
theorem bodyO_one (p : Po) : bodyO [p] = onePo p := by simp [bodyO, tailO]
theorem rawIn_end {B : Bs} (h : RawIn B) (r : Bs) : rawS false (B ++ 34 :: r) = some (B, r) := by
  rw [h]; simp [rawS]
theorem obj_parse {n : Nat} : ∀ (ps : List Po) (p : Po) (fu d : Nat) (r : Bs), PoOk n p → (∀ q ∈ ps, PoOk n q) → (onePo p ++ tailO ps).length + 4 ≤ fu → d + n ≤ 299 →
    pObj fu d (p.b1 ++ (onePo p ++ (tailO ps ++ 125 :: r))) = some (kvO p :: ps.map kvO, r)
  | [], p, fu, d, r, hp, _, hf, hd => by
    obtain ⟨f, rfl⟩ : ∃ f, fu = f + 1 := ⟨fu - 1, by omega⟩
    simp only [tailO, onePo, List.nil_append, List.append_nil, List.length_append, List.length_cons] at hf
    simp only [tailO, onePo, List.nil_append, List.cons_append, List.append_assoc]
    rw [pObj, skipW_bl hp.w1, skipW_c _ (by decide)]
    dsimp only
    rw [if_pos rfl, rawIn_end hp.raw]
    dsimp only
    rw [skipW_bl hp.w2, skipW_c _ (by decide)]
    dsimp only
    rw [if_pos rfl, skipW_bl hp.w3, hp.ok.skip, hp.ok.val f d _ (by omega) hd (stops_bl hp.w4 (by decide) r)]
    dsimp only
    rw [skipW_bl hp.w4, skipW_c _ (by decide)]
    dsimp only
    rw [if_neg (by decide), if_pos rfl]
    rfl
  | q :: ps, p, fu, d, r, hp, hps, hf, hd => by
    obtain ⟨f, rfl⟩ : ∃ f, fu = f + 1 := ⟨fu - 1, by omega⟩
    have ih := obj_parse ps q f d r (hps q (by simp)) (fun z hz => hps z (by simp [hz])) (by
      simp only [tailO, List.length_append, List.length_cons] at hf ⊢
      omega) hd
    simp only [tailO, onePo, List.length_append, List.length_cons] at hf
    rw [show onePo p = 34 :: (p.B ++ (34 :: (p.b2 ++ (58 :: (p.b3 ++ (p.x ++ p.b4)))))) from rfl]
    simp only [tailO, List.cons_append, List.append_assoc]
    rw [pObj, skipW_bl hp.w1, skipW_c _ (by decide)]
    dsimp only
    rw [if_pos rfl, rawIn_end hp.raw]
    dsimp only
    rw [skipW_bl hp.w2, skipW_c _ (by decide)]
    dsimp only
    rw [if_pos rfl, skipW_bl hp.w3, hp.ok.skip, hp.ok.val f d _ (by omega) hd (stops_bl hp.w4 (by decide) _)]
    dsimp only
    rw [skipW_bl hp.w4, skipW_c _ (by decide)]
    dsimp only
    rw [if_pos rfl, ih]
    rfl
theorem obj_val {n : Nat} (b0 : Bs) (ps : List Po) (h0 : AllWS b0) (hps : ∀ q ∈ ps, PoOk n q) (fu d : Nat) (r : Bs) (hf : (b0 ++ bodyO ps).length + 6 ≤ fu) (hd : d + n ≤ 298) : pVal fu d (123 :: (b0 ++ (bodyO ps ++ 125 :: r))) = some (.obj (ps.map kvO), r) := by
  obtain ⟨f, rfl⟩ : ∃ f, fu = f + 1 := ⟨fu - 1, by omega⟩
  simp only [List.length_append] at hf
  rw [pVal, if_neg (by omega), if_pos rfl, skipW_bl h0]
  cases ps with
  | nil =>
    simp only [bodyO, List.nil_append, List.map_nil]
    rw [skipW_c _ (by decide)]
    dsimp only
    rw [if_pos rfl]
  | cons p ps =>
    have hp := hps p (by simp)
    have := obj_parse ps { p with b1 := [] } f (d + 1) r ⟨AllWS.nil, hp.raw, hp.w2, hp.w3, hp.ok, hp.w4⟩ (fun z hz => hps z (by simp [hz])) (by
      simp only [bodyO, List.length_append] at hf ⊢
      simp only [onePo] at hf ⊢
      omega) (by omega)
    simp only [List.nil_append] at this
    simp only [bodyO, List.append_assoc]
    rw [show onePo p = 34 :: (p.B ++ (34 :: (p.b2 ++ (58 :: (p.b3 ++ (p.x ++ p.b4)))))) from rfl]
    rw [show onePo { p with b1 := [] } = 34 :: (p.B ++ (34 :: (p.b2 ++ (58 :: (p.b3 ++ (p.x ++ p.b4)))))) from rfl] at this
    simp only [List.cons_append] at this ⊢
    rw [skipW_c _ (by decide)]
    dsimp only
    rw [if_neg (by decide), this]
    rfl
theorem obj_parses {n : Nat} (b0 : Bs) (ps : List Po) (h0 : AllWS b0) (hps : ∀ q ∈ ps, PoOk n q) : Parses (n + 1) (123 :: (b0 ++ (bodyO ps ++ [125]))) (.obj (ps.map kvO)) where
  head := ⟨123, _, rfl, by decide, by decide⟩
  val := fun fu d r hf hd _ => by
    simp only [List.length_cons, List.length_append, List.length_nil] at hf
    simp only [List.cons_append, List.append_assoc, List.nil_append]
    exact obj_val b0 ps h0 hps fu d r (by simp only [List.length_append]; omega) (by omega)
theorem text_parses {n : Nat} (hn : n ≤ 298) (a0 b0 a9 : Bs) (ps : List Po) (ha : AllWS a0) (h0 : AllWS b0) (h9 : AllWS a9) (hps : ∀ q ∈ ps, PoOk n q) : pText (a0 ++ (123 :: (b0 ++ (bodyO ps ++ 125 :: a9)))) = some (.obj (ps.map kvO)) := by
  unfold pText
  rw [skipW_bl ha, skipW_c _ (by decide), obj_val b0 ps h0 hps _ _ _ (by simp only [List.length_append, List.length_cons]; omega) (by omega)]
  dsimp only
  rw [skipW_all h9, if_pos rfl]
/-! The leaves. -/
theorem null_parses (n : Nat) : Parses n nullB (.lit 0) where
  head := ⟨110, [117, 108, 108], rfl, by decide, by decide⟩
  val := fun fu d r hf hd _ => by
    obtain ⟨f, rfl⟩ : ∃ f, fu = f + 1 := ⟨fu - 1, by omega⟩
    show pVal (f + 1) d (110 :: (117 :: 108 :: 108 :: r)) = _
    rw [pVal, if_neg (by omega), if_neg (by decide), if_neg (by decide), if_neg (by decide), if_neg (by decide), if_neg (by decide), if_pos rfl, if_pos (show List.take 4 (110 :: 117 :: 108 :: 108 :: r) = nullB from rfl)]
    rfl
theorem true_parses (n : Nat) : Parses n trueB (.lit 5) where
  head := ⟨116, [114, 117, 101], rfl, by decide, by decide⟩
  val := fun fu d r hf hd _ => by
    obtain ⟨f, rfl⟩ : ∃ f, fu = f + 1 := ⟨fu - 1, by omega⟩
    show pVal (f + 1) d (116 :: (114 :: 117 :: 101 :: r)) = _
    rw [pVal, if_neg (by omega), if_neg (by decide), if_neg (by decide), if_neg (by decide), if_pos rfl, if_pos (show List.take 4 (116 :: 114 :: 117 :: 101 :: r) = trueB from rfl)]
    rfl
theorem false_parses (n : Nat) : Parses n falseB (.lit 6) where
  head := ⟨102, [97, 108, 115, 101], rfl, by decide, by decide⟩
  val := fun fu d r hf hd _ => by
    obtain ⟨f, rfl⟩ : ∃ f, fu = f + 1 := ⟨fu - 1, by omega⟩
    show pVal (f + 1) d (102 :: (97 :: 108 :: 115 :: 101 :: r)) = _
    rw [pVal, if_neg (by omega), if_neg (by decide), if_neg (by decide), if_neg (by decide), if_neg (by decide), if_pos rfl, if_pos (show List.take 5 (102 :: 97 :: 108 :: 115 :: 101 :: r) = falseB from rfl)]
    rfl
theorem num_parses (n : Nat) (D : Bs) (hD : ∀ y ∈ D, isDig y) (hne : D ≠ []) : Parses n D (.num D) where
  head := by
    cases D with
    | nil => exact absurd rfl hne
    | cons y D' =>
      have h := isDig_no (hD y (by simp))
      refine ⟨y, D', rfl, h.1, fun e => ?_⟩
      have h9 := hD y (by simp)
      unfold isDig at h9
      rw [e] at h9
      exact absurd h9.2 (by decide)
  val := fun fu d r hf hd hs => by
    obtain ⟨f, rfl⟩ : ∃ f, fu = f + 1 := ⟨fu - 1, by omega⟩
    obtain ⟨c, r', rfl, hc⟩ := hs
    exact pVal_dig f d D c r' (by omega) hD hne hc
theorem minus_parses (n : Nat) (D : Bs) (hD : ∀ y ∈ D, isDig y) (hne : D ≠ []) : Parses n (45 :: D) (.num (45 :: D)) where
  head := ⟨45, D, rfl, by decide, by decide⟩
  val := fun fu d r hf hd hs => by
    obtain ⟨f, rfl⟩ : ∃ f, fu = f + 1 := ⟨fu - 1, by omega⟩
    obtain ⟨c, r', rfl, hc⟩ := hs
    have hn := rawN_num (45 :: D) c r' (fun z hz => by
      rcases List.mem_cons.1 hz with rfl | hz
      · decide
      · exact isDig_num (hD z hz)) (by simp) (fun e => hne (by simpa using e)) (by simp) hc
    rw [List.cons_append] at hn ⊢
    rw [pVal, if_neg (by omega), if_neg (by decide), if_neg (by decide), if_neg (by decide), if_neg (by decide), if_neg (by decide), if_neg (by decide), hn]
    rfl
theorem str_parses (n : Nat) (B : Bs) (hB : RawIn B) : Parses n (34 :: (B ++ [34])) (.str B) where
  head := ⟨34, _, rfl, by decide, by decide⟩
  val := fun fu d r hf hd _ => by
    obtain ⟨f, rfl⟩ : ∃ f, fu = f + 1 := ⟨fu - 1, by omega⟩
    simp only [List.cons_append, List.append_assoc, List.nil_append]
    rw [pVal, if_neg (by omega), if_neg (by decide), if_neg (by decide), if_pos rfl, rawIn_end hB]
    rfl
end Go.Proofs.YtbdmdajbdmdknaaDoor
namespace Go.Proofs.YtbdmdajbdmdknaaDoor
open Go.RowKit
set_option linter.unusedVariables false
set_option linter.unusedSimpArgs false

def strs (l : List ByteArray) : List Value := l.map Value.string
def si (l : List ByteArray) (i : Nat) : ByteArray := l.getD i ByteArray.empty
theorem strs_len (l : List ByteArray) : (strs l).length = l.length := List.length_map ..
theorem strs_at (l : List ByteArray) (i : Nat) (hi : i < l.length) : (strs l)[i]? = some (.string (si l i)) := by
  simp [strs, si, List.getD_eq_getElem?_getD, hi]
theorem strs_one (l : List ByteArray) : ∀ u ∈ strs l, u.oneCell' = true := by
  intro u hu
  obtain ⟨x, _, rfl⟩ := List.mem_map.1 hu
  rfl
theorem si_ext {a b : List ByteArray} (hl : a.length = b.length) (h : ∀ i, i < a.length → si a i = si b i) : a = b := by
  apply List.ext_getElem hl
  intro i h1 h2
  have := h i h1
  simpa [si, List.getD_eq_getElem?_getD, h1, h2] using this
theorem Rd.atS {w : World} {A : Option Addr} {l : List ByteArray} (h : Rd w A (strs l)) (i : Nat) (hi : i < l.length) : ∃ b o, A = some ⟨b, o, none⟩ ∧ b < w.heap.size ∧ w.cell? ⟨b, o + i, none⟩ = some (.string (si l i)) :=
  h i _ (strs_at l i hi)
theorem info_str : (Tryd.prog.info? 9).map (fun i => (i.zero, i.size, i.bytes)) = some (some (.string ByteArray.empty), 1, 16) := by kernel_rfl
theorem bytes_eq (x y : ByteArray) : (x.toList == y.toList) = decide (x = y) := by
  rw [Bool.eq_iff_iff, beq_iff_eq, decide_eq_true_iff]
  constructor
  · intro h
    have hx : ∀ z : ByteArray, z.toList = z.data.toList := fun z => Lib.toList_data z
    rw [hx, hx] at h
    cases x; cases y
    congr 1
    exact Array.toList_inj.1 h
  · rintro rfl; rfl
end Go.Proofs.YtbdmdajbdmdknaaDoor
namespace Go.Proofs.YtbdmdajbdmdknaaDoor
open Go.RowKit
set_option linter.unusedVariables false
set_option linter.unusedSimpArgs false

/-- A style that lies in memory which is new since w0. -/
structure SE (w0 : World) (g : Nat) (W : World) : Prop where
  below : Below w0.heap.size w0 W
  ge : w0.heap.size ≤ g
  sty : ∃ x : Nat, StyAt W g x
theorem SE.lt {w0 W : World} {g : Nat} (h : SE w0 g W) : g < W.heap.size := by
  obtain ⟨x, hx⟩ := h.sty
  exact Row.lt hx
theorem SE.below2 {w0 W W2 : World} {g : Nat} (h : SE w0 g W) (hB : Below W.heap.size W W2) : SE w0 g W2 := by
  obtain ⟨x, hx⟩ := h.sty
  exact ⟨h.below.trans (below_to hB h.below.size), h.ge, x, Row.below hx hB h.lt⟩
theorem SE.alloc {w0 W : World} {g : Nat} (h : SE w0 g W) (o : Obj) : SE w0 g (W.alloc o) := h.below2 (below_alloc0 W o)
theorem SE.drew {w0 W : World} {g : Nat} (h : SE w0 g W) : SE w0 g W.drew := h.below2 (below_drewN0 (Below.refl _ _) 1)
theorem SE.grown {w0 W W2 : World} {g y : Nat} (h : SE w0 g W) (hG : W.grownBy W2 (some g)) (hy : StyAt W2 g y) : SE w0 g W2 :=
  ⟨h.below.grown hG h.below.size (fun k hk => by cases hk; exact h.ge), h.ge, y, hy⟩
/-- The letters of a text between its quotation marks. -/
structure IsTx (s : ByteArray) (B : Bs) : Prop where
  raw : RawIn B
  un : Lib.validD s.data.toList = true → unB B = s.data.toList
  len : B.length ≤ 12 * s.size
theorem textS_nat : ∀ (l : List Nat) (x : Nat), ∃ y : Nat, (textS (x : Int) l).2 = (y : Int)
  | [], x => ⟨x, rfl⟩
  | c :: l, x => by
    have hl : ∀ z : Nat, ∃ y : Nat, lcg (z : Int) = (y : Int) := fun z => ⟨_, lcg_nat z⟩
    have he : ∀ z : Nat, ∃ y : Nat, (escS (z : Int) c).2 = (y : Int) := fun z => by
      obtain ⟨y1, h1⟩ := hl z
      unfold escS
      generalize lcgN (z : Int) 2 = n2
      rw [h1]
      by_cases h2 : shortB (c : Int) = []
      · rw [if_pos h2]; exact ⟨z, rfl⟩
      · rw [if_neg h2]
        by_cases h3 : (z : Int) = 0
        · rw [if_pos h3]; exact ⟨z, rfl⟩
        · rw [if_neg h3]
          by_cases h4 : n2 = 0
          · rw [if_pos h4]; exact ⟨y1, rfl⟩
          · rw [if_neg h4]; exact ⟨y1, rfl⟩
    have hr : ∃ y : Nat, (runeS (x : Int) c).2 = (y : Int) := by
      obtain ⟨y1, h1⟩ := hl x
      unfold runeS
      generalize lcgN (x : Int) 5 = n5
      rw [h1]
      by_cases h2 : mustR (c : Int)
      · rw [if_pos h2]; exact he x
      · rw [if_neg h2]
        generalize encR (c : Int) = E
        by_cases h3 : (x : Int) = 0
        · rw [if_pos h3]; exact ⟨x, rfl⟩
        · rw [if_neg h3]
          by_cases h4 : n5 = 0
          · rw [if_pos h4]; exact he y1
          · rw [if_neg h4]; exact ⟨y1, rfl⟩
    obtain ⟨y, hy⟩ := hr
    obtain ⟨z, hz⟩ := textS_nat l y
    refine ⟨z, ?_⟩
    show (textS (runeS (x : Int) c).2 l).2 = _
    rw [hy, hz]
theorem blankE {w0 W : World} {g : Nat} (h : SE w0 g W) : Calls Tryd.prog 26 #[.pointer (some ⟨g, 0, none⟩)] W fun e w' => ∃ o, e = .returned (.string (bs o)) ∧ IsBl o ∧ SE w0 g w' ∧ W.grownBy w' (some g) := by
  obtain ⟨x, hx⟩ := h.sty
  refine (blank_calls g x W hx).mono ?_
  rintro e w' ⟨o, y, he, hb, hy, hG⟩
  exact ⟨o, he, hb, h.grown hG hy, hG⟩
theorem textE {w0 W : World} {g : Nat} (h : SE w0 g W) (s : ByteArray) (hs : s.size ≤ 1000000) : Calls Tryd.prog 27 #[.pointer (some ⟨g, 0, none⟩), .string s] W fun e w' => ∃ B, e = .returned (.string (bs (34 :: (B ++ [34])))) ∧ IsTx s B ∧ SE w0 g w' ∧ W.grownBy w' (some g) := by
  obtain ⟨x, hx⟩ := h.sty
  refine (text_calls g x s hs W hx).mono ?_
  rintro e w' ⟨he, hy, hG⟩
  obtain ⟨y, hyy⟩ := textS_nat (runesOf s s.size 0) x
  rw [hyy] at hy
  exact ⟨_, he, ⟨bodyS_raw x s, bodyS_un x s, bodyS_len x s⟩, h.grown hG hy, hG⟩
/-- A field, as data. -/
structure FD where
  name : ByteArray
  kind : Nat
  is_ : Bool
  minus : Bool
  num : Nat
  text : ByteArray
  list : List ByteArray
/-- The text of a field's value, and how it is read. -/
structure ValOf (f : FD) (x : Bs) (J : JV) : Prop where
  parses : Parses 1 x J
  str : f.kind = 3 → ∃ B, J = .str B ∧ IsTx f.text B
  nostr : f.kind ≠ 3 → ∀ s, J ≠ .str s
  lit : ∀ t, J = .lit t → t = 0 ∨ t = 5 ∨ t = 6
  len : x.length ≤ 5000000
def valV (f : FD) (A : Option Addr) (z c : Nat) : Value := fieldV f.name f.kind f.is_ f.minus f.num f.text A z c
def VE (w0 : World) (g : Nat) (f : FD) (e : Ending) (w' : World) : Prop := ∃ x J, e = .returned (.string (bs x)) ∧ ValOf f x J ∧ SE w0 g w'
set_option maxHeartbeats 1000000 in
theorem value0E {w0 W : World} {g : Nat} (h : SE w0 g W) (f : FD) (hk : f.kind = 0) (A : Option Addr) (z c : Nat) :
    Calls Tryd.prog 28 #[.pointer (some ⟨g, 0, none⟩), valV f A z c] W (VE w0 g f) := by
  obtain ⟨name, kind, is_, minus, num, text, list⟩ := f
  obtain rfl : kind = 0 := hk
  have H := hidden h
  unfold valV fieldV
  clear h
  go_enter Tryd.func28, Tryd.ntmps28
  go_wp2
  go_ret
  exact ⟨nullB, _, rfl, ⟨null_parses 1, (fun e => by cases e), (fun _ s e => by cases e), (fun t e => by cases e; exact .inl rfl), by decide⟩, H.out.alloc _⟩
set_option maxHeartbeats 1000000 in
theorem value1E {w0 W : World} {g : Nat} (h : SE w0 g W) (f : FD) (hk : f.kind = 1) (A : Option Addr) (z c : Nat) :
    Calls Tryd.prog 28 #[.pointer (some ⟨g, 0, none⟩), valV f A z c] W (VE w0 g f) := by
  obtain ⟨name, kind, is_, minus, num, text, list⟩ := f
  obtain rfl : kind = 1 := hk
  have H := hidden h
  unfold valV fieldV
  clear h
  cases is_ with
  | true =>
    go_enter Tryd.func28, Tryd.ntmps28
    go_wp2
    go_ret
    exact ⟨trueB, _, rfl, ⟨true_parses 1, (fun e => by cases e), (fun _ s e => by cases e), (fun t e => by cases e; exact .inr (.inl rfl)), by decide⟩, H.out.alloc _⟩
  | false =>
    go_enter Tryd.func28, Tryd.ntmps28
    go_wp2
    go_ret
    exact ⟨falseB, _, rfl, ⟨false_parses 1, (fun e => by cases e), (fun _ s e => by cases e), (fun t e => by cases e; exact .inr (.inr rfl)), by decide⟩, H.out.alloc _⟩
set_option maxHeartbeats 2000000 in
theorem value2E {w0 W : World} {g : Nat} (h : SE w0 g W) (f : FD) (hk : f.kind = 2) (hn : f.num ≤ 18446744073709551615) (A : Option Addr) (z c : Nat) :
    Calls Tryd.prog 28 #[.pointer (some ⟨g, 0, none⟩), valV f A z c] W (VE w0 g f) := by
  obtain ⟨name, kind, is_, minus, num, text, list⟩ := f
  obtain rfl : kind = 2 := hk
  replace hn : num < 18446744073709551616 := Nat.lt_succ_of_le hn
  have H := hidden h
  have K := hidden (headDigits_calls num hn)
  have hL := decB_len 19 num (by omega)
  have hD := decB_digs (num + 1) num (by omega)
  have HV : Hid (ValOf ⟨name, 2, is_, minus, num, text, list⟩ (decB num) (.num (decB num))) := hidden ⟨num_parses 1 _ hD.1 (decB_ne num), (fun e => by cases e), (fun _ s e => by cases e), (fun t e => by cases e), by omega⟩
  have HVM : Hid (ValOf ⟨name, 2, is_, minus, num, text, list⟩ (45 :: decB num) (.num (45 :: decB num))) := hidden ⟨minus_parses 1 _ hD.1 (decB_ne num), (fun e => by cases e), (fun _ s e => by cases e), (fun t e => by cases e), by simp; omega⟩
  have hz : (bs (decB num)).size ≤ 20 := by rw [size_bs]; exact hL
  have hcons : (⟨#[45]⟩ : ByteArray) ++ bs (decB num) = bs (45 :: decB num) := by rw [show (⟨#[45]⟩ : ByteArray) = bs [45] from rfl, bs_app]; rfl
  obtain ⟨D, hDD⟩ : ∃ D, bs (decB num) = D := ⟨_, rfl⟩
  rw [hDD] at K hz hcons
  have HC := hidden (And.intro hcons hDD)
  have e1 : (⟨#[45]⟩ : ByteArray).size = 1 := rfl
  unfold valV fieldV
  clear h hL hD hcons hDD
  obtain ⟨n, hn2⟩ : ∃ n : Int, (num : Int) = n := ⟨_, rfl⟩
  have hn0 : 0 ≤ n := by omega
  rw [hn2] at K
  show Calls Tryd.prog _ #[_, .agg #[.string name, .int .u8 2, .bool is_, .bool minus, .int .u64 (num : Int), .string text, .slice A z c]] W _
  rw [hn2]
  clear hn2 hn
  cases minus with
  | true =>
    by_cases hn1 : 0 < n
    · go_enter Tryd.func28, Tryd.ntmps28
      go_wp2_with (go_at_call 40; go_must (refine (K.out _).mono ?_; rintro e w1 ⟨rfl, rfl⟩))
      go_ret
      exact ⟨_, _, congrArg (fun x => Ending.returned (.string x)) HC.out.1, HVM.out, H.out.alloc _⟩
    · go_enter Tryd.func28, Tryd.ntmps28
      go_wp2_with (go_at_call 40; go_must (refine (K.out _).mono ?_; rintro e w1 ⟨rfl, rfl⟩))
      go_ret
      exact ⟨_, _, congrArg (fun x => Ending.returned (.string x)) HC.out.2.symm, HV.out, H.out.alloc _⟩
  | false =>
    go_enter Tryd.func28, Tryd.ntmps28
    go_wp2_with (go_at_call 40; go_must (refine (K.out _).mono ?_; rintro e w1 ⟨rfl, rfl⟩))
    go_ret
    exact ⟨_, _, congrArg (fun x => Ending.returned (.string x)) HC.out.2.symm, HV.out, H.out.alloc _⟩
set_option maxHeartbeats 1000000 in
theorem value3E {w0 W : World} {g : Nat} (h : SE w0 g W) (f : FD) (hk : f.kind = 3) (ht : f.text.size ≤ 200) (A : Option Addr) (z c : Nat) :
    Calls Tryd.prog 28 #[.pointer (some ⟨g, 0, none⟩), valV f A z c] W (VE w0 g f) := by
  obtain ⟨name, kind, is_, minus, num, text, list⟩ := f
  obtain rfl : kind = 3 := hk
  have H := hidden h
  have K := hidden (fun W (h : SE w0 g W) => textE h text (by have := ht; dsimp only at this; omega))
  have HT := hidden ht
  unfold valV fieldV
  clear h ht
  go_enter Tryd.func28, Tryd.ntmps28
  go_wp2_with (go_at_call 27; go_must (refine (K.out _ (H.out.alloc _)).mono ?_; rintro e w1 ⟨B, rfl, hTx, hSE, hG⟩; have H1 := hidden hTx; have H2 := hidden hSE; clear hTx hSE hG))
  go_ret
  exact ⟨_, _, rfl, ⟨str_parses 1 _ H1.out.raw, fun _ => ⟨B, rfl, H1.out⟩, fun e => absurd rfl e, (fun t e => by cases e), by have := H1.out.len; have h2 := HT.out; simp only [List.length_cons, List.length_append, List.length_nil]; omega⟩, H2.out⟩
end Go.Proofs.YtbdmdajbdmdknaaDoor
