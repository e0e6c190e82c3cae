/- The reference's hash. -/
import Derived.Test.YtbdmdajbdmdknaaGreatDoorShaB
namespace Go.Proofs.YtbdmdajbdmdknaaGreatDoor
open Go.RowKit
set_option linter.unusedVariables false
set_option linter.unusedSimpArgs false

/-- s[i:j], elements of one cell. -/
theorem run_mid {P : Program} {W : World} {t e : TypeId} (ht : P.underlying t = some (.slice e)) (hsz : (P.info? e).map (·.size) = some 1) (A : Option Addr) (len cap : Nat) (x y : Int) (i j : Nat) (hx : x = (i : Int)) (hy : y = (j : Int)) (hij : i ≤ j) (hj : j ≤ cap) :
    (Instr.slice t (.slice A len cap) (some (.int .i64 x)) (some (.int .i64 y)) none).run P W = .ok (.slice (if cap = i then A else A.map (·.add i)) (j - i) (cap - i)) W := by
  subst hx hy
  obtain ⟨i0, hi, hs⟩ := Option.map_eq_some_iff.1 hsz
  simp [Instr.slice, run_underlying ht, Instr.sliceBounds, run_sliceBound, sizeOf, typeInfo, hi, hs, hij, hj]
theorem opRun_call2 {P : Program} {ρ : Operand → Value} {f : FuncId} {xs : Array Operand} {ats : Array TypeId} {ty : TypeId} {w : World} {args : Array Value} (hf : ρ (.func f) = .func (.func f) #[] #[]) (he : xs.map ρ = args) (hc : (callFunc f args).run P w = .ok (.enter f args) w) :
    opRun P ρ (.call { callee := .value (.func f), args := xs, argTypes := ats }) ty w = .ok (.enter f args) w := by
  subst he; exact opRun_call hf hc
/-- How many zeros are laid. -/
def zeroN (n : Nat) : Nat := (119 - n % 64) % 64
theorem zeroN_at (n : Nat) : (n + 1 + zeroN n) % 64 = 56 := by unfold zeroN; omega
theorem zeroN_lt (n z : Nat) (h : z < zeroN n) : (n + 1 + z) % 64 ≠ 56 := by unfold zeroN at h; omega
theorem zeroN_le (n : Nat) : zeroN n ≤ 63 := by unfold zeroN; omega
def lenB (n : Nat) : List Int := [(n : Int) * 8 / 72057594037927936, (n : Int) * 8 / 281474976710656, (n : Int) * 8 / 1099511627776, (n : Int) * 8 / 4294967296, (n : Int) * 8 / 16777216, (n : Int) * 8 / 65536, (n : Int) * 8 / 256 % 256, (n : Int) * 8 % 256]
/-- What is hashed, by whole blocks. -/
def padS (l : List Int) : List Int := l ++ [128] ++ List.replicate (zeroN l.length) 0 ++ lenB l.length
def shaFold (all : List Int) : Nat → List Int
  | 0 => [1779033703, 3144134277, 1013904242, 2773480762, 1359893119, 2600822924, 528734635, 1541459225]
  | k + 1 => shaBlk (shaFold all k) ((all.drop (64 * k)).take 64)
def shaByte (hs : List Int) (i : Nat) : Int := (gi hs (i / 4) / 2 ^ (24 - 8 * (i % 4))) % 256
def shaOut (hs : List Int) : Nat → List Int := lays (fun _ i => shaByte hs i) (List.replicate 32 0) 0
/-- The hash of some bytes. -/
def shaSum (l : List Int) : List Int := shaOut (shaFold (padS l) ((padS l).length / 64)) 32
structure SumIs (l r : List Int) : Prop where
  eq : r = shaSum l
structure OutIs (hs r : List Int) : Prop where
  eq : r = shaOut hs 32
theorem shaSum_len (l : List Int) : (shaSum l).length = 32 := by unfold shaSum shaOut; rw [lays_len]; rfl
theorem padS_len (l : List Int) : (padS l).length = l.length + 1 + zeroN l.length + 8 := by simp [padS, lenB]; omega
theorem rep_succ (L : List Int) (z : Nat) : L ++ List.replicate z 0 ++ [0] = L ++ List.replicate (z + 1) 0 := by rw [List.append_assoc, ← List.replicate_succ']
def z32 : List Int := List.replicate 32 0
/-- The world while the bytes are laid. -/
structure PadW (w W : World) (v : Value) (L : List Int) : Prop where
  own : Own W (w.heap.size + 1) 5 v (nums .u8 L)
  below : Below w.heap.size w W
  lo : w.heap.size + 1 ≤ W.heap.size
  res : Row W w.heap.size 79 (nums .u8 z32)
theorem PadW.next {w W W1 : World} {v : Value} {L : List Int} (h : PadW w W v L) (hb : Below W.heap.size W W1) : PadW w W1 v L :=
  ⟨h.own.below hb, below_next h.below hb, Nat.le_trans h.lo hb.size, h.res.below hb h.res.lt⟩
theorem PadW.app {w W Wm W2 : World} {v v2 : Value} {L ys : List Int} (h : PadW w W v L) (hm : Below W.heap.size W Wm) (hO : Own W2 (w.heap.size + 1) 5 v2 (nums .u8 L ++ nums .u8 ys)) (hg : Wm.grownBy W2 v.ownBlock) : PadW w W2 v2 (L ++ ys) := by
  have h1 := h.next hm
  exact ⟨by rw [nums_app]; exact hO, below_app h1.below hg h1.own (by omega) h1.lo, Nat.le_trans h1.lo hg.size, h1.res.grown hg (fun e => by have := (h1.own.lt _ e.symm).1; omega)⟩
theorem PadW.slice {w W : World} {v : Value} {L : List Int} (h : PadW w W v L) : ∃ A c, v = .slice A L.length c ∧ L.length ≤ c ∧ Rd W A (nums .u8 L) := by
  obtain ⟨A, c, rfl, hc, hr, _⟩ := h.own.read
  rw [nums_len] at hc ⊢
  exact ⟨A, c, rfl, hc, hr⟩
theorem padW_next {w W W2 : World} {v v2 : Value} {L : List Int} {j n : Nat} {x : Int} {o : Obj} (h : PadW w W v (L ++ (lenB n).take j)) (e : (lenB n).take (j + 1) = (lenB n).take j ++ [x]) (hO : Own W2 (w.heap.size + 1) 5 v2 (nums .u8 (L ++ (lenB n).take j) ++ nums .u8 [x])) (hg : (W.alloc o).grownBy W2 v.ownBlock) : PadW w W2 v2 (L ++ (lenB n).take (j + 1)) := by
  rw [e, ← List.append_assoc]
  exact h.app (below_alloc0 W o) hO hg
def lenOf : Value → Nat
  | .slice _ n _ => n
  | _ => 0
/-- The world while the hash is handed out. -/
structure OutW (w W : World) (gH gO : Nat) (hs out : List Int) : Prop where
  below : Below w.heap.size w W
  res : Row W w.heap.size 79 (nums .u8 z32)
  h : Row W gH 113 (nums .u32 hs)
  o : Row W gO 79 (nums .u8 out)
  ne : gH ≠ gO
  lo : w.heap.size < gO
theorem OutW.put {w W : World} {gH gO j : Nat} {hs out out' : List Int} {v : Int} (h : OutW w W gH gO hs out) (e : out' = out.set j v) : OutW w (W.setCell ⟨gO, j, none⟩ (.int .u8 v)) gH gO hs out' := by
  have hl := h.lo
  have hn := h.ne
  rw [e]
  exact ⟨h.below.setCell (by simp; omega) _, h.res.far (by simp; omega) _, h.h.far (by simp; omega) _, h.o.iset j v, hn, hl⟩
theorem shaOut_len (hs : List Int) (k : Nat) : (shaOut hs k).length = 32 := by unfold shaOut; rw [lays_len]; rfl
theorem shaOut_succ (hs : List Int) (k : Nat) : shaOut hs (k + 1) = (shaOut hs k).set k (shaByte hs k) := by unfold shaOut; rw [lays, Nat.zero_add]
theorem shaBlk_calls (hs : List Int) (h8 : hs.length = 8) (A : Option Addr) (c : Nat) (b : List Int) (w : World) (hb : Rd w A (nums .u8 b)) (hn : b.length = 64) (hB : IsB b) :
    Calls Tryz.prog 62 #[.agg (nums .u32 hs).toArray, .slice A 64 c] w fun e w' => e = .returned (.agg (nums .u32 (shaBlk hs b)).toArray) ∧ Below w.heap.size w w' := by
  match hs, h8 with
  | [h0, h1, h2, h3, h4, h5, h6, h7], _ => exact shaBlock_calls h0 h1 h2 h3 h4 h5 h6 h7 A c b w hb hn hB
theorem shaFold_len (P : List Int) : ∀ k, (shaFold P k).length = 8
  | 0 => rfl
  | k + 1 => by rw [shaFold, shaBlk_len, shaFold_len P k]
theorem lenB_isB {n : Nat} (h : n ≤ 100000) : IsB (lenB n) := by
  intro x hx
  simp only [lenB, List.mem_cons, List.not_mem_nil, or_false] at hx
  omega
theorem padS_isB {l : List Int} (h : IsB l) (hn : l.length ≤ 100000) : IsB (padS l) := by
  intro x hx
  unfold padS at hx
  rcases List.mem_append.1 hx with hx | hx
  · rcases List.mem_append.1 hx with hx | hx
    · rcases List.mem_append.1 hx with hx | hx
      · exact h x hx
      · simp at hx; omega
    · have := List.eq_of_mem_replicate hx; omega
  · exact lenB_isB hn x hx
theorem blk_at (P : List Int) (k q : Nat) (h : P.length = 64 * q) (hk : k < q) : ((P.drop (64 * k)).take 64).length = 64 := by
  rw [List.length_take, List.length_drop]; omega
set_option maxRecDepth 100000 in
set_option maxHeartbeats 4000000 in
theorem shaSum_calls (A : Option Addr) (n c : Nat) (l : List Int) (w : World) (hr : Rd w A (nums .u8 l)) (hn : l.length = n) (hB : IsB l) (hb : n ≤ 100000) :
    Calls Tryz.prog 43 #[.slice A n c] w fun e w' => e = .returned (.agg (nums .u8 (shaSum l)).toArray) ∧ Below w.heap.size w w' := by
  obtain ⟨r, HSr⟩ : ∃ r, SumIs l r := ⟨_, ⟨rfl⟩⟩
  have Hrl : Hid (r.length = 32) := hidden (by rw [HSr.eq]; exact shaSum_len l)
  rw [← HSr.eq]
  have Hr := hidden hr
  have Hn := hidden hn
  have HB := hidden hB
  clear hr hn hB
  have HZ : Hid (PadW w ((w.alloc (.cells #[.int .u8 0, .int .u8 0, .int .u8 0, .int .u8 0, .int .u8 0, .int .u8 0, .int .u8 0, .int .u8 0, .int .u8 0, .int .u8 0, .int .u8 0, .int .u8 0, .int .u8 0, .int .u8 0, .int .u8 0, .int .u8 0, .int .u8 0, .int .u8 0, .int .u8 0, .int .u8 0, .int .u8 0, .int .u8 0, .int .u8 0, .int .u8 0, .int .u8 0, .int .u8 0, .int .u8 0, .int .u8 0, .int .u8 0, .int .u8 0, .int .u8 0, .int .u8 0] 79)).alloc (.cells #[] 5)) (.slice (some ⟨w.heap.size + 1, 0, none⟩) 0 0) []) := hidden (by
    refine ⟨?_, (below_alloc0 w _).alloc (by simp) _, by simp, (Row.new w 79 (nums .u8 z32)).alloc _⟩
    have := Own.of_row (vs := []) (rest := []) (c := 0) (base := w.heap.size + 1) (Row.new (w.alloc (.cells #[.int .u8 0, .int .u8 0, .int .u8 0, .int .u8 0, .int .u8 0, .int .u8 0, .int .u8 0, .int .u8 0, .int .u8 0, .int .u8 0, .int .u8 0, .int .u8 0, .int .u8 0, .int .u8 0, .int .u8 0, .int .u8 0, .int .u8 0, .int .u8 0, .int .u8 0, .int .u8 0, .int .u8 0, .int .u8 0, .int .u8 0, .int .u8 0, .int .u8 0, .int .u8 0, .int .u8 0, .int .u8 0, .int .u8 0, .int .u8 0, .int .u8 0, .int .u8 0] 79)) 5 []) (by simp) rfl (by simp [maxLen])
    rw [World.size_alloc] at this
    exact this)
  have Hnl : Hid ((nums .u8 l).length = n) := hidden (by rw [nums_len]; exact Hn.out)
  go_enter Tryz.func43, Tryz.ntmps43
  go_wp2_with (first
    | (at_builtin; refine walk_app (v := .slice (some ⟨w.heap.size + 1, 0, none⟩) 0 0) (base := w.heap.size + 1) rfl (.tmp 10) (.tmp 11) rfl Tryz.underlying31 info_u8 rfl (by decide) rfl rfl HZ.out.own ((Hr.out.alloc _).alloc _) Hnl.out (nums_one _ _) HZ.out.lo (by rw [Hnl.out]; simp [nums]; omega) ?_; intro v1 w1 hO1 hg1 _; have HP1 := hidden (HZ.out.app (ys := l) (Below.refl _ _) (by rw [show nums .u8 ([] : List Int) = [] from rfl]; exact hO1) hg1); clear hO1 hg1; rw [List.nil_append] at HP1)
    | (at_builtin; refine walk_app (base := w.heap.size + 1) rfl (.tmp 13) (.tmp 14) rfl Tryz.underlying31 info_u8 rfl (by decide) rfl rfl (HP1.out.own.alloc _) (Rd.new w1 5 (nums .u8 [128]) _ rfl) rfl (nums_one _ _) (Nat.le_trans HP1.out.lo (below_alloc0 w1 _).size) (by rw [Hnl.out]; simp [nums]; omega) ?_; intro v2 w2 hO2 hg2 _; have HP2 := hidden (HP1.out.app (below_alloc0 w1 _) hO2 hg2); clear hO2 hg2))
  go_loopw [3] (fun v wr => ∃ z : Nat, z ≤ zeroN n ∧ Hid (PadW w wr v (l ++ [128] ++ List.replicate z 0))) (fun v _ => n + 65 - lenOf v)
  case atStart => exact ⟨0, by omega, hidden (by rw [List.replicate_zero, List.append_nil]; exact HP2.out)⟩
  case round =>
    obtain ⟨z, hz, HP⟩ := hrel
    obtain ⟨A3, c3, rfl, hc3, hr3⟩ := HP.out.slice
    have hlen : (l ++ [128] ++ List.replicate z 0).length = n + 1 + z := by simp [Hn.out]; omega
    obtain ⟨m, hm⟩ : ∃ m, (l ++ [128] ++ List.replicate z 0).length = m := ⟨_, rfl⟩
    have hmn : m = n + 1 + z := by rw [← hm, hlen]
    have hzb := zeroN_le n
    have HS := hidden (rep_succ (l ++ [128]) z)
    generalize hL : l ++ [128] ++ List.replicate z 0 = L at *
    rw [hm] at HP hc3 ⊢
    have HR3 := hidden hr3
    have HL3 := hidden hm
    have HLe := hidden hL
    clear hr3 hlen hm hL
    have Hnm : Hid ((nums .u8 L).length = m) := hidden (by rw [nums_len]; exact HL3.out)
    by_cases hzl : z < zeroN n
    · have hmod := zeroN_lt n z hzl
      have hq : ((m : Int) % 64 != 56) = true := by simp; omega
      have hmb : m ≤ 200000 := by omega
      have Hmn := hidden hmn
      clear hmod hmn
      go_wp2_with (at_builtin; refine walk_app (base := w.heap.size + 1) rfl (.tmp 20) (.tmp 21) rfl Tryz.underlying31 info_u8 rfl (by decide) rfl rfl (HP.out.own.alloc _) (Rd.new wr 5 (nums .u8 [0]) _ rfl) rfl (nums_one _ _) (Nat.le_trans HP.out.lo (below_alloc0 wr _).size) (by rw [Hnm.out]; simp [nums]; omega) ?_; intro v4 w4 hO4 hg4 _; have HP4 := hidden (HP.out.app (below_alloc0 wr _) hO4 hg4); rw [HS.out] at HP4; obtain ⟨A4, c4, rfl, _, _⟩ := HP4.out.slice; have Hl4 : Hid ((l ++ [128] ++ List.replicate (z + 1) 0).length = m + 1) := hidden (by rw [← HS.out, List.length_append, HL3.out]; rfl); rw [Hl4.out] at HP4; rw [Hl4.out]; clear hO4 hg4)
      go_roundw
      case rel => exact ⟨z + 1, by omega, HP4⟩
      case measure =>
        have h1 := Hmn.out
        have h2 := Hl4.out
        simp only [lenOf]
        omega
    · obtain rfl : z = zeroN n := by omega
      have hmod := zeroN_at n
      have hq : ((m : Int) % 64 != 56) = false := by simp; omega
      have hmb : m ≤ 200000 := by omega
      have Hmn := hidden hmn
      clear hmod hmn
      go_wp2
      go_loopw [3, 5] (fun v i wr => ∃ (j : Nat) (I : Int), j ≤ 8 ∧ I = 7 - (j : Int) ∧ i = .int .i64 I ∧ Hid (PadW w wr v (L ++ (lenB n).take j))) (fun _ i _ => (intOf i + 1).toNat)
      case atStart => exact ⟨0, 7, by omega, by omega, rfl, hidden (by rw [List.take_zero, List.append_nil]; exact HP.out)⟩
      case round =>
        obtain ⟨j, I, hj, hI, rfl, HPj⟩ := hrel
        obtain ⟨A5, c5, rfl, hc5, hr5⟩ := HPj.out.slice
        have hl5 : (L ++ (lenB n).take j).length = m + j := by rw [List.length_append, HL3.out, List.length_take]; simp [lenB]; omega
        rw [hl5] at HPj hc5 ⊢
        have HR5 := hidden hr5
        have Hn5 : Hid ((nums .u8 (L ++ (lenB n).take j)).length = m + j) := hidden (by rw [nums_len]; exact hl5)
        clear hr5 hl5
        rcases (show j = 0 ∨ j = 1 ∨ j = 2 ∨ j = 3 ∨ j = 4 ∨ j = 5 ∨ j = 6 ∨ j = 7 ∨ j = 8 by omega) with rfl | rfl | rfl | rfl | rfl | rfl | rfl | rfl | rfl
        · obtain rfl : I = 7 := by omega
          clear hI hj
          go_wp2_with (at_builtin; go_must (refine walk_app (base := w.heap.size + 1) rfl (.tmp 31) (.tmp 37) rfl Tryz.underlying31 info_u8 rfl (by decide) rfl rfl (HPj.out.own.alloc _) (Rd.new wr 5 (nums .u8 [(n : Int) * 8 / 72057594037927936]) _ rfl) rfl (nums_one _ _) (Nat.le_trans HPj.out.lo (below_alloc0 wr _).size) (by rw [Hn5.out]; simp [nums]; omega) ?_); intro v6 w6 hO6 hg6 _; have HP6 := hidden (padW_next (j := 0) (n := n) HPj.out rfl hO6 hg6); clear hO6 hg6)
          go_roundw
          case rel => exact ⟨1, 6, by omega, by omega, rfl, HP6⟩
          case measure => simp [intOf]
        · obtain rfl : I = 6 := by omega
          clear hI hj
          go_wp2_with (at_builtin; go_must (refine walk_app (base := w.heap.size + 1) rfl (.tmp 31) (.tmp 37) rfl Tryz.underlying31 info_u8 rfl (by decide) rfl rfl (HPj.out.own.alloc _) (Rd.new wr 5 (nums .u8 [(n : Int) * 8 / 281474976710656]) _ rfl) rfl (nums_one _ _) (Nat.le_trans HPj.out.lo (below_alloc0 wr _).size) (by rw [Hn5.out]; simp [nums]; omega) ?_); intro v6 w6 hO6 hg6 _; have HP6 := hidden (padW_next (j := 1) (n := n) HPj.out rfl hO6 hg6); clear hO6 hg6)
          go_roundw
          case rel => exact ⟨2, 5, by omega, by omega, rfl, HP6⟩
          case measure => simp [intOf]
        · obtain rfl : I = 5 := by omega
          clear hI hj
          go_wp2_with (at_builtin; go_must (refine walk_app (base := w.heap.size + 1) rfl (.tmp 31) (.tmp 37) rfl Tryz.underlying31 info_u8 rfl (by decide) rfl rfl (HPj.out.own.alloc _) (Rd.new wr 5 (nums .u8 [(n : Int) * 8 / 1099511627776]) _ rfl) rfl (nums_one _ _) (Nat.le_trans HPj.out.lo (below_alloc0 wr _).size) (by rw [Hn5.out]; simp [nums]; omega) ?_); intro v6 w6 hO6 hg6 _; have HP6 := hidden (padW_next (j := 2) (n := n) HPj.out rfl hO6 hg6); clear hO6 hg6)
          go_roundw
          case rel => exact ⟨3, 4, by omega, by omega, rfl, HP6⟩
          case measure => simp [intOf]
        · obtain rfl : I = 4 := by omega
          clear hI hj
          go_wp2_with (at_builtin; go_must (refine walk_app (base := w.heap.size + 1) rfl (.tmp 31) (.tmp 37) rfl Tryz.underlying31 info_u8 rfl (by decide) rfl rfl (HPj.out.own.alloc _) (Rd.new wr 5 (nums .u8 [(n : Int) * 8 / 4294967296]) _ rfl) rfl (nums_one _ _) (Nat.le_trans HPj.out.lo (below_alloc0 wr _).size) (by rw [Hn5.out]; simp [nums]; omega) ?_); intro v6 w6 hO6 hg6 _; have HP6 := hidden (padW_next (j := 3) (n := n) HPj.out rfl hO6 hg6); clear hO6 hg6)
          go_roundw
          case rel => exact ⟨4, 3, by omega, by omega, rfl, HP6⟩
          case measure => simp [intOf]
        · obtain rfl : I = 3 := by omega
          clear hI hj
          go_wp2_with (at_builtin; go_must (refine walk_app (base := w.heap.size + 1) rfl (.tmp 31) (.tmp 37) rfl Tryz.underlying31 info_u8 rfl (by decide) rfl rfl (HPj.out.own.alloc _) (Rd.new wr 5 (nums .u8 [(n : Int) * 8 / 16777216]) _ rfl) rfl (nums_one _ _) (Nat.le_trans HPj.out.lo (below_alloc0 wr _).size) (by rw [Hn5.out]; simp [nums]; omega) ?_); intro v6 w6 hO6 hg6 _; have HP6 := hidden (padW_next (j := 4) (n := n) HPj.out rfl hO6 hg6); clear hO6 hg6)
          go_roundw
          case rel => exact ⟨5, 2, by omega, by omega, rfl, HP6⟩
          case measure => simp [intOf]
        · obtain rfl : I = 2 := by omega
          clear hI hj
          go_wp2_with (at_builtin; go_must (refine walk_app (base := w.heap.size + 1) rfl (.tmp 31) (.tmp 37) rfl Tryz.underlying31 info_u8 rfl (by decide) rfl rfl (HPj.out.own.alloc _) (Rd.new wr 5 (nums .u8 [(n : Int) * 8 / 65536]) _ rfl) rfl (nums_one _ _) (Nat.le_trans HPj.out.lo (below_alloc0 wr _).size) (by rw [Hn5.out]; simp [nums]; omega) ?_); intro v6 w6 hO6 hg6 _; have HP6 := hidden (padW_next (j := 5) (n := n) HPj.out rfl hO6 hg6); clear hO6 hg6)
          go_roundw
          case rel => exact ⟨6, 1, by omega, by omega, rfl, HP6⟩
          case measure => simp [intOf]
        · obtain rfl : I = 1 := by omega
          clear hI hj
          go_wp2_with (at_builtin; go_must (refine walk_app (base := w.heap.size + 1) rfl (.tmp 31) (.tmp 37) rfl Tryz.underlying31 info_u8 rfl (by decide) rfl rfl (HPj.out.own.alloc _) (Rd.new wr 5 (nums .u8 [(n : Int) * 8 / 256 % 256]) _ rfl) rfl (nums_one _ _) (Nat.le_trans HPj.out.lo (below_alloc0 wr _).size) (by rw [Hn5.out]; simp [nums]; omega) ?_); intro v6 w6 hO6 hg6 _; have HP6 := hidden (padW_next (j := 6) (n := n) HPj.out rfl hO6 hg6); clear hO6 hg6)
          go_roundw
          case rel => exact ⟨7, 0, by omega, by omega, rfl, HP6⟩
          case measure => simp [intOf]
        · obtain rfl : I = 0 := by omega
          clear hI hj
          go_wp2_with (at_builtin; go_must (refine walk_app (base := w.heap.size + 1) rfl (.tmp 31) (.tmp 37) rfl Tryz.underlying31 info_u8 rfl (by decide) rfl rfl (HPj.out.own.alloc _) (Rd.new wr 5 (nums .u8 [(n : Int) * 8 % 256]) _ rfl) rfl (nums_one _ _) (Nat.le_trans HPj.out.lo (below_alloc0 wr _).size) (by rw [Hn5.out]; simp [nums]; omega) ?_); intro v6 w6 hO6 hg6 _; have HP6 := hidden (padW_next (j := 7) (n := n) HPj.out rfl hO6 hg6); clear hO6 hg6)
          go_roundw
          case rel => exact ⟨8, -1, by omega, by omega, rfl, HP6⟩
          case measure => simp [intOf]
        · obtain rfl : I = -1 := by omega
          clear hI hj
          obtain ⟨P, hP⟩ : ∃ P, P = padS l := ⟨_, rfl⟩
          have hPe : L ++ (lenB n).take 8 = P := by
            rw [hP, padS, Hn.out, HLe.out]
            rfl
          obtain ⟨q, hq8⟩ : ∃ q, m + 8 = 64 * q := by
            have h1 := zeroN_at n
            have h2 := Hmn.out
            exact ⟨(m + 8) / 64, by omega⟩
          have hPl : P.length = 64 * q := by rw [← hPe, ← hq8]; have := Hn5.out; rwa [nums_len] at this
          have hPB : IsB P := by rw [hP]; exact padS_isB HB.out (by rw [Hn.out]; exact hb)
          rw [hPe] at HR5
          have HP8 := hidden hP
          have HPl := hidden hPl
          have HPB := hidden hPB
          have HQ := hidden hq8
          have Hbel := hidden (HPj.out.below)
          have Hres := hidden (HPj.out.res)
          have HPj_lt := hidden (HPj.out.lo)
          have Hc5 := hidden hc5
          have hq200 : q ≤ 10000 := by omega
          have HRf : Hid (Row (wr.alloc (.cells (nums .u32 (shaFold P 0)).toArray 113)) wr.heap.size 113 (nums .u32 (shaFold P 0))) := hidden (Row.new wr _ _)
          clear hP hPe hq8 hPl hPB hc5 hq hmb hzl hz hzb HPj Hn5 hc3
          obtain ⟨wo, rfl⟩ : ∃ wo : World, wo = wr := ⟨_, rfl⟩
          go_wp2
          go_loopw [7] (fun i wq => ∃ (k : Nat) (I : Int), k ≤ q ∧ I = 64 * (k : Int) ∧ i = .int .i64 I ∧ Hid (Below wo.heap.size wo wq ∧ Row wq wo.heap.size 113 (nums .u32 (shaFold P k)))) (fun i _ => 64 * q - (intOf i).toNat)
          case atStart => exact ⟨0, 0, by omega, by omega, rfl, hidden ⟨below_alloc0 _ _, HRf.out⟩⟩
          case round =>
            obtain ⟨k, I, hk, hI, rfl, HF⟩ := hrel
            by_cases hlt : k < q
            · have hcond : I < (m : Int) + 8 := by have := HQ.out; omega
              have HI := hidden hI
              have hIb : 0 ≤ I ∧ I ≤ 1000000 := by omega
              clear hI
              have hs8 := shaFold_len P k
              have HN : Hid (shaFold P (k + 1) = shaBlk (shaFold P k) ((P.drop (64 * k)).take 64)) := hidden rfl
              have hb64 := hidden (blk_at P k q HPl.out hlt)
              have hbB : Hid (IsB ((P.drop (64 * k)).take 64)) := hidden (fun x hx => HPB.out x (List.mem_of_mem_drop (List.mem_of_mem_take hx)))
              have hRb : ∀ W, Below wr.heap.size wr W → Rd W (if c5 = 64 * k then A5 else A5.map (·.add (64 * k))) (nums .u8 ((P.drop (64 * k)).take 64)) := fun W hW => by
                have h1 := (HR5.out.below HF.out.1 (Nat.le_refl _)).below hW (Nat.le_refl _)
                have h2 := h1.drop (64 * k) c5 (by rw [nums_len, HPl.out, ← HQ.out]; exact Hc5.out)
                have h3 := h2.take 64
                rwa [nums, ← List.map_drop, ← List.map_take] at h3
              have hsl : ∀ W, (Instr.slice 31 (.slice A5 (m + 8) c5) (some (.int .i64 I)) (some (.int .i64 (I + 64))) none).run Tryz.prog W = .ok (.slice (if c5 = 64 * k then A5 else A5.map (·.add (64 * k))) 64 (c5 - 64 * k)) W := fun W => by
                have h1 := run_mid (W := W) Tryz.underlying31 (by kernel_rfl) A5 (m + 8) c5 I (I + 64) (64 * k) (64 * k + 64) (by have := HI.out; omega) (by have := HI.out; omega) (by omega) (by have := HQ.out; have := Hc5.out; omega)
                rwa [show 64 * k + 64 - 64 * k = 64 by omega] at h1
              have hRb' := hidden hRb
              have hsl' := hidden hsl
              clear hRb hsl
              generalize (if c5 = 64 * k then A5 else A5.map (·.add (64 * k))) = B at *
              generalize (P.drop (64 * k)).take 64 = blk at *
              generalize shaFold P k = hs at *
              generalize c5 - 64 * k = d at *
              have Hs8 := hidden hs8
              clear hs8
              go_wp2
              refine wp_region_quiet_tail (C := fun w' => Below wr.heap.size wr w') 7 (by kernel_rfl) (by kernel_rfl) (by kernel_rfl) (by kernel_rfl) (by kernel_rfl) (by kernel_rfl) (by kernel_rfl) (by kernel_rfl) (below_drewN0 (Below.refl _ _) 1) ?_
              simp only [List.take_succ_cons, List.take_zero]
              refine wpQuiet_val (v := .agg (nums .u32 hs).toArray) rfl (fun W hW => opRun_load_row (HF.out.2.below hW HF.out.2.lt) rfl Tryz.underlying113 rfl (by rw [nums_len, Hs8.out]; kernel_rfl)) ?_
              simp only [Act.put, List.setIfInBounds_toArray, List.set_cons_zero, List.set_cons_succ]
              refine wpQuiet_val (v := .slice A5 (m + 8) c5) rfl (fun W hW => rfl) ?_
              simp only [Act.put, List.setIfInBounds_toArray, List.set_cons_zero, List.set_cons_succ]
              refine wpQuiet_val (v := .int .i64 I) rfl (fun W hW => rfl) ?_
              simp only [Act.put, List.setIfInBounds_toArray, List.set_cons_zero, List.set_cons_succ]
              refine wpQuiet_val (v := .int .i64 I) rfl (fun W hW => rfl) ?_
              simp only [Act.put, List.setIfInBounds_toArray, List.set_cons_zero, List.set_cons_succ]
              refine wpQuiet_val (v := .int .i64 (I + 64)) rfl (fun W hW => by
                have e1 : IntKind.i64.wrap (I + 64) = I + 64 := IntWalk.i64_in _ (by omega)
                unfold opRun
                go_simp) ?_
              simp only [Act.put, List.setIfInBounds_toArray, List.set_cons_zero, List.set_cons_succ]
              refine wpQuiet_val (v := .slice B 64 d) rfl (fun W hW => by
                have e1 := hsl'.out W
                unfold opRun
                go_simp) ?_
              simp only [Act.put, List.setIfInBounds_toArray, List.set_cons_zero, List.set_cons_succ]
              refine wpQuiet_call (v := .agg (nums .u32 (shaBlk hs blk)).toArray) rfl 62 #[.agg (nums .u32 hs).toArray, .slice B 64 d] (fun W hW => opRun_call2 rfl (by simp only [List.map_toArray, List.map_cons, List.map_nil]; rfl) (Tryz.call62 _ _)) (fun W hW => (shaBlk_calls hs Hs8.out B d blk W (hRb'.out W hW) hb64.out hbB.out).mono fun e w'' ⟨he, hb⟩ => ⟨he, below_next hW hb⟩) ?_
              simp only [Act.put, List.setIfInBounds_toArray, List.set_cons_zero, List.set_cons_succ]
              refine wpQuiet_nil ?_
              intro W hW
              have HW := hidden hW
              clear hW
              simp only [List.drop_succ_cons, List.drop_zero]
              have Hb8 : Hid ((shaBlk hs blk).length = 8) := hidden (by rw [shaBlk_len]; exact Hs8.out)
              go_wp2_with (with_reducible refine at_store 6 ?_; go_must (refine walk_store_row (vs := nums .u32 (shaBlk hs blk)) rfl 113 (.tmp 6) (.tmp 52) rfl (HF.out.2.below HW.out HF.out.2.lt) rfl rfl (by rw [nums_len, Hb8.out]; kernel_rfl) (by rw [nums_len, nums_len, Hb8.out]; exact Hs8.out) (nums_one _ _) ?_; intro w7 hR hg; have HF7 := hidden (And.intro ((below_next HF.out.1 HW.out).grown hg (below_next HF.out.1 HW.out).size (by rintro k ⟨⟩; exact Nat.le_refl _)) hR); rw [← HN.out] at HF7; clear hR hg))
              go_roundw
              case rel => exact ⟨k + 1, I + 64, by omega, by have := HI.out; omega, rfl, HF7⟩
              case measure => have := HI.out; simp [intOf]; omega
            · have hcond : ¬ I < (m : Int) + 8 := by have := HQ.out; omega
              obtain rfl : k = q := by omega
              clear hI hlt hk
              have hs8 := hidden (shaFold_len P k)
              have HOr : OutIs (shaFold P k) r := ⟨by
                rw [HSr.eq]
                unfold shaSum
                rw [← HP8.out, HPl.out, Nat.mul_div_cancel_left _ (by omega)]⟩
              clear HSr
              generalize shaFold P k = hs at *
              have hgw := HPj_lt.out
              have hgo : wo.heap.size < wr.heap.size := HF.out.2.lt
              obtain ⟨wp, rfl⟩ : ∃ wp : World, wp = wr := ⟨_, rfl⟩
              have HS0 : Hid (OutW w (wp.alloc (.cells #[.int .u8 0, .int .u8 0, .int .u8 0, .int .u8 0, .int .u8 0, .int .u8 0, .int .u8 0, .int .u8 0, .int .u8 0, .int .u8 0, .int .u8 0, .int .u8 0, .int .u8 0, .int .u8 0, .int .u8 0, .int .u8 0, .int .u8 0, .int .u8 0, .int .u8 0, .int .u8 0, .int .u8 0, .int .u8 0, .int .u8 0, .int .u8 0, .int .u8 0, .int .u8 0, .int .u8 0, .int .u8 0, .int .u8 0, .int .u8 0, .int .u8 0, .int .u8 0] 79)) wo.heap.size wp.heap.size hs (shaOut hs 0)) := hidden (by
                have hb := below_next Hbel.out HF.out.1
                exact ⟨hb.alloc hb.size _, (Hres.out.below HF.out.1 Hres.out.lt).alloc _, HF.out.2.alloc _, Row.new wp _ (nums .u8 z32), by omega, by omega⟩)
              go_wp2
              clear HF HQ HPl HRf HPj_lt Hres Hbel HR5 Hc5 HPB HP8 Hmn HLe HS Hnm HL3 HR3 HP HP2 HP1 Hnl HB Hn Hr hcond hq200 HZ
              go_loopw [9] (fun i wz => ∃ j : Nat, j ≤ 32 ∧ i = .int .i64 j ∧ Hid (OutW w wz wo.heap.size wp.heap.size hs (shaOut hs j))) (fun i _ => 32 - (intOf i).toNat)
              case atStart => exact ⟨0, by omega, rfl, HS0⟩
              case round =>
                obtain ⟨j, hj, rfl, HZj⟩ := hrel
                by_cases hlt : j < 32
                · have HN := hidden (shaOut_succ hs j)
                  have ea := HZj.out.h.icell (j / 4) (by rw [hs8.out]; omega)
                  have eb := HZj.out.o.icell j (by rw [shaOut_len]; exact hlt)
                  have ef := HZj.out.o.free j
                  unfold shaByte at HN
                  have hd : (j : Int) / 4 = ((j / 4 : Nat) : Int) := by omega
                  have hdl : ((j / 4 : Nat) : Int) < 8 := by omega
                  have hr4 : j % 4 = 0 ∨ j % 4 = 1 ∨ j % 4 = 2 ∨ j % 4 = 3 := by omega
                  generalize gi hs (j / 4) = x at *
                  generalize gi (shaOut hs j) j = old at *
                  generalize j / 4 = j4 at *
                  have ed : (j : Int).tdiv 4 = (j4 : Int) := by rw [Int.tdiv_eq_ediv_of_nonneg (by omega)]; exact hd
                  have ew : IntKind.i64.wrap (j4 : Int) = (j4 : Int) := IntWalk.i64_in _ (by omega)
                  clear HS0 HOr Hrl hs8
                  rcases hr4 with hr | hr | hr | hr
                  · have hm : (j : Int) % 4 = 0 := by omega
                    have er : (j : Int).tmod 4 = 0 := by rw [Int.tmod_eq_emod_of_nonneg (by omega)]; exact hm
                    rw [hr] at HN
                    clear hr
                    go_wp2
                    go_roundw
                    case rel => exact ⟨j + 1, by omega, by go_num, hidden (HZj.out.put (by simpa using HN.out))⟩
                    case measure => simp [intOf]; omega
                  · have hm : (j : Int) % 4 = 1 := by omega
                    have er : (j : Int).tmod 4 = 1 := by rw [Int.tmod_eq_emod_of_nonneg (by omega)]; exact hm
                    rw [hr] at HN
                    clear hr
                    go_wp2
                    go_roundw
                    case rel => exact ⟨j + 1, by omega, by go_num, hidden (HZj.out.put (by simpa using HN.out))⟩
                    case measure => simp [intOf]; omega
                  · have hm : (j : Int) % 4 = 2 := by omega
                    have er : (j : Int).tmod 4 = 2 := by rw [Int.tmod_eq_emod_of_nonneg (by omega)]; exact hm
                    rw [hr] at HN
                    clear hr
                    go_wp2
                    go_roundw
                    case rel => exact ⟨j + 1, by omega, by go_num, hidden (HZj.out.put (by simpa using HN.out))⟩
                    case measure => simp [intOf]; omega
                  · have hm : (j : Int) % 4 = 3 := by omega
                    have er : (j : Int).tmod 4 = 3 := by rw [Int.tmod_eq_emod_of_nonneg (by omega)]; exact hm
                    rw [hr] at HN
                    clear hr
                    go_wp2
                    go_roundw
                    case rel => exact ⟨j + 1, by omega, by go_num, hidden (HZj.out.put (by simpa using HN.out))⟩
                    case measure => simp [intOf]; omega
                · obtain rfl : j = 32 := by omega
                  rw [← HOr.eq] at HZj
                  have hlo : w.heap.size < wo.heap.size := by omega
                  clear HOr HS0 hlt hj
                  go_wp2_with (first
                    | (with_reducible refine at_dst 69 ?_; go_must (refine walk_load_row (vs := nums .u8 r) rfl 79 (.tmp 8) rfl HZj.out.o rfl Tryz.underlying79 rfl (by rw [nums_len, Hrl.out]; kernel_rfl) ?_))
                    | (with_reducible refine at_store 2 ?_; go_must (refine walk_store_row (vs := nums .u8 r) rfl 79 (.tmp 2) (.tmp 69) rfl HZj.out.res rfl rfl (by rw [nums_len, Hrl.out]; kernel_rfl) (by rw [nums_len, nums_len, Hrl.out]; simp [z32]) (nums_one _ _) ?_; intro w9 hR hg; have HR9 := hidden hR; have HB9 := hidden (HZj.out.below.grown hg HZj.out.below.size (by rintro q ⟨⟩; exact Nat.le_refl _)); clear hR hg)))
                  exact bodyPost_ret (row_results rfl _ rfl HR9.out Tryz.underlying79 rfl (by rw [nums_len, Hrl.out]; kernel_rfl)) rfl ⟨rfl, HB9.out⟩
end Go.Proofs.YtbdmdajbdmdknaaGreatDoor
