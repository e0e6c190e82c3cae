/- The contracts of the shelf that are used here, laid at this program (by lay-plain.mjs, with names for numbers). laws.headLive; utf8.ValidString; laws.FnHeadName. What the listed variables read as, for the laws of heads. A style writes no more than 65536 blanks in a row: its numbers are those of a linear congruence, whose low 35 bits are one by themselves. Nothing here speaks of the program. -/
import Derived.Shelf.Slices.Turned
import Derived.Shelf.Unicode.ValidAny
import Derived.Test.YtbdmdajbdmdknaaDoorProg
import Derived.Test.YtbdmdajbdmdknaaDoorM10
import Derived.Lib.SmallJoins
import Derived.Test.YtbdmdajbdmdknaaDoorRows
import Derived.LaidMore
import Derived.LaidLaws
import Derived.Stop.Joined
import Derived.Stop.LaidErr
import Derived.Lib.LaidU8T
import Derived.Test.YtbdmdajbdmdknaaDoorHdG
namespace Go.Proofs
open Go.Shelf
def Tryd.lCO_ren : Go.Shelf.Ren := ⟨fun | 110 => 24 | 109 => 36 | n => n, fun | 31 => 27 | 9 => 9 | 4 => 4 | 3 => 3 | 0 => 0 | n => n, fun | n => n⟩
theorem Tryd.lCO : Go.Proofs.Lays.n110 Tryd.prog Tryd.lCO_ren := {
  mixed := by kernel_rfl
  f109 := Tryd.func36.trans (congrArg some (by kernel_rfl))
  f110 := Tryd.func24.trans (congrArg some (by kernel_rfl))
  t0 := Tryd.underlying0
  a0 := Tryd.isAgg0
  z0 := Tryd.sizeOf0
  v0 := Tryd.zeroValue0
  t3 := Tryd.underlying3
  a3 := Tryd.isAgg3
  z3 := Tryd.sizeOf3
  v3 := Tryd.zeroValue3
  t4 := Tryd.underlying4
  a4 := Tryd.isAgg4
  z4 := Tryd.sizeOf4
  v4 := Tryd.zeroValue4
  t9 := Tryd.underlying9
  a9 := Tryd.isAgg9
  z9 := Tryd.sizeOf9
  v9 := Tryd.zeroValue9
  t31 := Tryd.underlying27
  a31 := Tryd.isAgg27
  z31 := Tryd.sizeOf27
  v31 := Tryd.zeroValue27 }
def Tryd.lIX_ren : Go.Shelf.Ren := ⟨fun | 109 => 36 | n => n, fun | 31 => 27 | 9 => 9 | 3 => 3 | 0 => 0 | 4 => 4 | n => n, fun | n => n⟩
theorem Tryd.lIX : Go.Proofs.Lays.n109 Tryd.prog Tryd.lIX_ren := {
  mixed := by kernel_rfl
  f109 := Tryd.func36.trans (congrArg some (by kernel_rfl))
  t0 := Tryd.underlying0
  a0 := Tryd.isAgg0
  z0 := Tryd.sizeOf0
  v0 := Tryd.zeroValue0
  t3 := Tryd.underlying3
  a3 := Tryd.isAgg3
  z3 := Tryd.sizeOf3
  v3 := Tryd.zeroValue3
  t4 := Tryd.underlying4
  a4 := Tryd.isAgg4
  z4 := Tryd.sizeOf4
  v4 := Tryd.zeroValue4
  t9 := Tryd.underlying9
  a9 := Tryd.isAgg9
  z9 := Tryd.sizeOf9
  v9 := Tryd.zeroValue9
  t31 := Tryd.underlying27
  a31 := Tryd.isAgg27
  z31 := Tryd.sizeOf27
  v31 := Tryd.zeroValue27 }
def Tryd.lVA_ren : Go.Shelf.Ren := ⟨fun | 196 => 9 | 259 => 25 | n => n, fun | 9 => 9 | 4 => 4 | 3 => 3 | 5 => 5 | 12 => 12 | 119 => 60 | 0 => 0 | 46 => 64 | 139 => 63 | 138 => 62 | 53 => 23 | n => n, fun | 3 => 0 | 4 => 1 | n => n⟩
theorem Tryd.lVA : Go.Proofs.Lays.n196 Tryd.prog Tryd.lVA_ren := {
  mixed := by kernel_rfl
  f196 := Tryd.func9.trans (congrArg some (by kernel_rfl))
  f259 := Tryd.func25.trans (congrArg some (by kernel_rfl))
  t0 := Tryd.underlying0
  a0 := Tryd.isAgg0
  z0 := Tryd.sizeOf0
  v0 := Tryd.zeroValue0
  t3 := Tryd.underlying3
  a3 := Tryd.isAgg3
  z3 := Tryd.sizeOf3
  v3 := Tryd.zeroValue3
  t4 := Tryd.underlying4
  a4 := Tryd.isAgg4
  z4 := Tryd.sizeOf4
  v4 := Tryd.zeroValue4
  t5 := Tryd.underlying5
  a5 := Tryd.isAgg5
  z5 := Tryd.sizeOf5
  v5 := Tryd.zeroValue5
  t9 := Tryd.underlying9
  a9 := Tryd.isAgg9
  z9 := Tryd.sizeOf9
  v9 := Tryd.zeroValue9
  t12 := Tryd.underlying12
  a12 := Tryd.isAgg12
  z12 := Tryd.sizeOf12
  v12 := Tryd.zeroValue12
  t46 := Tryd.underlying64
  a46 := Tryd.isAgg64
  z46 := Tryd.sizeOf64
  v46 := Tryd.zeroValue64
  t53 := Tryd.underlying23
  a53 := Tryd.isAgg23
  z53 := Tryd.sizeOf23
  v53 := Tryd.zeroValue23
  t119 := Tryd.underlying60
  a119 := Tryd.isAgg60
  z119 := Tryd.sizeOf60
  t138 := Tryd.underlying62
  a138 := Tryd.isAgg62
  z138 := Tryd.sizeOf62
  v138 := Tryd.zeroValue62
  t139 := Tryd.underlying63
  a139 := Tryd.isAgg63
  z139 := Tryd.sizeOf63
  v139 := Tryd.zeroValue63
  g3 := by kernel_rfl
  g4 := by kernel_rfl }
end Go.Proofs
namespace Go.Proofs.YtbdmdajbdmdknaaDoor
open Go.RowKit
set_option linter.unusedVariables false
set_option linter.unusedSimpArgs false

theorem rawN_num (x : Bs) (c : UInt8) (r : Bs) (hx : ∀ y ∈ x, isNumC y = true) (hne : x ≠ []) (h1 : x ≠ [45]) (h2 : x ≠ [43]) (hc : isNumC c = false) : rawN (x ++ c :: r) = some (x, c :: r) := by
  have e : (x ++ c :: r).takeWhile isNumC = x := by
    rw [List.takeWhile_append_of_pos hx]
    simp [hc]
  have hl : 0 < x.length := List.length_pos_iff.2 hne
  unfold rawN
  simp only [e]
  rw [if_neg (by simp), if_neg]
  · simp
  · rintro (h | ⟨h, h3⟩)
    · omega
    · match x, h with
      | [y], _ =>
        rcases h3 with h3 | h3
        · exact h1 (by simpa using h3)
        · exact h2 (by simpa using h3)
theorem isDig_num {c : UInt8} (h : isDig c) : isNumC c = true := by
  unfold isDig at h
  unfold isNumC
  have h1 : (48 : UInt8) ≤ c := UInt8.le_iff_toNat_le.2 h.1
  have h2 : c ≤ (57 : UInt8) := UInt8.le_iff_toNat_le.2 h.2
  simp [h1, h2]
theorem isDig_no {c : UInt8} (h : isDig c) : isWS c = false ∧ c ≠ 123 ∧ c ≠ 91 ∧ c ≠ 34 ∧ c ≠ 116 ∧ c ≠ 102 ∧ c ≠ 110 ∧ c ≠ 45 ∧ c ≠ 43 := by
  have key : ∀ k : UInt8, (k.toNat < 48 ∨ 57 < k.toNat) → c ≠ k := by
    rintro k hk rfl
    unfold isDig at h
    omega
  refine ⟨?_, key _ (by decide), key _ (by decide), key _ (by decide), key _ (by decide), key _ (by decide), key _ (by decide), key _ (by decide), key _ (by decide)⟩
  unfold isWS
  simp only [Bool.or_eq_false_iff, beq_eq_false_iff_ne]
  exact ⟨⟨⟨key _ (by decide), key _ (by decide)⟩, key _ (by decide)⟩, key _ (by decide)⟩
theorem skipW_c {c : UInt8} (r : Bs) (h : isWS c = false) : skipW (c :: r) = c :: r := by simp [skipW, h]
theorem pVal_dig (f d : Nat) (D : Bs) (c : UInt8) (r : Bs) (hd : ¬ 300 ≤ d) (hD : ∀ y ∈ D, isDig y) (hne : D ≠ []) (hc : isNumC c = false) : pVal (f + 1) d (D ++ c :: r) = some (.num D, c :: r) := by
  match D, hne with
  | y :: D', _ =>
    obtain ⟨_, h1, h2, h3, h4, h5, h6, h7, h8⟩ := isDig_no (hD y (by simp))
    have hn := rawN_num (y :: D') c r (fun z hz => isDig_num (hD z hz)) (by simp) (fun e => h7 (by simpa using (List.cons.inj e).1)) (fun e => h8 (by simpa using (List.cons.inj e).1)) hc
    rw [List.cons_append] at hn ⊢
    rw [pVal, if_neg hd, if_neg h1, if_neg h2, if_neg h3, if_neg h4, if_neg h5, if_neg h6, hn]
    rfl
theorem pText_name (B D : Bs) (hB : RawIn B) (hD : ∀ c ∈ D, isDig c) (hne : D ≠ []) : pText ([123, 34] ++ (B ++ ([34, 58] ++ (D ++ [125])))) = some (.obj [(B, .num D)]) := by
  have hfuel : ∃ f, 2 * ([123, 34] ++ (B ++ ([34, 58] ++ (D ++ [125])))).length + 2 = f + 3 := ⟨2 * ([123, 34] ++ (B ++ ([34, 58] ++ (D ++ [125])))).length - 1, by simp only [List.length_append, List.length_cons, List.length_nil]; omega⟩
  obtain ⟨f, hf⟩ := hfuel
  have hraw : rawS false (B ++ 34 :: 58 :: (D ++ [125])) = some (B, 58 :: (D ++ [125])) := by
    rw [hB]; simp [rawS]
  have hsD : skipW (D ++ [125]) = D ++ [125] := by
    cases D with
    | nil => exact absurd rfl hne
    | cons y D' => exact skipW_c _ (isDig_no (hD y (by simp))).1
  have hv := pVal_dig f 1 D 125 [] (by decide) hD hne (by decide)
  unfold pText
  rw [hf]
  simp only [List.cons_append, List.nil_append]
  rw [skipW_c _ (by decide), pVal, if_neg (by decide), if_pos rfl, skipW_c _ (by decide)]
  dsimp only
  rw [if_neg (by decide), pObj, skipW_c _ (by decide)]
  dsimp only
  rw [if_pos rfl, hraw]
  dsimp only
  rw [skipW_c _ (by decide)]
  dsimp only
  rw [if_pos rfl, hsD, hv]
  dsimp only
  rw [skipW_c _ (by decide)]
  dsimp only
  rw [if_neg (by decide), if_pos rfl]
  rfl
theorem name_ask (B : Bs) (J : JV) (h : B.length ≤ 200000000) : AskObj (some (.obj [(B, J)])) [(B, J)] := ⟨rfl, fun p hp => by simp at hp; subst hp; exact h, by simp⟩
theorem name_found (B q : Bs) (J : JV) (h : unB B = q) : headV unB (some (.obj [(B, J)])) q = some J := by
  show getJ unB [(B, J)] q = some J
  unfold getJ
  by_cases h92 : (92 : UInt8) ∈ q
  · rw [if_pos h92]; simp [h]
  · rw [if_neg h92]
    by_cases he : B = q
    · simp [he]
    · have : (B == q) = false := by rw [beq_eq_false_iff_ne]; exact he
      simp [this, h]
/-- unicode/utf8's tables are as Go lays them. -/
def Tabs (w : World) : Prop := Lib.Utf8Tabs 0 1 w
theorem Tabs.next {w w1 : World} (h : Tabs w) (hb : Below w.heap.size w w1) : Tabs w1 := Utf8Tabs_below h hb
theorem valid_calls (s : ByteArray) (w : World) (hs : s.size ≤ 9223372036854775807) (hT : Tabs w) :
    Calls Tryd.prog 9 #[.string s] w fun e w' => e = .returned (.bool (Lib.validD s.data.toList)) ∧ Below w.heap.size w w' :=
  Any.utf8_ValidString Tryd.lVA s w hs hT
theorem Rd.markedH (w : World) (t : Nat) (vs : List Value) (fr : Nat × Nat) (k : Nat) (h : k = w.heap.size) : Rd (w.alloc (.cells vs.toArray t fr)) (some ⟨k, 0, none⟩) vs := by
  subst h
  intro i v hv
  refine ⟨_, _, rfl, by simp, ?_⟩
  rw [Nat.zero_add, World.cell?_alloc_mark]
  simpa using hv
theorem rd_live1 (w : World) : Rd (w.alloc (.cells (nums .u8 (bI (bs live1))).toArray 5 (14, 15))) (some ⟨w.heap.size, 0, none⟩) (nums .u8 (bI (bs live1))) := Rd.markedH w 5 _ _ _ rfl
theorem rd_live2 (w : World) : Rd (w.alloc (.cells (nums .u8 (bI (bs live2))).toArray 5 (10, 11))) (some ⟨w.heap.size, 0, none⟩) (nums .u8 (bI (bs live2))) := Rd.markedH w 5 _ _ _ rfl
set_option maxRecDepth 100000 in
set_option maxHeartbeats 2000000 in
theorem headLive_calls (w : World) (hSY : SynAt w) : Calls Tryd.prog 10 #[] w fun e w' => e = .returned (.bool true) ∧ Below w.heap.size w w' := by
  have hcv1 := Go.Joins.run_convert_bytes_const_at (P := Tryd.prog) w 32 5 #[.int .u8 123, .int .u8 34, .int .u8 97, .int .u8 108, .int .u8 103, .int .u8 34, .int .u8 58, .int .u8 34, .int .u8 110, .int .u8 111, .int .u8 110, .int .u8 101, .int .u8 34, .int .u8 125] 14 14 _ rfl Tryd.underlying32 Tryd.underlying5
  have K1 : Hid (Calls Tryd.prog 18 #[.slice (some ⟨w.heap.size, 0, none⟩) 14 14, .string ⟨#[97, 108, 103]⟩] (w.alloc (.cells (nums .u8 (bI (bs live1))).toArray 5 (14, 15))) fun e w' => e = .returned (.tuple #[.string ⟨#[110, 111, 110, 101]⟩, .bool true]) ∧ Below w.heap.size w w') := hidden (by
    refine (implHeadString_calls _ (bs live1) _ 14 14 unB [97, 108, 103] (rd_live1 w) rfl (Nat.le_refl _) (by simp) (by decide) _ live1_text (live1_ask.reads _) ?_ (hSY.next (below_alloc0 w _)) _ live1_r).mono ?_
    · intro v hv
      cases hv
      refine ⟨fun t (e : JV.str [110, 111, 110, 101] = JV.lit t) => (by cases e), fun t (e : JV.str [110, 111, 110, 101] = JV.str t) => ?_⟩
      cases e
      exact unC_all _ (by simp)
    · rintro e w' ⟨hB, rfl⟩
      exact ⟨rfl, (below_alloc0 w _).trans (below_to hB (by simp))⟩)
  have K2 : Hid (∀ W, SynAt W → Calls Tryd.prog 14 #[.slice (some ⟨W.heap.size, 0, none⟩) 10 10, .string ⟨#[97]⟩] (W.alloc (.cells (nums .u8 (bI (bs live2))).toArray 5 (10, 11))) fun e w' => e = .returned (.bool true) ∧ Below W.heap.size W w') := hidden (fun W h => by
    refine (implHeadHas_calls _ (bs live2) _ 10 10 unB [97] (rd_live2 W) rfl (Nat.le_refl _) (by simp) (by decide) _ live2_text (live2_ask.reads _) _ live2_r (h.next (below_alloc0 W _))).mono ?_
    rintro e w' ⟨rfl, hB⟩
    exact ⟨rfl, (below_alloc0 W _).trans (below_to hB (by simp))⟩)
  have hcv2 : ∀ W, _ := fun W => Go.Joins.run_convert_bytes_const_at (P := Tryd.prog) W 32 5 #[.int .u8 123, .int .u8 34, .int .u8 97, .int .u8 34, .int .u8 58, .int .u8 110, .int .u8 117, .int .u8 108, .int .u8 108, .int .u8 125] 10 10 _ rfl Tryd.underlying32 Tryd.underlying5
  have HSY := hidden hSY
  clear hSY
  go_enter Tryd.func10, Tryd.ntmps10
  go_wp2_with (first
    | (go_at_call 18; go_must (refine K1.out.mono ?_; rintro e w1 ⟨rfl, hB⟩; have HB1 := hidden hB; clear hB))
    | (go_at_call 14; go_must (refine (K2.out w1 (HSY.out.next HB1.out)).mono ?_; rintro e w2 ⟨rfl, hB⟩; have HB2 := hidden hB; clear hB)))
  go_ret
  exact ⟨rfl, below_next HB1.out HB2.out⟩
end Go.Proofs.YtbdmdajbdmdknaaDoor
namespace Go.Proofs.YtbdmdajbdmdknaaDoor
open Go.RowKit Go.ChangeShapes Go.WideShapes
set_option linter.unusedVariables false
set_option linter.unusedSimpArgs false
theorem errRowH (u : TypeId) (h : Tryd.prog.typeName? 3 u = some ("*" ++ "errors.errorString")) : u = 123 :=
  typeName_ptr_named (by kernel_rfl) (by kernel_rfl) (by decide) u h
theorem first_is : Rows.laid_unicode_utf8_first = Lib.firstData := by kernel_rfl
theorem accept_is : (Rows.laid_unicode_utf8_acceptRanges : DataW Unit) = Lib.acceptData := by kernel_rfl
set_option maxRecDepth 100000 in
theorem tabs_of_laid {W : World} (h : laidMetH Tryd.prog Rows.fnHeadNameRow.laid W) : Tabs W ∧ SynAt W := by
  rw [MakeChecks.laidMetH_plain _ _ _ (by kernel_rfl)] at h
  have hS := laidMet.tail (laidMet.tail (laidMet.tail (laidMet.tail (laidMet.tail h))))
  have g5 : Tryd.prog.globalNamed "strconv.ErrSyntax" = some 2 := by kernel_rfl
  obtain ⟨a, s, hv, _⟩ := laid_sentinel hS g5 (show (Tryd.prog.globals[2]?).map (·.type) = some 76 by kernel_rfl) Tryd.underlying76 (fun u hu => errRowH u (hu.trans (by kernel_rfl))) Tryd.underlying123 Tryd.underlying125 rfl rfl Tryd.underlying9 (by kernel_rfl) (by kernel_rfl)
  refine ⟨?_, 123, a, ?_⟩
  · have r4 := Lib.laidMet.reads h (.tail _ (.tail _ (.tail _ (.head _))))
    have r7 := Lib.laidMet.reads h (.tail _ (.tail _ (.tail _ (.tail _ (.tail _ (.tail _ (.head _)))))))
    rw [first_is] at r7
    rw [accept_is] at r4
    exact utf8Tabs_of_readsT (ρ := Tryd.lVA_ren) (U8Types.of196 Tryd.lVA) ⟨by kernel_rfl, by kernel_rfl, by kernel_rfl, by kernel_rfl, by kernel_rfl, by kernel_rfl, by kernel_rfl⟩ r7 r4
  · have := World.var?_cell g5 hv 0
    simpa using this
end Go.Proofs.YtbdmdajbdmdknaaDoor
namespace Go.Proofs.YtbdmdajbdmdknaaDoor
set_option linter.unusedVariables false
set_option linter.unusedSimpArgs false

def itF (f : Nat → Nat) : Nat → Nat → Nat
  | 0, x => x
  | n + 1, x => itF f n (f x)
theorem itF_add (f : Nat → Nat) : ∀ (m n x : Nat), itF f (m + n) x = itF f n (itF f m x)
  | 0, n, x => by rw [Nat.zero_add, itF]
  | m + 1, n, x => by
    rw [show m + 1 + n = (m + n) + 1 by omega, itF, itF_add f m n (f x), itF]
/-- The map that doing it 2^k times is, by its two numbers. -/
def acF (a c M : Nat) : Nat → Nat × Nat
  | 0 => (a % M, c % M)
  | k + 1 => ((acF a c M k).1 * (acF a c M k).1 % M, ((acF a c M k).1 * (acF a c M k).2 + (acF a c M k).2) % M)
theorem mod_lin (a c x M : Nat) : (a % M * (x % M) + c % M) % M = (a * x + c) % M := by
  rw [Nat.add_mod, Nat.mod_mod, ← Nat.mul_mod, ← Nat.add_mod]
theorem itF_ac (f : Nat → Nat) (a c M : Nat) (hf : ∀ x, f x % M = (a * x + c) % M) : ∀ (k x : Nat), itF f (2 ^ k) x % M = ((acF a c M k).1 * x + (acF a c M k).2) % M
  | 0, x => by
    rw [Nat.pow_zero, itF, itF, hf]
    unfold acF
    dsimp only
    rw [← mod_lin a c, ← mod_lin (a % M) (c % M) x M, Nat.mod_mod, Nat.mod_mod]
  | k + 1, x => by
    have e : 2 ^ (k + 1) = 2 ^ k + 2 ^ k := by rw [Nat.pow_succ]; omega
    have h1 := itF_ac f a c M hf k x
    have h2 := itF_ac f a c M hf k (itF f (2 ^ k) x)
    rw [e, itF_add, h2]
    have e3 : acF a c M (k + 1) = ((acF a c M k).1 * (acF a c M k).1 % M, ((acF a c M k).1 * (acF a c M k).2 + (acF a c M k).2) % M) := rfl
    rw [e3]
    obtain ⟨p, hp⟩ : ∃ p, acF a c M k = p := ⟨_, rfl⟩
    rw [hp] at h1 ⊢
    dsimp only
    rw [← mod_lin p.1 p.2, h1, mod_lin]
    have e2 : p.1 * (p.1 * x + p.2) + p.2 = p.1 * p.1 * x + (p.1 * p.2 + p.2) := by rw [Nat.mul_add, Nat.mul_assoc]; omega
    rw [e2, ← mod_lin (p.1 * p.1) (p.1 * p.2 + p.2) x M]
    rw [← mod_lin (p.1 * p.1 % M) ((p.1 * p.2 + p.2) % M) x M, Nat.mod_mod, Nat.mod_mod]
theorem ac16 : acF 6364136223846793005 1442695040888963407 34359738368 16 = (31463833601, 5822021632) := by decide +kernel
theorem three_lin (x y z : Nat) (hx : x < 8589934592) (hy : y < 8589934592) (hz : z < 8589934592) (e1 : y = (31463833601 * x + 5822021632) % 34359738368) (e2 : z = (31463833601 * y + 5822021632) % 34359738368) : False := by
  obtain ⟨q1, h1⟩ : ∃ q, y + 34359738368 * q = 31463833601 * x + 5822021632 := ⟨(31463833601 * x + 5822021632) / 34359738368, by omega⟩
  obtain ⟨q2, h2⟩ : ∃ q, z + 34359738368 * q = 31463833601 * y + 5822021632 := ⟨(31463833601 * y + 5822021632) / 34359738368, by omega⟩
  clear e1 e2
  obtain ⟨K, hK⟩ : ∃ K : Int, K = 2 * (2 * 120025 * 120025 * (x : Int) + 5331330462 - 31463833600 * (q1 : Int) - (q2 : Int) + (q1 : Int)) + 1 := ⟨_, rfl⟩
  have hT : (z : Int) + x - 2 * y = 17179869184 * K := by omega
  obtain ⟨J, hJ⟩ : ∃ J : Int, 2 * 120025 * 120025 * (x : Int) + 5331330462 - 31463833600 * (q1 : Int) - (q2 : Int) + (q1 : Int) = J := ⟨_, rfl⟩
  rw [hJ] at hK
  clear h1 h2 hJ
  omega
/-- Not all of three that are 2^16 steps apart are small. -/
theorem three_no (f : Nat → Nat) (hf : ∀ x, f x % 34359738368 = (6364136223846793005 * x + 1442695040888963407) % 34359738368) (x : Nat) (h0 : x % 34359738368 < 8589934592) (h1 : itF f 65536 x % 34359738368 < 8589934592) (h2 : itF f 65536 (itF f 65536 x) % 34359738368 < 8589934592) : False := by
  have e1 := itF_ac f _ _ _ hf 16 x
  have e2 := itF_ac f _ _ _ hf 16 (itF f 65536 x)
  rw [show (2 : Nat) ^ 16 = 65536 from rfl, ac16] at e1 e2
  dsimp only at e1 e2
  rw [← mod_lin] at e1 e2
  exact three_lin _ _ _ h0 h1 h2 (by rw [e1, Nat.mod_eq_of_lt (show 31463833601 < 34359738368 by decide), Nat.mod_eq_of_lt (show 5822021632 < 34359738368 by decide)]) (by rw [e2, Nat.mod_eq_of_lt (show 31463833601 < 34359738368 by decide), Nat.mod_eq_of_lt (show 5822021632 < 34359738368 by decide)])
end Go.Proofs.YtbdmdajbdmdknaaDoor
