/- The contracts of the shelf that are used here, laid at this program (by lay-plain.mjs, with names for numbers). laws.headLive; utf8.ValidString; laws.FnHeadName. What the listed variables read as, for the laws of heads. What a slice of whole numbers that comes in reads as; its weight bounds its length. -/
import Derived.Shelf.Slices.Turned
import Derived.Shelf.Unicode.ValidAny
import Derived.Test.YtbdmdajbdmdknaaDoorProg
import Derived.Test.YtbdmdajbdmdknaaDoorM10
import Derived.Lib.SmallJoins
import Derived.Test.YtbdmdajbdmdknaaDoorRows
import Derived.LaidMore
import Derived.LaidLaws
import Derived.Stop.Joined
import Derived.Stop.LaidErr
import Derived.Lib.LaidU8T
import Derived.Test.YtbdmdajbdmdknaaDoorM1
import Derived.WalkKit
import Derived.ProofKit
import Derived.OpenShut
import Derived.ShutString
import Derived.ChangeOld
import Derived.Below
import Derived.SizedLaws
import Derived.ChangeSlices
namespace Go.Proofs
open Go.Shelf
def Tryd.lCO_ren : Go.Shelf.Ren := ⟨fun | 110 => 24 | 109 => 36 | n => n, fun | 31 => 27 | 9 => 9 | 4 => 4 | 3 => 3 | 0 => 0 | n => n, fun | n => n⟩
theorem Tryd.lCO : Go.Proofs.Lays.n110 Tryd.prog Tryd.lCO_ren := {
  mixed := by kernel_rfl
  f109 := Tryd.func36.trans (congrArg some (by kernel_rfl))
  f110 := Tryd.func24.trans (congrArg some (by kernel_rfl))
  t0 := Tryd.underlying0
  a0 := Tryd.isAgg0
  z0 := Tryd.sizeOf0
  v0 := Tryd.zeroValue0
  t3 := Tryd.underlying3
  a3 := Tryd.isAgg3
  z3 := Tryd.sizeOf3
  v3 := Tryd.zeroValue3
  t4 := Tryd.underlying4
  a4 := Tryd.isAgg4
  z4 := Tryd.sizeOf4
  v4 := Tryd.zeroValue4
  t9 := Tryd.underlying9
  a9 := Tryd.isAgg9
  z9 := Tryd.sizeOf9
  v9 := Tryd.zeroValue9
  t31 := Tryd.underlying27
  a31 := Tryd.isAgg27
  z31 := Tryd.sizeOf27
  v31 := Tryd.zeroValue27 }
def Tryd.lIX_ren : Go.Shelf.Ren := ⟨fun | 109 => 36 | n => n, fun | 31 => 27 | 9 => 9 | 3 => 3 | 0 => 0 | 4 => 4 | n => n, fun | n => n⟩
theorem Tryd.lIX : Go.Proofs.Lays.n109 Tryd.prog Tryd.lIX_ren := {
  mixed := by kernel_rfl
  f109 := Tryd.func36.trans (congrArg some (by kernel_rfl))
  t0 := Tryd.underlying0
  a0 := Tryd.isAgg0
  z0 := Tryd.sizeOf0
  v0 := Tryd.zeroValue0
  t3 := Tryd.underlying3
  a3 := Tryd.isAgg3
  z3 := Tryd.sizeOf3
  v3 := Tryd.zeroValue3
  t4 := Tryd.underlying4
  a4 := Tryd.isAgg4
  z4 := Tryd.sizeOf4
  v4 := Tryd.zeroValue4
  t9 := Tryd.underlying9
  a9 := Tryd.isAgg9
  z9 := Tryd.sizeOf9
  v9 := Tryd.zeroValue9
  t31 := Tryd.underlying27
  a31 := Tryd.isAgg27
  z31 := Tryd.sizeOf27
  v31 := Tryd.zeroValue27 }
def Tryd.lVA_ren : Go.Shelf.Ren := ⟨fun | 196 => 9 | 259 => 25 | n => n, fun | 9 => 9 | 4 => 4 | 3 => 3 | 5 => 5 | 12 => 12 | 119 => 60 | 0 => 0 | 46 => 64 | 139 => 63 | 138 => 62 | 53 => 23 | n => n, fun | 3 => 0 | 4 => 1 | n => n⟩
theorem Tryd.lVA : Go.Proofs.Lays.n196 Tryd.prog Tryd.lVA_ren := {
  mixed := by kernel_rfl
  f196 := Tryd.func9.trans (congrArg some (by kernel_rfl))
  f259 := Tryd.func25.trans (congrArg some (by kernel_rfl))
  t0 := Tryd.underlying0
  a0 := Tryd.isAgg0
  z0 := Tryd.sizeOf0
  v0 := Tryd.zeroValue0
  t3 := Tryd.underlying3
  a3 := Tryd.isAgg3
  z3 := Tryd.sizeOf3
  v3 := Tryd.zeroValue3
  t4 := Tryd.underlying4
  a4 := Tryd.isAgg4
  z4 := Tryd.sizeOf4
  v4 := Tryd.zeroValue4
  t5 := Tryd.underlying5
  a5 := Tryd.isAgg5
  z5 := Tryd.sizeOf5
  v5 := Tryd.zeroValue5
  t9 := Tryd.underlying9
  a9 := Tryd.isAgg9
  z9 := Tryd.sizeOf9
  v9 := Tryd.zeroValue9
  t12 := Tryd.underlying12
  a12 := Tryd.isAgg12
  z12 := Tryd.sizeOf12
  v12 := Tryd.zeroValue12
  t46 := Tryd.underlying64
  a46 := Tryd.isAgg64
  z46 := Tryd.sizeOf64
  v46 := Tryd.zeroValue64
  t53 := Tryd.underlying23
  a53 := Tryd.isAgg23
  z53 := Tryd.sizeOf23
  v53 := Tryd.zeroValue23
  t119 := Tryd.underlying60
  a119 := Tryd.isAgg60
  z119 := Tryd.sizeOf60
  t138 := Tryd.underlying62
  a138 := Tryd.isAgg62
  z138 := Tryd.sizeOf62
  v138 := Tryd.zeroValue62
  t139 := Tryd.underlying63
  a139 := Tryd.isAgg63
  z139 := Tryd.sizeOf63
  v139 := Tryd.zeroValue63
  g3 := by kernel_rfl
  g4 := by kernel_rfl }
end Go.Proofs
namespace Go.Proofs.YtbdmdajbdmdknaaDoor
open Go.RowKit
set_option linter.unusedVariables false
set_option linter.unusedSimpArgs false

theorem rawN_num (x : Bs) (c : UInt8) (r : Bs) (hx : ∀ y ∈ x, isNumC y = true) (hne : x ≠ []) (h1 : x ≠ [45]) (h2 : x ≠ [43]) (hc : isNumC c = false) : rawN (x ++ c :: r) = some (x, c :: r) := by
  have e : (x ++ c :: r).takeWhile isNumC = x := by
    rw [List.takeWhile_append_of_pos hx]
    simp [hc]
  have hl : 0 < x.length := List.length_pos_iff.2 hne
  unfold rawN
  simp only [e]
  rw [if_neg (by simp), if_neg]
  · simp
  · rintro (h | ⟨h, h3⟩)
    · omega
    · match x, h with
      | [y], _ =>
        rcases h3 with h3 | h3
        · exact h1 (by simpa using h3)
        · exact h2 (by simpa using h3)
theorem isDig_num {c : UInt8} (h : isDig c) : isNumC c = true := by
  unfold isDig at h
  unfold isNumC
  have h1 : (48 : UInt8) ≤ c := UInt8.le_iff_toNat_le.2 h.1
  have h2 : c ≤ (57 : UInt8) := UInt8.le_iff_toNat_le.2 h.2
  simp [h1, h2]
theorem isDig_no {c : UInt8} (h : isDig c) : isWS c = false ∧ c ≠ 123 ∧ c ≠ 91 ∧ c ≠ 34 ∧ c ≠ 116 ∧ c ≠ 102 ∧ c ≠ 110 ∧ c ≠ 45 ∧ c ≠ 43 := by
  have key : ∀ k : UInt8, (k.toNat < 48 ∨ 57 < k.toNat) → c ≠ k := by
    rintro k hk rfl
    unfold isDig at h
    omega
  refine ⟨?_, key _ (by decide), key _ (by decide), key _ (by decide), key _ (by decide), key _ (by decide), key _ (by decide), key _ (by decide), key _ (by decide)⟩
  unfold isWS
  simp only [Bool.or_eq_false_iff, beq_eq_false_iff_ne]
  exact ⟨⟨⟨key _ (by decide), key _ (by decide)⟩, key _ (by decide)⟩, key _ (by decide)⟩
theorem skipW_c {c : UInt8} (r : Bs) (h : isWS c = false) : skipW (c :: r) = c :: r := by simp [skipW, h]
theorem pVal_dig (f d : Nat) (D : Bs) (c : UInt8) (r : Bs) (hd : ¬ 300 ≤ d) (hD : ∀ y ∈ D, isDig y) (hne : D ≠ []) (hc : isNumC c = false) : pVal (f + 1) d (D ++ c :: r) = some (.num D, c :: r) := by
  match D, hne with
  | y :: D', _ =>
    obtain ⟨_, h1, h2, h3, h4, h5, h6, h7, h8⟩ := isDig_no (hD y (by simp))
    have hn := rawN_num (y :: D') c r (fun z hz => isDig_num (hD z hz)) (by simp) (fun e => h7 (by simpa using (List.cons.inj e).1)) (fun e => h8 (by simpa using (List.cons.inj e).1)) hc
    rw [List.cons_append] at hn ⊢
    rw [pVal, if_neg hd, if_neg h1, if_neg h2, if_neg h3, if_neg h4, if_neg h5, if_neg h6, hn]
    rfl
theorem pText_name (B D : Bs) (hB : RawIn B) (hD : ∀ c ∈ D, isDig c) (hne : D ≠ []) : pText ([123, 34] ++ (B ++ ([34, 58] ++ (D ++ [125])))) = some (.obj [(B, .num D)]) := by
  have hfuel : ∃ f, 2 * ([123, 34] ++ (B ++ ([34, 58] ++ (D ++ [125])))).length + 2 = f + 3 := ⟨2 * ([123, 34] ++ (B ++ ([34, 58] ++ (D ++ [125])))).length - 1, by simp only [List.length_append, List.length_cons, List.length_nil]; omega⟩
  obtain ⟨f, hf⟩ := hfuel
  have hraw : rawS false (B ++ 34 :: 58 :: (D ++ [125])) = some (B, 58 :: (D ++ [125])) := by
    rw [hB]; simp [rawS]
  have hsD : skipW (D ++ [125]) = D ++ [125] := by
    cases D with
    | nil => exact absurd rfl hne
    | cons y D' => exact skipW_c _ (isDig_no (hD y (by simp))).1
  have hv := pVal_dig f 1 D 125 [] (by decide) hD hne (by decide)
  unfold pText
  rw [hf]
  simp only [List.cons_append, List.nil_append]
  rw [skipW_c _ (by decide), pVal, if_neg (by decide), if_pos rfl, skipW_c _ (by decide)]
  dsimp only
  rw [if_neg (by decide), pObj, skipW_c _ (by decide)]
  dsimp only
  rw [if_pos rfl, hraw]
  dsimp only
  rw [skipW_c _ (by decide)]
  dsimp only
  rw [if_pos rfl, hsD, hv]
  dsimp only
  rw [skipW_c _ (by decide)]
  dsimp only
  rw [if_neg (by decide), if_pos rfl]
  rfl
theorem name_ask (B : Bs) (J : JV) (h : B.length ≤ 200000000) : AskObj (some (.obj [(B, J)])) [(B, J)] := ⟨rfl, fun p hp => by simp at hp; subst hp; exact h, by simp⟩
theorem name_found (B q : Bs) (J : JV) (h : unB B = q) : headV unB (some (.obj [(B, J)])) q = some J := by
  show getJ unB [(B, J)] q = some J
  unfold getJ
  by_cases h92 : (92 : UInt8) ∈ q
  · rw [if_pos h92]; simp [h]
  · rw [if_neg h92]
    by_cases he : B = q
    · simp [he]
    · have : (B == q) = false := by rw [beq_eq_false_iff_ne]; exact he
      simp [this, h]
/-- unicode/utf8's tables are as Go lays them. -/
def Tabs (w : World) : Prop := Lib.Utf8Tabs 0 1 w
theorem Tabs.next {w w1 : World} (h : Tabs w) (hb : Below w.heap.size w w1) : Tabs w1 := Utf8Tabs_below h hb
theorem valid_calls (s : ByteArray) (w : World) (hs : s.size ≤ 9223372036854775807) (hT : Tabs w) :
    Calls Tryd.prog 9 #[.string s] w fun e w' => e = .returned (.bool (Lib.validD s.data.toList)) ∧ Below w.heap.size w w' :=
  Any.utf8_ValidString Tryd.lVA s w hs hT
theorem Rd.markedH (w : World) (t : Nat) (vs : List Value) (fr : Nat × Nat) (k : Nat) (h : k = w.heap.size) : Rd (w.alloc (.cells vs.toArray t fr)) (some ⟨k, 0, none⟩) vs := by
  subst h
  intro i v hv
  refine ⟨_, _, rfl, by simp, ?_⟩
  rw [Nat.zero_add, World.cell?_alloc_mark]
  simpa using hv
theorem rd_live1 (w : World) : Rd (w.alloc (.cells (nums .u8 (bI (bs live1))).toArray 5 (14, 15))) (some ⟨w.heap.size, 0, none⟩) (nums .u8 (bI (bs live1))) := Rd.markedH w 5 _ _ _ rfl
theorem rd_live2 (w : World) : Rd (w.alloc (.cells (nums .u8 (bI (bs live2))).toArray 5 (10, 11))) (some ⟨w.heap.size, 0, none⟩) (nums .u8 (bI (bs live2))) := Rd.markedH w 5 _ _ _ rfl
set_option maxRecDepth 100000 in
set_option maxHeartbeats 2000000 in
theorem headLive_calls (w : World) (hSY : SynAt w) : Calls Tryd.prog 10 #[] w fun e w' => e = .returned (.bool true) ∧ Below w.heap.size w w' := by
  have hcv1 := Go.Joins.run_convert_bytes_const_at (P := Tryd.prog) w 32 5 #[.int .u8 123, .int .u8 34, .int .u8 97, .int .u8 108, .int .u8 103, .int .u8 34, .int .u8 58, .int .u8 34, .int .u8 110, .int .u8 111, .int .u8 110, .int .u8 101, .int .u8 34, .int .u8 125] 14 14 _ rfl Tryd.underlying32 Tryd.underlying5
  have K1 : Hid (Calls Tryd.prog 18 #[.slice (some ⟨w.heap.size, 0, none⟩) 14 14, .string ⟨#[97, 108, 103]⟩] (w.alloc (.cells (nums .u8 (bI (bs live1))).toArray 5 (14, 15))) fun e w' => e = .returned (.tuple #[.string ⟨#[110, 111, 110, 101]⟩, .bool true]) ∧ Below w.heap.size w w') := hidden (by
    refine (implHeadString_calls _ (bs live1) _ 14 14 unB [97, 108, 103] (rd_live1 w) rfl (Nat.le_refl _) (by simp) (by decide) _ live1_text (live1_ask.reads _) ?_ (hSY.next (below_alloc0 w _)) _ live1_r).mono ?_
    · intro v hv
      cases hv
      refine ⟨fun t (e : JV.str [110, 111, 110, 101] = JV.lit t) => (by cases e), fun t (e : JV.str [110, 111, 110, 101] = JV.str t) => ?_⟩
      cases e
      exact unC_all _ (by simp)
    · rintro e w' ⟨hB, rfl⟩
      exact ⟨rfl, (below_alloc0 w _).trans (below_to hB (by simp))⟩)
  have K2 : Hid (∀ W, SynAt W → Calls Tryd.prog 14 #[.slice (some ⟨W.heap.size, 0, none⟩) 10 10, .string ⟨#[97]⟩] (W.alloc (.cells (nums .u8 (bI (bs live2))).toArray 5 (10, 11))) fun e w' => e = .returned (.bool true) ∧ Below W.heap.size W w') := hidden (fun W h => by
    refine (implHeadHas_calls _ (bs live2) _ 10 10 unB [97] (rd_live2 W) rfl (Nat.le_refl _) (by simp) (by decide) _ live2_text (live2_ask.reads _) _ live2_r (h.next (below_alloc0 W _))).mono ?_
    rintro e w' ⟨rfl, hB⟩
    exact ⟨rfl, (below_alloc0 W _).trans (below_to hB (by simp))⟩)
  have hcv2 : ∀ W, _ := fun W => Go.Joins.run_convert_bytes_const_at (P := Tryd.prog) W 32 5 #[.int .u8 123, .int .u8 34, .int .u8 97, .int .u8 34, .int .u8 58, .int .u8 110, .int .u8 117, .int .u8 108, .int .u8 108, .int .u8 125] 10 10 _ rfl Tryd.underlying32 Tryd.underlying5
  have HSY := hidden hSY
  clear hSY
  go_enter Tryd.func10, Tryd.ntmps10
  go_wp2_with (first
    | (go_at_call 18; go_must (refine K1.out.mono ?_; rintro e w1 ⟨rfl, hB⟩; have HB1 := hidden hB; clear hB))
    | (go_at_call 14; go_must (refine (K2.out w1 (HSY.out.next HB1.out)).mono ?_; rintro e w2 ⟨rfl, hB⟩; have HB2 := hidden hB; clear hB)))
  go_ret
  exact ⟨rfl, below_next HB1.out HB2.out⟩
end Go.Proofs.YtbdmdajbdmdknaaDoor
namespace Go.Proofs.YtbdmdajbdmdknaaDoor
open Go.RowKit Go.ChangeShapes Go.WideShapes
set_option linter.unusedVariables false
set_option linter.unusedSimpArgs false
theorem errRowH (u : TypeId) (h : Tryd.prog.typeName? 3 u = some ("*" ++ "errors.errorString")) : u = 123 :=
  typeName_ptr_named (by kernel_rfl) (by kernel_rfl) (by decide) u h
theorem first_is : Rows.laid_unicode_utf8_first = Lib.firstData := by kernel_rfl
theorem accept_is : (Rows.laid_unicode_utf8_acceptRanges : DataW Unit) = Lib.acceptData := by kernel_rfl
set_option maxRecDepth 100000 in
theorem tabs_of_laid {W : World} (h : laidMetH Tryd.prog Rows.fnHeadNameRow.laid W) : Tabs W ∧ SynAt W := by
  rw [MakeChecks.laidMetH_plain _ _ _ (by kernel_rfl)] at h
  have hS := laidMet.tail (laidMet.tail (laidMet.tail (laidMet.tail (laidMet.tail h))))
  have g5 : Tryd.prog.globalNamed "strconv.ErrSyntax" = some 2 := by kernel_rfl
  obtain ⟨a, s, hv, _⟩ := laid_sentinel hS g5 (show (Tryd.prog.globals[2]?).map (·.type) = some 76 by kernel_rfl) Tryd.underlying76 (fun u hu => errRowH u (hu.trans (by kernel_rfl))) Tryd.underlying123 Tryd.underlying125 rfl rfl Tryd.underlying9 (by kernel_rfl) (by kernel_rfl)
  refine ⟨?_, 123, a, ?_⟩
  · have r4 := Lib.laidMet.reads h (.tail _ (.tail _ (.tail _ (.head _))))
    have r7 := Lib.laidMet.reads h (.tail _ (.tail _ (.tail _ (.tail _ (.tail _ (.tail _ (.head _)))))))
    rw [first_is] at r7
    rw [accept_is] at r4
    exact utf8Tabs_of_readsT (ρ := Tryd.lVA_ren) (U8Types.of196 Tryd.lVA) ⟨by kernel_rfl, by kernel_rfl, by kernel_rfl, by kernel_rfl, by kernel_rfl, by kernel_rfl, by kernel_rfl⟩ r7 r4
  · have := World.var?_cell g5 hv 0
    simpa using this
end Go.Proofs.YtbdmdajbdmdknaaDoor
namespace Go.Proofs.YtbdmdajbdmdknaaDoor
open Go.ChangeShapes Go.WideShapes Go.ChangeAt Go.RowKit
set_option linter.unusedVariables false
set_option linter.unusedSimpArgs false

theorem noKnob : ownKnob Tryd.prog.godebug = none := by kernel_rfl
theorem laidOut : laidOutB Tryd.prog = true := by kernel_rfl
def IsRow (k : IntKind) (w : World) (a : Option Addr) (len cap : Nat) (zs : List Int) : Prop :=
  (a = none ∧ len = 0 ∧ cap = 0 ∧ zs = []) ∨
  ∃ x, a = some x ∧ len ≤ cap ∧ cap ≤ maxLen ∧ zs.length = cap ∧ (∀ i, i < zs.length → w.cell? (x.add i) = some (.int k (zs.getD i 0))) ∧ ∀ n ∈ zs, (Lit.int k n).wf = true
/-- A slice that came in: what it reads as, and how long it is. -/
structure Came (k : IntKind) (w : World) (a : Option Addr) (len cap : Nat) (l : List Int) : Prop where
  hlen : l.length = len
  hcap : len ≤ cap
  nil : a = none → cap = 0
  rd : Rd w a (nums k l)
  wf : ∀ x ∈ l, (Lit.int k x).wf = true
theorem IsRow.came {k : IntKind} {w : World} {a : Option Addr} {len cap : Nat} {zs : List Int} (h : IsRow k w a len cap zs) : Came k w a len cap (zs.take len) := by
  rcases h with ⟨rfl, rfl, rfl, rfl⟩ | ⟨x, rfl, hl, hm, hz, hc, hw⟩
  · exact ⟨rfl, Nat.le_refl _, fun _ => rfl, by simpa [nums] using Rd.nil w none, by simp⟩
  · refine ⟨by rw [List.length_take]; omega, hl, (fun h => by cases h), ?_, fun n hn => hw n (List.mem_of_mem_take hn)⟩
    intro i v hv
    have hi : i < (nums k (zs.take len)).length := (List.getElem?_eq_some_iff.1 hv).1
    rw [nums_len, List.length_take] at hi
    have h0 := hc 0 (by omega)
    have hi' := hc i (by omega)
    obtain ⟨b, o, sp⟩ := x
    have hsp : sp = none := by
      cases sp with
      | none => rfl
      | some s =>
        simp only [Addr.add, if_pos] at h0
        unfold World.cell? at h0
        split at h0 <;> simp at h0
    subst hsp
    rw [addr_add] at hi'
    refine ⟨b, o, rfl, World.block_lt_of_cell? w ⟨b, o + i, none⟩ hi', ?_⟩
    rw [hi', ← hv, nums_at _ _ _ (by rw [List.length_take]; omega), gi_take _ (by omega)]
    rfl
theorem Came.isB {w : World} {a : Option Addr} {len cap : Nat} {l : List Int} (h : Came .u8 w a len cap l) : IsB l := by
  intro x hx
  have := h.wf x hx
  simp [Lit.wf, IntKind.min, IntKind.max, IntKind.wrap, IntKind.bits, IntKind.signed] at this
  omega
theorem sizedInts {H : Type} {enc : TypeId × Value → H} {P : Program} {W : World} {base : Nat} {spare : Nat → Bool} {held : Bool} {t e : TypeId} {k : IntKind} {a : Option Addr} {len cap : Nat} {d : DataW H} {ps : List MemPlace} {ts : List TypeId} {ds : List (DataW H)} {j : Nat}
    (hsz : (DataW.weightsEach P ts ds).all (· ≤ reachBytes) = true) (ht : ts[j]? = some t) (hd : ds[j]? = some d) (hu : P.underlying t = some (.slice e)) (he : P.underlying e = some (.int k)) (hc : P.cellsOf e = 1) {B : Nat} (hB : P.bytesOf e = B)
    (h : DataW.Trod enc P W base spare held t (.slice a len cap) d ps) : len * B ≤ 140737488351232 := by
  obtain ⟨fuel, hf⟩ := h
  rcases open_ints hu he hc hf with ⟨hcs, _⟩ | ⟨x, l, c, zs, hcs, _, hl, _, hz, hx, _, _⟩
  · simp [Value.cells] at hcs
    obtain ⟨rfl, rfl, rfl⟩ := hcs
    simp
  · simp [Value.cells] at hcs
    obtain ⟨rfl, rfl, rfl⟩ := hcs
    obtain ⟨hx, _⟩ := Prod.mk.inj hx
    subst hx
    have z := sized_slice hsz ht hd hu
    rw [hB] at z
    have hl2 : len ≤ zs.length := by
      rw [hz]
      split
      · exact hl
      · exact Nat.le_refl _
    have h1 : (lits (H := H) k (zs.take len)).length + (lits (H := H) k (zs.drop len)).length = zs.length := by
      simp [lits]
      omega
    rw [h1] at z
    exact Nat.le_trans (Nat.mul_le_mul_right _ hl2) z
end Go.Proofs.YtbdmdajbdmdknaaDoor
