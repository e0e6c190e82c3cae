/- The contracts of the shelf that are used here, laid at this program (by lay-plain.mjs, with names for numbers). strconv.ParseUint, utf16: what unescapeStringBestEffort calls. append in place onto a block of bytes that bears a mark (the bytes of a text that was converted). Nothing here speaks of the program. unescapeStringBestEffort, at every text. -/
import Derived.Shelf.LaysC
import Derived.Shelf.Strconv.ToError
import Derived.Shelf.Strconv.AtoiAll
import Derived.Test.YtbdmdajbdmdknaaDoorProg
import Derived.Test.YtbdmdajbdmdknaaDoorUnescA
import Derived.Laws.BitsLemmas
import Derived.Test.YtbdmdajbdmdknaaDoorM1
import Derived.Lib.ConvBytes
import Derived.Lib.AppendStr
import Derived.Deep.DeepCutAuto
namespace Go.Proofs
open Go.Shelf
def Tryd.lTE_ren : Go.Shelf.Ren := ⟨fun | 245 => 60 | 279 => 69 | 280 => 70 | 281 => 71 | 282 => 72 | 316 => 86 | 171 => 87 | 205 => 48 | 243 => 93 | 246 => 94 | 283 => 95 | 284 => 96 | 285 => 97 | 286 => 98 | 129 => 100 | 317 => 99 | 318 => 101 | 319 => 102 | 320 => 103 | 337 => 104 | 338 => 105 | n => n, fun | 9 => 9 | 3 => 3 | 75 => 76 | 167 => 139 | 4 => 4 | 168 => 140 | 210 => 149 | 37 => 32 | 0 => 0 | 127 => 153 | 145 => 125 | 143 => 123 | 2 => 2 | 171 => 155 | 53 => 23 | 5 => 5 | 173 => 158 | 212 => 162 | 51 => 48 | 20 => 20 | 213 => 163 | 46 => 64 | 232 => 167 | 233 => 168 | 80 => 68 | n => n, fun | 15 => 2 | 16 => 3 | 17 => 5 | 18 => 6 | 19 => 7 | n => n⟩
theorem Tryd.lTE : Go.Proofs.LaysC.n245 Tryd.prog Tryd.lTE_ren := {
  mixed := by kernel_rfl
  f129 := Tryd.func100.trans (congrArg some (by kernel_rfl))
  f171 := Tryd.func87.trans (congrArg some (by kernel_rfl))
  f205 := Tryd.func48.trans (congrArg some (by kernel_rfl))
  f243 := Tryd.func93.trans (congrArg some (by kernel_rfl))
  f245 := Tryd.func60.trans (congrArg some (by kernel_rfl))
  f246 := Tryd.func94.trans (congrArg some (by kernel_rfl))
  f279 := Tryd.func69.trans (congrArg some (by kernel_rfl))
  f280 := Tryd.func70.trans (congrArg some (by kernel_rfl))
  f281 := Tryd.func71.trans (congrArg some (by kernel_rfl))
  f282 := Tryd.func72.trans (congrArg some (by kernel_rfl))
  f283 := Tryd.func95.trans (congrArg some (by kernel_rfl))
  f284 := Tryd.func96.trans (congrArg some (by kernel_rfl))
  f285 := Tryd.func97.trans (congrArg some (by kernel_rfl))
  f286 := Tryd.func98.trans (congrArg some (by kernel_rfl))
  f316 := Tryd.func86.trans (congrArg some (by kernel_rfl))
  f317 := Tryd.func99.trans (congrArg some (by kernel_rfl))
  f318 := Tryd.func101.trans (congrArg some (by kernel_rfl))
  f319 := Tryd.func102.trans (congrArg some (by kernel_rfl))
  f320 := Tryd.func103.trans (congrArg some (by kernel_rfl))
  f337 := Tryd.func104.trans (congrArg some (by kernel_rfl))
  f338 := Tryd.func105.trans (congrArg some (by kernel_rfl))
  t0 := Tryd.underlying0
  a0 := Tryd.isAgg0
  z0 := Tryd.sizeOf0
  v0 := Tryd.zeroValue0
  t2 := Tryd.underlying2
  a2 := Tryd.isAgg2
  z2 := Tryd.sizeOf2
  v2 := Tryd.zeroValue2
  t3 := Tryd.underlying3
  a3 := Tryd.isAgg3
  z3 := Tryd.sizeOf3
  v3 := Tryd.zeroValue3
  t4 := Tryd.underlying4
  a4 := Tryd.isAgg4
  z4 := Tryd.sizeOf4
  v4 := Tryd.zeroValue4
  t5 := Tryd.underlying5
  a5 := Tryd.isAgg5
  z5 := Tryd.sizeOf5
  v5 := Tryd.zeroValue5
  t9 := Tryd.underlying9
  a9 := Tryd.isAgg9
  z9 := Tryd.sizeOf9
  v9 := Tryd.zeroValue9
  t20 := Tryd.underlying20
  a20 := Tryd.isAgg20
  z20 := Tryd.sizeOf20
  v20 := Tryd.zeroValue20
  t37 := Tryd.underlying32
  a37 := Tryd.isAgg32
  z37 := Tryd.sizeOf32
  v37 := Tryd.zeroValue32
  t46 := Tryd.underlying64
  a46 := Tryd.isAgg64
  z46 := Tryd.sizeOf64
  v46 := Tryd.zeroValue64
  t51 := Tryd.underlying48
  a51 := Tryd.isAgg48
  z51 := Tryd.sizeOf48
  v51 := Tryd.zeroValue48
  t53 := Tryd.underlying23
  a53 := Tryd.isAgg23
  z53 := Tryd.sizeOf23
  v53 := Tryd.zeroValue23
  t75 := Tryd.underlying76
  a75 := Tryd.isAgg76
  z75 := Tryd.sizeOf76
  v75 := Tryd.zeroValue76
  t127 := Tryd.underlying153
  a127 := Tryd.isAgg153
  z127 := Tryd.sizeOf153
  v127 := Tryd.zeroValue153
  t143 := Tryd.underlying123
  a143 := Tryd.isAgg123
  z143 := Tryd.sizeOf123
  v143 := Tryd.zeroValue123
  t145 := Tryd.underlying125
  a145 := Tryd.isAgg125
  z145 := Tryd.sizeOf125
  v145 := Tryd.zeroValue125
  t167 := Tryd.underlying139
  a167 := Tryd.isAgg139
  z167 := Tryd.sizeOf139
  v167 := Tryd.zeroValue139
  t168 := Tryd.underlying140
  a168 := Tryd.isAgg140
  z168 := Tryd.sizeOf140
  v168 := Tryd.zeroValue140
  t171 := Tryd.underlying155
  a171 := Tryd.isAgg155
  z171 := Tryd.sizeOf155
  v171 := Tryd.zeroValue155
  t173 := Tryd.underlying158
  a173 := Tryd.isAgg158
  z173 := Tryd.sizeOf158
  v173 := Tryd.zeroValue158
  t210 := Tryd.underlying149
  a210 := Tryd.isAgg149
  z210 := Tryd.sizeOf149
  v210 := Tryd.zeroValue149
  t212 := Tryd.underlying162
  a212 := Tryd.isAgg162
  z212 := Tryd.sizeOf162
  v212 := Tryd.zeroValue162
  t213 := Tryd.underlying163
  a213 := Tryd.isAgg163
  z213 := Tryd.sizeOf163
  t232 := Tryd.underlying167
  a232 := Tryd.isAgg167
  z232 := Tryd.sizeOf167
  v232 := Tryd.zeroValue167
  t233 := Tryd.underlying168
  a233 := Tryd.isAgg168
  z233 := Tryd.sizeOf168
  v233 := Tryd.zeroValue168
  g15 := by kernel_rfl
  g16 := by kernel_rfl
  g17 := by kernel_rfl
  g18 := by kernel_rfl
  g19 := by kernel_rfl
  t80 := Tryd.underlying68
  a80 := Tryd.isAgg68
  z80 := Tryd.sizeOf68
  v80 := Tryd.zeroValue68
  i0 := by kernel_rfl
  i2 := by kernel_rfl
  i3 := by kernel_rfl
  i4 := by kernel_rfl
  i5 := by kernel_rfl
  i9 := by kernel_rfl
  i20 := by kernel_rfl
  i37 := by kernel_rfl
  i46 := by kernel_rfl
  i51 := by kernel_rfl
  i53 := by kernel_rfl
  i75 := by kernel_rfl
  i80 := by kernel_rfl
  i127 := by kernel_rfl
  i143 := by kernel_rfl
  i145 := by kernel_rfl
  i167 := by kernel_rfl
  i168 := by kernel_rfl
  i171 := by kernel_rfl
  i173 := by kernel_rfl
  i210 := by kernel_rfl
  i212 := by kernel_rfl
  i232 := by kernel_rfl
  i233 := by kernel_rfl
  m15 := by kernel_rfl
  m16 := by kernel_rfl
  m17 := by kernel_rfl
  m18 := by kernel_rfl
  m19 := by kernel_rfl
  c0 := by kernel_rfl
  c2 := by kernel_rfl
  c3 := by kernel_rfl
  c4 := by kernel_rfl
  c5 := by kernel_rfl
  c9 := by kernel_rfl
  c20 := by kernel_rfl
  c37 := by kernel_rfl
  c46 := by kernel_rfl
  c51 := by kernel_rfl
  c53 := by kernel_rfl
  c75 := by kernel_rfl
  c80 := by kernel_rfl
  c127 := by kernel_rfl
  c143 := by kernel_rfl
  c145 := by kernel_rfl
  c167 := by kernel_rfl
  c168 := by kernel_rfl
  c171 := by kernel_rfl
  c173 := by kernel_rfl
  c210 := by kernel_rfl
  c212 := by kernel_rfl
  c213 := by kernel_rfl
  c232 := by kernel_rfl
  c233 := by kernel_rfl }
def Tryd.lAT_ren : Go.Shelf.Ren := ⟨fun | 172 => 52 | 244 => 59 | 245 => 60 | 247 => 67 | 279 => 69 | 280 => 70 | 281 => 71 | 282 => 72 | 287 => 84 | 316 => 86 | 171 => 87 | 205 => 48 | 321 => 91 | 322 => 92 | 243 => 93 | 246 => 94 | 283 => 95 | 284 => 96 | 285 => 97 | 286 => 98 | 129 => 100 | 317 => 99 | 318 => 101 | 319 => 102 | 320 => 103 | 337 => 104 | 338 => 105 | n => n, fun | 9 => 9 | 3 => 3 | 75 => 76 | 76 => 118 | 4 => 4 | 5 => 5 | 167 => 139 | 37 => 32 | 0 => 0 | 85 => 82 | 2 => 2 | 168 => 140 | 53 => 23 | 175 => 135 | 46 => 64 | 210 => 149 | 127 => 153 | 145 => 125 | 143 => 123 | 21 => 21 | 171 => 155 | 173 => 158 | 212 => 162 | 51 => 48 | 20 => 20 | 213 => 163 | 232 => 167 | 233 => 168 | 80 => 68 | n => n, fun | 15 => 2 | 16 => 3 | 17 => 5 | 18 => 6 | 19 => 7 | n => n⟩
theorem Tryd.lAT : Go.Proofs.LaysC.n172 Tryd.prog Tryd.lAT_ren := {
  mixed := by kernel_rfl
  f129 := Tryd.func100.trans (congrArg some (by kernel_rfl))
  f171 := Tryd.func87.trans (congrArg some (by kernel_rfl))
  f172 := Tryd.func52.trans (congrArg some (by kernel_rfl))
  f205 := Tryd.func48.trans (congrArg some (by kernel_rfl))
  f243 := Tryd.func93.trans (congrArg some (by kernel_rfl))
  f244 := Tryd.func59.trans (congrArg some (by kernel_rfl))
  f245 := Tryd.func60.trans (congrArg some (by kernel_rfl))
  f246 := Tryd.func94.trans (congrArg some (by kernel_rfl))
  f247 := Tryd.func67.trans (congrArg some (by kernel_rfl))
  f279 := Tryd.func69.trans (congrArg some (by kernel_rfl))
  f280 := Tryd.func70.trans (congrArg some (by kernel_rfl))
  f281 := Tryd.func71.trans (congrArg some (by kernel_rfl))
  f282 := Tryd.func72.trans (congrArg some (by kernel_rfl))
  f283 := Tryd.func95.trans (congrArg some (by kernel_rfl))
  f284 := Tryd.func96.trans (congrArg some (by kernel_rfl))
  f285 := Tryd.func97.trans (congrArg some (by kernel_rfl))
  f286 := Tryd.func98.trans (congrArg some (by kernel_rfl))
  f287 := Tryd.func84.trans (congrArg some (by kernel_rfl))
  f316 := Tryd.func86.trans (congrArg some (by kernel_rfl))
  f317 := Tryd.func99.trans (congrArg some (by kernel_rfl))
  f318 := Tryd.func101.trans (congrArg some (by kernel_rfl))
  f319 := Tryd.func102.trans (congrArg some (by kernel_rfl))
  f320 := Tryd.func103.trans (congrArg some (by kernel_rfl))
  f321 := Tryd.func91.trans (congrArg some (by kernel_rfl))
  f322 := Tryd.func92.trans (congrArg some (by kernel_rfl))
  f337 := Tryd.func104.trans (congrArg some (by kernel_rfl))
  f338 := Tryd.func105.trans (congrArg some (by kernel_rfl))
  t0 := Tryd.underlying0
  a0 := Tryd.isAgg0
  z0 := Tryd.sizeOf0
  v0 := Tryd.zeroValue0
  t2 := Tryd.underlying2
  a2 := Tryd.isAgg2
  z2 := Tryd.sizeOf2
  v2 := Tryd.zeroValue2
  t3 := Tryd.underlying3
  a3 := Tryd.isAgg3
  z3 := Tryd.sizeOf3
  v3 := Tryd.zeroValue3
  t4 := Tryd.underlying4
  a4 := Tryd.isAgg4
  z4 := Tryd.sizeOf4
  v4 := Tryd.zeroValue4
  t5 := Tryd.underlying5
  a5 := Tryd.isAgg5
  z5 := Tryd.sizeOf5
  v5 := Tryd.zeroValue5
  t9 := Tryd.underlying9
  a9 := Tryd.isAgg9
  z9 := Tryd.sizeOf9
  v9 := Tryd.zeroValue9
  t20 := Tryd.underlying20
  a20 := Tryd.isAgg20
  z20 := Tryd.sizeOf20
  v20 := Tryd.zeroValue20
  t21 := Tryd.underlying21
  a21 := Tryd.isAgg21
  z21 := Tryd.sizeOf21
  v21 := Tryd.zeroValue21
  t37 := Tryd.underlying32
  a37 := Tryd.isAgg32
  z37 := Tryd.sizeOf32
  v37 := Tryd.zeroValue32
  t46 := Tryd.underlying64
  a46 := Tryd.isAgg64
  z46 := Tryd.sizeOf64
  v46 := Tryd.zeroValue64
  t51 := Tryd.underlying48
  a51 := Tryd.isAgg48
  z51 := Tryd.sizeOf48
  v51 := Tryd.zeroValue48
  t53 := Tryd.underlying23
  a53 := Tryd.isAgg23
  z53 := Tryd.sizeOf23
  v53 := Tryd.zeroValue23
  t75 := Tryd.underlying76
  a75 := Tryd.isAgg76
  z75 := Tryd.sizeOf76
  v75 := Tryd.zeroValue76
  t76 := Tryd.underlying118
  a76 := Tryd.isAgg118
  z76 := Tryd.sizeOf118
  v76 := Tryd.zeroValue118
  t85 := Tryd.underlying82
  a85 := Tryd.isAgg82
  z85 := Tryd.sizeOf82
  v85 := Tryd.zeroValue82
  t127 := Tryd.underlying153
  a127 := Tryd.isAgg153
  z127 := Tryd.sizeOf153
  v127 := Tryd.zeroValue153
  t143 := Tryd.underlying123
  a143 := Tryd.isAgg123
  z143 := Tryd.sizeOf123
  v143 := Tryd.zeroValue123
  t145 := Tryd.underlying125
  a145 := Tryd.isAgg125
  z145 := Tryd.sizeOf125
  v145 := Tryd.zeroValue125
  t167 := Tryd.underlying139
  a167 := Tryd.isAgg139
  z167 := Tryd.sizeOf139
  v167 := Tryd.zeroValue139
  t168 := Tryd.underlying140
  a168 := Tryd.isAgg140
  z168 := Tryd.sizeOf140
  v168 := Tryd.zeroValue140
  t171 := Tryd.underlying155
  a171 := Tryd.isAgg155
  z171 := Tryd.sizeOf155
  v171 := Tryd.zeroValue155
  t173 := Tryd.underlying158
  a173 := Tryd.isAgg158
  z173 := Tryd.sizeOf158
  v173 := Tryd.zeroValue158
  t175 := Tryd.underlying135
  a175 := Tryd.isAgg135
  z175 := Tryd.sizeOf135
  v175 := Tryd.zeroValue135
  t210 := Tryd.underlying149
  a210 := Tryd.isAgg149
  z210 := Tryd.sizeOf149
  v210 := Tryd.zeroValue149
  t212 := Tryd.underlying162
  a212 := Tryd.isAgg162
  z212 := Tryd.sizeOf162
  v212 := Tryd.zeroValue162
  t213 := Tryd.underlying163
  a213 := Tryd.isAgg163
  z213 := Tryd.sizeOf163
  t232 := Tryd.underlying167
  a232 := Tryd.isAgg167
  z232 := Tryd.sizeOf167
  v232 := Tryd.zeroValue167
  t233 := Tryd.underlying168
  a233 := Tryd.isAgg168
  z233 := Tryd.sizeOf168
  v233 := Tryd.zeroValue168
  g15 := by kernel_rfl
  g16 := by kernel_rfl
  g17 := by kernel_rfl
  g18 := by kernel_rfl
  g19 := by kernel_rfl
  t80 := Tryd.underlying68
  a80 := Tryd.isAgg68
  z80 := Tryd.sizeOf68
  v80 := Tryd.zeroValue68
  i0 := by kernel_rfl
  i2 := by kernel_rfl
  i3 := by kernel_rfl
  i4 := by kernel_rfl
  i5 := by kernel_rfl
  i9 := by kernel_rfl
  i20 := by kernel_rfl
  i21 := by kernel_rfl
  i37 := by kernel_rfl
  i46 := by kernel_rfl
  i51 := by kernel_rfl
  i53 := by kernel_rfl
  i75 := by kernel_rfl
  i76 := by kernel_rfl
  i80 := by kernel_rfl
  i85 := by kernel_rfl
  i127 := by kernel_rfl
  i143 := by kernel_rfl
  i145 := by kernel_rfl
  i167 := by kernel_rfl
  i168 := by kernel_rfl
  i171 := by kernel_rfl
  i173 := by kernel_rfl
  i175 := by kernel_rfl
  i210 := by kernel_rfl
  i212 := by kernel_rfl
  i232 := by kernel_rfl
  i233 := by kernel_rfl
  m15 := by kernel_rfl
  m16 := by kernel_rfl
  m17 := by kernel_rfl
  m18 := by kernel_rfl
  m19 := by kernel_rfl
  c0 := by kernel_rfl
  c2 := by kernel_rfl
  c3 := by kernel_rfl
  c4 := by kernel_rfl
  c5 := by kernel_rfl
  c9 := by kernel_rfl
  c20 := by kernel_rfl
  c21 := by kernel_rfl
  c37 := by kernel_rfl
  c46 := by kernel_rfl
  c51 := by kernel_rfl
  c53 := by kernel_rfl
  c75 := by kernel_rfl
  c76 := by kernel_rfl
  c80 := by kernel_rfl
  c85 := by kernel_rfl
  c127 := by kernel_rfl
  c143 := by kernel_rfl
  c145 := by kernel_rfl
  c167 := by kernel_rfl
  c168 := by kernel_rfl
  c171 := by kernel_rfl
  c173 := by kernel_rfl
  c175 := by kernel_rfl
  c210 := by kernel_rfl
  c212 := by kernel_rfl
  c213 := by kernel_rfl
  c232 := by kernel_rfl
  c233 := by kernel_rfl }
end Go.Proofs
namespace Go.Proofs.YtbdmdajbdmdknaaDoor
open Go.RowKit
set_option linter.unusedVariables false
set_option linter.unusedSimpArgs false

theorem toErr_calls (fn s : ByteArray) (base bits : Int) (w : World) (hl : s.size ≤ 281474976710656) (hS : SynAt w) :
    Calls Tryd.prog 60 #[.string fn, .string s, .int .i64 base, .int .i64 bits, .iface 139 (.int .i64 2)] w fun e w' => ∃ T a, e = .returned (.iface T (.pointer (some a))) ∧ Below w.heap.size w w' := by
  obtain ⟨T, a, hv⟩ := hS
  have h := Any.strconv_toError_syntax (P := Tryd.prog) Tryd.lTE fn s base bits (.iface T (.pointer (some a))) w hl hv (.inr ⟨_, _, rfl⟩)
  refine Calls.mono h ?_
  rintro e w' ⟨N, rfl, _, _, hB⟩
  exact ⟨_, _, rfl, hB⟩
/-- What strconv.ParseUint says of four letters. -/
def PS (w : World) (l : Bs) (e : Ending) (w' : World) : Prop := Below w.heap.size w w' ∧ match hex4 l with
  | some x => e = .returned (.tuple #[.int .u64 (x : Int), .nilIface])
  | none => ∃ T a, e = .returned (.tuple #[.int .u64 0, .iface T (.pointer (some a))])
theorem parseS_calls (l : Bs) (hl : l.length = 4) (w : World) (hS : SynAt w) : Calls Tryd.prog 64 #[.string (bs l), .int .i64 16, .int .i64 16] w (PS w l) := by
  have HP := hidden (parseU_calls l hl w)
  have HS := hidden hS
  have hsz : (bs l).size ≤ 281474976710656 := by rw [size_bs, hl]; omega
  have HZ := hidden hsz
  clear hS hl hsz
  go_enter Tryd.func64, Tryd.ntmps64
  cases hx : hex4 l with
  | some x =>
    have HX := hidden hx
    clear hx
    go_wp2_with (go_at_call 84; go_must (refine HP.out.mono ?_; rintro e w1 ⟨hB, hE⟩; rw [HX.out] at hE; dsimp only at hE; subst hE; have HB := hidden hB; clear hB))
    go_ret2
    refine ⟨HB.out, ?_⟩
    rw [HX.out]
    rfl
  | none =>
    have HX := hidden hx
    clear hx
    go_wp2_with (first
      | (go_at_call 84; go_must (refine HP.out.mono ?_; rintro e w1 ⟨hB, hE⟩; rw [HX.out] at hE; dsimp only at hE; subst hE; have HB := hidden hB; clear hB))
      | (go_at_call 60; go_must (refine (toErr_calls _ _ _ _ w1 HZ.out (HS.out.next HB.out)).mono ?_; rintro e w2 ⟨T, a, rfl, hB⟩; have HB2 := hidden hB; clear hB)))
    go_ret2
    refine ⟨below_next HB.out HB2.out, ?_⟩
    rw [HX.out]
    exact ⟨_, _, rfl⟩
theorem isSur_calls (x : Nat) (hx : x ≤ 65535) (w : World) : Calls Tryd.prog 65 #[.int .i32 (x : Int)] w fun e w' => e = .returned (.bool (sur x)) ∧ w = w' := by
  cases h : sur x with
  | true =>
    have hh : 55296 ≤ x ∧ x < 57344 := by simpa [sur] using h
    have h1 : (55296 : Int) ≤ (x : Int) := by omega
    have h2 : (x : Int) < 57344 := by omega
    clear h hh hx
    go_enter Tryd.func65, Tryd.ntmps65
    go_wp2
    go_ret
    exact ⟨rfl, rfl⟩
  | false =>
    have hh : ¬ (55296 ≤ x ∧ x < 57344) := by simpa [sur] using h
    by_cases g : 55296 ≤ x
    · have h1 : (55296 : Int) ≤ (x : Int) := by omega
      have h2 : ¬ (x : Int) < 57344 := by omega
      clear h hh hx g
      go_enter Tryd.func65, Tryd.ntmps65
      go_wp2
      go_ret
      exact ⟨rfl, rfl⟩
    · have h1 : ¬ (55296 : Int) ≤ (x : Int) := by omega
      clear h hh hx g
      go_enter Tryd.func65, Tryd.ntmps65
      go_wp2
      go_ret
      exact ⟨rfl, rfl⟩
theorem or_low (a b : Int) (ha : 0 ≤ a) (ha2 : a < 1024) (hb : 0 ≤ b) (hb2 : b < 1024) : bits .or .i32 (a * 1024) b = a * 1024 + b :=
  bits_join .i32 31 (by decide) wraps_i32 10 (a * 1024) b (by omega) (by omega) (by omega) hb hb2 (by omega)
set_option maxRecDepth 100000 in
set_option maxHeartbeats 1000000 in
theorem decR_calls (x y : Nat) (hx : x ≤ 65535) (hy : y ≤ 65535) (w : World) : Calls Tryd.prog 66 #[.int .i32 (x : Int), .int .i32 (y : Int)] w fun e w' => e = .returned (.int .i32 (decR x y)) ∧ w = w' := by
  by_cases h : 55296 ≤ x ∧ x < 56320 ∧ 56320 ≤ y ∧ y < 57344
  · have hd : decR x y = ((x : Int) - 55296) * 1024 + ((y : Int) - 56320) + 65536 := if_pos h
    obtain ⟨d, hdd⟩ : ∃ d, decR x y = d := ⟨_, rfl⟩
    rw [hdd]
    rw [hdd] at hd
    have h1 : (55296 : Int) ≤ (x : Int) := by omega
    have h2 : (x : Int) < 56320 := by omega
    have h3 : (56320 : Int) ≤ (y : Int) := by omega
    have h4 : (y : Int) < 57344 := by omega
    obtain ⟨a, ha⟩ : ∃ a : Int, (x : Int) - 55296 = a := ⟨_, rfl⟩
    obtain ⟨b, hb⟩ : ∃ b : Int, (y : Int) - 56320 = b := ⟨_, rfl⟩
    have e1 : IntKind.i32.wrap ((x : Int) - 55296) = a := by rw [IntKind.wrap_i32]; omega
    have e2 : IntKind.i32.wrap ((y : Int) - 56320) = b := by rw [IntKind.wrap_i32]; omega
    have e3 : IntKind.i32.wrap (a * 1024) = a * 1024 := by rw [IntKind.wrap_i32]; omega
    have e4 : bits .or .i32 (a * 1024) b = a * 1024 + b := or_low a b (by omega) (by omega) (by omega) (by omega)
    have e5 : IntKind.i32.wrap (a * 1024 + b + 65536) = d := by rw [IntKind.wrap_i32]; omega
    clear h hd hdd ha hb hx hy
    go_enter Tryd.func66, Tryd.ntmps66
    go_wp2
    go_ret
    exact ⟨rfl, rfl⟩
  · have hd : decR x y = 65533 := if_neg h
    rw [hd]
    have h5 := h
    clear hd
    by_cases g1 : 55296 ≤ x
    · have h1 : (55296 : Int) ≤ (x : Int) := by omega
      by_cases g2 : x < 56320
      · have h2 : (x : Int) < 56320 := by omega
        by_cases g3 : 56320 ≤ y
        · have h3 : (56320 : Int) ≤ (y : Int) := by omega
          have h4 : ¬ (y : Int) < 57344 := by omega
          clear h h5 g1 g2 g3 hx hy
          go_enter Tryd.func66, Tryd.ntmps66
          go_wp2
          go_ret
          exact ⟨rfl, rfl⟩
        · have h3 : ¬ (56320 : Int) ≤ (y : Int) := by omega
          clear h h5 g1 g2 g3 hx hy
          go_enter Tryd.func66, Tryd.ntmps66
          go_wp2
          go_ret
          exact ⟨rfl, rfl⟩
      · have h2 : ¬ (x : Int) < 56320 := by omega
        clear h h5 g1 g2 hx hy
        go_enter Tryd.func66, Tryd.ntmps66
        go_wp2
        go_ret
        exact ⟨rfl, rfl⟩
    · have h1 : ¬ (55296 : Int) ≤ (x : Int) := by omega
      clear h h5 g1 hx hy
      go_enter Tryd.func66, Tryd.ntmps66
      go_wp2
      go_ret
      exact ⟨rfl, rfl⟩
end Go.Proofs.YtbdmdajbdmdknaaDoor
namespace Go.Proofs.YtbdmdajbdmdknaaDoor
open Go.RowKit
set_option linter.unusedVariables false
set_option linter.unusedSimpArgs false

theorem storeCells_mark (P : Program) (g o : Nat) (t lo hi : Nat) : ∀ (vs : List Value) (i : Nat) (cur : Array Value) (w : World), w.heap[g]? = some (.cells cur t (lo, hi)) → o + i + vs.length ≤ cur.size → o + i + vs.length ≤ lo → (∀ v ∈ vs, v.oneCell' = true) →
    (storeCells ⟨g, o, none⟩ vs i).run P w = .ok () (w.setRow g (cur.toList.take (o + i) ++ vs ++ cur.toList.drop (o + i + vs.length)).toArray)
  | [], i, cur, w, hg, _, _, _ => by
    simp only [storeCells, List.append_nil, List.length_nil, Nat.add_zero, List.take_append_drop, Array.toArray_toList]
    rw [setRow_self w g cur t (lo, hi) hg]
    rfl
  | v :: rest, i, cur, w, hg, hl, hm, h1 => by
    have hi : o + i < cur.size := by simp at hl; omega
    have hlo : o + i < lo := by simp at hm; omega
    have hadd : (⟨g, o, none⟩ : Addr).add i = ⟨g, o + i, none⟩ := by unfold Addr.add; split <;> simp_all
    have hcell : w.cell? ⟨g, o + i, none⟩ = some cur[o + i] := by simp [World.cell?, hg, hi]
    have hfro : w.frozen? ⟨g, o + i, none⟩ = false := by simp [World.frozen?, hg]; omega
    have hst : (store ((⟨g, o, none⟩ : Addr).add i) v).run P w = .ok () (w.setRow g (cur.setIfInBounds (o + i) v)) := by
      rw [hadd, run_store P w _ v _ (h1 v (by simp)), hcell]
      simp [hfro, setCell_eq_setRow w g (o + i) cur t _ v hg]
    have ih := storeCells_mark P g o t lo _ rest (i + 1) (cur.setIfInBounds (o + i) v) (w.setRow g (cur.setIfInBounds (o + i) v)) (setRow_heap w g cur _ t _ hg) (by simp at hl ⊢; omega) (by simp at hm ⊢; omega) (fun x hx => h1 x (by simp [hx]))
    simp only [storeCells, Sem.run_bind, hst, Result.andThen_ok, ih, setRow_setRow]
    congr 3
    have e := list_seg_step cur.toList (o + i) v rest (by simp at hl ⊢; omega)
    simpa [Array.toList_setIfInBounds, Nat.add_assoc] using e

/-- A block of bytes with room for N, whose first bytes are l. -/
def Buf (w : World) (g e N : Nat) (l : List Int) : Prop := ∃ (cur : Array Value) (lo hi : Nat), w.heap[g]? = some (.cells cur e (lo, hi)) ∧ N ≤ lo ∧ N ≤ cur.size ∧ cur.toList.take l.length = nums .u8 l ∧ l.length ≤ N
section
variable {w w1 : World} {g e N : Nat} {l : List Int}
theorem Buf.lt (h : Buf w g e N l) : g < w.heap.size := by obtain ⟨cur, lo, hi, hg, _⟩ := h; exact (Array.getElem?_eq_some_iff.1 hg).1
theorem Buf.below {B : Nat} (h : Buf w g e N l) (hb : Below B w w1) (hg : g < B) : Buf w1 g e N l := by
  obtain ⟨cur, lo, hi, h1, h2⟩ := h
  exact ⟨cur, lo, hi, (hb.block g hg).trans h1, h2⟩
theorem Buf.alloc (h : Buf w g e N l) (o : Obj) : Buf (w.alloc o) g e N l := h.below (below_alloc0 w o) h.lt
theorem Buf.drewN (h : Buf w g e N l) (n : Nat) : Buf (w.drewN n) g e N l := h
theorem Buf.take (h : Buf w g e N l) (k : Nat) : Buf w g e N (l.take k) := by
  obtain ⟨cur, lo, hi, h1, h2, h3, h4, h5⟩ := h
  refine ⟨cur, lo, hi, h1, h2, h3, ?_, by rw [List.length_take]; omega⟩
  rw [List.length_take, ← List.take_take, h4]
  exact (List.map_take ..).symm
theorem Buf.rd (h : Buf w g e N l) : Rd w (some ⟨g, 0, none⟩) (nums .u8 l) := by
  have hlt := h.lt
  obtain ⟨cur, lo, hi, h1, h2, h3, h4, h5⟩ := h
  intro i v hv
  refine ⟨g, 0, rfl, hlt, ?_⟩
  rw [← h4, List.getElem?_take] at hv
  split at hv
  · simp [World.cell?, h1, Nat.zero_add]; simpa using hv
  · cases hv
end
theorem buf_bytes (w : World) (e : Nat) (s : ByteArray) (l : List Int) (hl : nums .u8 l = Go.Lib.strCells s) : Buf (Go.Lib.bytesWorld w e s) w.heap.size e s.size l := by
  have hn : l.length = s.size := by have := congrArg List.length hl; rwa [nums_len, Go.Lib.strCells_length] at this
  have hsz := Go.Lib.bytesWorld_at_new w e s
  refine ⟨_, _, _, hsz, ?_, ?_, ?_, by omega⟩
  · simp [Go.Lib.bytesCells]
  · simp [Go.Lib.bytesCells]
  · rw [hn, hl]
    simp [Go.Lib.bytesCells, Go.Lib.strCells]
section
variable {P : Program}
theorem run_app_buf {W : World} {t u e : Nat} {ty : TypeId} (ht : P.underlying t = some (.slice e)) (hsz : (P.info? e).map (·.size) = some 1) {g N c : Nat} {l y : List Int} (HB : Buf W g e N l) (hN : l.length + y.length ≤ N) (hc : N ≤ c)
    (x : Value) (hx : (u = t ∧ ∃ A c2, x = .slice A y.length c2 ∧ Rd W A (nums .u8 y)) ∨ (P.underlying u = some .string ∧ ∃ s : ByteArray, x = .string s ∧ Go.Lib.strCells s = nums .u8 y)) :
    ∃ w1, (Builtin.append_ #[t, u] ty #[.slice (some ⟨g, 0, none⟩) l.length c, x]).run P W = .ok (.slice (some ⟨g, 0, none⟩) (l.length + y.length) c) w1 ∧ Buf w1 g e N (l ++ y) ∧ W.grownBy w1 (some g) := by
  obtain ⟨i0, hi, hs⟩ := Option.map_eq_some_iff.1 hsz
  obtain ⟨cur, lo, hi2, h1, h2, h3, h4, h5⟩ := HB
  have hst := storeCells_mark P g l.length e lo hi2 (nums .u8 y) 0 cur W h1 (by rw [nums_len]; omega) (by rw [nums_len]; omega) (nums_one _ _)
  simp only [Nat.add_zero, nums_len] at hst
  refine ⟨W.setRow g (cur.toList.take l.length ++ nums .u8 y ++ cur.toList.drop (l.length + y.length)).toArray, ?_, ⟨_, lo, hi2, setRow_heap W g cur _ e _ h1, h2, ?_, ?_, by rw [List.length_append]; exact hN⟩, ⟨rfl, rfl, rfl, by simp, fun k hk hne => setRow_other W g k _ (fun e => hne (by rw [e]))⟩⟩
  · have hroom : l.length + y.length ≤ c := by omega
    rcases hx with ⟨rfl, A, c2, rfl, HR⟩ | ⟨hu, s, rfl, hcs⟩
    · by_cases h0 : y.length = 0
      · obtain rfl : y = [] := List.eq_nil_of_length_eq_zero h0
        have hself : W.setRow g (cur.toList.take l.length ++ nums .u8 [] ++ cur.toList.drop (l.length + 0)).toArray = W := by
          simp only [nums, List.map_nil, List.append_nil, Nat.add_zero, List.take_append_drop, Array.toArray_toList]
          exact setRow_self W g cur e _ h1
        rw [List.length_nil, hself]
        have hl0 : l.length ≤ c := by simp at hroom; exact hroom
        cases A <;> simp [Builtin.append_, run_underlying ht, sizeOf, typeInfo, hi, Builtin.lenOf, Builtin.firstCells, hl0, storeCells, loadCells, loadCellsFrom]
      · obtain ⟨b, o, rfl, _, hcell⟩ := HR.all (by omega)
        have hf := run_firstCells_some (P := P) W 1 y.length ⟨b, o, none⟩ y.length c2 (nums .u8 y) (by rw [nums_len, Nat.mul_one]) (fun j v hj => by
          have hj2 : j < y.length := by rw [← nums_len .u8]; exact (List.getElem?_eq_some_iff.1 hj).1
          rw [nums_at _ _ _ hj2] at hj
          rw [addr_add, hcell j hj2, hj])
        generalize nums .u8 y = Y at hf hst ⊢
        generalize y.length = m at hf hst hroom ⊢
        simp [Builtin.append_, run_underlying ht, sizeOf, typeInfo, hi, Builtin.lenOf, hroom, hf, hs, Addr.add_lit, hst]
    · have hsl : s.size = y.length := by rw [← Go.Lib.strCells_length, hcs, nums_len]
      have hf := Go.Lib.run_firstCells_string (P := P) W 1 s
      rw [hcs, hsl] at hf
      generalize nums .u8 y = Y at hf hst ⊢
      generalize y.length = m at hf hst hroom hsl ⊢
      simp [Builtin.append_, run_underlying ht, run_underlying hu, sizeOf, typeInfo, hi, Builtin.lenOf, hroom, hf, hs, hsl, Addr.add_lit, hst]
  · simp only [List.size_toArray, List.length_append, List.length_take, List.length_drop, Array.length_toList, nums_len]
    omega
  · rw [List.length_append, nums_app, h4]
    have hq : (nums .u8 l ++ nums .u8 y).length = l.length + y.length := by rw [List.length_append, nums_len, nums_len]
    rw [← hq]
    exact List.take_left' rfl
theorem walk_app_buf {ops : Array Oper} {rest : List Oper} {o : Oper} {a : Act} {Q : Exit → Act → World → Prop} {W : World} {t u e : Nat} (hgd : o.guard = none) (s x : Operand)
    (ho : o.op = .call { callee := .builtin .append, args := #[s, x], argTypes := #[t, u] })
    (ht : P.underlying t = some (.slice e)) (hsz : (P.info? e).map (·.size) = some 1) {g N c n : Nat} {l y : List Int} (HB : Buf W g e N l) (hn : l.length = n) (hN : l.length + y.length ≤ N) (hc : N ≤ c) {v : Value}
    (hs : a.eval s = .slice (some ⟨g, 0, none⟩) n c) (hv : a.eval x = v) (hx : (u = t ∧ ∃ A c2, v = .slice A y.length c2 ∧ Rd W A (nums .u8 y)) ∨ (P.underlying u = some .string ∧ ∃ s : ByteArray, v = .string s ∧ Go.Lib.strCells s = nums .u8 y))
    (h : ∀ w1, Buf w1 g e N (l ++ y) → W.grownBy w1 (some g) → wpList P ops Q rest (a.put o.dst (.slice (some ⟨g, 0, none⟩) (n + y.length) c)) w1) : wpList P ops Q (o :: rest) a W := by
  subst hn
  obtain ⟨w1, hrun, h2, h3⟩ := run_app_buf (P := P) (ty := o.type) ht hsz HB hN hc v hx
  refine wpList_plain hgd fun K hK => ?_
  unfold Oper.wp execOp
  simp only [ho, resolve, invoke, builtin, Sem.run_bind, Sem.run_pure, Result.andThen_ok, List.map_toArray, List.map_cons, List.map_nil, hs, hv, hrun]
  exact hK _ _ (h w1 h2 h3)
end
end Go.Proofs.YtbdmdajbdmdknaaDoor
namespace Go.Proofs.YtbdmdajbdmdknaaDoor
open Go.RowKit
set_option linter.unusedVariables false
set_option linter.unusedSimpArgs false

def ints (l : Bs) : List Int := l.map fun b => (b.toNat : Int)
theorem ints_len (l : Bs) : (ints l).length = l.length := List.length_map ..
theorem ints_app (a b : Bs) : ints (a ++ b) = ints a ++ ints b := List.map_append ..
theorem ints_bI (l : Bs) : bI (bs l) = ints l := rfl
theorem strCells_ints (s : ByteArray) : Go.Lib.strCells s = nums .u8 (ints s.data.toList) := by simp [Go.Lib.strCells, nums, ints, List.map_map, Function.comp_def]
theorem strCells_bs (l : Bs) : Go.Lib.strCells (bs l) = nums .u8 (ints l) := strCells_ints (bs l)
theorem strCells_utf (r : Int) : Go.Lib.strCells (Utf8.encode r) = nums .u8 (ints (utf r)) := strCells_ints _
theorem utf_len (r : Int) : (utf r).length ≤ 4 := by
  unfold utf Utf8.encode
  simp only []
  repeat (first | split | simp)
theorem escB_bound (c : UInt8) (r : Bs) : (escB c r).1.length + (escB c r).2.length ≤ r.length + 2 := by
  unfold escB
  split
  · unfold escU
    split
    · simp; omega
    · split
      · simp; omega
      · split
        · dsimp only
          refine Nat.le_trans (Nat.add_le_add_right (utf_len _) _) ?_
          simp only [List.length_drop]; omega
        · split
          · simp only [List.length_append, List.length_cons, List.length_nil, List.length_take, List.length_drop]; omega
          · split
            · simp only [List.length_append, List.length_cons, List.length_nil, List.length_take, List.length_drop]; omega
            · dsimp only
              refine Nat.le_trans (Nat.add_le_add_right (utf_len _) _) ?_
              simp only [List.length_drop, not_or] at *; omega
  · unfold esc1
    repeat (first | split | (simp; done) | (simp; omega))

theorem unAZ (s : Bs) (h : (92 : UInt8) ∈ s) : s = unA s ++ 92 :: unZ s ∧ (92 : UInt8) ∉ unA s := by
  induction s with
  | nil => cases h
  | cons c s ih =>
    by_cases hc : c = 92
    · subst hc
      rw [unA_esc, unZ_esc]
      exact ⟨rfl, by simp⟩
    · have hm : (92 : UInt8) ∈ s := by rcases List.mem_cons.1 h with e | e; exact absurd e.symm hc; exact e
      obtain ⟨h1, h2⟩ := ih hm
      rw [unA_cons hc, unZ_cons hc]
      refine ⟨by rw [List.cons_append, ← h1], ?_⟩
      rw [List.mem_cons, not_or]
      exact ⟨fun e => hc e.symm, h2⟩
theorem unA_no (s : Bs) (h : (92 : UInt8) ∉ s) : unA s = s ∧ unZ s = [] := by
  induction s with
  | nil => exact ⟨rfl, rfl⟩
  | cons c s ih =>
    rw [List.mem_cons, not_or] at h
    obtain ⟨h1, h2⟩ := ih h.2
    rw [unA_cons (fun e => h.1 e.symm), unZ_cons (fun e => h.1 e.symm), h1, h2]
    exact ⟨rfl, rfl⟩
theorem idx_at (s : Bs) (h : (92 : UInt8) ∈ s) : Go.Lib.indexByte s 92 = ((unA s).length : Int) := by
  induction s with
  | nil => cases h
  | cons c s ih =>
    by_cases hc : c = 92
    · subst hc
      rw [unA_esc]
      simp [Go.Lib.indexByte]
    · have hm : (92 : UInt8) ∈ s := by rcases List.mem_cons.1 h with e | e; exact absurd e.symm hc; exact e
      rw [unA_cons hc]
      unfold Go.Lib.indexByte
      rw [ih hm]
      simp [hc]
/-- What is known at the loop's head; behind the switch. -/
structure LU (s : Bs) (w wr : World) (g N : Nat) (pre : List Int) (sk : Bs) : Prop where
  buf : Buf wr g 5 N pre
  below : Below w.heap.size w wr
  len : pre.length + 1 + sk.length ≤ N
  eq : pre ++ ints (unT sk.length sk) = ints (unB s)
structure MU (s : Bs) (w wr : World) (g N : Nat) (pre : List Int) (sk : Bs) : Prop where
  buf : Buf wr g 5 N pre
  below : Below w.heap.size w wr
  len : pre.length + sk.length ≤ N
  eq : pre ++ ints (unA sk ++ unT sk.length (unZ sk)) = ints (unB s)
theorem LU.mu {s : Bs} {w wr w1 : World} {g N : Nat} {pre : List Int} {c : UInt8} {r o r' : Bs} (h : LU s w wr g N pre (c :: r)) (he : escB c r = (o, r')) (hb : Buf w1 g 5 N (pre ++ ints o)) (hB : Below w.heap.size w w1) : MU s w w1 g N (pre ++ ints o) r' := by
  have hb2 := escB_bound c r
  have hl := escB_len c r
  rw [he] at hb2 hl
  have hq := h.eq
  have hn := h.len
  dsimp only at hb2 hl
  simp only [List.length_cons] at hn hq
  refine ⟨hb, hB, ?_, ?_⟩
  · rw [List.length_append, ints_len]; omega
  · rw [← hq]
    show _ = pre ++ ints ((escB c r).1 ++ (unA (escB c r).2 ++ unT r.length (unZ (escB c r).2)))
    rw [he]
    dsimp only
    rw [List.append_assoc, ← ints_app, unT_fuel r.length r'.length (unZ r') (Nat.le_trans (unZ_len _) hl) (unZ_len _)]
theorem LU.rooms {s : Bs} {w wr : World} {g N : Nat} {pre : List Int} {c : UInt8} {r o r' : Bs} (h : LU s w wr g N pre (c :: r)) (he : escB c r = (o, r')) : pre.length + (ints o).length ≤ N := by
  rw [ints_len]
  have hb2 := escB_bound c r
  rw [he] at hb2
  have hn := h.len
  dsimp only at hb2
  simp only [List.length_cons] at hn
  omega
theorem ex_drop (l : Bs) (k n : Nat) (hn : n = l.length) : (bs l).extract k n = bs (l.drop k) := by subst hn; exact extract_drop (bs l) k
theorem ex_take (l : Bs) (k : Nat) : (bs l).extract 0 k = bs (l.take k) := extract_take (bs l) k
theorem ex_mid (l : Bs) (i j : Nat) : (bs l).extract i j = bs ((l.drop i).take (j - i)) := by
  rw [← bs_self ((bs l).extract i j)]
  congr 1
  rw [ByteArray.data_extract, Array.toList_extract, List.extract_eq_take_drop, toL_bs]
/-- s2b, with the block that it makes. -/
def S2U (w : World) (s : Bs) (e : Ending) (w' : World) : Prop := ∃ c, e = .returned (.slice (some ⟨w.heap.size, 0, none⟩) s.length c) ∧ s.length ≤ c ∧ Buf w' w.heap.size 5 s.length (ints s) ∧ Below w.heap.size w w'
set_option maxRecDepth 100000 in
set_option maxHeartbeats 1000000 in
theorem s2u_calls (s : Bs) (w : World) : Calls Tryd.prog 49 #[.string (bs s)] w (S2U w s) := by
  have hcv : (convert 9 32 (.string (bs s))).run Tryd.prog w = .ok (.slice (some ⟨w.heap.size, 0, none⟩) s.length (grownCap w s.length 0 5)) (Go.Lib.bytesWorld w 5 (bs s)) := Go.Lib.run_convert_string_bytes (P := Tryd.prog) w 9 32 5 (bs s) Tryd.underlying9 Tryd.underlying32 Tryd.underlying5
  have HR := hidden (buf_bytes w 5 (bs s) (ints s) (strCells_bs s).symm)
  have HB := hidden (below_bytes0 w 5 (bs s))
  have Hge := hidden (grownCap_ge w s.length 0 5)
  go_enter Tryd.func49, Tryd.ntmps49
  go_wp2
  go_ret
  exact ⟨_, rfl, Hge.out, HR.out, HB.out⟩
theorem size_u8U : (Tryd.prog.info? 5).map (·.size) = some 1 := by kernel_rfl
end Go.Proofs.YtbdmdajbdmdknaaDoor
