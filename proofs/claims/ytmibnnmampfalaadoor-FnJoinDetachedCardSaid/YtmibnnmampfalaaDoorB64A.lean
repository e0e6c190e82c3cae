/- The encodings: how they are made. -/
import Derived.Test.YtmibnnmampfalaaDoorProg
import Derived.Test.YtmibnnmampfalaaDoorB64Law
import Derived.Test.YtmibnnmampfalaaDoorBytes
import Derived.StillTailTactics
namespace Go.Proofs.YtmibnnmampfalaaDoor
open Go.RowKit
set_option linter.unusedVariables false
set_option linter.unusedSimpArgs false

/-- The cells of an encoding: the letters, the reading table, the padding, and that it is not strict. -/
def encCells (al dm : List Int) (pad : Int) : List Value := nums .u8 al ++ (nums .u8 dm ++ [.int .i32 pad, .bool false])
theorem encCells_len {al dm : List Int} {pad : Int} (h : al.length = 64) (h' : dm.length = 256) : (encCells al dm pad).length = 322 := by
  simp [encCells, nums_len, h, h']
structure EncAt (w : World) (g : Nat) (al dm : List Int) (pad : Int) : Prop where
  la : al.length = 64
  ld : dm.length = 256
  row : Row w g 86 (encCells al dm pad)
section
variable {w w1 : World} {g : Nat} {al dm : List Int} {pad : Int}
theorem EncAt.letter (h : EncAt w g al dm pad) (i : Nat) (hi : i < 64) : w.cell? ⟨g, i, none⟩ = some (.int .u8 (gi al i)) := by
  rw [h.row.cell, encCells, List.getElem?_append_left (by rw [nums_len, h.la]; exact hi), nums_at _ _ _ (by rw [h.la]; exact hi)]
theorem EncAt.digit (h : EncAt w g al dm pad) (i : Nat) (hi : i < 256) : w.cell? ⟨g, 64 + i, none⟩ = some (.int .u8 (gi dm i)) := by
  rw [h.row.cell, encCells, List.getElem?_append_right (by rw [nums_len, h.la]; omega), nums_len, h.la, show 64 + i - 64 = i by omega, List.getElem?_append_left (by rw [nums_len, h.ld]; exact hi), nums_at _ _ _ (by rw [h.ld]; exact hi)]
theorem EncAt.padc (h : EncAt w g al dm pad) : w.cell? ⟨g, 320, none⟩ = some (.int .i32 pad) := by
  rw [h.row.cell, encCells, List.getElem?_append_right (by rw [nums_len, h.la]; omega), nums_len, h.la, List.getElem?_append_right (by rw [nums_len, h.ld]; omega), nums_len, h.ld]; rfl
theorem EncAt.lax (h : EncAt w g al dm pad) : w.cell? ⟨g, 321, none⟩ = some (.bool false) := by
  rw [h.row.cell, encCells, List.getElem?_append_right (by rw [nums_len, h.la]; omega), nums_len, h.la, List.getElem?_append_right (by rw [nums_len, h.ld]; omega), nums_len, h.ld]; rfl
theorem EncAt.below {B : Nat} (h : EncAt w g al dm pad) (hb : Below B w w1) (hg : g < B) : EncAt w1 g al dm pad := ⟨h.la, h.ld, h.row.below hb hg⟩
theorem EncAt.lt (h : EncAt w g al dm pad) : g < w.heap.size := h.row.lt
theorem EncAt.alloc (h : EncAt w g al dm pad) (o : Obj) : EncAt (w.alloc o) g al dm pad := ⟨h.la, h.ld, h.row.alloc o⟩
theorem EncAt.grown {r : Option Nat} (h : EncAt w g al dm pad) (hg : w.grownBy w1 r) (hne : some g ≠ r) : EncAt w1 g al dm pad := ⟨h.la, h.ld, h.row.grown hg hne⟩
theorem EncAt.drewN (h : EncAt w g al dm pad) (n : Nat) : EncAt (w.drewN n) g al dm pad := ⟨h.la, h.ld, h.row⟩
theorem EncAt.setDigit (h : EncAt w g al dm pad) (i : Nat) (hi : i < 256) (v : Int) : EncAt (w.setCell ⟨g, 64 + i, none⟩ (.int .u8 v)) g al (dm.set i v) pad := by
  refine ⟨h.la, by simp [h.ld], ?_⟩
  have := h.row.set (64 + i) (.int .u8 v)
  rw [encCells, List.set_append_right _ _ (by rw [nums_len, h.la]; omega), nums_len, h.la, show 64 + i - 64 = i by omega, List.set_append_left _ _ (by rw [nums_len, h.ld]; exact hi)] at this
  rwa [nums, nums, ← List.map_set] at this
end

section
variable {P : Program}
/-- new(T), the cells of the zero value known. -/
theorem walk_alloc {ops : Array Oper} {rest : List Oper} {o : Oper} {a : Act} {Q : Exit → Act → World → Prop} {w : World} (hg : o.guard = none) {e : TypeId} (hop : o.op = Op.alloc e) {zs : List Value} (hinfo : (P.info? e).map (fun i => i.zero.map Value.cells) = some (some zs.toArray)) (h : wpList P ops Q rest (a.put o.dst (.pointer (some ⟨w.heap.size, 0, none⟩))) (w.alloc (.cells zs.toArray e))) : wpList P ops Q (o :: rest) a w := by
  refine wpList_plain hg fun K hK => ?_
  obtain ⟨i0, hi, hz⟩ := Option.map_eq_some_iff.1 hinfo
  obtain ⟨z, hz0, hz1⟩ := Option.map_eq_some_iff.1 hz
  have hr : (Instr.alloc e true (.tuple #[])).run P w = .ok (.pointer (some ⟨w.heap.size, 0, none⟩)) (w.alloc (.cells zs.toArray e)) := by
    rw [← hz1]
    simp [Instr.alloc, zeroValue, typeInfo, hi, hz0, newVar, newRow]
  unfold Oper.wp execOp
  simp only [hop, hr, Sem.run_bind, Sem.run_pure, Result.andThen_ok]
  exact hK _ _ h
/-- Some cells of a block, read whole. -/
theorem run_loadVar_at (w : World) (g o : Nat) (ty : TypeId) (cs : List Value) (d : TypeDesc) (hc : ∀ j v, cs[j]? = some v → w.cell? ⟨g, o + j, none⟩ = some v)
    (hu : P.underlying ty = some d) (hd : (match d with | .struct _ | .array _ _ => true | _ => false) = true) (hi : (P.info? ty).map (·.size) = some cs.length) :
    (loadVar ty ⟨g, o, none⟩).run P w = .ok (.agg cs.toArray) w := by
  have hl : (loadCells ⟨g, o, none⟩ cs.length).run P w = .ok cs.toArray w :=
    run_loadCells_list (P := P) w ⟨g, o, none⟩ cs (fun j v hv => by rw [addr_add]; exact hc j v hv)
  cases hq : P.info? ty with
  | none => simp [hq] at hi
  | some i =>
    have hs : i.size = cs.length := by simpa [hq] using hi
    cases d <;> simp at hd <;> simp [loadVar, isAgg, run_underlying hu, sizeOf, typeInfo, hq, hs, hl]
theorem walk_load_at {ops : Array Oper} {rest : List Oper} {o : Oper} {a : Act} {w : World} {Q : Exit → Act → World → Prop} (hgd : o.guard = none) (ty : TypeId) (x : Operand) (ho : o.op = .load ty x)
    {g off : Nat} {cs : List Value} (hc : ∀ j v, cs[j]? = some v → w.cell? ⟨g, off + j, none⟩ = some v) (hx : a.eval x = .pointer (some ⟨g, off, none⟩)) {d : TypeDesc} (hu : P.underlying ty = some d) (hd : (match d with | .struct _ | .array _ _ => true | _ => false) = true) (hi : (P.info? ty).map (·.size) = some cs.length)
    (h : wpList P ops Q rest (a.put o.dst (.agg cs.toArray)) w) : wpList P ops Q (o :: rest) a w := by
  refine wpList_plain hgd fun K hK => ?_
  unfold Oper.wp execOp
  simp only [ho, hx, Instr.loadAt, Instr.sureAddr, Sem.run_bind, Sem.run_pure, Result.andThen_ok, run_loadVar_at w g off ty cs d hc hu hd hi]
  exact hK _ _ h
/-- copy from a text onto a block that is known whole. -/
theorem run_copy_text {w : World} {dT sT ty elem : Nat} (hu : P.underlying dT = some (.slice elem)) (hsz : (P.info? elem).map (·.size) = some 1) {L : List Value} {M : List Int} {s : ByteArray} {g t off dLen dCap : Nat}
    (HR : Row w g t L) (hs : s.data.toList.map (fun b => (b.toNat : Int)) = M) (hd : s.size = dLen) (hfit : off + dLen ≤ L.length) :
    ∃ w1, (Builtin.copy_ #[dT, sT] ty #[.slice (some ⟨g, off, none⟩) dLen dCap, .string s]).run P w = .ok (goInt (s.size : Int)) w1 ∧ Row w1 g t (L.take off ++ nums .u8 M ++ L.drop (off + dLen)) ∧ w.grownBy w1 (some g) ∧ w1.heap.size = w.heap.size := by
  subst hd
  have hlen : (nums .u8 M).length = s.size := by rw [nums_len, ← hs, List.length_map]; rfl
  have hst := run_storeCells_at (P := P) g off t (nums .u8 M) 0 L.toArray w HR (by rw [hlen]; simpa using hfit) (nums_one _ _)
  rw [hlen] at hst
  simp only [Nat.add_zero] at hst
  have htk : List.take s.size (List.map (fun b : UInt8 => Value.int IntKind.u8 (b.toNat : Int)) s.data.toList) = nums .u8 M := by
    rw [List.take_of_length_le (by rw [List.length_map]; exact Nat.le_refl _), ← hs, nums, List.map_map]; rfl
  obtain ⟨i0, hi, hz⟩ := Option.map_eq_some_iff.1 hsz
  refine ⟨w.setRow g (L.take off ++ nums .u8 M ++ L.drop (off + s.size)).toArray, ?_, setRow_heap w g _ _ t _ HR, ⟨rfl, rfl, rfl, by simp, fun i hi hne => setRow_other w g i _ (fun e => hne (by rw [e]))⟩, by simp⟩
  simp [Builtin.copy_, run_underlying hu, Builtin.lenOf, Builtin.firstCells, sizeOf, typeInfo, hi]
  rw [htk, hst]
  simp [Result.andThen]
theorem walk_copy_text {ops : Array Oper} {rest : List Oper} {o : Oper} {a : Act} {w : World} {Q : Exit → Act → World → Prop} (hgd : o.guard = none) (d s : Operand) {dT sT elem : Nat}
    (ho : o.op = .call { callee := .builtin .copy, args := #[d, s], argTypes := #[dT, sT] }) (hu : P.underlying dT = some (.slice elem)) (hsz : (P.info? elem).map (·.size) = some 1) {L : List Value} {M : List Int} {x : ByteArray} {g t off dLen dCap : Nat}
    (hd : a.eval d = .slice (some ⟨g, off, none⟩) dLen dCap) (hs : a.eval s = .string x) (HR : Row w g t L) (hM : x.data.toList.map (fun b => (b.toNat : Int)) = M) (hx : x.size = dLen) (hfit : off + dLen ≤ L.length)
    (h : ∀ w1, Row w1 g t (L.take off ++ nums .u8 M ++ L.drop (off + dLen)) → w.grownBy w1 (some g) → w1.heap.size = w.heap.size → wpList P ops Q rest (a.put o.dst (goInt (x.size : Int))) w1) : wpList P ops Q (o :: rest) a w := by
  obtain ⟨w1, hrun, h1, h2, h3⟩ := run_copy_text (P := P) (sT := sT) (ty := o.type) (dCap := dCap) hu hsz HR hM hx hfit
  refine wpList_plain hgd fun K hK => ?_
  unfold Oper.wp execOp
  simp only [ho, resolve, invoke, builtin, Sem.run_bind, Sem.run_pure, Result.andThen_ok, List.map_toArray, List.map_cons, List.map_nil, hd, hs, hrun]
  exact hK _ _ (h w1 h1 h2 h3)
end
theorem size_u8' : (Tryd.prog.info? 5).map (·.size) = some 1 := by kernel_rfl
theorem info_enc : (Tryd.prog.info? 86).map (fun i => i.zero.map Value.cells) = some (some (encCells (List.replicate 64 0) (List.replicate 256 0) 0).toArray) := by kernel_rfl
end Go.Proofs.YtmibnnmampfalaaDoor
