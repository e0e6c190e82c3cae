/- (*spec.headStyle).text: the walk. -/
import Derived.Test.YtbdmdajbdmdknaaDoorM2
import Derived.WalkSpells
import Derived.Deep.Cut
import Derived.Lib.TrimU
import Derived.Laws.Cover4
namespace Go.Proofs.YtbdmdajbdmdknaaDoor
open Go.RowKit
set_option linter.unusedVariables false
set_option linter.unusedSimpArgs false

/-- The characters of a text from a place on. -/
def runesOf (s : ByteArray) : Nat → Nat → List Nat
  | 0, _ => []
  | f + 1, pos => if pos < s.size then (Utf8.decode s pos).1 :: runesOf s f (pos + (Utf8.decode s pos).2) else []
/-- What a style writes of characters, and its state behind them. -/
def textS : Int → List Nat → Bs × Int
  | st, [] => ([], st)
  | st, c :: l => ((runeS st c).1 ++ (textS (runeS st c).2 l).1, (textS (runeS st c).2 l).2)
theorem runesOf_end (s : ByteArray) (fuel pos : Nat) (h : ¬ pos < s.size) : runesOf s fuel pos = [] := by
  cases fuel with
  | zero => rfl
  | succ f => simp [runesOf, h]
theorem shortB_len (c : Int) : (shortB c).length ≤ 2 := by unfold shortB; (repeat' split) <;> simp
theorem hexR_len (c : Nat) : (hexR c).length ≤ 12 := by unfold hexR; split <;> simp [hexU_len]
theorem escS_len (st : Int) (c : Nat) : (escS st c).1.length ≤ 12 := by
  have h1 := shortB_len c
  have h2 := hexR_len c
  unfold escS
  (repeat' split) <;> (try dsimp only) <;> omega
theorem enc_len (c : Int) : (encR c).length ≤ 4 := encode_size_le c
theorem runeS_len (st : Int) (c : Nat) : (runeS st c).1.length ≤ 12 := by
  have h1 := escS_len st c
  have h2 := escS_len (lcg st) c
  have h3 := enc_len c
  unfold runeS
  (repeat' split) <;> (try dsimp only) <;> omega
theorem width_pos (s : ByteArray) (pos : Nat) (h : pos < s.size) : 1 ≤ (Utf8.decode s pos).2 := by
  by_cases ha : (s[pos]'h).toNat < 128
  · rw [decode_ascii s pos h ha]
    exact Nat.le_refl _
  · exact (decode_high s pos h (by omega)).2
/-- What is known at the loop's head. -/
structure TxAt (w wr : World) (g : Nat) (st0 : Int) (s : ByteArray) (pos fuel : Nat) (st : Int) (o : Bs) : Prop where
  sty : StyAt wr g st
  it : wr.heap[w.heap.size]? = some (.stringIter s pos)
  gr : w.grownBy wr (some g)
  len : o.length + 12 * (s.size - pos) ≤ 12 * s.size + 1
  enough : s.size ≤ pos + fuel
  txt : o ++ (textS st (runesOf s fuel pos)).1 = 34 :: (textS st0 (runesOf s s.size 0)).1
  fin : (textS st (runesOf s fuel pos)).2 = (textS st0 (runesOf s s.size 0)).2
theorem TxAt.step {w wr W : World} {g : Nat} {st0 : Int} {s : ByteArray} {pos fuel : Nat} {st : Int} {o : Bs} (h : TxAt w wr g st0 s pos fuel st o) (hg : g < w.heap.size) (hp : pos < s.size) (hS : StyAt W g (runeS st (Utf8.decode s pos).1).2) (hG : (wr.iterAt w.heap.size s (pos + (Utf8.decode s pos).2)).grownBy W (some g)) :
    TxAt w W g st0 s (pos + (Utf8.decode s pos).2) (fuel - 1) (runeS st (Utf8.decode s pos).1).2 (o ++ (runeS st (Utf8.decode s pos).1).1) := by
  have hw := width_pos s pos hp
  have hl := runeS_len st (Utf8.decode s pos).1
  have hb := Lib.below_iterAt (Below.refl w.heap.size wr) (k := w.heap.size) (Nat.le_refl _) s (pos + (Utf8.decode s pos).2)
  have hsz : wr.heap.size = (wr.iterAt w.heap.size s (pos + (Utf8.decode s pos).2)).heap.size := (Lib.iterAt_size ..).symm
  have hk : w.heap.size < wr.heap.size := (Array.getElem?_eq_some_iff.1 h.it).1
  obtain ⟨f, hf⟩ : ∃ f, fuel = f + 1 := ⟨fuel - 1, by have := h.enough; omega⟩
  have ht := h.txt
  have hfin := h.fin
  rw [hf] at ht hfin ⊢
  simp only [runesOf, hp, if_true, textS] at ht hfin
  refine ⟨hS, ?_, ?_, ?_, ?_, ?_, ?_⟩
  · rw [hG.block w.heap.size (by omega) (fun e => by have := Option.some.inj e; omega)]
    exact Lib.iterAt_heap wr w.heap.size s pos _ h.it
  · exact ⟨hG.os.trans (hb.os.trans h.gr.os), hG.tape.trans (hb.tape.trans h.gr.tape), hG.output.trans (hb.output.trans h.gr.output), by have := h.gr.size; have := hG.size; omega, fun k hk2 hne => (hG.block k (by have := h.gr.size; omega) hne).trans ((hb.block k hk2).trans (h.gr.block k hk2 hne))⟩
  · rw [List.length_append]; have := h.len; omega
  · have := h.enough; omega
  · rw [List.append_assoc]; exact ht
  · exact hfin
end Go.Proofs.YtbdmdajbdmdknaaDoor
