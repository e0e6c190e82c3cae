/- Texts that may stand as they are: the walks of FnPartSafeJoined and FnPartSafe. -/
import Derived.Test.YtmibnnmampfalaaDoorPart0
namespace Go.Proofs.YtmibnnmampfalaaDoor
open Go.RowKit
set_option linter.unusedVariables false
set_option linter.unusedSimpArgs false

def okN (n : Nat) : Bool := decide (32 ≤ n) && decide (n < 127) && !(n == 34) && !(n == 92)
def safeL (l : List UInt8) : Bool := l.all fun b => okN b.toNat
def safeS (s : ByteArray) : Bool := safeL s.data.toList
theorem safeS_app (a b : ByteArray) : safeS (a ++ b) = (safeS a && safeS b) := by
  unfold safeS safeL
  rw [ByteArray.data_append, Array.toList_append, List.all_append]
theorem safe_take {s : ByteArray} {k : Nat} (hk : k < s.size) : safeL (s.data.toList.take (k + 1)) = (safeL (s.data.toList.take k) && okN (s[k]'hk).toNat) := by
  have hk2 : k < s.data.toList.length := hk
  unfold safeL
  rw [List.take_succ_eq_append_getElem hk2, List.all_append]
  simp
  rfl
theorem safe_all (s : ByteArray) : safeL (s.data.toList.take s.size) = safeS s := by
  have : s.data.toList.length = s.size := rfl
  rw [safeS, ← this, List.take_length]
theorem safe_false {s : ByteArray} {k : Nat} (h : k ≤ s.size) (hf : safeL (s.data.toList.take k) = false) : safeS s = false := by
  rw [Bool.eq_false_iff] at hf ⊢
  intro hs
  apply hf
  unfold safeS safeL at *
  rw [List.all_eq_true] at *
  exact fun x hx => hs x (List.mem_of_mem_take hx)
end Go.Proofs.YtmibnnmampfalaaDoor
