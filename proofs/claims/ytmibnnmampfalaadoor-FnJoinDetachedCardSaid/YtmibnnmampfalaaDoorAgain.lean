/- The walk of FnPartAgain. -/
import Derived.Test.YtmibnnmampfalaaDoorLetters
namespace Go.Proofs.YtmibnnmampfalaaDoor
open Go.RowKit
set_option linter.unusedVariables false
set_option linter.unusedSimpArgs false

/-- What is written is taken for what it is. -/
theorem guess_enc {l : List Int} (hb : IsB l) : stdIn (encF (alpha true) l) = false ∧ padded? (encF (alpha true) l) = false := by
  constructor
  · rw [Bool.eq_false_iff]
    intro h
    obtain ⟨x, hx, hx2⟩ := List.any_eq_true.1 h
    have := encF_url hb hx
    unfold isUrl at this
    simp at hx2
    omega
  · unfold padded?
    by_cases h0 : 0 < (encF (alpha true) l).length
    · have := encF_url hb (gi_mem (l := encF (alpha true) l) (i := (encF (alpha true) l).length - 1) (by omega))
      rw [decide_eq_true h0, Bool.true_and, beq_eq_false_iff_ne]
      unfold isUrl at this
      omega
    · rw [decide_eq_false h0]; rfl
theorem decOf_enc {l : List Int} (hb : IsB l) : decOf (encF (alpha true) l) = some l := by
  unfold decOf padOf
  rw [(guess_enc hb).1, (guess_enc hb).2]
  exact decA_encF true l hb
theorem decOf_len {l out : List Int} (h : decOf l = some out) : out.length ≤ l.length := by
  have := (decA_some _ _ l [] out (by simp) h).2.1
  simpa using this
/-- What is read of letters that were written. -/
structure ImpBack (w : World) (l : List Int) (e : Ending) (w' : World) : Prop where
  below : Below w.heap.size w w'
  res : ∃ v, e = .returned (.tuple #[v, .bool true]) ∧ Own w' w.heap.size 5 v (nums .u8 l)
theorem ImpPost.back {w w' : World} {l : List Int} {e : Ending} (hb : IsB l) (h : ImpPost w (encF (alpha true) l) e w') : ImpBack w l e w' := by
  refine ⟨h.below, ?_⟩
  rcases h.res with ⟨v, out, h1, h2, h3, h4⟩ | ⟨h1, h2⟩
  · rw [decOf_enc hb] at h2; cases h2
    exact ⟨v, h1, h3⟩
  · rw [decOf_enc hb] at h2; cases h2
end Go.Proofs.YtmibnnmampfalaaDoor
