/- The parts of a compact form, as calls that hand back texts of their own. -/
import Derived.Test.YtmibnnmampfalaaDoorJoinB
import Derived.Test.YtmibnnmampfalaaDoorSplit2
import Derived.Test.YtmibnnmampfalaaDoorAgain
namespace Go.Proofs.YtmibnnmampfalaaDoor
open Go.RowKit
set_option linter.unusedVariables false
set_option linter.unusedSimpArgs false

theorem HeadB.of {w w' : World} {e : Ending} {l : List Int} {n : Nat} (h : NewB w l e w') (hb : IsB l) (hn : l.length = n) : HeadB w n l e w' := by
  obtain ⟨v, rfl, hO, hB⟩ := h
  obtain ⟨A, c, rfl, ha⟩ := own_arg hO hb
  subst hn
  exact ⟨hB, A, c, rfl, ha⟩
theorem ownB_calls (W : World) (A : Option Addr) (n c : Nat) (l : List Int) (h : ArgB W A n c l) (hn : n ≤ 1000000) : Calls Tryd.prog 10 #[.slice A n c] W (HeadB W n l) :=
  (partOwn_calls A n c l W h.rd h.len (by omega)).mono fun e w' k => HeadB.of k h.isB h.len
theorem signB_calls (W : World) (A : Option Addr) (n c : Nat) (hd : List Int) (B : Option Addr) (m d : Nat) (pl : List Int) (enc : Bool) (S : List Int) (q : Nat) (hS : S = signF enc hd pl) (hq : S.length = q) (h1 : ArgB W A n c hd) (n1 : n ≤ 20000) (h2 : ArgB W B m d pl) (n2 : m ≤ 20000) :
    Calls Tryd.prog 16 #[.slice none 0 0, .slice A n c, .slice B m d, .bool enc] W (HeadB W q S) :=
  (signing_calls W none 0 0 [] A n c hd B m d pl enc (ArgB.nilB W) (by omega) h1 n1 h2 n2).mono fun e w' k => HeadB.of (by rw [hS]; exact k) (by rw [hS]; exact signF_isB h1.isB h2.isB) hq
theorem psignB_calls (W : World) (A : Option Addr) (n c : Nat) (hd : List Int) (B : Option Addr) (m d : Nat) (pl : List Int) (enc : Bool) (S : List Int) (q : Nat) (hS : S = signF enc hd pl) (hq : S.length = q) (h1 : ArgB W A n c hd) (n1 : n ≤ 20000) (h2 : ArgB W B m d pl) (n2 : m ≤ 20000) :
    Calls Tryd.prog 8 #[.slice A n c, .slice B m d, .bool enc] W (HeadB W q S) :=
  (partSigning_calls W A n c hd B m d pl enc h1 n1 h2 n2).mono fun e w' ⟨v, he, hO⟩ => HeadB.of ⟨v, he, by rw [hS]; exact hO.own, hO.below⟩ (by rw [hS]; exact signF_isB h1.isB h2.isB) hq
/-- A text of one's own, and true. -/
structure HeadT (w : World) (n : Nat) (l : List Int) (e : Ending) (w' : World) : Prop where
  below : Below w.heap.size w w'
  res : ∃ A c, e = .returned (.tuple #[.slice A n c, .bool true]) ∧ ArgB w' A n c l
theorem joinB_calls (W : World) (A : Option Addr) (n c : Nat) (hd : List Int) (C : Option Addr) (q f : Nat) (sg J : List Int) (p : Nat) (hJ : J = joinF true hd [] sg) (hp : J.length = p) (h1 : ArgB W A n c hd) (n1 : n ≤ 20000) (h3 : ArgB W C q f sg) (n3 : q ≤ 20000) :
    Calls Tryd.prog 17 #[.slice none 0 0, .slice A n c, .slice none 0 0, .slice C q f, .bool true] W (HeadT W p J) :=
  (joined_calls W none 0 0 [] A n c hd none 0 0 [] C q f sg true (ArgB.nilB W) (by omega) h1 n1 (ArgB.nilB W) (by omega) h3 n3).mono fun e w' ⟨v, he, hO, hB⟩ => by
    rw [← hJ] at hO
    obtain ⟨A', c', rfl, ha⟩ := own_arg hO (by rw [hJ]; exact joinF_isB h1.isB (by intro x hx; simp at hx) h3.isB)
    subst hp
    exact ⟨hB, A', c', he, ha⟩
theorem decodeB_back (W : World) (A : Option Addr) (n c : Nat) (p : List Int) (l : List Int) (k : Nat) (hb : IsB l) (hk : l.length = k) (hp : p = encF (alpha true) l) (h : ArgB W A n c p) (hn : n ≤ 100000) :
    Calls Tryd.prog 18 #[.slice A n c] W (HeadT W k l) :=
  (decoded_calls A n c p W h.rd h.len h.cap h.nil h.isB hn).mono fun e w' hx => by
    rw [hp] at hx
    obtain ⟨v, rfl, hO⟩ := (hx.back hb).res
    obtain ⟨A', c', rfl, ha⟩ := own_arg hO hb
    subst hk
    exact ⟨(hx.back hb).below, A', c', rfl, ha⟩
theorem sameB_calls (W : World) (A B : Option Addr) (n c n' c' : Nat) (l l' : List Int) (h : ArgB W A n c l) (h' : ArgB W B n' c' l') (r : Bool) (hr : r = decide (l = l')) :
    Calls Tryd.prog 11 #[.slice A n c, .slice B n' c'] W fun e w' => e = .returned (.bool r) ∧ W = w' := by
  rw [hr]; exact partSame_calls A B n c n' c' l l' W h.rd h.len h'.rd h'.len h.isB h'.isB
/-- What Split tells: three texts, and true. -/
structure HeadS (w : World) (n1 n2 n3 : Nat) (p q s : List Int) (e : Ending) (w' : World) : Prop where
  below : Below w.heap.size w w'
  res : ∃ X x Y y Z z, e = .returned (.tuple #[.slice X n1 x, .slice Y n2 y, .slice Z n3 z, .bool true]) ∧ ArgB w' X n1 x p ∧ ArgB w' Y n2 y q ∧ ArgB w' Z n3 z s
theorem splitB_calls (W : World) (A : Option Addr) (n c : Nat) (J p q s : List Int) (n1 n2 n3 : Nat) (h1 : p.length = n1) (h2 : q.length = n2) (h3 : s.length = n3) (hJ : J = p ++ 46 :: (q ++ 46 :: s)) (hp : (46 : Int) ∉ p) (hq : (46 : Int) ∉ q) (hs : (46 : Int) ∉ s) (h : ArgB W A n c J) (hn : n ≤ 1000000) :
    Calls Tryd.prog 9 #[.slice A n c] W (HeadS W n1 n2 n3 p q s) := by
  subst h1 h2 h3
  rw [hJ] at h
  refine (split_yes A n c p q s W h hp hq hs hn).mono ?_
  rintro e w' ⟨X, x, Y, y, Z, z, rfl, hx, hy, hz, hB⟩
  exact ⟨hB, X, x, Y, y, Z, z, rfl, hx, hy, hz⟩
theorem joinF_parts (enc : Bool) (hd pl sg : List Int) : joinF enc hd pl sg = encF (alpha true) hd ++ 46 :: (tailF enc pl ++ 46 :: encF (alpha true) sg) := by
  simp [joinF, signF]
end Go.Proofs.YtmibnnmampfalaaDoor
