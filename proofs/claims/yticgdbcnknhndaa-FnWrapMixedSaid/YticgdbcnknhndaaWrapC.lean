/- The block cipher of a seed, as the key wrap's plain law wants it: two words to two words, and back. -/
import Derived.Test.YticgdbcnknhndaaWrapG
namespace Go.Proofs.Yticgdbcnknhndaa
open Go.RowKit
open WrapPlain (xr xr8 num8 b8 rnd dnr mixW unmixW IsW W8 Is64)
set_option linter.unusedVariables false
set_option linter.unusedSimpArgs false

theorem sh8_add (n c : Int) (hn : 0 ≤ n ∧ n < 72057594037927936) (hc : 0 ≤ c ∧ c < 256) : sh8 n c = n * 256 + c := by
  obtain ⟨a, rfl⟩ := Int.eq_ofNat_of_zero_le hn.1
  obtain ⟨b, rfl⟩ := Int.eq_ofNat_of_zero_le hc.1
  have ha : a < 72057594037927936 := by omega
  have hb : b < 256 := by omega
  show IntKind.u64.wrap ((BitVec.ofInt 64 (IntKind.u64.wrap ((a : Int) * 256)) ||| BitVec.ofInt 64 (b : Int)).toNat : Int) = _
  rw [WrapPlain.wrap_u64, WrapPlain.wrap_u64, show (a : Int) * 256 % 18446744073709551616 = ((a * 256 : Nat) : Int) by omega, BitVec.ofInt_natCast, BitVec.ofInt_natCast, BitVec.toNat_or, BitVec.toNat_ofNat, BitVec.toNat_ofNat,
    Nat.mod_eq_of_lt (by omega : a * 256 < 2 ^ 64), Nat.mod_eq_of_lt (by omega : b < 2 ^ 64)]
  have h := Nat.shiftLeft_add_eq_or_of_lt (i := 8) (b := b) (by omega) a
  rw [Nat.shiftLeft_eq] at h
  rw [show a * 256 = a * 2 ^ 8 from rfl, ← h]
  omega
theorem numG_num8 (l : List Int) (hl : l.length = 8) (hb : IsB l) : numG l = num8 l := by
  match l, hl with
  | [a, b, c, d, e, f, g, i], _ =>
    simp only [IsB, List.mem_cons, List.not_mem_nil, or_false, forall_eq_or_imp, forall_eq] at hb
    obtain ⟨ha, hb, hc, hd, he, hf, hg, hi⟩ := hb
    simp only [numG, num8, List.foldl_cons, List.foldl_nil]
    rw [sh8_add 0 a (by omega) ha, sh8_add _ b (by omega) hb, sh8_add _ c (by omega) hc, sh8_add _ d (by omega) hd, sh8_add _ e (by omega) he, sh8_add _ f (by omega) hf, sh8_add _ g (by omega) hg, sh8_add _ i (by omega) hi]
def sd (seed : Int) (k : Int) : Int := IntKind.u64.wrap (seed + k)
theorem mixAt4 (seed : Int) (p : Int × Int) : mixAt seed 4 p = mixW half (sd seed) p := rfl
theorem mixL_eq (seed : Int) (a x : List Int) (ha : IsW a) (hx : IsW x) : mixL seed (a ++ x) = b8 (mixW half (sd seed) (num8 a, num8 x)).1 ++ b8 (mixW half (sd seed) (num8 a, num8 x)).2 := by
  have e1 : (a ++ x).take 8 = a := by rw [← ha.1]; simp
  have e2 : (a ++ x).drop 8 = x := by rw [← ha.1]; simp
  unfold mixL
  rw [e1, e2, numG_num8 a ha.1 ha.2, numG_num8 x hx.1 hx.2]; rfl
theorem unmixL_eq (seed : Int) (a x : List Int) (ha : IsW a) (hx : IsW x) : unmixL seed (a ++ x) = b8 (unmixW half (sd seed) (num8 a, num8 x)).1 ++ b8 (unmixW half (sd seed) (num8 a, num8 x)).2 := by
  have e1 : (a ++ x).take 8 = a := by rw [← ha.1]; simp
  have e2 : (a ++ x).drop 8 = x := by rw [← ha.1]; simp
  unfold unmixL
  rw [e1, e2, numG_num8 a ha.1 ha.2, numG_num8 x hx.1 hx.2]; rfl
/-- The cipher of a seed. -/
def mixC (seed : Int) : WrapPlain.Cipher where
  E a x := (b8 (mixW half (sd seed) (num8 a, num8 x)).1, b8 (mixW half (sd seed) (num8 a, num8 x)).2)
  D a x := (b8 (unmixW half (sd seed) (num8 a, num8 x)).1, b8 (unmixW half (sd seed) (num8 a, num8 x)).2)
  E_ok a x _ _ := ⟨WrapPlain.b8_isW _, WrapPlain.b8_isW _⟩
  D_ok a x _ _ := ⟨WrapPlain.b8_isW _, WrapPlain.b8_isW _⟩
  DE a x ha hx := by
    have hk : WrapPlain.Ok2 (num8 a, num8 x) := ⟨WrapPlain.num8_is64 _ ha.2 ha.1, WrapPlain.num8_is64 _ hx.2 hx.1⟩
    have h1 := WrapPlain.mixW_ok half (sd seed) _ hk
    simp only
    rw [WrapPlain.num8_b8 _ h1.1, WrapPlain.num8_b8 _ h1.2, WrapPlain.unmix_mix half (sd seed) _ hk, WrapPlain.b8_num8 _ ha.2 ha.1, WrapPlain.b8_num8 _ hx.2 hx.1]
  ED a x ha hx := by
    have hk : WrapPlain.Ok2 (num8 a, num8 x) := ⟨WrapPlain.num8_is64 _ ha.2 ha.1, WrapPlain.num8_is64 _ hx.2 hx.1⟩
    have h1 := WrapPlain.unmixW_ok half (sd seed) _ hk
    simp only
    rw [WrapPlain.num8_b8 _ h1.1, WrapPlain.num8_b8 _ h1.2, WrapPlain.mix_unmix half (sd seed) _ hk, WrapPlain.b8_num8 _ ha.2 ha.1, WrapPlain.b8_num8 _ hx.2 hx.1]
theorem mixL_E (seed : Int) (a x : List Int) (ha : IsW a) (hx : IsW x) : mixL seed (a ++ x) = ((mixC seed).E a x).1 ++ ((mixC seed).E a x).2 := mixL_eq seed a x ha hx
theorem unmixL_D (seed : Int) (a x : List Int) (ha : IsW a) (hx : IsW x) : unmixL seed (a ++ x) = ((mixC seed).D a x).1 ++ ((mixC seed).D a x).2 := unmixL_eq seed a x ha hx
theorem unmixAt4 (seed : Int) (p : Int × Int) : unmixAt seed 4 p = unmixW half (sd seed) p := rfl
end Go.Proofs.Yticgdbcnknhndaa
