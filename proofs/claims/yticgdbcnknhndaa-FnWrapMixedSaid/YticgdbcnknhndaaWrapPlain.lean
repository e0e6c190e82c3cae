import Derived.Laws.Entries
namespace Go.Proofs.Yticgdbcnknhndaa.WrapPlain

/-! Numbers of 64 bits and their eight bytes. -/
def num8 (l : List Int) : Int := l.foldl (fun n c => n * 256 + c) 0
def b8 (n : Int) : List Int :=
  [n / 72057594037927936 % 256, n / 281474976710656 % 256, n / 1099511627776 % 256, n / 4294967296 % 256,
   n / 16777216 % 256, n / 65536 % 256, n / 256 % 256, n % 256]
def IsB (l : List Int) : Prop := ∀ x ∈ l, 0 ≤ x ∧ x < 256
def Is64 (n : Int) : Prop := 0 ≤ n ∧ n < 18446744073709551616

theorem num8_b8 (n : Int) (h : Is64 n) : num8 (b8 n) = n := by
  unfold Is64 at h; simp only [num8, b8, List.foldl_cons, List.foldl_nil]; omega
theorem b8_len (n : Int) : (b8 n).length = 8 := rfl
theorem b8_isB (n : Int) : IsB (b8 n) := by
  intro x hx; simp only [b8, List.mem_cons, List.not_mem_nil, or_false] at hx
  rcases hx with rfl | rfl | rfl | rfl | rfl | rfl | rfl | rfl <;> omega
theorem num8_is64 (l : List Int) (h : IsB l) (hl : l.length = 8) : Is64 (num8 l) := by
  match l, hl with
  | [a, b, c, d, e, f, g, i], _ =>
    simp only [IsB, List.mem_cons, List.not_mem_nil, or_false, forall_eq_or_imp, forall_eq] at h
    simp only [Is64, num8, List.foldl_cons, List.foldl_nil]; omega
theorem b8_num8 (l : List Int) (h : IsB l) (hl : l.length = 8) : b8 (num8 l) = l := by
  match l, hl with
  | [a, b, c, d, e, f, g, i], _ =>
    simp only [IsB, List.mem_cons, List.not_mem_nil, or_false, forall_eq_or_imp, forall_eq] at h
    obtain ⟨ha, hb, hc, hd, he, hf, hg, hi⟩ := h
    simp only [b8, num8, List.foldl_cons, List.foldl_nil, List.cons.injEq, and_true]
    refine ⟨?_, ?_, ?_, ?_, ?_, ?_, ?_, ?_⟩ <;> omega

/-! xor -/
theorem wrap_u64 (n : Int) : IntKind.u64.wrap n = n % 18446744073709551616 := by simp [IntKind.wrap, IntKind.bits, IntKind.signed]
theorem wrap_u8 (n : Int) : IntKind.u8.wrap n = n % 256 := by simp [IntKind.wrap, IntKind.bits, IntKind.signed]
def xr (x y : Int) : Int := bits .xor .u64 x y
def xr8 (x y : Int) : Int := bits .xor .u8 x y
theorem xr_eq (x y : Int) : xr x y = ((BitVec.ofInt 64 x ^^^ BitVec.ofInt 64 y).toNat : Int) := by
  have h := (BitVec.ofInt 64 x ^^^ BitVec.ofInt 64 y).isLt
  show IntKind.u64.wrap ((BitVec.ofInt 64 x ^^^ BitVec.ofInt 64 y).toNat : Int) = _
  rw [wrap_u64]; omega
theorem xr8_eq (x y : Int) : xr8 x y = ((BitVec.ofInt 8 x ^^^ BitVec.ofInt 8 y).toNat : Int) := by
  have h := (BitVec.ofInt 8 x ^^^ BitVec.ofInt 8 y).isLt
  show IntKind.u8.wrap ((BitVec.ofInt 8 x ^^^ BitVec.ofInt 8 y).toNat : Int) = _
  rw [wrap_u8]; omega
theorem xr_is64 (x y : Int) : Is64 (xr x y) := by
  have h := (BitVec.ofInt 64 x ^^^ BitVec.ofInt 64 y).isLt
  rw [xr_eq]; unfold Is64; omega
theorem xr8_is (x y : Int) : 0 ≤ xr8 x y ∧ xr8 x y < 256 := by
  have h := (BitVec.ofInt 8 x ^^^ BitVec.ofInt 8 y).isLt
  rw [xr8_eq]; omega
theorem ofInt_toNat {n : Nat} (v : BitVec n) : BitVec.ofInt n (v.toNat : Int) = v := by
  rw [BitVec.ofInt_natCast]; simp
theorem xr_back (x y : Int) (h : Is64 x) : xr (xr x y) y = x := by
  rw [xr_eq x y, xr_eq, ofInt_toNat, BitVec.xor_assoc, BitVec.xor_self, BitVec.xor_zero]
  unfold Is64 at h
  rw [BitVec.toNat_ofInt]
  omega
theorem xr8_back (x y : Int) (h : 0 ≤ x ∧ x < 256) : xr8 (xr8 x y) y = x := by
  rw [xr8_eq x y, xr8_eq, ofInt_toNat, BitVec.xor_assoc, BitVec.xor_self, BitVec.xor_zero]
  rw [BitVec.toNat_ofInt]
  omega

/-! The block cipher: four rounds, and back. 'half' is any function into 64 bits. -/
section
variable (half : Int → Int → Int)
def rnd (k : Int) (p : Int × Int) : Int × Int := (p.2, xr p.1 (half p.2 k))
def dnr (k : Int) (p : Int × Int) : Int × Int := (xr p.2 (half p.1 k), p.1)
theorem dnr_rnd (k : Int) (p : Int × Int) (h : Is64 p.1) : dnr half k (rnd half k p) = p := by
  simp [dnr, rnd, xr_back _ _ h]
theorem rnd_dnr (k : Int) (p : Int × Int) (h : Is64 p.2) : rnd half k (dnr half k p) = p := by
  simp [dnr, rnd, xr_back _ _ h]
def mixW (s : Int → Int) (p : Int × Int) : Int × Int := rnd half (s 4) (rnd half (s 3) (rnd half (s 2) (rnd half (s 1) p)))
def unmixW (s : Int → Int) (p : Int × Int) : Int × Int := dnr half (s 1) (dnr half (s 2) (dnr half (s 3) (dnr half (s 4) p)))
def Ok2 (p : Int × Int) : Prop := Is64 p.1 ∧ Is64 p.2
theorem rnd_ok (k : Int) (p : Int × Int) (h : Ok2 p) : Ok2 (rnd half k p) := ⟨h.2, xr_is64 _ _⟩
theorem dnr_ok (k : Int) (p : Int × Int) (h : Ok2 p) : Ok2 (dnr half k p) := ⟨xr_is64 _ _, h.1⟩
theorem mixW_ok (s : Int → Int) (p : Int × Int) (h : Ok2 p) : Ok2 (mixW half s p) := rnd_ok _ _ _ (rnd_ok _ _ _ (rnd_ok _ _ _ (rnd_ok _ _ _ h)))
theorem unmixW_ok (s : Int → Int) (p : Int × Int) (h : Ok2 p) : Ok2 (unmixW half s p) := dnr_ok _ _ _ (dnr_ok _ _ _ (dnr_ok _ _ _ (dnr_ok _ _ _ h)))
theorem unmix_mix (s : Int → Int) (p : Int × Int) (h : Ok2 p) : unmixW half s (mixW half s p) = p := by
  have h1 := rnd_ok half (s 1) p h
  have h2 := rnd_ok half (s 2) _ h1
  have h3 := rnd_ok half (s 3) _ h2
  unfold unmixW mixW
  rw [dnr_rnd _ _ _ h3.1, dnr_rnd _ _ _ h2.1, dnr_rnd _ _ _ h1.1, dnr_rnd _ _ _ h.1]
theorem mix_unmix (s : Int → Int) (p : Int × Int) (h : Ok2 p) : mixW half s (unmixW half s p) = p := by
  have h1 := dnr_ok half (s 4) p h
  have h2 := dnr_ok half (s 3) _ h1
  have h3 := dnr_ok half (s 2) _ h2
  unfold unmixW mixW
  rw [rnd_dnr _ _ _ h3.2, rnd_dnr _ _ _ h2.2, rnd_dnr _ _ _ h1.2, rnd_dnr _ _ _ h.2]
end

/-! Key wrap over any block cipher of two words of eight bytes. -/
abbrev W8 := List Int
def IsW (x : W8) : Prop := x.length = 8 ∧ IsB x
def xorB (x y : W8) : W8 := List.zipWith xr8 x y
theorem xorB_isW (x y : W8) (hx : IsW x) (hy : IsW y) : IsW (xorB x y) := by
  refine ⟨by simp [xorB, hx.1, hy.1], ?_⟩
  intro z hz
  obtain ⟨i, hi, rfl⟩ := List.mem_iff_getElem.1 hz
  simp only [xorB, List.getElem_zipWith]
  exact xr8_is _ _
theorem xorB_back (x y : W8) (hx : IsW x) (hy : IsW y) : xorB (xorB x y) y = x := by
  apply List.ext_getElem
  · simp [xorB, hx.1, hy.1]
  · intro i h1 h2
    simp only [xorB, List.getElem_zipWith]
    exact xr8_back _ _ (hx.2 _ (List.getElem_mem h2))

structure Cipher where
  E : W8 → W8 → W8 × W8
  D : W8 → W8 → W8 × W8
  E_ok : ∀ a x, IsW a → IsW x → IsW (E a x).1 ∧ IsW (E a x).2
  D_ok : ∀ a x, IsW a → IsW x → IsW (D a x).1 ∧ IsW (D a x).2
  DE : ∀ a x, IsW a → IsW x → D (E a x).1 (E a x).2 = (a, x)
  ED : ∀ a x, IsW a → IsW x → E (D a x).1 (D a x).2 = (a, x)

abbrev St := W8 × List W8
def OkS (s : St) : Prop := IsW s.1 ∧ ∀ x ∈ s.2, IsW x
variable (c : Cipher)
/-- One step at t (from 0 on) over n words. -/
def up (n t : Nat) (s : St) : St :=
  let p := c.E s.1 (s.2.getD (t % n) [])
  (xorB p.1 (b8 (t + 1 : Nat)), s.2.set (t % n) p.2)
def down (n t : Nat) (s : St) : St :=
  let p := c.D (xorB s.1 (b8 (t + 1 : Nat))) (s.2.getD (t % n) [])
  (p.1, s.2.set (t % n) p.2)
theorem b8_isW (n : Int) : IsW (b8 n) := ⟨b8_len n, b8_isB n⟩
theorem getD_ok {s : St} (h : OkS s) {n t : Nat} (hn : s.2.length = n) (h0 : 0 < n) : IsW (s.2.getD (t % n) []) := by
  have : t % n < s.2.length := by rw [hn]; exact Nat.mod_lt _ h0
  rw [List.getD_eq_getElem?_getD, List.getElem?_eq_getElem this]
  exact h.2 _ (List.getElem_mem this)
theorem set_ok {l : List W8} (h : ∀ x ∈ l, IsW x) (i : Nat) {y : W8} (hy : IsW y) : ∀ x ∈ l.set i y, IsW x := by
  intro x hx
  rcases List.mem_or_eq_of_mem_set hx with hx | rfl
  · exact h x hx
  · exact hy
theorem up_ok {s : St} (h : OkS s) {n : Nat} (t : Nat) (hn : s.2.length = n) (h0 : 0 < n) : OkS (up c n t s) ∧ (up c n t s).2.length = n := by
  have hg := getD_ok h (t := t) hn h0
  have he := c.E_ok _ _ h.1 hg
  exact ⟨⟨xorB_isW _ _ he.1 (b8_isW _), set_ok h.2 _ he.2⟩, by simp [up, hn]⟩
theorem down_ok {s : St} (h : OkS s) {n : Nat} (t : Nat) (hn : s.2.length = n) (h0 : 0 < n) : OkS (down c n t s) ∧ (down c n t s).2.length = n := by
  have hg := getD_ok h (t := t) hn h0
  have he := c.D_ok _ _ (xorB_isW _ _ h.1 (b8_isW ((t + 1 : Nat) : Int))) hg
  exact ⟨⟨he.1, set_ok h.2 _ he.2⟩, by simp [down, hn]⟩
theorem getD_set_self {l : List W8} {i : Nat} (h : i < l.length) (y d : W8) : (l.set i y).getD i d = y := by
  simp [List.getD_eq_getElem?_getD, h]
theorem set_getD_self {l : List W8} {i : Nat} (h : i < l.length) (d : W8) : l.set i (l.getD i d) = l := by
  simp [List.getD_eq_getElem?_getD, h]
theorem down_up {s : St} (h : OkS s) {n : Nat} (t : Nat) (hn : s.2.length = n) (h0 : 0 < n) : down c n t (up c n t s) = s := by
  have hg := getD_ok h (t := t) hn h0
  have he := c.E_ok _ _ h.1 hg
  have hlt : t % n < s.2.length := by rw [hn]; exact Nat.mod_lt _ h0
  simp only [down, up]
  rw [xorB_back _ _ he.1 (b8_isW _), getD_set_self hlt, c.DE _ _ h.1 hg]
  simp only [List.set_set]
  rw [set_getD_self hlt]
theorem up_down {s : St} (h : OkS s) {n : Nat} (t : Nat) (hn : s.2.length = n) (h0 : 0 < n) : up c n t (down c n t s) = s := by
  have hg := getD_ok h (t := t) hn h0
  have hx := xorB_isW _ _ h.1 (b8_isW ((t + 1 : Nat) : Int))
  have hlt : t % n < s.2.length := by rw [hn]; exact Nat.mod_lt _ h0
  simp only [down, up]
  rw [getD_set_self hlt, c.ED _ _ hx hg]
  simp only [List.set_set]
  rw [set_getD_self hlt, xorB_back _ _ h.1 (b8_isW _)]
/-- The first k steps; the steps below k, back. -/
def ups (n : Nat) : Nat → St → St
  | 0, s => s
  | k + 1, s => up c n k (ups n k s)
def downs (n : Nat) : Nat → St → St
  | 0, s => s
  | k + 1, s => downs n k (down c n k s)
theorem ups_ok {n : Nat} (h0 : 0 < n) (k : Nat) {s : St} (h : OkS s) (hn : s.2.length = n) : OkS (ups c n k s) ∧ (ups c n k s).2.length = n := by
  induction k with
  | zero => exact ⟨h, hn⟩
  | succ k ih => exact up_ok c ih.1 k ih.2 h0
theorem downs_ok {n : Nat} (h0 : 0 < n) (k : Nat) : ∀ {s : St}, OkS s → s.2.length = n → OkS (downs c n k s) ∧ (downs c n k s).2.length = n := by
  induction k with
  | zero => exact fun h hn => ⟨h, hn⟩
  | succ k ih => exact fun h hn => have d := down_ok c h k hn h0; ih d.1 d.2
theorem downs_ups {n : Nat} (h0 : 0 < n) (k : Nat) {s : St} (h : OkS s) (hn : s.2.length = n) : downs c n k (ups c n k s) = s := by
  induction k with
  | zero => rfl
  | succ k ih =>
    have hu := ups_ok c h0 k h hn
    show downs c n k (down c n k (up c n k (ups c n k s))) = s
    rw [down_up c hu.1 k hu.2 h0, ih]
theorem ups_downs {n : Nat} (h0 : 0 < n) (k : Nat) : ∀ {s : St}, OkS s → s.2.length = n → ups c n k (downs c n k s) = s := by
  induction k with
  | zero => exact fun _ _ => rfl
  | succ k ih =>
    intro s h hn
    have hd := down_ok c h k hn h0
    show up c n k (ups c n k (downs c n k (down c n k s))) = s
    rw [ih hd.1 hd.2, up_down c h k hn h0]

/-! Bytes and words. -/
def words : Nat → List Int → List W8
  | 0, _ => []
  | n + 1, l => l.take 8 :: words n (l.drop 8)
theorem words_len (n : Nat) (l : List Int) : (words n l).length = n := by
  induction n generalizing l with
  | zero => rfl
  | succ n ih => simp [words, ih]
theorem words_ok (n : Nat) : ∀ (l : List Int), IsB l → l.length = 8 * n → ∀ x ∈ words n l, IsW x := by
  induction n with
  | zero => intro l _ _ x hx; simp [words] at hx
  | succ n ih =>
    intro l hb hl x hx
    rcases List.mem_cons.1 hx with rfl | hx
    · exact ⟨by rw [List.length_take]; omega, fun y hy => hb y (List.mem_of_mem_take hy)⟩
    · exact ih (l.drop 8) (fun y hy => hb y (List.mem_of_mem_drop hy)) (by rw [List.length_drop]; omega) x hx
theorem words_flat (n : Nat) : ∀ (l : List Int), l.length = 8 * n → (words n l).flatten = l := by
  induction n with
  | zero => intro l hl; rw [List.eq_nil_of_length_eq_zero (by omega : l.length = 0)]; rfl
  | succ n ih =>
    intro l hl
    rw [words, List.flatten_cons, ih (l.drop 8) (by rw [List.length_drop]; omega), List.take_append_drop]
theorem flat_words : ∀ (ws : List W8), (∀ x ∈ ws, IsW x) → words ws.length ws.flatten = ws := by
  intro ws
  induction ws with
  | nil => intro _; rfl
  | cons x ws ih =>
    intro h
    have hx := h x List.mem_cons_self
    rw [List.length_cons, words, List.flatten_cons]
    rw [List.take_left' hx.1, List.drop_left' hx.1, ih (fun y hy => h y (List.mem_cons_of_mem _ hy))]
theorem flat_len : ∀ (ws : List W8), (∀ x ∈ ws, IsW x) → ws.flatten.length = 8 * ws.length := by
  intro ws
  induction ws with
  | nil => intro _; rfl
  | cons x ws ih =>
    intro h
    have hx := h x List.mem_cons_self
    rw [List.flatten_cons, List.length_append, hx.1, ih (fun y hy => h y (List.mem_cons_of_mem _ hy)), List.length_cons]; omega
theorem flat_isB (ws : List W8) (h : ∀ x ∈ ws, IsW x) : IsB ws.flatten := by
  intro y hy
  obtain ⟨x, hx, hy⟩ := List.mem_flatten.1 hy
  exact (h x hx).2 y hy
/-- The word at i is what stands from 8 i on. -/
theorem words_get (n : Nat) : ∀ (l : List Int) (i : Nat), i < n → (words n l).getD i [] = (l.drop (8 * i)).take 8 := by
  induction n with
  | zero => intro l i h; omega
  | succ n ih =>
    intro l i h
    cases i with
    | zero => simp [words]
    | succ i => simp only [words, List.getD_cons_succ, ih (l.drop 8) i (by omega), List.drop_drop]; congr 2; omega
def iv : W8 := [166, 166, 166, 166, 166, 166, 166, 166]
theorem iv_isW : IsW iv := ⟨rfl, by intro x hx; simp [iv] at hx; omega⟩
def wrapS (n : Nat) (key : List Int) : St := ups c n (6 * n) (iv, words n key)
def wrapB (n : Nat) (key : List Int) : List Int := (wrapS c n key).1 ++ (wrapS c n key).2.flatten
def openS (n : Nat) (b : List Int) : St := downs c n (6 * n) (b.take 8, words n (b.drop 8))
def openB (n : Nat) (b : List Int) : List Int := (openS c n b).2.flatten
theorem wrapS_ok {n : Nat} (h0 : 0 < n) {key : List Int} (hb : IsB key) (hl : key.length = 8 * n) : OkS (wrapS c n key) ∧ (wrapS c n key).2.length = n :=
  ups_ok c h0 (6 * n) (s := (iv, words n key)) ⟨iv_isW, words_ok n key hb hl⟩ (words_len n key)
theorem wrapB_len {n : Nat} (h0 : 0 < n) {key : List Int} (hb : IsB key) (hl : key.length = 8 * n) : (wrapB c n key).length = 8 * (n + 1) := by
  have h := wrapS_ok c h0 hb hl
  rw [wrapB, List.length_append, h.1.1.1, flat_len _ h.1.2, h.2]; omega
theorem wrapB_isB {n : Nat} (h0 : 0 < n) {key : List Int} (hb : IsB key) (hl : key.length = 8 * n) : IsB (wrapB c n key) := by
  have h := wrapS_ok c h0 hb hl
  intro x hx
  rcases List.mem_append.1 hx with hx | hx
  · exact h.1.1.2 x hx
  · exact flat_isB _ h.1.2 x hx
theorem openS_wrap {n : Nat} (h0 : 0 < n) {key : List Int} (hb : IsB key) (hl : key.length = 8 * n) : openS c n (wrapB c n key) = (iv, words n key) := by
  have h := wrapS_ok c h0 hb hl
  have e1 : (wrapB c n key).take 8 = (wrapS c n key).1 := List.take_left' h.1.1.1
  have e2 : words n ((wrapB c n key).drop 8) = (wrapS c n key).2 := by
    rw [wrapB, List.drop_left' h.1.1.1]
    have := flat_words _ h.1.2
    rwa [h.2] at this
  rw [openS, e1, e2]
  exact downs_ups c h0 (6 * n) (s := (iv, words n key)) ⟨iv_isW, words_ok n key hb hl⟩ (words_len n key)
theorem openB_wrap {n : Nat} (h0 : 0 < n) {key : List Int} (hb : IsB key) (hl : key.length = 8 * n) : openB c n (wrapB c n key) = key := by
  rw [openB, openS_wrap c h0 hb hl, words_flat n key hl]
theorem openS_ok {n : Nat} (h0 : 0 < n) {b : List Int} (hb : IsB b) (hl : b.length = 8 * (n + 1)) : OkS (openS c n b) ∧ (openS c n b).2.length = n :=
  downs_ok c h0 (6 * n) (s := (b.take 8, words n (b.drop 8)))
    ⟨⟨by rw [List.length_take]; omega, fun y hy => hb y (List.mem_of_mem_take hy)⟩, words_ok n _ (fun y hy => hb y (List.mem_of_mem_drop hy)) (by rw [List.length_drop]; omega)⟩ (words_len n _)
theorem openB_len {n : Nat} (h0 : 0 < n) {b : List Int} (hb : IsB b) (hl : b.length = 8 * (n + 1)) : (openB c n b).length = 8 * n := by
  have h := openS_ok c h0 hb hl
  rw [openB, flat_len _ h.1.2, h.2]
theorem openB_isB {n : Nat} (h0 : 0 < n) {b : List Int} (hb : IsB b) (hl : b.length = 8 * (n + 1)) : IsB (openB c n b) := flat_isB _ (openS_ok c h0 hb hl).1.2
theorem wrapB_open {n : Nat} (h0 : 0 < n) {b : List Int} (hb : IsB b) (hl : b.length = 8 * (n + 1)) (hv : (openS c n b).1 = iv) : wrapB c n (openB c n b) = b := by
  have h := openS_ok c h0 hb hl
  have e1 : words n (openB c n b) = (openS c n b).2 := by
    have := flat_words _ h.1.2
    rwa [h.2] at this
  have e2 : wrapS c n (openB c n b) = (b.take 8, words n (b.drop 8)) := by
    rw [wrapS, e1, ← hv]
    exact ups_downs c h0 (6 * n) (s := (b.take 8, words n (b.drop 8)))
      ⟨⟨by rw [List.length_take]; omega, fun y hy => hb y (List.mem_of_mem_take hy)⟩, words_ok n _ (fun y hy => hb y (List.mem_of_mem_drop hy)) (by rw [List.length_drop]; omega)⟩ (words_len n _)
  rw [wrapB, e2]
  show b.take 8 ++ (words n (b.drop 8)).flatten = b
  rw [words_flat n _ (by rw [List.length_drop]; omega), List.take_append_drop]
end Go.Proofs.Yticgdbcnknhndaa.WrapPlain
