/- Words for the steps of a key set, one after the other: impl.KeyRun. -/
import Derived.Test.YthgklpkkcaiehaaDoorKAt
import Derived.Test.YthgklpkkcaiehaaDoorKSeq
namespace Go.Proofs.YthgklpkkcaiehaaDoor
open Go.RowKit
set_option linter.unusedVariables false
set_option linter.unusedSimpArgs false

/-- What a key is made of: its octets in memory, and its ID. -/
structure KD where
  a : Addr
  n : Nat
  c : Nat
  l : List Int
  id : Option ByteArray
def KD.cells (d : KD) : List Value := [.slice (some d.a) d.n d.c, .bool d.id.isSome, .string (d.id.getD ⟨#[]⟩)]
structure KD.Ok (w : World) (d : KD) : Prop where
  rd : Rd w (some d.a) (nums .u8 d.l)
  len : d.l.length = d.n
  le : d.n ≤ 100
  pos : 0 < d.n
/-- The data of keys. -/
structure KDs (w : World) (X : Option Addr) (ds : List KD) : Prop where
  rd : Rd w X (ds.flatMap KD.cells)
  ok : ∀ d ∈ ds, d.Ok w
def idsOf (ds : List KD) (k : Nat) : Option ByteArray := (ds.getD k ⟨⟨0, 0, none⟩, 0, 0, [], none⟩).id
def symV (b : Nat) : Value := .iface 106 (.pointer (some ⟨b, 0, none⟩))
/-- The keys that are made of the first j data. -/
structure Made (w : World) (ds : List KD) (base mc : Nat) (v : Value) (bs : List Nat) : Prop where
  le : bs.length ≤ ds.length
  nd : bs.Nodup
  lt : ∀ b ∈ bs, base ≤ b ∧ b < w.heap.size
  row : Row w mc 72 [v]
  own : Own w base 81 v (bs.map symV)
  keys : ∀ k (h : k < bs.length), (∃ vs, Row w bs[k] 131 vs) ∧ KidAt w bs[k] (idsOf ds k)
theorem Made.below {w w1 : World} {ds : List KD} {base mc : Nat} {v : Value} {bs : List Nat} (h : Made w ds base mc v bs) (hb : Below w.heap.size w w1) : Made w1 ds base mc v bs :=
  ⟨h.le, h.nd, fun b hm => ⟨(h.lt b hm).1, Nat.lt_of_lt_of_le (h.lt b hm).2 hb.size⟩, h.row.below hb h.row.lt, h.own.below hb, fun k hk => by
    obtain ⟨⟨vs, hv⟩, h2⟩ := h.keys k hk
    exact ⟨⟨vs, hv.below hb hv.lt⟩, h2.below hb⟩⟩
theorem Own.ne_row {w : World} {base e g t : Nat} {v : Value} {vs us : List Value} (h : Own w base e v vs) (hR : Row w g t us) (ht : e ≠ t) : v.ownBlock ≠ some g := (KL.of_own h).ne_row hR ht
/-- One key more. -/
theorem Made.snoc {w w1 w2 : World} {ds : List KD} {base mc : Nat} {v v1 : Value} {bs : List Nat} {b : Nat} (h : Made w ds base mc v bs) (hj : bs.length < ds.length) (hb : ∀ x ∈ bs, x ≠ b) (hbase : base ≤ b) (hR : ∃ vs, Row w b 131 vs) (hid : KidAt w b (idsOf ds bs.length))
    (hO : Own w1 base 81 v1 (bs.map symV ++ [symV b])) (hg : w.grownBy w1 v.ownBlock) (hw : w2 = w1.setCell ⟨mc, 0, none⟩ v1) : Made w2 ds base mc v1 (bs ++ [b]) := by
  have hA : Alt w w1 (fun i => some i = v.ownBlock) := Alt.of_grown hg
  have hne : v.ownBlock ≠ some mc := Own.ne_row h.own h.row (by decide)
  have hR1 := hA.row h.row (fun e => hne e.symm)
  have hne1 : v1.ownBlock ≠ some mc := Own.ne_row hO hR1 (by decide)
  have hB : Alt w w2 (fun i => i = mc ∨ some i = v.ownBlock) := by rw [hw]; exact (hA.mono (fun i _ h => Or.inr h)).trans (Alt.set w1 ⟨mc, 0, none⟩ v1) (fun i _ e => Or.inl e)
  have key : ∀ x, (∃ vs, Row w x 131 vs) → ∀ id, KidAt w x id → (∃ vs, Row w2 x 131 vs) ∧ KidAt w2 x id := by
    rintro x ⟨vs, hv⟩ id hid
    have hno : ∀ {g t : Nat} {us : List Value}, Row w g t us → t ≠ 72 → t ≠ 81 → ¬ (g = mc ∨ some g = v.ownBlock) := by
      rintro g t us hg ht1 ht2 (e | e)
      · subst e
        have := hg.symm.trans h.row
        simp at this
        exact ht1 this.2
      · exact Own.ne_row h.own hg (Ne.symm ht2) e.symm
    refine ⟨⟨vs, hB.row hv (hno hv (by decide) (by decide))⟩, ?_⟩
    cases id with
    | none => exact hB.cell hid (hno hv (by decide) (by decide))
    | some s =>
      obtain ⟨p, h1, h2⟩ := hid
      exact ⟨p, hB.cell h1 (hno hv (by decide) (by decide)), hB.row h2 (hno h2 (by decide) (by decide))⟩
  obtain ⟨vb, hvb⟩ := hR
  refine ⟨by simp; omega, ?_, ?_, ?_, ?_, ?_⟩
  · rw [List.nodup_append]
    exact ⟨h.nd, by simp, fun a ha c hc e => by simp at hc; subst hc; exact hb a ha e⟩
  · intro x hx
    rcases List.mem_append.1 hx with hx | hx
    · exact ⟨(h.lt x hx).1, Nat.lt_of_lt_of_le (h.lt x hx).2 hB.size⟩
    · simp at hx; subst hx
      exact ⟨hbase, Nat.lt_of_lt_of_le hvb.lt hB.size⟩
  · rw [hw]; simpa using hR1.set 0 v1
  · rw [List.map_append, hw]
    exact (Alt.set w1 ⟨mc, 0, none⟩ v1).own hO (fun i hi e => hne1 (by rw [hi, e]))
  · intro k hk
    by_cases hkb : k < bs.length
    · rw [List.getElem_append_left hkb]
      exact key _ (h.keys k hkb).1 _ (h.keys k hkb).2
    · obtain rfl : k = bs.length := by simp at hk; omega
      rw [List.getElem_append_right (Nat.le_refl _)]
      simp
      exact key b ⟨vb, hvb⟩ _ hid
theorem flat3 {α β : Type} {f : α → List β} (h3 : ∀ x, (f x).length = 3) : ∀ (l : List α) (j t : Nat) (hj : j < l.length), t < 3 → (l.flatMap f)[j * 3 + t]? = (f l[j])[t]?
  | [], _, _, h, _ => by simp at h
  | x :: l, 0, t, _, ht => by simp [List.getElem?_append_left (show t < (f x).length by rw [h3]; exact ht)]
  | x :: l, j + 1, t, hj, ht => by
    rw [List.flatMap_cons, List.getElem?_append_right (by rw [h3]; omega), h3, show (j + 1) * 3 + t - 3 = j * 3 + t by omega]
    exact flat3 h3 l j t (by simpa using hj) ht
theorem KDs.at {w : World} {X : Option Addr} {ds : List KD} (h : KDs w X ds) (j : Nat) (hj : j < ds.length) : ∃ b o, X = some ⟨b, o, none⟩ ∧ b < w.heap.size ∧ w.cell? ⟨b, o + j * 3, none⟩ = some (.slice (some ds[j].a) ds[j].n ds[j].c) ∧ w.cell? ⟨b, o + j * 3 + 1, none⟩ = some (.bool ds[j].id.isSome) ∧ w.cell? ⟨b, o + j * 3 + 2, none⟩ = some (.string (ds[j].id.getD ⟨#[]⟩)) := by
  have f := fun t => flat3 (f := KD.cells) (fun _ => rfl) ds j t hj
  obtain ⟨b, o, rfl, hl, c0⟩ := h.rd _ _ (f 0 (by omega))
  obtain ⟨_, _, e1, _, c1⟩ := h.rd _ _ (f 1 (by omega))
  obtain ⟨_, _, e2, _, c2⟩ := h.rd _ _ (f 2 (by omega))
  cases e1; cases e2
  exact ⟨b, o, rfl, hl, c0, by rw [Nat.add_assoc]; exact c1, by rw [Nat.add_assoc]; exact c2⟩
theorem KDs.below {w w1 : World} {X : Option Addr} {ds : List KD} (h : KDs w X ds) (hb : Below w.heap.size w w1) : KDs w1 X ds :=
  ⟨h.rd.below hb (Nat.le_refl _), fun d hd => ⟨(h.ok d hd).rd.below hb (Nat.le_refl _), (h.ok d hd).len, (h.ok d hd).le, (h.ok d hd).pos⟩⟩
theorem own_emptyG (w : World) (e g : Nat) (h : g = w.heap.size) : Own (w.alloc (.cells #[] e)) g e (.slice (some ⟨g, 0, none⟩) 0 0) [] := by subst h; exact own_empty w e
theorem oct_next {wr w1 : World} {d : KD} {has id v1 : Value} {base : Nat} (hok : d.Ok wr) (hO : Own w1 base 5 v1 ([] ++ nums .u8 d.l))
    (hg : ((wr.alloc (.cells #[.slice (some d.a) d.n d.c, has, id] 71)).alloc (.cells #[] 5)).grownBy w1 (some (wr.heap.size + 1))) :
    ∃ a1 c1, v1 = .slice (some a1) d.n c1 ∧ Below wr.heap.size wr w1 ∧ Rd w1 (some a1) (nums .u8 d.l) ∧ a1.block < w1.heap.size ∧ w1.cell? ⟨wr.heap.size, 1, none⟩ = some has ∧ w1.cell? ⟨wr.heap.size, 2, none⟩ = some id := by
  have hl : (nums .u8 d.l).length = d.n := by rw [nums_len, hok.len]
  have hB : Below wr.heap.size wr w1 := (below_next (below_alloc0 wr _) (below_alloc0 _ _)).grown hg (below_next (below_alloc0 wr _) (below_alloc0 _ _)).size (by rintro k hk; cases hk; omega)
  have hRx : Row w1 wr.heap.size 71 [.slice (some d.a) d.n d.c, has, id] := ((Row.new wr 71 [.slice (some d.a) d.n d.c, has, id]).alloc _).grown hg (by simp)
  rw [List.nil_append] at hO
  rcases hO.block with ⟨_, h⟩ | ⟨g1, rest, rfl, hb1, hr1, _⟩
  · have := hok.pos
    rw [h] at hl
    simp at hl
    omega
  · exact ⟨⟨g1, 0, none⟩, d.n + rest.length, by rw [hl], hB, Rd.of_row hr1 0 0 (fun i hi => by rw [Nat.zero_add, List.getElem?_append_left hi]), hr1.lt, hRx.cell 1, hRx.cell 2⟩
theorem symV_one (l : List Nat) : ∀ u ∈ l.map symV, u.oneCell' = true := by
  intro u hu
  obtain ⟨x, _, rfl⟩ := List.mem_map.1 hu
  rfl
def bkOf (bs : List Nat) (k : Nat) : Nat := bs.getD k 0
theorem made_apart {w : World} {ds : List KD} {base mc : Nat} {v : Value} {bs : List Nat} (h : Made w ds base mc v bs) : Apart (bkOf bs) bs.length := by
  intro i j hi hj e
  simp [bkOf, hi, hj] at e
  exact (List.getElem_inj h.nd).1 e
theorem made_keys {w : World} {ds : List KD} {base mc : Nat} {v : Value} {bs : List Nat} (h : Made w ds base mc v bs) : KeysIn w (bkOf bs) bs.length := by
  intro k hk
  simp [bkOf, hk]
  exact (h.keys k hk).1
theorem made_kid {w : World} {ds : List KD} {base mc : Nat} {v : Value} {bs : List Nat} (h : Made w ds base mc v bs) : ∀ k, k < bs.length → KidAt w (bkOf bs k) (idsOf ds k) := by
  intro k hk
  simp [bkOf, hk]
  exact (h.keys k hk).2
theorem made_vals (bs : List Nat) : bs.map symV = keysV (bkOf bs) (List.range bs.length) := by
  apply List.ext_getElem
  · simp [keysV]
  · intro i h1 h2
    simp at h1
    simp [keysV, keyV, symV, bkOf, h1]
/-- What a step is made of. -/
def KSt.cells (x : KSt) : List Value := [.int .i64 x.kind, .int .i64 x.key, .int .i64 x.at_, .string x.id, .string ⟨#[]⟩]
/-- What is seen behind a step: a is the list of the keys in memory. -/
def seenC (p : Seen × Value) : List Value := [.bool p.1.ok, .int .i64 p.1.index, .int .i64 p.1.found, .int .i64 p.1.all.length, p.2, .slice none 0 0]
structure SeenAt (w : World) (base : Nat) (vo : Value) (xs : List Seen) : Prop where
  ex : ∃ av : List Value, av.length = xs.length ∧ w.ownsRow base 49 6 vo xs.length ((xs.zip av).flatMap seenC) ∧ ∀ p ∈ xs.zip av, Own w base 3 p.2 (nums .i64 (p.1.all.map Nat.cast))
/-- What holds at the head of each step. -/
structure LoopR (W wr : World) (gs mb : Nat) (bk : Nat → Nat) (m : Nat) (ids : Nat → Option ByteArray) (l : List KSt) (vo : Value) : Prop where
  alt : Alt W wr (fun i => i = gs)
  set : ∃ v, SetAt wr gs mb W.heap.size v (keysV bk (stK m ids [] l))
  ok : SetOk m (stK m ids [] l)
  out : SeenAt wr W.heap.size vo (runK m ids [] l)
/-- What holds between a step's own call and what is told of the set: the cells of what is seen so far. -/
structure MidL (wr wy : World) (gs mb base : Nat) (v : Value) (K L : List Value) : Prop where
  alt : Alt wr wy (fun i => i = gs ∨ some i = v.ownBlock)
  set : ∃ v', SetAt wy gs mb base v' K ∧ (v'.ownBlock = v.ownBlock ∨ ∃ i, wr.heap.size ≤ i ∧ v'.ownBlock = some i)
  seen : Row wy (wr.heap.size + 1) 49 L
theorem SetAt.far {w : World} {gs mb base : Nat} {v : Value} {L us : List Value} {g t : Nat} (h : SetAt w gs mb base v L) (hR : Row w g t us) (h1 : t ≠ 133) (h2 : t ≠ 81) (f : Nat) (u : Value) : SetAt (w.setCell ⟨g, f, none⟩ u) gs mb base v L := by
  have hA := Alt.set w ⟨g, f, none⟩ u
  refine ⟨hA.row h.row (fun e => ?_), hA.kl h.kl (fun i hi e => h.kl.ne_row hR (Ne.symm h2) (by rw [hi, e])), (hA.block mb h.lt (fun e => ?_)).trans h.map⟩
  · have e' : gs = g := e
    subst e'
    have := hR.symm.trans h.row
    simp at this
    exact h1 this.2
  · have e' : mb = g := e
    subst e'
    have := h.map.symm.trans hR
    cases this
theorem MidL.store {wr wy : World} {gs mb base : Nat} {v : Value} {K L : List Value} (h : MidL wr wy gs mb base v K L) (f : Nat) (u : Value) : MidL wr (wy.setCell ⟨wr.heap.size + 1, f, none⟩ u) gs mb base v K (L.set f u) := by
  obtain ⟨v', hs, hv⟩ := h.set
  exact ⟨h.alt.trans (Alt.set wy _ u) (fun i hi e => by have : i = wr.heap.size + 1 := e; omega), ⟨v', hs.far h.seen (by decide) (by decide) f u, hv⟩, h.seen.set f u⟩
theorem MidL.of {wr W4 W5 : World} {gs mb base : Nat} {v : Value} {K L : List Value} (hB : Below wr.heap.size wr W4) (hT : SetTo W4 gs mb base v K W5) (hR : Row W4 (wr.heap.size + 1) 49 L) (hgs : gs < wr.heap.size) (hv : ∀ i, v.ownBlock = some i → i < wr.heap.size) : MidL wr W5 gs mb base v K L := by
  refine ⟨(Alt.of_below hB _).trans hT.alt (fun i _ h => h), ?_, hT.alt.row hR ?_⟩
  · obtain ⟨v', h1, h2⟩ := hT.at'
    exact ⟨v', h1, h2.imp id (fun ⟨i, hi, e⟩ => ⟨i, Nat.le_trans hB.size hi, e⟩)⟩
  · rintro (e | e)
    · omega
    · have := hv _ e.symm; omega
theorem SetTo.same {w w1 : World} {gs mb base : Nat} {v : Value} {L : List Value} (h : SetAt w gs mb base v L) (hb : Below w.heap.size w w1) : SetTo w gs mb base v L w1 := ⟨Alt.of_below hb _, v, h.below hb, .inl rfl⟩
/-- The steps that are asked here. -/
structure StepsOk (w : World) (Y : Option Addr) (L : List KSt) (m : Nat) : Prop where
  rd : Rd w Y (L.flatMap KSt.cells)
  ok : ∀ x ∈ L, x.kind ≤ 4 ∧ x.key < m ∧ x.at_ ≤ 1000
  rem : ∀ j (h : j < L.length), L[j].kind = 1 → ∀ ids, L[j].key ∈ stK m ids [] (L.take j)
theorem flat5 {α β : Type} {f : α → List β} (h5 : ∀ x, (f x).length = 5) : ∀ (l : List α) (j t : Nat) (hj : j < l.length), t < 5 → (l.flatMap f)[j * 5 + t]? = (f l[j])[t]?
  | [], _, _, h, _ => by simp at h
  | x :: l, 0, t, _, ht => by simp [List.getElem?_append_left (show t < (f x).length by rw [h5]; exact ht)]
  | x :: l, j + 1, t, hj, ht => by
    rw [List.flatMap_cons, List.getElem?_append_right (by rw [h5]; omega), h5, show (j + 1) * 5 + t - 5 = j * 5 + t by omega]
    exact flat5 h5 l j t (by simpa using hj) ht
theorem steps_at {w : World} {Y : Option Addr} {L : List KSt} (h : Rd w Y (L.flatMap KSt.cells)) (j : Nat) (hj : j < L.length) : ∃ b o, Y = some ⟨b, o, none⟩ ∧ b < w.heap.size ∧ w.cell? ⟨b, o + j * 5, none⟩ = some (.int .i64 L[j].kind) ∧ w.cell? ⟨b, o + j * 5 + 1, none⟩ = some (.int .i64 L[j].key) ∧ w.cell? ⟨b, o + j * 5 + 2, none⟩ = some (.int .i64 L[j].at_) ∧ w.cell? ⟨b, o + j * 5 + 3, none⟩ = some (.string L[j].id) ∧ w.cell? ⟨b, o + j * 5 + 4, none⟩ = some (.string ⟨#[]⟩) := by
  have f := fun t => flat5 (f := KSt.cells) (fun _ => rfl) L j t hj
  obtain ⟨b, o, rfl, hl, c0⟩ := h _ _ (f 0 (by omega))
  obtain ⟨_, _, e1, _, c1⟩ := h _ _ (f 1 (by omega))
  obtain ⟨_, _, e2, _, c2⟩ := h _ _ (f 2 (by omega))
  obtain ⟨_, _, e3, _, c3⟩ := h _ _ (f 3 (by omega))
  obtain ⟨_, _, e4, _, c4⟩ := h _ _ (f 4 (by omega))
  cases e1; cases e2; cases e3; cases e4
  simp only [← Nat.add_assoc] at c1 c2 c3 c4
  exact ⟨b, o, rfl, hl, c0, c1, c2, c3, c4⟩
/-- What holds where a step's own call comes up. wa: the world in which the keys were made; wr: the step's begin; W: now. -/
structure Stand (wa wr W : World) (mc gs mb base m bK oK cc : Nat) (bk : Nat → Nat) (ids : Nat → Option ByteArray) (s : List Nat) (v : Value) (x : KSt) : Prop where
  made : wa.cell? ⟨mc, 0, none⟩ = some (.slice (some ⟨bK, oK, none⟩) m cc)
  rd : Rd wa (some ⟨bK, oK, none⟩) (keysV bk (List.range m))
  keys : KeysIn wa bk m
  apart : Apart bk m
  kid : ∀ k, k < m → KidAt wa (bk k) (ids k)
  m_le : m ≤ 100
  old : Below wa.heap.size wa wr
  gs_ge : wa.heap.size ≤ gs
  base_ge : wa.heap.size ≤ base
  base_le : base ≤ wr.heap.size
  set : SetAt wr gs mb base v (keysV bk s)
  ok : SetOk m s
  key : x.key < m
  at_le : x.at_ ≤ 1000
  below : Below wr.heap.size wr W
  step : Row W wr.heap.size 44 (KSt.cells x)
  seen : Row W (wr.heap.size + 1) 49 [.bool true, .int .i64 (-1), .int .i64 (-1), .int .i64 0, .slice none 0 0, .slice none 0 0]
section
variable {wa wr W : World} {mc gs mb base m bK oK cc : Nat} {bk : Nat → Nat} {ids : Nat → Option ByteArray} {s : List Nat} {v : Value} {x : KSt}
theorem Stand.all (h : Stand wa wr W mc gs mb base m bK oK cc bk ids s v x) : Below wa.heap.size wa W := h.old.trans (h.below.mono h.old.size)
theorem Stand.next {W1 : World} (h : Stand wa wr W mc gs mb base m bK oK cc bk ids s v x) (hb : Below W.heap.size W W1) : Stand wa wr W1 mc gs mb base m bK oK cc bk ids s v x :=
  { h with below := below_next h.below hb, step := h.step.below hb h.step.lt, seen := h.seen.below hb h.seen.lt }
theorem Stand.len (h : Stand wa wr W mc gs mb base m bK oK cc bk ids s v x) : s.length ≤ 100 := Nat.le_trans h.ok.len h.m_le
theorem Stand.keysAt (h : Stand wa wr W mc gs mb base m bK oK cc bk ids s v x) : KeysIn W bk m := fun k hk => by
  obtain ⟨vs, hv⟩ := h.keys k hk
  exact ⟨vs, hv.below h.all hv.lt⟩
theorem Stand.keysB {W1 : World} (h : Stand wa wr W mc gs mb base m bK oK cc bk ids s v x) (hB : Below wa.heap.size wa W1) : KeysIn W1 bk m := fun k hk => by
  obtain ⟨vs, hv⟩ := h.keys k hk
  exact ⟨vs, hv.below hB hv.lt⟩
theorem Stand.setAt (h : Stand wa wr W mc gs mb base m bK oK cc bk ids s v x) : SetAt W gs mb base v (keysV bk s) := h.set.below h.below
theorem Stand.mid {W5 : World} {K : List Value} (h : Stand wa wr W mc gs mb base m bK oK cc bk ids s v x) (hT : SetTo W gs mb base v K W5) : MidL wr W5 gs mb base v K [.bool true, .int .i64 (-1), .int .i64 (-1), .int .i64 0, .slice none 0 0, .slice none 0 0] :=
  MidL.of h.below hT h.seen h.set.row.lt (fun i hi => (h.set.kl.lt i hi).2)
/-- The cell of the step's key among those that were made. -/
theorem Stand.cell (h : Stand wa wr W mc gs mb base m bK oK cc bk ids s v x) : W.cell? ⟨bK, oK + x.key, none⟩ = some (keyV bk x.key) := by
  obtain ⟨b, o, e, _, c⟩ := h.rd _ _ (keysV_at bk (List.range m) x.key (by simpa using h.key))
  cases e
  rw [range_getD m x.key h.key] at c
  exact cell_next h.all c
end
def seenL (r : Seen) : List Value := [.bool r.ok, .int .i64 r.index, .int .i64 r.found, .int .i64 0, .slice none 0 0, .slice none 0 0]
/-! Parts of a function's text. -/
def cL : Code → Code
  | .seq a _ => a
  | c => c
def cR : Code → Code
  | .seq _ b => b
  | c => c
def cB : Code → Code
  | .block _ b => b
  | c => c
def cLp : Code → Code
  | .loop b => b
  | c => c
def cOf (f : Func) : Code := f.body.getD .skip
theorem cL_seq (a b : Code) : cL (.seq a b) = a := rfl
theorem cR_seq (a b : Code) : cR (.seq a b) = b := rfl
theorem cB_block (i : Nat) (b : Code) : cB (.block i b) = b := rfl
theorem cLp_loop (b : Code) : cLp (.loop b) = b := rfl
end Go.Proofs.YthgklpkkcaiehaaDoor
