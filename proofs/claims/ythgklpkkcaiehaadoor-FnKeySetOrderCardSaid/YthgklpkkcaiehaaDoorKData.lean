/- The data of keys: laws.keyData. -/
import Derived.Test.YthgklpkkcaiehaaDoorKRun
namespace Go.Proofs.YthgklpkkcaiehaaDoor
open Go.RowKit
set_option linter.unusedVariables false
set_option linter.unusedSimpArgs false

/-- The data made so far: each with its octets in a block of its own. -/
structure DataAt (w : World) (base : Nat) (v : Value) (ds : List KD) : Prop where
  own : w.ownsRow base 71 3 v ds.length (ds.flatMap KD.cells)
  oct : ∀ d ∈ ds, ∃ g, d.a = ⟨g, 0, none⟩ ∧ base ≤ g ∧ Row w g 5 (nums .u8 d.l) ∧ d.l.length = d.n ∧ d.n = 4
theorem info_data : (Tryd.prog.info? 71).map (fun i => (i.zero, i.size, i.bytes)) = some (some (.agg #[.slice none 0 0, .bool false, .string ⟨#[]⟩]), 3, 48) := by kernel_rfl
theorem data_end {wb W : World} {base : Nat} {v : Value} {ds : List KD} {d : KD} {g : Nat} (h : DataAt wb base v ds) (hbase : base ≤ wb.heap.size) (hB : Below wb.heap.size wb W) (ha : d.a = ⟨g, 0, none⟩) (hg : base ≤ g) (hR : Row W g 5 (nums .u8 d.l)) (hl : d.l.length = d.n) (hn : d.n = 4) :
    (W.alloc (.cells (KD.cells d).toArray 71)).ownsRow base 71 3 v ds.length (ds.flatMap KD.cells) ∧
      ∀ v' w', w'.ownsRow base 71 3 v' (ds.length + 1) (ds.flatMap KD.cells ++ KD.cells d) → (W.alloc (.cells (KD.cells d).toArray 71)).grownBy w' v.ownBlock → DataAt w' base v' (ds ++ [d]) ∧ Below base wb w' := by
  have hB1 := below_next hB (below_alloc0 W (.cells (KD.cells d).toArray 71))
  have h2 := ownsRow_alt h.own (Alt.of_below hB1 (fun _ => False)) (fun _ _ h => h)
  refine ⟨h2, fun v' w' ho hgr => ?_⟩
  have hAg := Alt.of_grown hgr
  have hvo : ∀ i, v.ownBlock = some i → base ≤ i ∧ ∃ us, Row (W.alloc (.cells (KD.cells d).toArray 71)) i 71 us := fun i hi => by
    refine ⟨?_, ownsRow_block h2 i hi⟩
    rcases h.own.2 with ⟨rfl, _⟩ | ⟨g, cap, cur, rfl, hb, _⟩
    · cases hi
    · cases hi; exact hb
  have hne : ∀ {q : Nat} {us : List Value}, Row (W.alloc (.cells (KD.cells d).toArray 71)) q 5 us → ¬ (some q = v.ownBlock) := fun hq e => by
    obtain ⟨_, us, hu⟩ := hvo _ e.symm
    exact absurd (row_ne hq hu) (by decide)
  refine ⟨⟨by rw [List.length_append, List.length_singleton, List.flatMap_append]; simpa using ho, fun x hx => ?_⟩, ?_⟩
  · rcases List.mem_append.1 hx with hx | hx
    · obtain ⟨q, h3, h4, h5, h6, h7⟩ := h.oct x hx
      have h8 := h5.below hB1 h5.lt
      exact ⟨q, h3, h4, hAg.row h8 (hne h8), h6, h7⟩
    · simp at hx; subst hx
      have h8 := hR.alloc (.cells (KD.cells x).toArray 71)
      exact ⟨g, ha, hg, hAg.row h8 (hne h8), hl, hn⟩
  · exact (hB1.mono hbase).trans (hAg.below (Nat.le_trans hbase hB1.size) (fun i hi e => by have := (hvo i e.symm).1; omega))
set_option maxRecDepth 100000 in
set_option maxHeartbeats 4000000 in
theorem keyData_calls (A : Option Addr) (n c : Nat) (l : List Int) (w : World) (hR : Rd w A (nums .u8 l)) (hl : l.length = n) (hn : n ≤ 20) (hb : ∀ x ∈ l, 0 ≤ x ∧ x ≤ 255) :
    Calls Tryd.prog 16 #[.slice A n c] w fun e w' => ∃ v ds, e = .returned v ∧ ds.length = n ∧ DataAt w' w.heap.size v ds ∧ Below w.heap.size w w' := by
  have HRd := hidden hR
  have Hb := hidden hb
  clear hb hR
  go_enter Tryd.func16, Tryd.ntmps16
  go_wp2
  go_loopw [9, 3] (fun i v wr => ∃ j : Nat, j ≤ n ∧ i = .int .i64 j ∧ Hid (∃ ds, ds.length = j ∧ DataAt wr w.heap.size v ds) ∧ Hid (Below w.heap.size w wr)) (fun i _ _ => n - (intOf i).toNat)
  case atStart => exact ⟨0, by omega, rfl, hidden ⟨[], rfl, World.ownsRow_nil _ _ _ _, by simp⟩, hidden (Below.refl _ _)⟩
  case round =>
    obtain ⟨j, hj, rfl, HM, HB⟩ := hrel
    obtain ⟨ds, hds, hM⟩ := HM.out
    by_cases hlt : j < n
    · obtain ⟨bX, oX, rfl, _, c0⟩ := (HRd.out.below HB.out (Nat.le_refl _)) j _ (nums_at .u8 l j (by omega))
      obtain ⟨hx0, hx1⟩ := Hb.out (gi l j) (gi_mem (by omega))
      obtain ⟨x, hx⟩ : ∃ x, gi l j = x := ⟨_, rfl⟩
      rw [hx] at c0 hx0 hx1
      go_upto_region 6 with (fail)
      refine wpAbs (fun W => Hid (Below wr.heap.size wr W) ∧ Hid (Row W wr.heap.size 5 (nums .u8 [7, (j : Int), x, 9])) ∧ Hid (Row W (wr.heap.size + 1) 71 [.slice (some ⟨wr.heap.size, 0, none⟩) 4 4, .bool false, .string ⟨#[]⟩])) ⟨hidden (below_next (below_alloc0 wr _) (below_alloc0 _ _)), hidden ((Row.new wr 5 (nums .u8 [7, (j : Int), x, 9])).alloc _), hidden (by have h := Row.new (wr.alloc (.cells (nums .u8 [7, (j : Int), x, 9]).toArray 5)) 71 [.slice (some ⟨wr.heap.size, 0, none⟩) 4 4, .bool false, .string ⟨#[]⟩]; rw [World.size_alloc] at h; exact h)⟩ ?_
      rintro W6 ⟨HB6, HO6, HR6⟩
      clear c0
      obtain ⟨i0, hi0, hzz⟩ := Option.map_eq_some_iff.1 info_data
      simp only [Prod.mk.injEq] at hzz
      have HI := hidden hzz
      have hlen := hidden hds
      have HDA := hidden hM
      clear hzz hM hds HM
      have hte := Int.tmod_eq_emod_of_nonneg (b := 5) hx0
      obtain ⟨r, hr5, hr4⟩ : ∃ r : Nat, x.tmod 5 = r ∧ r < 5 := ⟨(x.tmod 5).toNat, by omega, by omega⟩
      clear hte
      by_cases hr0 : r = 0
      · subst hr0
        have HE := hidden (data_end (d := ⟨⟨wr.heap.size, 0, none⟩, 4, 4, [7, (j : Int), x, 9], none⟩) HDA.out HB.out.size HB6.out rfl HB.out.size HO6.out rfl rfl)
        go_wp2_with (first
          | ((with_reducible refine at_dst 31 ?_); go_must (refine walk_load_row (vs := [.slice (some ⟨wr.heap.size, 0, none⟩) 4 4, .bool false, .string ⟨#[]⟩]) rfl _ _ rfl HR6.out rfl Tryd.underlying71 rfl (by kernel_rfl) ?_; simp only []))
          | ((with_reducible refine at_dst 33 ?_); go_must (obtain ⟨how, hTE⟩ := HE.out; refine wpList_append_own_at _ rfl (.tmp 30) (.tmp 32) 40 rfl w.heap.size 71 i0 _ 3 48 Tryd.underlying40 hi0 HI.out.1 HI.out.2.1 HI.out.2.2 rfl (by decide) _ ds.length _ rfl how ⟨W6.heap.size, 0, none⟩ 1 1 [.slice (some ⟨wr.heap.size, 0, none⟩) 4 4, .bool false, .string ⟨#[]⟩] rfl rfl (row_at (Row.new W6 _ _)) (by intro u hu; simp at hu; rcases hu with rfl | rfl | rfl <;> rfl) (by have := hlen.out; unfold maxLen; omega) (by have := hlen.out; omega) (by have := HB.out.size; have := HB6.out.size; simp; omega) ?_; rintro vo1 w5 ho5 hg5 _ _; have HX := hidden (hTE vo1 w5 ho5 hg5); clear hTE how ho5 hg5)))
        go_roundw
        case rel => exact ⟨j + 1, by omega, by go_num, hidden ⟨ds ++ [_], by have := hlen.out; simp; omega, HX.out.1⟩, hidden (HB.out.trans HX.out.2)⟩
        case measure => simp [intOf]; omega
      · go_upto_region 7 with (fail)
        obtain ⟨q, rfl⟩ : ∃ q, r = q + 1 := ⟨r - 1, by omega⟩
        rw [Int.natCast_add, Int.natCast_one] at hr5
        obtain ⟨sid, hsid⟩ : ∃ sid : ByteArray, ([.string ⟨#[]⟩, .string ⟨#[97]⟩, .string ⟨#[98]⟩, .string ⟨#[99]⟩] : List Value)[q]? = some (.string sid) := by
          match q, hr4 with
          | 0, _ => exact ⟨_, rfl⟩
          | 1, _ => exact ⟨_, rfl⟩
          | 2, _ => exact ⟨_, rfl⟩
          | 3, _ => exact ⟨_, rfl⟩
          | q + 4, h => omega
        have hq4 : q < 4 := by omega
        have hw1 : IntKind.u8.wrap (q : Int) = q := by rw [IntKind.wrap_u8]; omega
        have hD : dOk [(0, 22), (1, 23), (2, 24), (3, 25), (4, 26), (5, 27), (6, 28), (8, 29)] 36 = true := by kernel_rfl
        have ht6 := HR6.out.lt
        refine reg_flow [(0, 22), (1, 23), (2, 24), (3, 25), (4, 26), (5, 27), (6, 28), (8, 29)] (by kernel_rfl) (by kernel_rfl) hD (by kernel_rfl) (by kernel_rfl)
          (fun i u W => match i with
            | 0 => ∃ g, u = .slice (some ⟨g, 0, none⟩) 4 4 ∧ W6.heap.size ≤ g ∧ Row W g 9 [.string ⟨#[]⟩, .string ⟨#[97]⟩, .string ⟨#[98]⟩, .string ⟨#[99]⟩]
            | 1 => u = .int .u8 x
            | 2 => u = .int .u8 ((q : Int) + 1)
            | 3 => u = .int .u8 q
            | 4 => ∃ g, u = .pointer (some ⟨g, q, none⟩) ∧ W6.heap.size ≤ g ∧ Row W g 9 [.string ⟨#[]⟩, .string ⟨#[97]⟩, .string ⟨#[98]⟩, .string ⟨#[99]⟩]
            | 5 => u = .string sid
            | 6 => u = .pointer (some ⟨wr.heap.size + 1, 1, none⟩)
            | 8 => u = .pointer (some ⟨wr.heap.size + 1, 2, none⟩)
            | _ => True)
          (fun b v W => Alt W6 W (fun i => i = wr.heap.size + 1) ∧ Row W (wr.heap.size + 1) 71 [.slice (some ⟨wr.heap.size, 0, none⟩) 4 4, .bool (b 7), .string (if b 9 = true then sid else ⟨#[]⟩)])
          (fun W W' => Alt W W' (fun i => i = wr.heap.size + 1)) ?_ ?_ ?_ ?_
        · intro i u W W' hW h
          match i, h with
          | 0, ⟨g, h1, h2, h3⟩ => exact ⟨g, h1, h2, hW.row h3 (fun e => by omega)⟩
          | 4, ⟨g, h1, h2, h3⟩ => exact ⟨g, h1, h2, hW.row h3 (fun e => by omega)⟩
          | 1, h | 2, h | 3, h | 5, h | 6, h | 8, h => exact h
          | 7, _ => trivial
          | n + 9, _ => trivial
        · intro v; exact ⟨Alt.drew _ _, HR6.out.drew⟩
        · intro i hi
          match i, hi with
          | 0, _ =>
            exact flow_val hD (.buildSlice 29 4 #[(0, .const (.string ⟨#[]⟩)), (1, .const (.string ⟨#[97]⟩)), (2, .const (.string ⟨#[98]⟩)), (3, .const (.string ⟨#[99]⟩))]) 29 rfl fun b v W ρ h => by
              have e0 := h.cst (.string ⟨#[]⟩)
              have e1 := h.cst (.string ⟨#[97]⟩)
              have e2 := h.cst (.string ⟨#[98]⟩)
              have e3 := h.cst (.string ⟨#[99]⟩)
              refine ⟨.slice (some ⟨W.heap.size, 0, none⟩) 4 4, W.alloc (.cells #[.string ⟨#[]⟩, .string ⟨#[97]⟩, .string ⟨#[98]⟩, .string ⟨#[99]⟩] 9), ?_, ⟨W.heap.size, rfl, h.glob.1.size, Row.new W _ [.string ⟨#[]⟩, .string ⟨#[97]⟩, .string ⟨#[98]⟩, .string ⟨#[99]⟩]⟩, Alt.alloc _ _ _, ⟨h.glob.1.trans (Alt.alloc _ _ _) (fun _ _ e => e), by rw [up_ne (by decide), up_ne (by decide)]; exact h.glob.2.alloc _⟩⟩
              unfold opRun
              go_simp
          | 1, _ =>
            exact flow_pure hD (fun W => Alt.refl W _) (.move (.tmp 5)) 5 rfl fun b v W ρ h => ⟨_, by
              have e0 := h.off 5 (by kernel_rfl)
              unfold opRun
              go_simp
              , rfl, ⟨h.glob.1, by rw [up_ne (by decide), up_ne (by decide)]; exact h.glob.2⟩⟩
          | 2, _ =>
            exact flow_pure hD (fun W => Alt.refl W _) (.binOp .rem 5 (.tmp 23) (.const (.int .u8 5)) 5) 5 rfl fun b v W ρ h => ⟨_, by
              have d0 := (h.on 1 23 (by kernel_rfl) (h.dep 1 (by kernel_rfl))).trans (h.have_ 1 (by kernel_rfl))
              have e1 := h.cst (.int .u8 5)
              unfold opRun
              go_simp
              , rfl, ⟨h.glob.1, by rw [up_ne (by decide), up_ne (by decide)]; exact h.glob.2⟩⟩
          | 3, _ =>
            exact flow_pure hD (fun W => Alt.refl W _) (.binOp .sub 5 (.tmp 24) (.const (.int .u8 1)) 5) 5 rfl fun b v W ρ h => ⟨_, by
              have d0 := (h.on 2 24 (by kernel_rfl) (h.dep 2 (by kernel_rfl))).trans (h.have_ 2 (by kernel_rfl))
              have e1 := h.cst (.int .u8 1)
              unfold opRun
              go_simp
              , rfl, ⟨h.glob.1, by rw [up_ne (by decide), up_ne (by decide)]; exact h.glob.2⟩⟩
          | 4, _ =>
            exact flow_pure hD (fun W => Alt.refl W _) (.indexAddr 29 (.tmp 22) (.tmp 25)) 0 rfl fun b v W ρ h => by
              obtain ⟨g, h1, h2, h3⟩ := h.have_ 0 (by kernel_rfl)
              have d0 := (h.on 0 22 (by kernel_rfl) (h.dep 0 (by kernel_rfl))).trans h1
              have d1 := (h.on 3 25 (by kernel_rfl) (h.dep 3 (by kernel_rfl))).trans (h.have_ 3 (by kernel_rfl))
              refine ⟨.pointer (some ⟨g, q, none⟩), ?_, ⟨g, rfl, h2, h3⟩, ⟨h.glob.1, by rw [up_ne (by decide), up_ne (by decide)]; exact h.glob.2⟩⟩
              unfold opRun
              go_simp
              try (intro h9; omega)
          | 5, _ =>
            exact flow_pure hD (fun W => Alt.refl W _) (.load 9 (.tmp 26)) 9 rfl fun b v W ρ h => by
              obtain ⟨g, h1, h2, h3⟩ := h.have_ 4 (by kernel_rfl)
              have d0 := (h.on 4 26 (by kernel_rfl) (h.dep 4 (by kernel_rfl))).trans h1
              have c9 : W.cell? ⟨g, q, none⟩ = some (.string sid) := by rw [h3.cell]; exact hsid
              refine ⟨.string sid, ?_, rfl, ⟨h.glob.1, by rw [up_ne (by decide), up_ne (by decide)]; exact h.glob.2⟩⟩
              unfold opRun
              go_simp
          | 6, _ =>
            exact flow_pure hD (fun W => Alt.refl W _) (.fieldAddr 71 (.tmp 6) 1) 0 rfl fun b v W ρ h => ⟨_, by
              have e0 := h.off 6 (by kernel_rfl)
              unfold opRun
              go_simp
              , rfl, ⟨h.glob.1, by rw [up_ne (by decide), up_ne (by decide)]; exact h.glob.2⟩⟩
          | 8, _ =>
            exact flow_pure hD (fun W => Alt.refl W _) (.fieldAddr 71 (.tmp 6) 2) 0 rfl fun b v W ρ h => ⟨_, by
              have e0 := h.off 6 (by kernel_rfl)
              unfold opRun
              go_simp
              , rfl, ⟨h.glob.1, by rw [up_ne (by decide), up_ne (by decide)]; exact h.glob.2⟩⟩
          | 7, _ =>
            exact flow_skip hD (.store 4 (.tmp 28) (.const (.bool true))) 0 rfl fun b v W ρ h => by
              have e1 := h.cst (.bool true)
              have d0 := (h.on 6 28 (by kernel_rfl) (h.dep 6 (by kernel_rfl))).trans (h.have_ 6 (by kernel_rfl))
              have f9 := h.glob.2.free 1
              have c9 := h.glob.2.cell 1
              simp at c9
              refine ⟨W.setCell ⟨wr.heap.size + 1, 1, none⟩ (.bool true), ?_, trivial, Alt.set _ _ _, ⟨h.glob.1.trans (Alt.set _ _ _) (fun _ _ e => e), ?_⟩⟩
              · unfold opRun; go_simp
              · have := h.glob.2.set 1 (.bool true)
                simp only [List.set_cons_zero, List.set_cons_succ] at this
                rw [up_self, up_ne (by decide)]; simpa using this
          | 9, _ =>
            exact flow_skip hD (.store 9 (.tmp 29) (.tmp 27)) 0 rfl fun b v W ρ h => by
              have d0 := (h.on 8 29 (by kernel_rfl) (h.dep 8 (by kernel_rfl))).trans (h.have_ 8 (by kernel_rfl))
              have d1 := (h.on 5 27 (by kernel_rfl) (h.dep 5 (by kernel_rfl))).trans (h.have_ 5 (by kernel_rfl))
              have f9 := h.glob.2.free 2
              have c9 := h.glob.2.cell 2
              simp at c9
              refine ⟨W.setCell ⟨wr.heap.size + 1, 2, none⟩ (.string sid), ?_, trivial, Alt.set _ _ _, ⟨h.glob.1.trans (Alt.set _ _ _) (fun _ _ e => e), ?_⟩⟩
              · unfold opRun; go_simp
              · have := h.glob.2.set 2 (.string sid)
                simp only [List.set_cons_zero, List.set_cons_succ] at this
                rw [up_self, up_ne (by decide)]; simpa using this
          | i + 10, hi => exact absurd hi (by simp)
        · intro b v W hall hF hG
          have f1 : v 1 = _ := hF 1 (by decide)
          have f2 : v 2 = _ := hF 2 (by decide)
          have f3 : v 3 = _ := hF 3 (by decide)
          have f5 : v 5 = _ := hF 5 (by decide)
          have f6 : v 6 = _ := hF 6 (by decide)
          have f8 : v 8 = _ := hF 8 (by decide)
          obtain ⟨g0, f0, _⟩ := hF 0 (by decide)
          obtain ⟨g4, f4, _⟩ := hF 4 (by decide)
          simp only [fr, if_true, f0, f1, f2, f3, f4, f5, f6, f8, Act.put, List.setIfInBounds_toArray, List.set_cons_zero, List.set_cons_succ]
          obtain ⟨hA7, hR7⟩ := hG
          rw [hall 7 (by decide), hall 9 (by decide), if_pos rfl] at hR7
          have HB7 := hidden (HB6.out.trans (hA7.below HB6.out.size (fun i hi e => by omega)))
          have HR7 := hidden hR7
          have HO7 := hidden (hA7.row HO6.out (fun e => by omega))
          clear hF hall hA7 hR7 f0 f1 f2 f3 f4 f5 f6 f8 hD hsid hw1 hr5
          have HE := hidden (data_end (d := ⟨⟨wr.heap.size, 0, none⟩, 4, 4, [7, (j : Int), x, 9], some sid⟩) HDA.out HB.out.size HB7.out rfl HB.out.size HO7.out rfl rfl)
          go_wp2_with (first
            | ((with_reducible refine at_dst 31 ?_); go_must (refine walk_load_row (vs := [.slice (some ⟨wr.heap.size, 0, none⟩) 4 4, .bool true, .string sid]) rfl _ _ rfl HR7.out rfl Tryd.underlying71 rfl (by kernel_rfl) ?_; simp only []))
            | ((with_reducible refine at_dst 33 ?_); go_must (obtain ⟨how, hTE⟩ := HE.out; refine wpList_append_own_at _ rfl (.tmp 30) (.tmp 32) 40 rfl w.heap.size 71 i0 _ 3 48 Tryd.underlying40 hi0 HI.out.1 HI.out.2.1 HI.out.2.2 rfl (by decide) _ ds.length _ rfl how ⟨W.heap.size, 0, none⟩ 1 1 [.slice (some ⟨wr.heap.size, 0, none⟩) 4 4, .bool true, .string sid] rfl rfl (row_at (Row.new W _ _)) (by intro u hu; simp at hu; rcases hu with rfl | rfl | rfl <;> rfl) (by have := hlen.out; unfold maxLen; omega) (by have := hlen.out; omega) (by have := HB.out.size; have := HB7.out.size; simp; omega) ?_; rintro vo1 w5 ho5 hg5 _ _; have HX := hidden (hTE vo1 w5 ho5 hg5); clear hTE how ho5 hg5)))
          go_roundw
          case rel => exact ⟨j + 1, by omega, by go_num, hidden ⟨ds ++ [_], by have := hlen.out; simp; omega, HX.out.1⟩, hidden (HB.out.trans HX.out.2)⟩
          case measure => simp [intOf]; omega
    · obtain rfl : j = n := by omega
      have HM2 := HM
      go_wp2
      go_ret
      obtain ⟨ds, hds, hM⟩ := HM2.out
      exact ⟨_, ds, rfl, hds, hM, HB.out⟩
end Go.Proofs.YthgklpkkcaiehaaDoor
