/- The options of a token: what steps make of the bits, and the functions that make them. -/
import Derived.Test.YticgdbcnknhndaaProg
import Derived.Test.YticgdbcnknhndaaBase
namespace Go.Proofs.Yticgdbcnknhndaa
open Go.RowKit
set_option linter.unusedVariables false
set_option linter.unusedSimpArgs false

def bor (x y : Int) : Int := bits .or .u64 x y
def band (x y : Int) : Int := bits .and .u64 x y
def bnot (x : Int) : Int := bits .xor .u64 IntKind.u64.max x
def stepO (v : Int) (s : Int × Int) : Int := if s.1 = 0 then bor v s.2 else if s.1 = 1 then band v (bnot s.2) else if s.1 = 2 then 0 else if s.1 = 3 then s.2 else v
def askO (v : Int) (s : Int × Int) : Bool := if s.1 = 4 then decide (band v s.2 = s.2) else false
def curO (v : Int) (l : List (Int × Int)) : Int := l.foldl stepO v
def valsO : Int → List (Int × Int) → List Int
  | _, [] => []
  | v, s :: l => stepO v s :: valsO (stepO v s) l
def toldO : Int → List (Int × Int) → List Bool
  | _, [] => []
  | v, s :: l => askO v s :: toldO (stepO v s) l
theorem valsO_app (l m : List (Int × Int)) (v : Int) : valsO v (l ++ m) = valsO v l ++ valsO (curO v l) m := by
  induction l generalizing v with
  | nil => rfl
  | cons s l ih => simp [valsO, ih, curO]
theorem toldO_app (l m : List (Int × Int)) (v : Int) : toldO v (l ++ m) = toldO v l ++ toldO (curO v l) m := by
  induction l generalizing v with
  | nil => rfl
  | cons s l ih => simp [toldO, ih, curO]
theorem valsO_len (l : List (Int × Int)) (v : Int) : (valsO v l).length = l.length := by
  induction l generalizing v with
  | nil => rfl
  | cons s l ih => simp [valsO, ih]
theorem toldO_len (l : List (Int × Int)) (v : Int) : (toldO v l).length = l.length := by
  induction l generalizing v with
  | nil => rfl
  | cons s l ih => simp [toldO, ih]
def stepVs (l : List (Int × Int)) : List Value := l.flatMap fun s => [.int .i64 s.1, .int .u64 s.2]
def bools (l : List Bool) : List Value := l.map Value.bool
theorem info_u64 : (Try.prog.info? 24).map (fun i => (i.zero, i.size, i.bytes)) = some (some (.int .u64 0), 1, 8) := by kernel_rfl
theorem info_bool : (Try.prog.info? 4).map (fun i => (i.zero, i.size, i.bytes)) = some (some (.bool false), 1, 1) := by kernel_rfl
theorem stepVs_at (l : List (Int × Int)) (k : Nat) (h : k < l.length) : (stepVs l)[k * 2]? = some (.int .i64 (l[k]'h).1) ∧ (stepVs l)[k * 2 + 1]? = some (.int .u64 (l[k]'h).2) := by
  induction l generalizing k with
  | nil => simp at h
  | cons s l ih =>
    cases k with
    | zero => simp [stepVs]
    | succ k =>
      have := ih k (by simpa using h)
      have e : stepVs (s :: l) = .int .i64 s.1 :: .int .u64 s.2 :: stepVs l := rfl
      rw [e, show (k + 1) * 2 = k * 2 + 1 + 1 by omega]
      simpa using this
theorem stepVs_len (l : List (Int × Int)) : (stepVs l).length = 2 * l.length := by
  induction l with
  | nil => rfl
  | cons s l ih => show (Value.int .i64 s.1 :: .int .u64 s.2 :: stepVs l).length = _; simp [ih]; omega

theorem enable_calls (w : World) (g : Nat) (x b : Int) (HR : Row w g 71 [.int .u64 x]) :
    Calls Try.prog 44 #[.pointer (some ⟨g, 0, none⟩), .int .u64 b] w fun e w' => e = .returned (.tuple #[]) ∧ Row w' g 71 [.int .u64 (bor x b)] ∧ w.grownBy w' (some g) := by
  have hc := HR.cell 0
  have hf := HR.free 0
  simp only [List.getElem?_cons_zero] at hc
  go_enter Try.func44, Try.ntmps44
  go_wp2
  go_end0
  exact ⟨rfl, HR.set 0 _, grown_set w g 0 _⟩
theorem disable_calls (w : World) (g : Nat) (x b : Int) (HR : Row w g 71 [.int .u64 x]) :
    Calls Try.prog 45 #[.pointer (some ⟨g, 0, none⟩), .int .u64 b] w fun e w' => e = .returned (.tuple #[]) ∧ Row w' g 71 [.int .u64 (band x (bnot b))] ∧ w.grownBy w' (some g) := by
  have hc := HR.cell 0
  have hf := HR.free 0
  simp only [List.getElem?_cons_zero] at hc
  go_enter Try.func45, Try.ntmps45
  go_wp2
  go_end0
  exact ⟨rfl, HR.set 0 _, grown_set w g 0 _⟩
theorem clear_calls (w : World) (g : Nat) (x : Int) (HR : Row w g 71 [.int .u64 x]) :
    Calls Try.prog 46 #[.pointer (some ⟨g, 0, none⟩)] w fun e w' => e = .returned (.tuple #[]) ∧ Row w' g 71 [.int .u64 0] ∧ w.grownBy w' (some g) := by
  have hc := HR.cell 0
  have hf := HR.free 0
  simp only [List.getElem?_cons_zero] at hc
  go_enter Try.func46, Try.ntmps46
  go_wp2
  go_end0
  exact ⟨rfl, HR.set 0 _, grown_set w g 0 _⟩
theorem setO_calls (w : World) (g : Nat) (x b : Int) (HR : Row w g 71 [.int .u64 x]) :
    Calls Try.prog 47 #[.pointer (some ⟨g, 0, none⟩), .int .u64 b] w fun e w' => e = .returned (.tuple #[]) ∧ Row w' g 71 [.int .u64 b] ∧ w.grownBy w' (some g) := by
  have hc := HR.cell 0
  have hf := HR.free 0
  simp only [List.getElem?_cons_zero] at hc
  go_enter Try.func47, Try.ntmps47
  go_wp2
  go_end0
  exact ⟨rfl, HR.set 0 _, grown_set w g 0 _⟩
theorem isEnabled_calls (w : World) (x b : Int) :
    Calls Try.prog 48 #[.int .u64 x, .int .u64 b] w fun e w' => e = .returned (.bool (decide (band x b = b))) ∧ w = w' := by
  go_enter Try.func48, Try.ntmps48
  go_wp2
  go_ret
  exact ⟨rfl, rfl⟩
theorem value_calls (w : World) (x : Int) :
    Calls Try.prog 49 #[.int .u64 x] w fun e w' => e = .returned (.int .u64 x) ∧ w = w' := by
  go_enter Try.func49, Try.ntmps49
  go_wp2
  go_ret
  exact ⟨rfl, rfl⟩

theorem pack_opt {w wr w1 : World} {B e1 e2 t : Nat} {o : Obj} {v0 v : Value} {u5 u6 : Value} {a b : List Value} (hBr : Below B w wr) (hRr : Row wr B t [v0]) (hO1 : Own wr (B + 1) e1 u5 a) (hO2 : Own wr (B + 1) e2 u6 b) (hR1 : Row w1 B t [v]) (hg1 : (wr.alloc o).grownBy w1 (some B)) :
    Below B w w1 ∧ Own w1 (B + 1) e1 u5 a ∧ Own w1 (B + 1) e2 u6 b ∧ w1.cell? ⟨B, 0, none⟩ = some v ∧ B < w1.heap.size := by
  have hlt := hRr.lt
  refine ⟨(hBr.alloc (by omega) _).grown hg1 (by simp; omega) (by simp), (hO1.alloc _).kept hg1 (.inr fun e => ?_), (hO2.alloc _).kept hg1 (.inr fun e => ?_), hR1.cell 0, hR1.lt⟩
  · have := (hO1.lt B e).1; omega
  · have := (hO2.lt B e).1; omega
theorem opt_next {w w1 w2 w3 : World} {B e1 e2 t : Nat} {o1 o2 : Obj} {v u5 u6 v1 v2 : Value} {a a' b b' : List Value} (hbw : Below B w w1) (hR1 : Row w1 B t [v]) (hO1 : Own w1 (B + 1) e1 u5 a) (hO2 : Own w1 (B + 1) e2 u6 b) (hne : u5.ownBlock = none ∨ u5.ownBlock ≠ u6.ownBlock)
    (hO3 : Own w2 (B + 1) e1 v1 (a ++ a')) (hg2 : (w1.alloc o1).grownBy w2 u5.ownBlock) (hd2 : v1.ownBlock = u5.ownBlock ∨ v1.ownBlock = some (w1.alloc o1).heap.size)
    (hO4 : Own w3 (B + 1) e2 v2 (b ++ b')) (hg3 : (w2.alloc o2).grownBy w3 u6.ownBlock) (hd3 : v2.ownBlock = u6.ownBlock ∨ v2.ownBlock = some (w2.alloc o2).heap.size) :
    Below B w w3 ∧ Row w3 B t [v] ∧ Own w3 (B + 1) e1 v1 (a ++ a') ∧ Own w3 (B + 1) e2 v2 (b ++ b') ∧ (v1.ownBlock = none ∨ v1.ownBlock ≠ v2.ownBlock) := by
  have hlt := hR1.lt
  have s2 := hg2.size
  have s3 := hg3.size
  simp only [World.size_alloc] at s2 s3
  have hn1 : some B ≠ u5.ownBlock := fun e => by have := (hO1.lt B e.symm).1; omega
  have hn2 : some B ≠ u6.ownBlock := fun e => by have := (hO2.lt B e.symm).1; omega
  have h12 : v1.ownBlock = none ∨ v1.ownBlock ≠ u6.ownBlock := by
    rcases hd2 with h | h
    · rw [h]; exact hne
    · refine .inr fun e => ?_
      have := (hO2.lt _ (e.symm.trans h)).2
      simp at this
      omega
  refine ⟨(((hbw.alloc (by omega) _).grown hg2 (by simp; omega) (fun k hk => by have := (hO1.lt k hk).1; omega)).alloc (by omega) _).grown hg3 (by simp; omega) (fun k hk => by have := (hO2.lt k hk).1; omega), (((hR1.alloc _).grown hg2 hn1).alloc _).grown hg3 hn2, (hO3.alloc _).kept hg3 h12, hO4, ?_⟩
  rcases hd3 with h | h
  · rw [h]; exact h12
  · refine .inr fun e => ?_
    have := (hO3.lt _ (e.trans h)).2
    simp at this
    omega
theorem own_none (w : World) (base e : Nat) : (Value.slice none 0 0).ownBlock = none := rfl
set_option maxRecDepth 10000 in
set_option maxHeartbeats 1000000 in
theorem optioned_calls (A : Option Addr) (n c : Nat) (l : List (Int × Int)) (w : World) (h : Rd w A (stepVs l)) (hn : l.length = n) (hb : n ≤ 100000) :
    Calls Try.prog 16 #[.slice A n c] w fun e w' => ∃ v1 v2, e = .returned (.tuple #[v1, v2]) ∧ Own w' w.heap.size 24 v1 (nums .u64 (valsO 0 l)) ∧ Own w' w.heap.size 4 v2 (bools (toldO 0 l)) ∧ Below w.heap.size w w' := by
  go_enter Try.func16, Try.ntmps16
  go_wp2
  refine wpAbs (fun W => Below w.heap.size w W ∧ Row W w.heap.size 71 [.int .u64 0]) ⟨below_alloc0 w _, Row.new w _ _⟩ ?_
  rintro W ⟨hB, hR⟩
  have hA := h.below hB (Nat.le_refl _)
  generalize hbb : w.heap.size = B at *
  have hBB := hidden hbb
  clear hbb
  go_loopw [5, 6, 12] (fun v1 v2 i wr => ∃ k : Nat, k ≤ n ∧ i = .int .i64 k ∧ Below B w wr ∧ Row wr B 71 [.int .u64 (curO 0 (l.take k))] ∧ Own wr (B + 1) 24 v1 (nums .u64 (valsO 0 (l.take k))) ∧ Own wr (B + 1) 4 v2 (bools (toldO 0 (l.take k))) ∧ (v1.ownBlock = none ∨ v1.ownBlock ≠ v2.ownBlock)) (fun _ _ i _ => n - (intOf i).toNat)
  case atStart => exact ⟨0, by omega, rfl, hB, hR, Own.nil _ _ _, Own.nil _ _ _, .inl rfl⟩
  case round =>
    obtain ⟨k, hk, rfl, hBr, hRr, hO1, hO2, hne⟩ := hrel
    clear hB hR
    by_cases hlt : k < n
    · have hlt' : k < l.length := by omega
      obtain ⟨b0, o0, rfl, hlt0, hrd⟩ := (h.below hBr (Nat.le_of_eq hBB.out)).pos (by rw [stepVs_len]; omega)
      have hat := stepVs_at l k hlt'
      have c0 := hrd _ _ hat.1
      have c1 := hrd _ _ hat.2
      rw [← Nat.add_assoc] at c1
      have hsn : l.take (k + 1) = l.take k ++ [l[k]] := by rw [List.take_succ_eq_append_getElem hlt']
      generalize hs : l[k] = s at *
      obtain ⟨kd, bt⟩ := s
      have Hsn := hidden hsn
      clear hsn hat hrd h hA hs hlt'
      simp only at c0 c1
      generalize hcv : curO 0 (l.take k) = cv at *
      have hcv' := hidden hcv
      clear hcv
      have hneb : u6.ownBlock = none ∨ u6.ownBlock ≠ u5.ownBlock := by
        rcases hne with h | h
        · cases hq : u6.ownBlock
          · exact .inl rfl
          · exact .inr (by rw [h]; simp)
        · exact .inr (Ne.symm h)
      have hl1 : (nums .u64 (valsO 0 (l.take k))).length = k := by rw [nums_len, valsO_len, List.length_take]; omega
      have hl2 : (bools (toldO 0 (l.take k))).length = k := by unfold bools; rw [List.length_map, toldO_len, List.length_take]; omega
      by_cases h0 : kd = 0
      · subst h0
        have hcu : curO 0 (l.take (k + 1)) = (bor cv bt) := by rw [Hsn.out]; unfold curO; rw [List.foldl_append]; rw [List.foldl_cons, List.foldl_nil]; rw [show List.foldl stepO 0 (l.take k) = cv from hcv'.out]; unfold stepO; simp
        have hva : valsO 0 (l.take (k + 1)) = valsO 0 (l.take k) ++ [(bor cv bt)] := by rw [Hsn.out, valsO_app, hcv'.out]; simp [valsO, stepO]
        have hto : toldO 0 (l.take (k + 1)) = toldO 0 (l.take k) ++ [false] := by rw [Hsn.out, toldO_app, hcv'.out]; simp [toldO, askO]
        have Hcu := hidden hcu
        have Hva := hidden hva
        have Hto := hidden hto
        clear hcu hva hto
        go_wp2_with (first
          | (go_at_call 44; refine (enable_calls _ B cv bt (hRr.alloc _)).mono ?_; rintro e w1 ⟨rfl, hR1, hg1⟩; obtain ⟨hbw, hO1b, hO2b, c2, hsz⟩ := pack_opt hBr hRr hO1 hO2 hR1 hg1; clear hBr hO1 hO2 hRr c0 c1)
          | (go_at_call 49; refine (value_calls _ _).mono ?_; rintro e w8 ⟨rfl, rfl⟩)
          | (at_builtin; refine walk_app (v := u5) (base := B + 1) (vs := nums .u64 (valsO 0 (l.take k))) (ys := nums .u64 [(bor cv bt)]) rfl (.tmp 42) (.tmp 45) rfl Try.underlying27 info_u64 rfl (by decide) rfl rfl (Own.alloc hO1b _) (Rd.new _ _ _ _ (by simp)) rfl (nums_one _ _) (by rw [World.size_alloc]; omega) (by rw [hl1]; show (k + 1) * 8 ≤ _; omega) ?_; intro v1 w2 hO3 hg2 hd2)
          | (at_builtin; refine walk_app (v := u6) (base := B + 1) (vs := bools (toldO 0 (l.take k))) (ys := bools [false]) rfl (.tmp 47) (.tmp 49) rfl Try.underlying28 info_bool rfl (by decide) rfl rfl (((Own.alloc hO2b _).kept hg2 hneb).alloc _) (Rd.new _ _ _ _ (by simp)) rfl (by intro u hu; obtain ⟨x, _, rfl⟩ := List.mem_map.1 hu; rfl) (by rw [World.size_alloc]; have := hg2.size; rw [World.size_alloc] at this; omega) (by rw [hl2]; show (k + 1) * 1 ≤ _; omega) ?_; intro v2 w3 hO4 hg3 hd3))
        go_roundw
        case measure => simp [intOf]; omega
        case rel =>
          obtain ⟨g1, g2, g3, g4, g5⟩ := opt_next hbw hR1 hO1b hO2b hne hO3 hg2 hd2 hO4 hg3 hd3
          rw [← Hcu.out] at g2
          rw [← nums_app, ← Hva.out] at g3
          rw [show bools (toldO 0 (l.take k)) ++ bools [false] = bools (toldO 0 (l.take k) ++ [false]) from (List.map_append ..).symm, ← Hto.out] at g4
          exact ⟨k + 1, by omega, by go_num, g1, g2, g3, g4, g5⟩
      by_cases h1 : kd = 1
      · subst h1
        have hcu : curO 0 (l.take (k + 1)) = (band cv (bnot bt)) := by rw [Hsn.out]; unfold curO; rw [List.foldl_append]; rw [List.foldl_cons, List.foldl_nil]; rw [show List.foldl stepO 0 (l.take k) = cv from hcv'.out]; unfold stepO; simp
        have hva : valsO 0 (l.take (k + 1)) = valsO 0 (l.take k) ++ [(band cv (bnot bt))] := by rw [Hsn.out, valsO_app, hcv'.out]; simp [valsO, stepO]
        have hto : toldO 0 (l.take (k + 1)) = toldO 0 (l.take k) ++ [false] := by rw [Hsn.out, toldO_app, hcv'.out]; simp [toldO, askO]
        have Hcu := hidden hcu
        have Hva := hidden hva
        have Hto := hidden hto
        clear hcu hva hto
        go_wp2_with (first
          | (go_at_call 45; refine (disable_calls _ B cv bt (hRr.alloc _)).mono ?_; rintro e w1 ⟨rfl, hR1, hg1⟩; obtain ⟨hbw, hO1b, hO2b, c2, hsz⟩ := pack_opt hBr hRr hO1 hO2 hR1 hg1; clear hBr hO1 hO2 hRr c0 c1)
          | (go_at_call 49; refine (value_calls _ _).mono ?_; rintro e w8 ⟨rfl, rfl⟩)
          | (at_builtin; refine walk_app (v := u5) (base := B + 1) (vs := nums .u64 (valsO 0 (l.take k))) (ys := nums .u64 [(band cv (bnot bt))]) rfl (.tmp 42) (.tmp 45) rfl Try.underlying27 info_u64 rfl (by decide) rfl rfl (Own.alloc hO1b _) (Rd.new _ _ _ _ (by simp)) rfl (nums_one _ _) (by rw [World.size_alloc]; omega) (by rw [hl1]; show (k + 1) * 8 ≤ _; omega) ?_; intro v1 w2 hO3 hg2 hd2)
          | (at_builtin; refine walk_app (v := u6) (base := B + 1) (vs := bools (toldO 0 (l.take k))) (ys := bools [false]) rfl (.tmp 47) (.tmp 49) rfl Try.underlying28 info_bool rfl (by decide) rfl rfl (((Own.alloc hO2b _).kept hg2 hneb).alloc _) (Rd.new _ _ _ _ (by simp)) rfl (by intro u hu; obtain ⟨x, _, rfl⟩ := List.mem_map.1 hu; rfl) (by rw [World.size_alloc]; have := hg2.size; rw [World.size_alloc] at this; omega) (by rw [hl2]; show (k + 1) * 1 ≤ _; omega) ?_; intro v2 w3 hO4 hg3 hd3))
        go_roundw
        case measure => simp [intOf]; omega
        case rel =>
          obtain ⟨g1, g2, g3, g4, g5⟩ := opt_next hbw hR1 hO1b hO2b hne hO3 hg2 hd2 hO4 hg3 hd3
          rw [← Hcu.out] at g2
          rw [← nums_app, ← Hva.out] at g3
          rw [show bools (toldO 0 (l.take k)) ++ bools [false] = bools (toldO 0 (l.take k) ++ [false]) from (List.map_append ..).symm, ← Hto.out] at g4
          exact ⟨k + 1, by omega, by go_num, g1, g2, g3, g4, g5⟩
      by_cases h2 : kd = 2
      · subst h2
        have hcu : curO 0 (l.take (k + 1)) = 0 := by rw [Hsn.out]; unfold curO; rw [List.foldl_append]; rw [List.foldl_cons, List.foldl_nil]; rw [show List.foldl stepO 0 (l.take k) = cv from hcv'.out]; unfold stepO; simp
        have hva : valsO 0 (l.take (k + 1)) = valsO 0 (l.take k) ++ [0] := by rw [Hsn.out, valsO_app, hcv'.out]; simp [valsO, stepO]
        have hto : toldO 0 (l.take (k + 1)) = toldO 0 (l.take k) ++ [false] := by rw [Hsn.out, toldO_app, hcv'.out]; simp [toldO, askO]
        have Hcu := hidden hcu
        have Hva := hidden hva
        have Hto := hidden hto
        clear hcu hva hto
        go_wp2_with (first
          | (go_at_call 46; refine (clear_calls _ B cv (hRr.alloc _)).mono ?_; rintro e w1 ⟨rfl, hR1, hg1⟩; obtain ⟨hbw, hO1b, hO2b, c2, hsz⟩ := pack_opt hBr hRr hO1 hO2 hR1 hg1; clear hBr hO1 hO2 hRr c0 c1)
          | (go_at_call 49; refine (value_calls _ _).mono ?_; rintro e w8 ⟨rfl, rfl⟩)
          | (at_builtin; refine walk_app (v := u5) (base := B + 1) (vs := nums .u64 (valsO 0 (l.take k))) (ys := nums .u64 [0]) rfl (.tmp 42) (.tmp 45) rfl Try.underlying27 info_u64 rfl (by decide) rfl rfl (Own.alloc hO1b _) (Rd.new _ _ _ _ (by simp)) rfl (nums_one _ _) (by rw [World.size_alloc]; omega) (by rw [hl1]; show (k + 1) * 8 ≤ _; omega) ?_; intro v1 w2 hO3 hg2 hd2)
          | (at_builtin; refine walk_app (v := u6) (base := B + 1) (vs := bools (toldO 0 (l.take k))) (ys := bools [false]) rfl (.tmp 47) (.tmp 49) rfl Try.underlying28 info_bool rfl (by decide) rfl rfl (((Own.alloc hO2b _).kept hg2 hneb).alloc _) (Rd.new _ _ _ _ (by simp)) rfl (by intro u hu; obtain ⟨x, _, rfl⟩ := List.mem_map.1 hu; rfl) (by rw [World.size_alloc]; have := hg2.size; rw [World.size_alloc] at this; omega) (by rw [hl2]; show (k + 1) * 1 ≤ _; omega) ?_; intro v2 w3 hO4 hg3 hd3))
        go_roundw
        case measure => simp [intOf]; omega
        case rel =>
          obtain ⟨g1, g2, g3, g4, g5⟩ := opt_next hbw hR1 hO1b hO2b hne hO3 hg2 hd2 hO4 hg3 hd3
          rw [← Hcu.out] at g2
          rw [← nums_app, ← Hva.out] at g3
          rw [show bools (toldO 0 (l.take k)) ++ bools [false] = bools (toldO 0 (l.take k) ++ [false]) from (List.map_append ..).symm, ← Hto.out] at g4
          exact ⟨k + 1, by omega, by go_num, g1, g2, g3, g4, g5⟩
      by_cases h3 : kd = 3
      · subst h3
        have hcu : curO 0 (l.take (k + 1)) = bt := by rw [Hsn.out]; unfold curO; rw [List.foldl_append]; rw [List.foldl_cons, List.foldl_nil]; rw [show List.foldl stepO 0 (l.take k) = cv from hcv'.out]; unfold stepO; simp
        have hva : valsO 0 (l.take (k + 1)) = valsO 0 (l.take k) ++ [bt] := by rw [Hsn.out, valsO_app, hcv'.out]; simp [valsO, stepO]
        have hto : toldO 0 (l.take (k + 1)) = toldO 0 (l.take k) ++ [false] := by rw [Hsn.out, toldO_app, hcv'.out]; simp [toldO, askO]
        have Hcu := hidden hcu
        have Hva := hidden hva
        have Hto := hidden hto
        clear hcu hva hto
        go_wp2_with (first
          | (go_at_call 47; refine (setO_calls _ B cv bt (hRr.alloc _)).mono ?_; rintro e w1 ⟨rfl, hR1, hg1⟩; obtain ⟨hbw, hO1b, hO2b, c2, hsz⟩ := pack_opt hBr hRr hO1 hO2 hR1 hg1; clear hBr hO1 hO2 hRr c0 c1)
          | (go_at_call 49; refine (value_calls _ _).mono ?_; rintro e w8 ⟨rfl, rfl⟩)
          | (at_builtin; refine walk_app (v := u5) (base := B + 1) (vs := nums .u64 (valsO 0 (l.take k))) (ys := nums .u64 [bt]) rfl (.tmp 42) (.tmp 45) rfl Try.underlying27 info_u64 rfl (by decide) rfl rfl (Own.alloc hO1b _) (Rd.new _ _ _ _ (by simp)) rfl (nums_one _ _) (by rw [World.size_alloc]; omega) (by rw [hl1]; show (k + 1) * 8 ≤ _; omega) ?_; intro v1 w2 hO3 hg2 hd2)
          | (at_builtin; refine walk_app (v := u6) (base := B + 1) (vs := bools (toldO 0 (l.take k))) (ys := bools [false]) rfl (.tmp 47) (.tmp 49) rfl Try.underlying28 info_bool rfl (by decide) rfl rfl (((Own.alloc hO2b _).kept hg2 hneb).alloc _) (Rd.new _ _ _ _ (by simp)) rfl (by intro u hu; obtain ⟨x, _, rfl⟩ := List.mem_map.1 hu; rfl) (by rw [World.size_alloc]; have := hg2.size; rw [World.size_alloc] at this; omega) (by rw [hl2]; show (k + 1) * 1 ≤ _; omega) ?_; intro v2 w3 hO4 hg3 hd3))
        go_roundw
        case measure => simp [intOf]; omega
        case rel =>
          obtain ⟨g1, g2, g3, g4, g5⟩ := opt_next hbw hR1 hO1b hO2b hne hO3 hg2 hd2 hO4 hg3 hd3
          rw [← Hcu.out] at g2
          rw [← nums_app, ← Hva.out] at g3
          rw [show bools (toldO 0 (l.take k)) ++ bools [false] = bools (toldO 0 (l.take k) ++ [false]) from (List.map_append ..).symm, ← Hto.out] at g4
          exact ⟨k + 1, by omega, by go_num, g1, g2, g3, g4, g5⟩
      by_cases h4 : kd = 4
      · subst h4
        have hcu : curO 0 (l.take (k + 1)) = cv := by rw [Hsn.out]; unfold curO; rw [List.foldl_append]; rw [List.foldl_cons, List.foldl_nil]; rw [show List.foldl stepO 0 (l.take k) = cv from hcv'.out]; unfold stepO; simp
        have hva : valsO 0 (l.take (k + 1)) = valsO 0 (l.take k) ++ [cv] := by rw [Hsn.out, valsO_app, hcv'.out]; simp [valsO, stepO]
        have hto : toldO 0 (l.take (k + 1)) = toldO 0 (l.take k) ++ [(decide (band cv bt = bt))] := by rw [Hsn.out, toldO_app, hcv'.out]; simp [toldO, askO]
        have Hcu := hidden hcu
        have Hva := hidden hva
        have Hto := hidden hto
        clear hcu hva hto
        have hR1 := hRr.alloc (.cells #[.int .i64 4, .int .u64 bt] 26)
        obtain ⟨hbw, hO1b, hO2b, c2, hsz⟩ := pack_opt (o := .cells #[.int .i64 4, .int .u64 bt] 26) hBr hRr hO1 hO2 hR1 (World.grownBy.refl _ _)
        clear hBr hO1 hO2 hRr
        go_wp2_with (first
          | (go_at_call 48; refine (isEnabled_calls _ cv bt).mono ?_; rintro e w9 ⟨rfl, rfl⟩)
          | (go_at_call 49; refine (value_calls _ _).mono ?_; rintro e w8 ⟨rfl, rfl⟩)
          | (at_builtin; refine walk_app (v := u5) (base := B + 1) (vs := nums .u64 (valsO 0 (l.take k))) (ys := nums .u64 [cv]) rfl (.tmp 42) (.tmp 45) rfl Try.underlying27 info_u64 rfl (by decide) rfl rfl (Own.alloc hO1b _) (Rd.new _ _ _ _ (by simp)) rfl (nums_one _ _) (by rw [World.size_alloc]; omega) (by rw [hl1]; show (k + 1) * 8 ≤ _; omega) ?_; intro v1 w2 hO3 hg2 hd2)
          | (at_builtin; refine walk_app (v := u6) (base := B + 1) (vs := bools (toldO 0 (l.take k))) (ys := bools [(decide (band cv bt = bt))]) rfl (.tmp 47) (.tmp 49) rfl Try.underlying28 info_bool rfl (by decide) rfl rfl (((Own.alloc hO2b _).kept hg2 hneb).alloc _) (Rd.new _ _ _ _ (by simp)) rfl (by intro u hu; obtain ⟨x, _, rfl⟩ := List.mem_map.1 hu; rfl) (by rw [World.size_alloc]; have := hg2.size; rw [World.size_alloc] at this; omega) (by rw [hl2]; show (k + 1) * 1 ≤ _; omega) ?_; intro v2 w3 hO4 hg3 hd3))
        go_roundw
        case measure => simp [intOf]; omega
        case rel =>
          obtain ⟨g1, g2, g3, g4, g5⟩ := opt_next hbw hR1 hO1b hO2b hne hO3 hg2 hd2 hO4 hg3 hd3
          rw [← Hcu.out] at g2
          rw [← nums_app, ← Hva.out] at g3
          rw [show bools (toldO 0 (l.take k)) ++ bools [(decide (band cv bt = bt))] = bools (toldO 0 (l.take k) ++ [(decide (band cv bt = bt))]) from (List.map_append ..).symm, ← Hto.out] at g4
          exact ⟨k + 1, by omega, by go_num, g1, g2, g3, g4, g5⟩
      · skip
        have hcu : curO 0 (l.take (k + 1)) = cv := by rw [Hsn.out]; unfold curO; rw [List.foldl_append]; rw [List.foldl_cons, List.foldl_nil]; rw [show List.foldl stepO 0 (l.take k) = cv from hcv'.out]; unfold stepO; simp [h0, h1, h2, h3, h4]
        have hva : valsO 0 (l.take (k + 1)) = valsO 0 (l.take k) ++ [cv] := by rw [Hsn.out, valsO_app, hcv'.out]; simp [valsO, stepO, h0, h1, h2, h3, h4]
        have hto : toldO 0 (l.take (k + 1)) = toldO 0 (l.take k) ++ [false] := by rw [Hsn.out, toldO_app, hcv'.out]; simp [toldO, askO, h0, h1, h2, h3, h4]
        have Hcu := hidden hcu
        have Hva := hidden hva
        have Hto := hidden hto
        clear hcu hva hto
        have hR1 := hRr.alloc (.cells #[.int .i64 kd, .int .u64 bt] 26)
        obtain ⟨hbw, hO1b, hO2b, c2, hsz⟩ := pack_opt (o := .cells #[.int .i64 kd, .int .u64 bt] 26) hBr hRr hO1 hO2 hR1 (World.grownBy.refl _ _)
        clear hBr hO1 hO2 hRr
        go_wp2_with (first
          | (go_at_call 49; refine (value_calls _ _).mono ?_; rintro e w8 ⟨rfl, rfl⟩)
          | (at_builtin; refine walk_app (v := u5) (base := B + 1) (vs := nums .u64 (valsO 0 (l.take k))) (ys := nums .u64 [cv]) rfl (.tmp 42) (.tmp 45) rfl Try.underlying27 info_u64 rfl (by decide) rfl rfl (Own.alloc hO1b _) (Rd.new _ _ _ _ (by simp)) rfl (nums_one _ _) (by rw [World.size_alloc]; omega) (by rw [hl1]; show (k + 1) * 8 ≤ _; omega) ?_; intro v1 w2 hO3 hg2 hd2)
          | (at_builtin; refine walk_app (v := u6) (base := B + 1) (vs := bools (toldO 0 (l.take k))) (ys := bools [false]) rfl (.tmp 47) (.tmp 49) rfl Try.underlying28 info_bool rfl (by decide) rfl rfl (((Own.alloc hO2b _).kept hg2 hneb).alloc _) (Rd.new _ _ _ _ (by simp)) rfl (by intro u hu; obtain ⟨x, _, rfl⟩ := List.mem_map.1 hu; rfl) (by rw [World.size_alloc]; have := hg2.size; rw [World.size_alloc] at this; omega) (by rw [hl2]; show (k + 1) * 1 ≤ _; omega) ?_; intro v2 w3 hO4 hg3 hd3))
        go_roundw
        case measure => simp [intOf]; omega
        case rel =>
          obtain ⟨g1, g2, g3, g4, g5⟩ := opt_next hbw hR1 hO1b hO2b hne hO3 hg2 hd2 hO4 hg3 hd3
          rw [← Hcu.out] at g2
          rw [← nums_app, ← Hva.out] at g3
          rw [show bools (toldO 0 (l.take k)) ++ bools [false] = bools (toldO 0 (l.take k) ++ [false]) from (List.map_append ..).symm, ← Hto.out] at g4
          exact ⟨k + 1, by omega, by go_num, g1, g2, g3, g4, g5⟩
    · obtain rfl : k = n := by omega
      clear hne
      go_wp2
      go_ret2
      rw [List.take_of_length_le (by omega)] at hO1 hO2
      exact ⟨_, _, rfl, (hO1.lower (by rw [hBB.out]; omega)), (hO2.lower (by rw [hBB.out]; omega)), by rw [hBB.out]; exact hBr⟩
end Go.Proofs.Yticgdbcnknhndaa
