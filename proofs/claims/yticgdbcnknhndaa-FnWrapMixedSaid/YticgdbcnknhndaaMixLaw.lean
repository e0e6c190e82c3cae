/- The walk of the law FnWrapMixed: the block cipher is the reference's, and its inverse. -/
import Derived.Test.YticgdbcnknhndaaWrapL
import Derived.Test.YticgdbcnknhndaaFlowG
import Derived.Stop.BytesEq
namespace Go.Proofs.Yticgdbcnknhndaa
open Go.RowKit
open WrapPlain (xr xr8 num8 b8)
set_option linter.unusedVariables false
set_option linter.unusedSimpArgs false

theorem sizeOf_u8 (w : World) : (sizeOf 5).run Try.prog w = .ok 1 w := by
  obtain ⟨i0, hi, hs⟩ := Option.map_eq_some_iff.1 size_u8
  simp [sizeOf, typeInfo, hi, hs]
theorem eql_blk (l : List Int) (hl : l.length = 16) (hb : IsB l) (w : World) : (binOp .eql 53 (blk l) (blk l)).run Try.prog w = .ok (.bool true) w := by
  have hc : (l.map fun x => UInt8.ofNat x.toNat).map Extern.Stop.cell = nums .u8 l := by
    rw [List.map_map]
    refine List.map_congr_left fun x hx => ?_
    have := hb x hx
    show Value.int .u8 ((UInt8.ofNat x.toNat).toNat : Int) = Value.int .u8 x
    rw [UInt8.toNat_ofNat']
    congr 1
    omega
  have h := run_eql_bytes (P := Try.prog) w 53 5 16 Try.underlying53 Try.underlying5 sizeOf_u8 (l.map fun x => UInt8.ofNat x.toNat) (l.map fun x => UInt8.ofNat x.toNat) (by rw [List.length_map, hl]) (by rw [List.length_map, hl])
  rw [hc] at h
  rw [show blk l = .agg (nums .u8 l).toArray from rfl, h]
  simp
theorem guard_blk (x y : Operand) (l m : List Int) (w : World) : (eqGuard .eql 53 x y (blk l) (blk m)).run Try.prog w = .ok () w := by
  have hg : Try.prog.eqGuardType Try.prog.depth 53 = false := by kernel_rfl
  unfold eqGuard blk
  simp [hg]
theorem unmix_mixL (seed : Int) (l : List Int) (hl : l.length = 16) (hb : IsB l) : unmixL seed (mixL seed l) = l := by
  have ha : WrapPlain.IsW (l.take 8) := ⟨by rw [List.length_take]; omega, fun x hx => hb x (List.mem_of_mem_take hx)⟩
  have hx : WrapPlain.IsW (l.drop 8) := ⟨by rw [List.length_drop]; omega, fun x hx => hb x (List.mem_of_mem_drop hx)⟩
  have e : l = l.take 8 ++ l.drop 8 := (List.take_append_drop 8 l).symm
  have hE := (mixC seed).E_ok _ _ ha hx
  conv => lhs; rw [e, mixL_E seed _ _ ha hx, unmixL_D seed _ _ hE.1 hE.2, (mixC seed).DE _ _ ha hx]
  exact e.symm
theorem mixL_isB (seed : Int) (l : List Int) : IsB (mixL seed l) := by
  intro x hx
  rcases List.mem_append.1 hx with h | h
  · exact WrapPlain.b8_isB _ x h
  · exact WrapPlain.b8_isB _ x h
theorem unmixL_isB (seed : Int) (l : List Int) : IsB (unmixL seed l) := by
  intro x hx
  rcases List.mem_append.1 hx with h | h
  · exact WrapPlain.b8_isB _ x h
  · exact WrapPlain.b8_isB _ x h
theorem set_isB {l : List Int} (hb : IsB l) (i : Nat) {v : Int} (hv : 0 ≤ v ∧ v < 256) : IsB (l.set i v) := by
  intro x hx
  rcases List.mem_or_eq_of_mem_set hx with h | rfl
  · exact hb x h
  · exact hv
set_option maxRecDepth 100000 in
set_option maxHeartbeats 2000000 in
theorem mixed_walk (seed a b : Int) (w : World) (ws : (Lit.int .u64 seed).wf = true) (wa : (Lit.int .u64 a).wf = true) (wb : (Lit.int .u64 b).wf = true) :
    Calls Try.prog 9 #[.int .u64 seed, .int .u64 a, .int .u64 b] w fun e w' => e = .returned (.bool true) ∧ Below w.heap.size w w' := by
  clear ws wa wb
  go_enter Try.func9, Try.ntmps9
  go_wp2
  refine wpAbs (fun W => Below w.heap.size w W ∧ Row W w.heap.size 53 (nums .u8 (List.replicate 16 0))) ⟨below_alloc0 w _, Row.new w _ (nums .u8 (List.replicate 16 0))⟩ ?_
  rintro W ⟨hB, hR⟩
  generalize hbb : w.heap.size = B at *
  have hBB := hidden hbb
  clear hbb
  go_loopw [8] (fun i wr => ∃ k : Nat, k ≤ 8 ∧ i = .int .i64 k ∧ Below B w wr ∧ ∃ o, o.length = 16 ∧ Hid (IsB o) ∧ Row wr B 53 (nums .u8 o)) (fun i _ => 8 - (intOf i).toNat)
  case atStart => exact ⟨0, by omega, rfl, hB, _, by simp, hidden (by intro x hx; rw [List.eq_of_mem_replicate hx]; omega), hR⟩
  case round =>
    obtain ⟨k, hk, rfl, hBr, o, ho, hob, hRr⟩ := hrel
    clear hB hR
    by_cases hlt : k < 8
    · have c1 := hRr.icell k (by omega)
      have c2 := hRr.icell (8 + k) (by omega)
      have f1 := Row.free hRr k
      have f2 := Row.free hRr (8 + k)
      have ho' := hidden ho
      have HR := hidden hRr
      clear ho hRr
      go_wp2
      go_region
      go_wp2
      go_roundw
      case rel => exact ⟨k + 1, by omega, by go_num, ((hBr.setCell (by simp) _).setCell (by simp) _).drew, _, by rw [List.length_set, List.length_set]; exact ho'.out, hidden (set_isB (set_isB hob.out _ ⟨by omega, by omega⟩) _ ⟨by omega, by omega⟩), ((HR.out.iset k _).iset (8 + k) _).drew⟩
      case measure => simp [intOf]; omega
    · obtain rfl : k = 8 := by omega
      have hol := hidden ho
      have hbB : w.heap.size ≤ B := Nat.le_of_eq hBB.out
      clear ho
      go_wp2_with (first
        | (with_reducible refine at_dst 30 ?_; go_must (refine walk_load_row rfl 53 (.tmp 7) rfl hRr rfl Try.underlying53 rfl (by rw [nums_len, hol.out]; exact size_arr16) ?_))
        | (go_at_call 33; go_must (refine (mixed_calls seed o hol.out hob.out _).mono ?_; rintro e w1 ⟨rfl, hB1⟩))
        | (refine walk_store_row rfl 53 (.tmp 9) (.tmp 31) rfl (Row.new w1 53 (nums .u8 (List.replicate 16 0))) rfl rfl (by rw [nums_len, mixL_len]; exact size_arr16) (by rw [nums_len, nums_len, mixL_len]; simp) (nums_one _ _) ?_; intro w2 hRy hg2))
      have hlt1 := hRr.lt
      have hs1 := hB1.size
      have hRx : Row w2 B 53 (nums .u8 o) := ((hRr.below hB1 hlt1).alloc _).grown hg2 (by simp; omega)
      have hB2 : Below B w w2 := ((hBr.trans (hB1.mono (Nat.le_of_lt hlt1))).alloc (by omega) _).grown hg2 (by simp; omega) (by rintro q hq; cases hq; omega)
      have hs2 : B ≤ w2.heap.size := by have := hg2.size; simp at this; omega
      have hyl : Hid ((mixL seed o).length = 16) := hidden (mixL_len seed o)
      have hyb : Hid (IsB (mixL seed o)) := hidden (mixL_isB seed o)
      have hul : Hid ((unmixL seed o).length = 16) := hidden (unmixL_len seed o)
      have hub : Hid (IsB (unmixL seed o)) := hidden (unmixL_isB seed o)
      have hback : Hid (unmixL seed (mixL seed o) = o) := hidden (unmix_mixL seed o hol.out hob.out)
      generalize w1.heap.size = Y at *
      clear hBr hRr hB1 hg2 hlt1 hs1
      go_wp2
      have hD : dOk [(0, 32), (1, 33), (2, 34), (3, 35), (4, 36), (5, 37), (6, 38), (7, 39), (8, 40), (9, 41), (10, 42), (11, 43), (12, 44), (13, 45), (14, 46), (15, 47), (16, 48), (17, 49), (18, 50), (19, 51), (20, 52), (21, 53), (22, 54), (23, 55), (24, 6)] 56 = true := by kernel_rfl
      refine reg_flow [(0, 32), (1, 33), (2, 34), (3, 35), (4, 36), (5, 37), (6, 38), (7, 39), (8, 40), (9, 41), (10, 42), (11, 43), (12, 44), (13, 45), (14, 46), (15, 47), (16, 48), (17, 49), (18, 50), (19, 51), (20, 52), (21, 53), (22, 54), (23, 55), (24, 6)] (by kernel_rfl) (by kernel_rfl) hD (by kernel_rfl) (by kernel_rfl)
        (fun j x w1 => match j with
        | 0 => x = blk (mixL seed o)
        | 1 => x = .int .u64 seed
        | 2 => x = blk o
        | 3 => x = blk (mixL seed o)
        | 4 => x = .bool true
        | 5 => x = .bool true
        | 6 => x = .int .u64 seed
        | 7 => x = blk (mixL seed o)
        | 8 => x = blk o
        | 9 => x = blk o
        | 10 => x = .bool true
        | 11 => x = .bool true
        | 12 => x = .bool true
        | 13 => x = .int .u64 seed
        | 14 => x = blk o
        | 15 => x = blk (unmixL seed o)
        | 16 => x = .int .u64 seed
        | 17 => x = blk o
        | 18 => x = blk (unmixL seed o)
        | 19 => x = .bool true
        | 20 => x = .bool true
        | 21 => x = .bool true
        | 22 => x = .bool true
        | 23 => x = .bool true
        | 24 => x = .bool true
        | _ => True)
        (fun b v w1 => Below w2.heap.size w2 w1)
        (fun w1 w2 => True) ?_ ?_ ?_ ?_
      · intro j x w1 w2 hR h
        exact h
      · intro v
        exact (Below.refl _ _).drew
      · intro i hi
        match i, hi with
        | 0, _ => exact flow_pure hD (fun _ => trivial) (.load 53 (.tmp 9)) 53 rfl fun b v w1 ρ h => ⟨_, opRun_load_row (hRy.below h.glob hRy.lt) (h.off 9 (by kernel_rfl)) Try.underlying53 rfl (by rw [nums_len, hyl.out]; exact size_arr16), rfl, h.glob⟩
        | 1, _ => exact flow_pure hD (fun _ => trivial) (.move (.tmp 0)) 24 rfl fun b v w1 ρ h => ⟨_, by
            have e := h.off 0 (by kernel_rfl)
            unfold opRun
            go_simp, rfl, h.glob⟩
        | 2, _ => exact flow_pure hD (fun _ => trivial) (.load 53 (.tmp 7)) 53 rfl fun b v w1 ρ h => ⟨_, opRun_load_row (hRx.below h.glob hRx.lt) (h.off 7 (by kernel_rfl)) Try.underlying53 rfl (by rw [nums_len, hol.out]; exact size_arr16), rfl, h.glob⟩
        | 3, _ =>
            exact flow_call hD (.call { callee := .value (.func 34), args := #[.tmp 33, .tmp 34], argTypes := #[24, 53] }) 53 rfl 34 fun b v w1 ρ h => by
              have e1 := ((h.on 1 33 (by kernel_rfl) (h.dep 1 (by kernel_rfl))).trans (h.have_ 1 (by kernel_rfl)))
              have e2 := ((h.on 2 34 (by kernel_rfl) (h.dep 2 (by kernel_rfl))).trans (h.have_ 2 (by kernel_rfl)))
              have ea : (#[.tmp 33, .tmp 34] : Array Operand).map ρ = #[.int .u64 seed, blk (o)] := by simp only [List.map_toArray, List.map_cons, List.map_nil, e1, e2]
              refine ⟨_, opRun_call (h.fn _) (by rw [ea]; exact Try.call34 _ _), ?_⟩
              rw [ea]
              refine (wrapMixed_calls seed (o) hol.out hob.out w1).mono ?_
              rintro e w2 ⟨rfl, hB2⟩
              exact ⟨_, rfl, rfl, trivial, below_next h.glob hB2⟩
        | 4, _ => exact flow_pure hD (fun _ => trivial) (.binOp .eql 53 (.tmp 32) (.tmp 35) 53) 4 rfl fun b v w1 ρ h => ⟨_, by
            have e1 := ((h.on 0 32 (by kernel_rfl) (h.dep 0 (by kernel_rfl))).trans (h.have_ 0 (by kernel_rfl)))
            have e2 := ((h.on 3 35 (by kernel_rfl) (h.dep 3 (by kernel_rfl))).trans (h.have_ 3 (by kernel_rfl)))
            have hq := eql_blk (mixL seed o) hyl.out hyb.out w1
            unfold opRun execOp
            simp only [e1, e2, guard_blk, hq, Sem.run_bind, Sem.run_pure, Result.andThen_ok], rfl, h.glob⟩
        | 5, _ => exact flow_pure hD (fun _ => trivial) (.move (.tmp 36)) 4 rfl fun b v w1 ρ h => ⟨_, by
            have e1 := ((h.on 4 36 (by kernel_rfl) (h.dep 4 (by kernel_rfl))).trans (h.have_ 4 (by kernel_rfl)))
            unfold opRun
            go_simp, rfl, h.glob⟩
        | 6, _ => exact flow_pure_g hD (fun _ => trivial) (.move (.tmp 0)) 24 5 37 true rfl (by kernel_rfl) rfl (by kernel_rfl) (fun x w h => h) fun b v w1 ρ h => ⟨_, by
            have e := h.off 0 (by kernel_rfl)
            unfold opRun
            go_simp, rfl, h.glob⟩
        | 7, _ => exact flow_pure_g hD (fun _ => trivial) (.load 53 (.tmp 9)) 53 5 37 true rfl (by kernel_rfl) rfl (by kernel_rfl) (fun x w h => h) fun b v w1 ρ h => ⟨_, opRun_load_row (hRy.below h.glob hRy.lt) (h.off 9 (by kernel_rfl)) Try.underlying53 rfl (by rw [nums_len, hyl.out]; exact size_arr16), rfl, h.glob⟩
        | 8, _ =>
            exact flow_call_g hD (.call { callee := .value (.func 35), args := #[.tmp 38, .tmp 39], argTypes := #[24, 53] }) 53 5 37 true rfl (by kernel_rfl) rfl (by kernel_rfl) (fun x w h => h) 35 fun b v w1 ρ h => by
              have e1 := ((h.on 6 38 (by kernel_rfl) (h.dep 6 (by kernel_rfl))).trans (h.have_ 6 (by kernel_rfl)))
              have e2 := ((h.on 7 39 (by kernel_rfl) (h.dep 7 (by kernel_rfl))).trans (h.have_ 7 (by kernel_rfl)))
              have ea : (#[.tmp 38, .tmp 39] : Array Operand).map ρ = #[.int .u64 seed, blk (mixL seed o)] := by simp only [List.map_toArray, List.map_cons, List.map_nil, e1, e2]
              refine ⟨_, opRun_call (h.fn _) (by rw [ea]; exact Try.call35 _ _), ?_⟩
              rw [ea]
              refine (mixedBack_calls seed (mixL seed o) hyl.out hyb.out w1).mono ?_
              rintro e w2 ⟨rfl, hB2⟩
              exact ⟨_, rfl, congrArg blk hback.out, trivial, below_next h.glob hB2⟩
        | 9, _ => exact flow_pure_g hD (fun _ => trivial) (.load 53 (.tmp 7)) 53 5 37 true rfl (by kernel_rfl) rfl (by kernel_rfl) (fun x w h => h) fun b v w1 ρ h => ⟨_, opRun_load_row (hRx.below h.glob hRx.lt) (h.off 7 (by kernel_rfl)) Try.underlying53 rfl (by rw [nums_len, hol.out]; exact size_arr16), rfl, h.glob⟩
        | 10, _ => exact flow_pure_g hD (fun _ => trivial) (.binOp .eql 53 (.tmp 40) (.tmp 41) 53) 4 5 37 true rfl (by kernel_rfl) rfl (by kernel_rfl) (fun x w h => h) fun b v w1 ρ h => ⟨_, by
            have e1 := ((h.on 8 40 (by kernel_rfl) (h.dep 8 (by kernel_rfl))).trans (h.have_ 8 (by kernel_rfl)))
            have e2 := ((h.on 9 41 (by kernel_rfl) (h.dep 9 (by kernel_rfl))).trans (h.have_ 9 (by kernel_rfl)))
            have hq := eql_blk (o) hol.out hob.out w1
            unfold opRun execOp
            simp only [e1, e2, guard_blk, hq, Sem.run_bind, Sem.run_pure, Result.andThen_ok], rfl, h.glob⟩
        | 11, _ => exact flow_pure hD (fun _ => trivial) (.pick (.tmp 37) (.tmp 42) (.const (.bool false))) 4 rfl fun b v w1 ρ h => ⟨_, by
            have e1 := ((h.on 5 37 (by kernel_rfl) (h.dep 5 (by kernel_rfl))).trans (h.have_ 5 (by kernel_rfl)))
            have e2 := ((h.on 10 42 (by kernel_rfl) (h.dep 10 (by kernel_rfl))).trans (h.have_ 10 (by kernel_rfl)))
            unfold opRun
            go_simp, rfl, h.glob⟩
        | 12, _ => exact flow_pure hD (fun _ => trivial) (.move (.tmp 43)) 4 rfl fun b v w1 ρ h => ⟨_, by
            have e1 := ((h.on 11 43 (by kernel_rfl) (h.dep 11 (by kernel_rfl))).trans (h.have_ 11 (by kernel_rfl)))
            unfold opRun
            go_simp, rfl, h.glob⟩
        | 13, _ => exact flow_pure_g hD (fun _ => trivial) (.move (.tmp 0)) 24 12 44 true rfl (by kernel_rfl) rfl (by kernel_rfl) (fun x w h => h) fun b v w1 ρ h => ⟨_, by
            have e := h.off 0 (by kernel_rfl)
            unfold opRun
            go_simp, rfl, h.glob⟩
        | 14, _ => exact flow_pure_g hD (fun _ => trivial) (.load 53 (.tmp 7)) 53 12 44 true rfl (by kernel_rfl) rfl (by kernel_rfl) (fun x w h => h) fun b v w1 ρ h => ⟨_, opRun_load_row (hRx.below h.glob hRx.lt) (h.off 7 (by kernel_rfl)) Try.underlying53 rfl (by rw [nums_len, hol.out]; exact size_arr16), rfl, h.glob⟩
        | 15, _ =>
            exact flow_call_g hD (.call { callee := .value (.func 35), args := #[.tmp 45, .tmp 46], argTypes := #[24, 53] }) 53 12 44 true rfl (by kernel_rfl) rfl (by kernel_rfl) (fun x w h => h) 35 fun b v w1 ρ h => by
              have e1 := ((h.on 13 45 (by kernel_rfl) (h.dep 13 (by kernel_rfl))).trans (h.have_ 13 (by kernel_rfl)))
              have e2 := ((h.on 14 46 (by kernel_rfl) (h.dep 14 (by kernel_rfl))).trans (h.have_ 14 (by kernel_rfl)))
              have ea : (#[.tmp 45, .tmp 46] : Array Operand).map ρ = #[.int .u64 seed, blk (o)] := by simp only [List.map_toArray, List.map_cons, List.map_nil, e1, e2]
              refine ⟨_, opRun_call (h.fn _) (by rw [ea]; exact Try.call35 _ _), ?_⟩
              rw [ea]
              refine (mixedBack_calls seed (o) hol.out hob.out w1).mono ?_
              rintro e w2 ⟨rfl, hB2⟩
              exact ⟨_, rfl, rfl, trivial, below_next h.glob hB2⟩
        | 16, _ => exact flow_pure_g hD (fun _ => trivial) (.move (.tmp 0)) 24 12 44 true rfl (by kernel_rfl) rfl (by kernel_rfl) (fun x w h => h) fun b v w1 ρ h => ⟨_, by
            have e := h.off 0 (by kernel_rfl)
            unfold opRun
            go_simp, rfl, h.glob⟩
        | 17, _ => exact flow_pure_g hD (fun _ => trivial) (.load 53 (.tmp 7)) 53 12 44 true rfl (by kernel_rfl) rfl (by kernel_rfl) (fun x w h => h) fun b v w1 ρ h => ⟨_, opRun_load_row (hRx.below h.glob hRx.lt) (h.off 7 (by kernel_rfl)) Try.underlying53 rfl (by rw [nums_len, hol.out]; exact size_arr16), rfl, h.glob⟩
        | 18, _ =>
            exact flow_call_g hD (.call { callee := .value (.func 36), args := #[.tmp 48, .tmp 49], argTypes := #[24, 53] }) 53 12 44 true rfl (by kernel_rfl) rfl (by kernel_rfl) (fun x w h => h) 36 fun b v w1 ρ h => by
              have e1 := ((h.on 16 48 (by kernel_rfl) (h.dep 16 (by kernel_rfl))).trans (h.have_ 16 (by kernel_rfl)))
              have e2 := ((h.on 17 49 (by kernel_rfl) (h.dep 17 (by kernel_rfl))).trans (h.have_ 17 (by kernel_rfl)))
              have ea : (#[.tmp 48, .tmp 49] : Array Operand).map ρ = #[.int .u64 seed, blk (o)] := by simp only [List.map_toArray, List.map_cons, List.map_nil, e1, e2]
              refine ⟨_, opRun_call (h.fn _) (by rw [ea]; exact Try.call36 _ _), ?_⟩
              rw [ea]
              refine (wrapMixedBack_calls seed (o) hol.out hob.out w1).mono ?_
              rintro e w2 ⟨rfl, hB2⟩
              exact ⟨_, rfl, rfl, trivial, below_next h.glob hB2⟩
        | 19, _ => exact flow_pure_g hD (fun _ => trivial) (.binOp .eql 53 (.tmp 47) (.tmp 50) 53) 4 12 44 true rfl (by kernel_rfl) rfl (by kernel_rfl) (fun x w h => h) fun b v w1 ρ h => ⟨_, by
            have e1 := ((h.on 15 47 (by kernel_rfl) (h.dep 15 (by kernel_rfl))).trans (h.have_ 15 (by kernel_rfl)))
            have e2 := ((h.on 18 50 (by kernel_rfl) (h.dep 18 (by kernel_rfl))).trans (h.have_ 18 (by kernel_rfl)))
            have hq := eql_blk (unmixL seed o) hul.out hub.out w1
            unfold opRun execOp
            simp only [e1, e2, guard_blk, hq, Sem.run_bind, Sem.run_pure, Result.andThen_ok], rfl, h.glob⟩
        | 20, _ => exact flow_pure hD (fun _ => trivial) (.pick (.tmp 44) (.tmp 51) (.const (.bool false))) 4 rfl fun b v w1 ρ h => ⟨_, by
            have e1 := ((h.on 12 44 (by kernel_rfl) (h.dep 12 (by kernel_rfl))).trans (h.have_ 12 (by kernel_rfl)))
            have e2 := ((h.on 19 51 (by kernel_rfl) (h.dep 19 (by kernel_rfl))).trans (h.have_ 19 (by kernel_rfl)))
            unfold opRun
            go_simp, rfl, h.glob⟩
        | 21, _ => exact flow_pure hD (fun _ => trivial) (.move (.tmp 52)) 4 rfl fun b v w1 ρ h => ⟨_, by
            have e1 := ((h.on 20 52 (by kernel_rfl) (h.dep 20 (by kernel_rfl))).trans (h.have_ 20 (by kernel_rfl)))
            unfold opRun
            go_simp, rfl, h.glob⟩
        | 22, _ =>
            exact flow_call_g hD (.call { callee := .value (.func 30), args := #[], argTypes := #[] }) 4 21 53 true rfl (by kernel_rfl) rfl (by kernel_rfl) (fun x w h => h) 30 fun b v w1 ρ h => by
              refine ⟨_, opRun_call (h.fn _) (Try.call30 _ _), ?_⟩
              rw [show (#[] : Array Operand).map ρ = #[] by simp]
              refine (wrapAwake_calls w1).mono ?_
              rintro e w2 ⟨rfl, hB2⟩
              exact ⟨_, rfl, rfl, trivial, below_next h.glob hB2⟩
        | 23, _ => exact flow_pure hD (fun _ => trivial) (.pick (.tmp 53) (.tmp 54) (.const (.bool false))) 4 rfl fun b v w1 ρ h => ⟨_, by
            have e1 := ((h.on 21 53 (by kernel_rfl) (h.dep 21 (by kernel_rfl))).trans (h.have_ 21 (by kernel_rfl)))
            have e2 := ((h.on 22 54 (by kernel_rfl) (h.dep 22 (by kernel_rfl))).trans (h.have_ 22 (by kernel_rfl)))
            unfold opRun
            go_simp, rfl, h.glob⟩
        | 24, _ => exact flow_pure hD (fun _ => trivial) (.assign (.tmp 55)) 4 rfl fun b v w1 ρ h => ⟨_, by
            have e1 := ((h.on 23 55 (by kernel_rfl) (h.dep 23 (by kernel_rfl))).trans (h.have_ 23 (by kernel_rfl)))
            unfold opRun
            go_simp, rfl, h.glob⟩
        | n + 25, h => exact absurd h (by show ¬ n + 25 < 25; omega)
      · intro b v w1 hall hF hG
        have f0 : v 0 = blk (mixL seed o) := hF 0 (by decide)
        have f1 : v 1 = .int .u64 seed := hF 1 (by decide)
        have f2 : v 2 = blk o := hF 2 (by decide)
        have f3 : v 3 = blk (mixL seed o) := hF 3 (by decide)
        have f4 : v 4 = .bool true := hF 4 (by decide)
        have f5 : v 5 = .bool true := hF 5 (by decide)
        have f6 : v 6 = .int .u64 seed := hF 6 (by decide)
        have f7 : v 7 = blk (mixL seed o) := hF 7 (by decide)
        have f8 : v 8 = blk o := hF 8 (by decide)
        have f9 : v 9 = blk o := hF 9 (by decide)
        have f10 : v 10 = .bool true := hF 10 (by decide)
        have f11 : v 11 = .bool true := hF 11 (by decide)
        have f12 : v 12 = .bool true := hF 12 (by decide)
        have f13 : v 13 = .int .u64 seed := hF 13 (by decide)
        have f14 : v 14 = blk o := hF 14 (by decide)
        have f15 : v 15 = blk (unmixL seed o) := hF 15 (by decide)
        have f16 : v 16 = .int .u64 seed := hF 16 (by decide)
        have f17 : v 17 = blk o := hF 17 (by decide)
        have f18 : v 18 = blk (unmixL seed o) := hF 18 (by decide)
        have f19 : v 19 = .bool true := hF 19 (by decide)
        have f20 : v 20 = .bool true := hF 20 (by decide)
        have f21 : v 21 = .bool true := hF 21 (by decide)
        have f22 : v 22 = .bool true := hF 22 (by decide)
        have f23 : v 23 = .bool true := hF 23 (by decide)
        have f24 : v 24 = .bool true := hF 24 (by decide)
        simp only [fr, if_true, f0, f1, f2, f3, f4, f5, f6, f7, f8, f9, f10, f11, f12, f13, f14, f15, f16, f17, f18, f19, f20, f21, f22, f23, f24, Act.put, List.setIfInBounds_toArray, List.set_cons_zero, List.set_cons_succ]
        clear hF hall f0 f1 f2 f3 f4 f5 f6 f7 f8 f9 f10 f11 f12 f13 f14 f15 f16 f17 f18 f19 f20 f21 f22 f23 f24 v b
        go_wp2
        go_ret
        exact ⟨rfl, by rw [hBB.out]; exact hB2.trans (hG.mono hs2)⟩
end Go.Proofs.Yticgdbcnknhndaa
