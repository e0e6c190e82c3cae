/- laws.FnHeadTexts: the walk where all is asked. -/
import Derived.Test.YtbdmdajbdmdknaaDoorM15
namespace Go.Proofs.YtbdmdajbdmdknaaDoor
open Go.RowKit
set_option linter.unusedVariables false
set_option linter.unusedSimpArgs false

set_option maxRecDepth 100000 in
set_option maxHeartbeats 8000000 in
theorem texts_main (A : Option Addr) (n c : Nat) (l : List FM) (x0 : Nat) (s : ByteArray) (w : World) (hm : FMs w A l) (hn : l.length = n) (hb : n ≤ 9223372036854775807) (hs : s.size ≤ 200 ∧ Lib.validD s.data.toList = true) (hT : Tabs w) (hSY : SynAt w) :
    Calls Tryd.prog 5 #[.slice A n c, .int .u64 (x0 : Int), .string s] w (TB w) := by
  have HSY := hidden hSY
  have HT := hidden hT
  have HV := hidden (fun W h => valid_calls s W (by omega) h)
  rw [hs.2] at HV
  have K9 := hidden (fits9E A n c l w hm hn hb)
  have KF := hidden (fun W (h : Below w.heap.size w W) => headFitsE A n c l W (hm.below h) hn (hT.next h))
  have HM := hidden (And.intro hm hn)
  have h1i : ¬ (2147483647 : Int) < (s.size : Int) := by have := hs.1; omega
  have h2i : ¬ (200 : Int) < (s.size : Int) := by have := hs.1; omega
  have hcv : ∀ (W : World) (t : ByteArray), (convert 9 32 (.string t)).run Tryd.prog W = .ok (.slice (some ⟨W.heap.size, 0, none⟩) t.size (grownCap W t.size 0 5)) (Go.Lib.bytesWorld W 5 t) := fun W t => Go.Lib.run_convert_string_bytes (P := Tryd.prog) W 9 32 5 t Tryd.underlying9 Tryd.underlying32 Tryd.underlying5
  clear hm hn hb hs hT hSY
  go_enter Tryd.func5, Tryd.ntmps5
  go_upto_region 5 with (first
    | (go_at_call 7; go_must (refine K9.out.mono ?_; rintro e w1 ⟨r, rfl, hB⟩; have HB1 := hidden hB; clear hB; cases r))
    | (go_at_call 8; go_must (refine (KF.out w1 HB1.out).mono ?_; rintro e w2 ⟨r, rfl, hf, hB⟩; have HB2 := hidden (below_next HB1.out hB); have HF2 := hidden hf; clear hB hf; cases r))
    | (go_at_call 9; go_must (refine (HV.out w2 (HT.out.next HB2.out)).mono ?_; rintro e w4 ⟨rfl, hB⟩; have HB4 := hidden (below_next HB2.out hB); clear hB))
    | (go_at_call 10; go_must (refine (headLive_calls w2 (HSY.out.next HB2.out)).mono ?_; rintro e w3 ⟨rfl, hB⟩; have HB3 := hidden (below_next HB2.out hB); clear hB)))
  any_goals (first
    | (go_ret; exact ⟨rfl, HB3.out⟩)
    | (go_ret; exact ⟨rfl, HB1.out⟩))
  have HAF : Hid (AllFit l) := hidden (by have h9 : AllFit l ∧ l.length ≤ 30 := (by simpa using HF2.out); exact h9.1)
  have hn30 : n ≤ 31 := by have := HAF.out.len; have := HM.out.2; omega
  have KT := hidden (headText_calls A n c l x0 w4 (HM.out.1.below HB4.out) HM.out.2 hn30 (fun f hf => (HAF.out.fit f hf).fit))
  clear HF2 K9 KF HV
  go_upto_region 6 with (go_at_call 12; go_must (refine KT.out.mono ?_; rintro e w5 ⟨T, rfl, hTx, hB⟩; have HTX := hidden hTx; have HB5 := hidden (below_next HB4.out hB); clear hTx hB))
  obtain ⟨ps, hp1, hp2, hp3⟩ := HTX.out.ps
  have HH : Hid (Head l (pText T) ps) := hidden ⟨hp1, hp2, hp3, HAF.out⟩
  have HTL : Hid (T.length ≤ 200000000) := hidden (by have := HTX.out.len; omega)
  clear hp1 hp2 hp3 HTX KT
  have HX : Hid (TxtAt T (some ⟨w5.heap.size, 0, none⟩) (grownCap w5 (bs T).size 0 5) (Go.Lib.bytesWorld w5 5 (bs T)) ∧ Below w.heap.size w (Go.Lib.bytesWorld w5 5 (bs T))) := hidden ⟨⟨rd_bI w5 5 (bs T), grownCap_ge _ _ _ _, by simp⟩, below_next HB5.out (below_bytes0 w5 5 (bs T))⟩
  obtain ⟨cp, hcp⟩ : ∃ c, grownCap w5 (bs T).size 0 5 = c := ⟨_, rfl⟩
  obtain ⟨tg, htg⟩ : ∃ g, w5.heap.size = g := ⟨_, rfl⟩
  rw [hcp, htg] at HX
  rw [hcp, htg]
  clear hcp htg hcv
  refine wpAbs (fun W => Hid (TxtAt T (some ⟨tg, 0, none⟩) cp W ∧ Below w.heap.size w W)) HX ?_
  clear HX HB1 HB2 HB4 HB5
  rintro W6 HX
  have KN := hidden (headNamesE A n c l s W6 (HM.out.1.below HX.out.2) HM.out.2 hn30)
  have HNL : Hid ((strs (s :: namesF l)).length = n + 1) := hidden (by rw [strs_len, List.length_cons, namesF, List.length_map, HM.out.2])
  obtain ⟨TS, hTS⟩ : ∃ z, (bs T).size = z := ⟨_, rfl⟩
  have HTS := hidden hTS
  rw [hTS]
  clear hTS
  go_wp2_with (go_at_call 16; go_must (refine KN.out.mono ?_; rintro e W7 ⟨v7, rfl, hO, hB⟩; obtain ⟨A7, c7, rfl, hc7, hr7, hA7⟩ := hO.read; rw [HNL.out]; have HR7 := hidden hr7; have HB7 := hidden hB; clear hO hB hc7 hr7 hA7))
  have HB8 : Hid (Below w.heap.size w W7) := hidden (below_next HX.out.2 HB7.out)
  have HX8 := hidden (HX.out.1.next HB7.out)
  clear HB7 KN HX
  go_loopw [46] (fun v46 wr => ∃ j : Nat, v46 = .int .i64 j ∧ j ≤ n + 1 ∧ Hid (Below W7.heap.size W7 wr)) (fun v _ => n + 1 - (intOf v).toNat)
  case atStart => exact ⟨0, rfl, by omega, hidden (Below.refl _ _)⟩
  case round =>
    obtain ⟨j, rfl, hjn, HB⟩ := hrel
    have hn1 : ((n : Int) + 1) = ((n + 1 : Nat) : Int) := by omega
    by_cases hlt : j < n + 1
    · have hja : j < (s :: namesF l).length := by have := HNL.out; rw [strs_len] at this; omega
      obtain ⟨b7, o7, rfl, _, d0⟩ := (HR7.out.below HB.out (Nat.le_refl _)).atS j hja
      obtain ⟨q, hq⟩ : ∃ q, si (s :: namesF l) j = q := ⟨_, rfl⟩
      rw [hq] at d0
      have hlti : (j : Int) < (n : Int) + 1 := by omega
      have HBW : Hid (Below w.heap.size w wr) := hidden (below_next HB8.out HB.out)
      have KFI := hidden (headFindE A n c l q wr (HM.out.1.below HBW.out) HM.out.2 hn30)
      have HXW := hidden (HX8.out.next HB.out)
      clear hq hja hn1
      have KC := hidden (fun W A c (h : TxtAt T A c W) => txt_clone HTL.out h)
      have KS := hidden (fun (q : ByteArray) (o : Option ByteArray) (hr : headT unB (pText T) q.data.toList = TxR o) W A c (h : TxtAt T A c W) (hS : SynAt W) => head_string HH.out HTL.out q o hr h hS)
      have KB := hidden (fun (q : ByteArray) (o : Option ByteArray) (ho : ∀ t, o = some t → t.size ≤ 1000000) (hr : headT unB (pText T) q.data.toList = TxR o) W A c (h : TxtAt T A c W) (hS : SynAt W) => head_bytes HH.out HTL.out q o ho hr h hS)
      rw [HTS.out] at KC KS KB
      have HSA := hidden (fun (W : World) {w7 : World} {o : Obj} (h1 : Below w.heap.size w wr) (h2 : Below wr.heap.size wr w7) (h3 : Below (w7.alloc o).heap.size (w7.alloc o) W) => HSY.out.next (below_next (below_next (below_next h1 h2) (below_alloc0 w7 o)) h3))
      have HTZ := hidden (fun (f : FM) (hf : f ∈ l) (t : ByteArray) (h : some f.d.text = some t) => (by cases h; have := (HAF.out.fit f hf).fit.text; omega : t.size ≤ 1000000))
      go_wp2_with (first
        | (go_at_call 11; go_must (refine KFI.out.mono ?_; rintro e w7 ⟨v, b, rfl, hF, hB⟩; have HBF := hidden hB; have HXF := hidden (HXW.out.next hB); rcases find_tells HH.out hF with ⟨f, hfm, rfl, rfl, hk, hr, hh⟩ | ⟨f, hfm, rfl, rfl, hk, hr, hh⟩ | ⟨rfl, rfl, hr, hh⟩ <;> clear hB hF hh <;> (first
            | (have HRA := hidden (show headT unB (pText T) q.data.toList = TxR (some f.d.text) from hr); have hk3 : ((f.d.kind : Int) == 3) = true := (by rw [beq_iff_eq]; omega); have HFM := hidden hfm; clear hr hk hfm; unfold fV)
            | (have HRB := hidden hr; have hk3 : ((f.d.kind : Int) == 3) = false := (by rw [beq_eq_false_iff_ne]; omega); clear hr hk hfm; unfold fV)
            | (have HRB := hidden hr; clear hr; unfold zeroF)) <;> dsimp only))
        | (go_at_call 15; first
            | ((with_reducible refine (KC.out w10 _ _ HX10.out).mono ?_); (rintro e w11 ⟨A11, c11, rfl, hx, hB⟩; rw [HTS.out]; have HX11 := hidden hx; have HB11 := hidden (below_next HB10.out hB); clear hx hB))
            | ((with_reducible refine (KC.out _ _ _ (HXF.out.next (below_alloc0 w7 _))).mono ?_); (rintro e w9 ⟨A9, c9, rfl, hx, hB⟩; rw [HTS.out]; have HX9 := hidden hx; have HXT9 := hidden ((HXF.out.next (below_alloc0 w7 _)).next hB); have HB9 := hidden hB; clear hx hB)))
        | (go_at_call 18; first
            | ((with_reducible refine (KS.out q _ HRA.out w9 _ _ HX9.out (HSA.out w9 HBW.out HBF.out HB9.out)).mono ?_); (rintro e w10 ⟨rfl, hB⟩; have HX10 := hidden (HXT9.out.next hB); have HB10 := hidden (below_next HB9.out hB); clear hB))
            | ((with_reducible refine (KS.out q _ HRB.out w9 _ _ HX9.out (HSA.out w9 HBW.out HBF.out HB9.out)).mono ?_); (rintro e w10 ⟨rfl, hB⟩; have HX10 := hidden (HXT9.out.next hB); have HB10 := hidden (below_next HB9.out hB); clear hB)))
        | (go_at_call 19; first
            | ((with_reducible refine (KB.out q _ (HTZ.out f HFM.out) HRA.out w11 _ _ HX11.out (HSA.out w11 HBW.out HBF.out HB11.out)).mono ?_); (rintro e w12 ⟨A12, n12, c12, rfl, hcv2, hB⟩; have HB12 := hidden (below_next HB11.out hB); have q1 : w12.cell? ⟨w7.heap.size, 1, none⟩ = some (.int .u8 f.d.kind) := cell_next HB12.out ((Row.new w7 29 [.string f.d.name, .int .u8 f.d.kind, .bool f.d.is_, .bool f.d.minus, .int .u64 f.d.num, .string f.d.text, .slice f.A f.d.list.length f.c]).cell 1); have q5 : w12.cell? ⟨w7.heap.size, 5, none⟩ = some (.string f.d.text) := cell_next HB12.out ((Row.new w7 29 [.string f.d.name, .int .u8 f.d.kind, .bool f.d.is_, .bool f.d.minus, .int .u64 f.d.num, .string f.d.text, .slice f.A f.d.list.length f.c]).cell 5); have hcv3 : (convert 32 9 (.slice A12 n12 c12)).run Tryd.prog w12 = .ok (.string f.d.text) w12 := hcv2; clear hB hcv2))
            | ((with_reducible refine (KB.out q none (fun t h => by cases h) HRB.out w11 _ _ HX11.out (HSA.out w11 HBW.out HBF.out HB11.out)).mono ?_); (rintro e w12 ⟨A12, n12, c12, rfl, hcv2, hB⟩; have HB12 := hidden (below_next HB11.out hB); first | (have q1 : w12.cell? ⟨w7.heap.size, 1, none⟩ = some (.int .u8 f.d.kind) := cell_next HB12.out ((Row.new w7 29 [.string f.d.name, .int .u8 f.d.kind, .bool f.d.is_, .bool f.d.minus, .int .u64 f.d.num, .string f.d.text, .slice f.A f.d.list.length f.c]).cell 1)) | skip; clear hB hcv2))))
      all_goals exact ⟨⟨j + 1, by go_num, by omega, hidden (below_next HB.out (below_next HBF.out (below_next (below_alloc0 w7 _) HB12.out)))⟩, by simp [intOf]; omega⟩
    · have hnlt : ¬ ((j : Int) < (n : Int) + 1) := by omega
      clear hn1
      have HBW : Hid (Below w.heap.size w wr) := hidden (below_next HB8.out HB.out)
      go_wp2_with (go_at_call 10; go_must (refine (headLive_calls wr (HSY.out.next HBW.out)).mono ?_; rintro e w3 ⟨rfl, hB⟩; have HBL := hidden (below_next HBW.out hB); clear hB))
      go_ret
      exact ⟨rfl, HBL.out⟩
theorem headTexts_walk (A : Option Addr) (n c : Nat) (l : List FM) (st : Int) (s : ByteArray) (w : World) (hm : FMs w A l) (hn : l.length = n) (hb : n ≤ 9223372036854775807) (hst : (Lit.int .u64 st).wf = true) (hz : s.size ≤ 9223372036854775807) (hT : Tabs w) (hSY : SynAt w) :
    Calls Tryd.prog 5 #[.slice A n c, .int .u64 st, .string s] w (TB w) := by
  by_cases hs : s.size ≤ 200 ∧ Lib.validD s.data.toList = true
  · simp [Lit.wf, IntKind.min, IntKind.max, IntKind.bits, IntKind.signed] at hst
    obtain ⟨k, rfl⟩ : ∃ k : Nat, st = k := ⟨st.toNat, by omega⟩
    exact texts_main A n c l k s w hm hn hb hs hT hSY
  · exact texts_short A n c l st s w hm hn hb hs hz hT hSY
end Go.Proofs.YtbdmdajbdmdknaaDoor
