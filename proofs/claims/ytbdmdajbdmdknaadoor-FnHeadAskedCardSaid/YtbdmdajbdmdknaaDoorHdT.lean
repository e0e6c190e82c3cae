/- spec.HeadText: the walk. -/
import Derived.Test.YtbdmdajbdmdknaaDoorM13
namespace Go.Proofs.YtbdmdajbdmdknaaDoor
open Go.RowKit
set_option linter.unusedVariables false
set_option linter.unusedSimpArgs false

/-- What stands ahead of a field but the first. -/
def cmB (i : Nat) (b1 : Bs) : Bs := if i = 0 then [] else 44 :: b1
theorem str8 (o' B b2 b3 x b4 : Bs) : bs o' ++ (bs (34 :: (B ++ [34])) ++ bs b2 ++ ⟨#[58]⟩ ++ bs b3 ++ bs x ++ bs b4) = bs (o' ++ (34 :: (B ++ (34 :: (b2 ++ (58 :: (b3 ++ (x ++ b4)))))))) := by
  rw [show (⟨#[58]⟩ : ByteArray) = bs [58] from rfl]
  simp only [bs_app, List.append_assoc, List.cons_append, List.nil_append]
theorem str0 (a0 b0 : Bs) : bs a0 ++ ⟨#[123]⟩ ++ bs b0 = bs (a0 ++ (123 :: (b0 ++ bodyO []))) := by
  rw [show (⟨#[123]⟩ : ByteArray) = bs [123] from rfl]
  simp only [bs_app, List.append_assoc, List.cons_append, List.nil_append, bodyO, List.append_nil]
theorem str9 (o a9 : Bs) : bs o ++ ⟨#[125]⟩ ++ bs a9 = bs (o ++ (125 :: a9)) := by
  rw [show (⟨#[125]⟩ : ByteArray) = bs [125] from rfl]
  simp only [bs_app, List.append_assoc, List.cons_append, List.nil_append]
theorem LO.step {w0 W W2 : World} {g : Nat} {l : List FM} {a0 b0 o b1 : Bs} {i : Nat} (h : LO w0 g l a0 b0 i o W) (hl : i < l.length) (h1 : IsBl b1) {p : Po} (hb : p.b1 = b1) (hp : FOk l[i].d p) (hlen : (onePo p).length ≤ 5300000) (h2 : SE w0 g W2) : LO w0 g l a0 b0 (i + 1) ((o ++ cmB i b1) ++ onePo p) W2 := by
  subst hb
  unfold cmB
  by_cases h0 : i = 0
  · subst h0
    rw [if_pos rfl, List.append_nil]
    exact LO.first h hl hp hlen h2
  · rw [if_neg h0]
    exact LO.next h (by omega) hl hp h1 hlen h2
theorem onePo_len {f : FD} {b1 B b2 b3 b4 x : Bs} {J : JV} (hf : FitF f) (h : IsTx f.name B) (h2 : IsBl b2) (h3 : IsBl b3) (h4 : IsBl b4) (hV : ValOf f x J) : (onePo ⟨b1, B, b2, b3, x, J, b4⟩).length ≤ 5300000 := by
  have q1 := hf.name
  have q2 := h.len
  have q3 := h2.len
  have q4 := h3.len
  have q5 := h4.len
  have q6 := hV.len
  simp only [onePo, List.length_cons, List.length_append]
  omega
set_option maxRecDepth 100000 in
set_option maxHeartbeats 16000000 in
theorem headText_calls (A : Option Addr) (n c : Nat) (l : List FM) (x0 : Nat) (w : World) (hm : FMs w A l) (hn : l.length = n) (hn30 : n ≤ 31) (hfit : ∀ f ∈ l, FitF f.d) :
    Calls Tryd.prog 12 #[.slice A n c, .int .u64 (x0 : Int)] w fun e w' => ∃ T, e = .returned (.string (bs T)) ∧ HTx l T ∧ Below w.heap.size w w' := by
  have HM := hidden (And.intro hm (And.intro hn hfit))
  have HS : Hid (SE w w.heap.size (w.alloc (.cells #[.int .u64 (x0 : Int)] 67))) := hidden ⟨below_alloc0 w _, Nat.le_refl _, x0, StyAt.new w x0⟩
  have e1 : (⟨#[123]⟩ : ByteArray).size = 1 := rfl
  have e2 : (⟨#[44]⟩ : ByteArray).size = 1 := rfl
  have e3 : (⟨#[58]⟩ : ByteArray).size = 1 := rfl
  have e4 : (⟨#[125]⟩ : ByteArray).size = 1 := rfl
  clear hm hn hfit
  go_enter Tryd.func12, Tryd.ntmps12
  go_upto_region 2 with (fail)
  refine wpAbs (fun W => Hid (SE w w.heap.size W)) HS ?_
  clear HS
  rintro W1 HS
  obtain ⟨g, hg⟩ : ∃ g, w.heap.size = g := ⟨_, rfl⟩
  rw [hg] at HS ⊢
  have HG := hidden hg
  clear hg
  go_upto_region 3 with (go_at_call 26; first
    | ((with_reducible refine (blankE HS.out).mono ?_); (rintro e W2 ⟨a0, rfl, hb, h2, hG⟩; have HS2 := hidden h2; have HA0 := hidden hb; have z0 : (bs a0).size ≤ 65536 := hb.len; clear hb h2 hG))
    | ((with_reducible refine (blankE HS2.out).mono ?_); (rintro e W3 ⟨b0, rfl, hb, h2, hG⟩; have HS3 := hidden h2; have HB0 := hidden hb; have z1 : (bs b0).size ≤ 65536 := hb.len; clear hb h2 hG)))
  rw [str0]
  have HLO : Hid (LO w g l a0 b0 0 (a0 ++ (123 :: (b0 ++ bodyO []))) W3) := hidden ⟨HS3.out, ⟨[], rfl, rfl, fun j h => by simp at h⟩, by have := HA0.out.len; have := HB0.out.len; simp only [bodyO, List.length_append, List.length_cons, List.length_nil]; omega⟩
  clear z0 z1 HS HS2 HS3
  go_wp2
  go_loopw [6, 20] (fun v6 v20 wr => ∃ (i : Nat) (o : Bs), v6 = .string (bs o) ∧ v20 = .int .i64 i ∧ i ≤ n ∧ Hid (LO w g l a0 b0 i o wr)) (fun _ v20 _ => n - (intOf v20).toNat)
  case atStart => exact ⟨0, _, rfl, rfl, by omega, HLO⟩
  case round =>
    clear HLO
    obtain ⟨i, o, rfl, rfl, hin, HL⟩ := hrel
    have hon : (bs o).size ≤ 170000000 := by rw [size_bs]; have := HL.out.len; omega
    by_cases hlt : i < n
    · have hli : i < l.length := by rw [HM.out.2.1]; exact hlt
      obtain ⟨ab, ao, rfl, _, c0, c1, c2, c3, c4, c5, c6⟩ := fields_at (HM.out.1.below HL.out.se.below).rd i hli
      have HFT := hidden (HM.out.2.2 _ (List.getElem_mem hli))
      have hr := HM.out.1.list _ (List.getElem_mem hli)
      have hnm := (HM.out.1.num _ (List.getElem_mem hli)).1
      obtain ⟨f, hf⟩ : ∃ f, l[i] = f := ⟨_, rfl⟩
      rw [hf] at c0 c1 c2 c3 c4 c5 c6 HFT hr hnm
      have HLF : Hid (∀ h : i < l.length, l[i]'h = f) := hidden (fun _ => hf)
      have KT := hidden (fun W (h : SE w g W) => textE h f.d.name (by have := HFT.out.name; omega))
      have KV : Hid (∀ W, SE w g W → Calls Tryd.prog 28 #[.pointer (some ⟨g, 0, none⟩), .agg #[.string f.d.name, .int .u8 f.d.kind, .bool f.d.is_, .bool f.d.minus, .int .u64 f.d.num, .string f.d.text, .slice f.A f.d.list.length f.c]] W (VE w g f.d)) := hidden (fun W h => valueE h f HFT.out hr.1 hnm)
      have HSR : Hid (SR w g wr.heap.size f.cells (wr.alloc (.cells f.cells.toArray 29))) := hidden ⟨HL.out.se.alloc _, Row.new wr 29 f.cells⟩
      have HNE : Hid (wr.heap.size ≠ g) := hidden (by have := HL.out.se.lt; omega)
      have hlti : (i : Int) < (n : Int) := by omega
      clear hr hnm hf hli
      go_upto_region 6 with (fail)
      refine wpAbs (fun W => Hid (SR w g wr.heap.size f.cells W)) HSR ?_
      rintro V0 HS0
      clear HSR c0 c1 c2 c3 c4 c5 c6
      obtain ⟨gb, hgb⟩ : ∃ gb, wr.heap.size = gb := ⟨_, rfl⟩
      rw [hgb] at HS0 HNE ⊢
      clear hgb
      go_upto_if 26 with (fail)
      go_cut [6, 26] from 58 (fun s6 s26 wx => ∃ (b1 : Bs), s6 = .string (bs (o ++ cmB i b1)) ∧ Hid (IsBl b1 ∧ SR w g gb f.cells wx))
      case first =>
        by_cases h0 : i = 0
        · have hneg : ¬ (0 : Int) < (i : Int) := by omega
          have HE : Hid (bs o = bs (o ++ cmB i [])) := hidden (by rw [cmB, if_pos h0, List.append_nil])
          clear h0
          go_wp2
          go_meet
          case rel => exact ⟨[], by rw [← HE.out], hidden ⟨IsBl.nil, HS0.out⟩⟩
        · have hpos : (0 : Int) < (i : Int) := by omega
          have H0 := hidden h0
          clear h0
          go_wp2_with (go_at_call 26; go_must (refine (blankE HS0.out.se).mono ?_; rintro e V1 ⟨b1, rfl, hb, h2, hG⟩; have HS1 := hidden (SR.grown HS0.out h2 hG HNE.out); have HB1 := hidden hb; have z1 : (bs b1).size ≤ 65536 := hb.len; clear hb h2 hG))
          go_meet
          case rel => exact ⟨b1, congrArg Value.string (show bs o ++ (⟨#[44]⟩ ++ bs b1) = _ by rw [show (⟨#[44]⟩ : ByteArray) = bs [44] from rfl, bs_app, bs_app, cmB, if_neg H0.out]; rfl), hidden ⟨HB1.out, HS1.out⟩⟩
      case rest =>
        obtain ⟨b1, rfl, HC⟩ := hcut
        have zO : (bs (o ++ cmB i b1)).size ≤ 170070000 := by
          rw [size_bs, List.length_append]
          have h1 := HC.out.1.len
          rw [size_bs] at hon
          unfold cmB
          split <;> simp only [List.length_nil, List.length_cons] <;> omega
        obtain ⟨OB, hOB⟩ : ∃ O, bs (o ++ cmB i b1) = O := ⟨_, rfl⟩
        rw [hOB] at zO ⊢
        have HOB := hidden hOB
        have HS1 := hidden HC.out.2
        obtain ⟨p1a, p1b, p1c, p1d, p1e, p1f, p1g⟩ := cellsF HS1.out
        clear hOB hon
        go_upto_region 8 with (fail)
        go_region_with (first
          | (go_at_call 27; first
            | ((with_reducible refine (KT.out _ (HS1.out).se).mono ?_); (rintro e V2 ⟨B, rfl, hTx, h3, hG⟩; have HS2 := hidden (SR.grown (HS1.out) h3 hG HNE.out); obtain ⟨p2a, p2b, p2c, p2d, p2e, p2f, p2g⟩ := cellsF HS2.out; have HTx := hidden hTx; have zT : (bs (34 :: (B ++ [34]))).size ≤ 2402 := (by have := hTx.len; have := HFT.out.name; rw [size_bs]; simp only [List.length_cons, List.length_append, List.length_nil]; omega); obtain ⟨TT, hTT⟩ : ∃ O, bs (34 :: (B ++ [34])) = O := ⟨_, rfl⟩; rw [hTT] at zT ⊢; have HTT := hidden hTT; clear hTx h3 hG hTT))
            | ((with_reducible refine (KT.out _ (SR.drew HS1.out).se).mono ?_); (rintro e V2 ⟨B, rfl, hTx, h3, hG⟩; have HS2 := hidden (SR.grown (SR.drew HS1.out) h3 hG HNE.out); obtain ⟨p2a, p2b, p2c, p2d, p2e, p2f, p2g⟩ := cellsF HS2.out; have HTx := hidden hTx; have zT : (bs (34 :: (B ++ [34]))).size ≤ 2402 := (by have := hTx.len; have := HFT.out.name; rw [size_bs]; simp only [List.length_cons, List.length_append, List.length_nil]; omega); obtain ⟨TT, hTT⟩ : ∃ O, bs (34 :: (B ++ [34])) = O := ⟨_, rfl⟩; rw [hTT] at zT ⊢; have HTT := hidden hTT; clear hTx h3 hG hTT)))
          | (go_at_call 28; ((with_reducible refine (KV.out _ HS4.out.se).mono ?_); (rintro e V5 ⟨x, J, rfl, hV, h2⟩; have HS5 := hidden h2; have HV := hidden hV; have zX : (bs x).size ≤ 5000000 := hV.len; obtain ⟨X, hX⟩ : ∃ O, bs x = O := ⟨_, rfl⟩; rw [hX] at zX ⊢; have HX := hidden hX; have n4 : ¬ 9223372036854775807 < TT.size + O1.size + 1 + O2.size + X.size := (by omega); clear hV h2 hX)))
          | (go_at_call 26; first
            | ((with_reducible refine (blankE HS5.out).mono ?_); (rintro e V6 ⟨o3, rfl, hb, h2, hG⟩; have HS6 := hidden h2; have HB3 := hidden hb; have z3 : (bs o3).size ≤ 65536 := hb.len; obtain ⟨O3, hO⟩ : ∃ O, bs o3 = O := ⟨_, rfl⟩; rw [hO] at z3 ⊢; have HO3 := hidden hO; have n5 : ¬ 9223372036854775807 < TT.size + O1.size + 1 + O2.size + X.size + O3.size := (by omega); have n6 : ¬ 9223372036854775807 < OB.size + (TT.size + O1.size + 1 + O2.size + X.size + O3.size) := (by omega); clear hb h2 hG hO))
            | ((with_reducible refine (blankE (HS3.out).se).mono ?_); (rintro e V4 ⟨o2, rfl, hb, h2, hG⟩; have HS4 := hidden (SR.grown (HS3.out) h2 hG HNE.out); obtain ⟨p4a, p4b, p4c, p4d, p4e, p4f, p4g⟩ := cellsF HS4.out; have HB2 := hidden hb; have z2 : (bs o2).size ≤ 65536 := hb.len; obtain ⟨O2, hO⟩ : ∃ O, bs o2 = O := ⟨_, rfl⟩; rw [hO] at z2 ⊢; have HO2 := hidden hO; have n3 : ¬ 9223372036854775807 < TT.size + O1.size + 1 + O2.size := (by omega); clear hb h2 hG hO))
            | ((with_reducible refine (blankE (HS2.out).se).mono ?_); (rintro e V3 ⟨o1, rfl, hb, h2, hG⟩; have HS3 := hidden (SR.grown (HS2.out) h2 hG HNE.out); obtain ⟨p3a, p3b, p3c, p3d, p3e, p3f, p3g⟩ := cellsF HS3.out; have HB1 := hidden hb; have z1 : (bs o1).size ≤ 65536 := hb.len; obtain ⟨O1, hO⟩ : ∃ O, bs o1 = O := ⟨_, rfl⟩; rw [hO] at z1 ⊢; have HO1 := hidden hO; have n1 : ¬ 9223372036854775807 < TT.size + O1.size := (by omega); have n2 : ¬ 9223372036854775807 < TT.size + O1.size + 1 := (by omega); clear hb h2 hG hO))))
        all_goals go_wp2
        all_goals exact ⟨⟨i + 1, (o ++ cmB i b1) ++ onePo ⟨b1, B, o1, o2, x, J, o3⟩, congrArg Value.string (show OB ++ (TT ++ O1 ++ ⟨#[58]⟩ ++ O2 ++ X ++ O3) = _ by rw [← HOB.out, ← HTT.out, ← HO1.out, ← HO2.out, ← HX.out, ← HO3.out]; exact str8 _ _ _ _ _ _), by go_num, by omega, hidden (LO.step HL.out (by rw [HM.out.2.1]; exact hlt) HC.out.1 (p := ⟨b1, B, o1, o2, x, J, o3⟩) rfl (by rw [HLF.out]; exact ⟨⟨HC.out.1.ws, HTx.out.raw, HB1.out.ws, HB2.out.ws, HV.out.parses, HB3.out.ws⟩, HTx.out, HV.out⟩) (onePo_len HFT.out HTx.out HB1.out HB2.out HB3.out HV.out) HS6.out)⟩, by simp [intOf]; omega⟩
    · obtain rfl : i = n := by omega
      have hnlt : ¬ ((i : Int) < (i : Int)) := by omega
      obtain ⟨OB, hOB⟩ : ∃ O, bs o = O := ⟨_, rfl⟩
      rw [hOB] at hon ⊢
      have HOB := hidden hOB
      clear hOB
      go_wp2_with (go_at_call 26; go_must (refine (blankE HL.out.se).mono ?_; rintro e V1 ⟨a9, rfl, hb, h2, hG⟩; have HS1 := hidden h2; have HB9 := hidden hb; have z1 : (bs a9).size ≤ 65536 := hb.len; obtain ⟨O9, hO⟩ : ∃ O, bs a9 = O := ⟨_, rfl⟩; rw [hO] at z1 ⊢; have HO9 := hidden hO; clear hb h2 hG hO))
      go_ret
      refine ⟨o ++ (125 :: a9), congrArg (fun x => Ending.returned (.string x)) (show OB ++ ⟨#[125]⟩ ++ O9 = _ by rw [← HOB.out, ← HO9.out]; exact str9 _ _), ?_, HS1.out.below⟩
      have h1 := HM.out.2.1
      subst h1
      exact LO.done HL.out hn30 HA0.out HB0.out HB9.out
end Go.Proofs.YtbdmdajbdmdknaaDoor
