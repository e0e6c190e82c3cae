/- A signature that is put behind a signing input; the functions of impl that make compact forms. -/
import Derived.Test.YtmibnnmampfalaaB64V
namespace Go.Proofs.Ytmibnnmampfalaa
open Go.RowKit
set_option linter.unusedVariables false
set_option linter.unusedSimpArgs false

set_option maxRecDepth 100000 in
set_option maxHeartbeats 4000000 in
theorem appSig_calls (g base : Nat) (v : Value) (l0 sg : List Int) (A0 : Option Addr) (k c0 : Nat) (A : Option Addr) (n c : Nat) (w : World) (hv : v = .slice A0 k c0) (hk : k = l0.length) (hk2 : k ≤ 500000) (hroom : k + n + 1 ≤ c0) (HO : Own w base 5 v (nums .u8 l0)) (hbase : base ≤ w.heap.size) (hE : EncOff w v g) (hA : RdOff w v A n c sg) (hn : n ≤ 50000) :
    Calls Try.prog 56 #[v, .slice A n c, .iface 121 (.pointer (some ⟨g, 0, none⟩))] w fun e w' => ∃ v', e = .returned v' ∧ AppP w base v (l0 ++ [46] ++ encF (alpha true) sg) v' w' := by
  have S1 : Hid (∀ v1 w1 l1, AppP w base v l1 v1 w1 → l1.length ≤ 1000000 → Calls Try.prog 132 #[.pointer (some ⟨g, 0, none⟩), v1, .slice A n c] w1 fun e w' => ∃ v', e = .returned v' ∧ AppP w base v (l1 ++ encF (alpha true) sg) v' w') := hidden (fun v1 w1 l1 a hl => appStep g base v v1 l1 sg A n c w w1 a hE hA (by omega) hbase hl)
  have HP1 : Hid (AppP w base v l0 v w) := hidden (appP_refl HO)
  have hl2 : (l0 ++ [46]).length ≤ 1000000 := by simp only [List.length_append, List.length_cons, List.length_nil]; omega
  have hlk : l0.length ≤ 500000 := by omega
  have hri : ¬ (c0 : Int) < (k : Int) + (n : Int) + 1 := by omega
  subst hv
  clear HO hE hA hk
  go_enter Try.func56, Try.ntmps56
  go_wp2_with (first
    | (go_at_call 132; ((with_reducible refine (S1.out _ _ _ HP2.out hl2).mono ?_); rintro e w3 ⟨v3, rfl, hP3⟩; have HP3 := hidden hP3; clear hP3))
    | (at_builtin; refine walk_app (base := base) rfl (.tmp 20) (.tmp 21) rfl Try.underlying22 info_u8 rfl (by decide) rfl rfl (HP1.out.own.alloc _) (Rd.new w 5 (nums .u8 [46]) _ rfl) rfl (nums_one _ _) (Nat.le_trans hbase (World.grownBy_alloc w _ none).size) (by simp only [List.length_append, nums_len, List.length_cons, List.length_nil]; omega) ?_; intro v2 w2 hO2 hg2 hk2'; have HP2 := hidden (HP1.out.put (World.grownBy_alloc w _ none) hO2 hg2 hk2'); clear hO2 hg2 hk2'))
  go_ret
  exact ⟨v3, rfl, HP3.out⟩
theorem defEnc_calls (w : World) : Calls Try.prog 52 #[] w fun e w' => ∃ g, e = .returned (.iface 121 (.pointer (some ⟨g, 0, none⟩))) ∧ EncAt w' g (alpha true) (tab true) (-1) ∧ w.heap.size ≤ g ∧ Below w.heap.size w w' := by
  go_enter Try.func52, Try.ntmps52
  go_wp2_with (go_at_call 71; go_must (refine (getEnc_calls _).mono ?_; rintro e w1 ⟨g, rfl, hE1, hg1, hB1⟩; have HE1 := hidden hE1; have HB1 := hidden hB1; have Hg1 := hidden hg1; clear hE1 hB1 hg1))
  go_ret
  exact ⟨g, rfl, HE1.out, Hg1.out, HB1.out⟩
end Go.Proofs.Ytmibnnmampfalaa
