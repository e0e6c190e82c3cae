/- A compact form, split at its periods. -/
import Derived.Test.YtmibnnmampfalaaDoorApart
namespace Go.Proofs.YtmibnnmampfalaaDoor
open Go.RowKit
set_option linter.unusedVariables false
set_option linter.unusedSimpArgs false

/-- Bytes cut at the first period. -/
def CutAt (w : World) (A : Option Addr) (c : Nat) (p t : List Int) (e : Ending) (w' : World) : Prop := ∃ B d, e = .returned (.tuple #[.slice A p.length c, .slice B t.length d, .bool true]) ∧ t.length ≤ d ∧ (B = none → d = 0) ∧ Rd w' B (nums .u8 t) ∧ ∃ m, w' = w.drewN m
theorem zzCut_yes (A : Option Addr) (n c : Nat) (p t : List Int) (w : World) (h : ArgB w A n c (p ++ 46 :: t)) (hp : (46 : Int) ∉ p) (hn : n ≤ 1000000) :
    Calls Tryd.prog 29 #[.slice A n c] w (CutAt w A c p t) := by
  have hlen := h.len
  rw [List.length_append, List.length_cons] at hlen
  have hcap := h.cap
  have hA : ∃ b o, A = some ⟨b, o, none⟩ := by
    obtain ⟨b, o, rfl, _⟩ := h.rd.at 0 (by rw [h.len]; omega)
    exact ⟨b, o, rfl⟩
  obtain ⟨b, o, rfl⟩ := hA
  have Hrd := hidden h.rd
  have Hl := hidden h.len
  have HB := hidden h.isB
  have Hp := hidden hp
  have Hq : Hid (∀ k, k < p.length → gi (p ++ 46 :: t) k ≠ 46) := hidden (fun k hk => by rw [gi_app1 _ hk]; exact fun e => hp (e ▸ gi_mem hk))
  have Hk : Hid (gi (p ++ 46 :: t) p.length = 46) := hidden (by rw [gi_app2 (Nat.le_refl _), Nat.sub_self]; rfl)
  have Hrt : Hid (Rd w (if c = p.length + 1 then some ⟨b, o, none⟩ else (some (⟨b, o, none⟩ : Addr)).map (·.add (p.length + 1))) (nums .u8 t)) := hidden (by
    have := h.rd.drop (p.length + 1) c (by rw [nums_len, h.len]; exact hcap)
    have e : (nums .u8 (p ++ 46 :: t)).drop (p.length + 1) = nums .u8 t := by
      rw [nums, ← List.map_drop, List.drop_append, List.drop_of_length_le (by omega)]
      simp [nums]
    rwa [e] at this)
  obtain ⟨np, hnp⟩ : ∃ np, p.length = np := ⟨_, rfl⟩
  obtain ⟨nt, hnt⟩ : ∃ nt, t.length = nt := ⟨_, rfl⟩
  obtain ⟨B, hB⟩ : ∃ B : Option Addr, B = (if c = p.length + 1 then some ⟨b, o, none⟩ else (some (⟨b, o, none⟩ : Addr)).map (·.add (p.length + 1))) := ⟨_, rfl⟩
  obtain ⟨d, hd⟩ : ∃ d, d = c - (np + 1) := ⟨_, rfl⟩
  have hfrom : ∀ W : World, (Instr.slice 22 (.slice (some ⟨b, o, none⟩) n c) (some (.int .i64 ((np : Int) + 1))) none none).run Tryd.prog W = .ok (.slice B nt d) W := fun W => by
    rw [run_from Tryd.underlying22 (by kernel_rfl) (some ⟨b, o, none⟩) n c ((np : Int) + 1) (np + 1) (by omega) (by omega) hcap, hB, hnp, hd, show n - (np + 1) = nt by omega]
  have hupto : ∀ W : World, (Instr.slice 22 (.slice (some ⟨b, o, none⟩) n c) none (some (.int .i64 (np : Int))) none).run Tryd.prog W = .ok (.slice (some ⟨b, o, none⟩) np c) W := fun W => run_upto Tryd.underlying22 (by kernel_rfl) (some ⟨b, o, none⟩) n c (np : Int) np rfl (by omega)
  rw [← hB] at Hrt
  have Hnil : Hid (B = none → d = 0) := hidden (by
    rw [hB, hd, ← hnp]
    split
    · intro h; cases h
    · intro h; cases h)
  have Hd : Hid (nt ≤ d) := hidden (by omega)
  unfold CutAt
  rw [hnp] at Hq Hk ⊢
  rw [hnt] at ⊢
  clear hB hd hp h
  generalize hL : p ++ 46 :: t = L at *
  have hlt : np < n := by omega
  clear hL hlen hnp hnt
  go_enter Tryd.func29, Tryd.ntmps29
  go_wp2
  go_loop [9] (fun i => ∃ k : Nat, k ≤ np ∧ i = .int .i64 k) (fun i => n - (intOf i).toNat)
  case atStart => exact ⟨0, by omega, rfl⟩
  case round =>
    obtain ⟨k, hk, rfl⟩ := hrel
    obtain ⟨b0, o0, hb0, _, c0⟩ := Hrd.out.at k (by rw [Hl.out]; omega)
    cases hb0
    have hx2 := gi_byte HB.out k
    by_cases hlt2 : k < np
    · have hne : (gi L k == 46) = false := by simpa using Hq.out k hlt2
      generalize gi L k = x at *
      go_wp2
      go_round
      case rel => exact ⟨k + 1, by omega, by go_num⟩
      case measure => simp [intOf]; omega
    · obtain rfl : k = np := by omega
      rw [Hk.out] at c0
      clear hx2
      go_wp2
      go_quiet (fail)
      go_wp2
      exact bodyPost_ret (v := .tuple #[.slice (some ⟨b, o, none⟩) k c, .slice B nt d, .bool true]) (by simp [results, Tryd.results29, go_sem]) rfl ⟨_, _, rfl, Hd.out, Hnil.out, Hrt.out, _, rfl⟩
theorem zzCut_no (A : Option Addr) (n c : Nat) (l : List Int) (w : World) (h : ArgB w A n c l) (hp : (46 : Int) ∉ l) (hn : n ≤ 1000000) :
    Calls Tryd.prog 29 #[.slice A n c] w fun e w' => e = .returned (.tuple #[.slice A n c, .slice none 0 0, .bool false]) ∧ w = w' := by
  have Hrd := hidden h.rd
  have Hl := hidden h.len
  have HB := hidden h.isB
  have Hq : Hid (∀ k, k < n → gi l k ≠ 46) := hidden (fun k hk e => hp (e ▸ gi_mem (by rw [h.len]; exact hk)))
  clear h hp
  go_enter Tryd.func29, Tryd.ntmps29
  go_wp2
  go_loop [9] (fun i => ∃ k : Nat, k ≤ n ∧ i = .int .i64 k) (fun i => n - (intOf i).toNat)
  case atStart => exact ⟨0, by omega, rfl⟩
  case round =>
    obtain ⟨k, hk, rfl⟩ := hrel
    by_cases hlt2 : k < n
    · obtain ⟨b0, o0, rfl, _, c0⟩ := Hrd.out.at k (by rw [Hl.out]; omega)
      have hx2 := gi_byte HB.out k
      have hne : (gi l k == 46) = false := by simpa using Hq.out k hlt2
      generalize gi l k = x at *
      go_wp2
      go_round
      case rel => exact ⟨k + 1, by omega, by go_num⟩
      case measure => simp [intOf]; omega
    · obtain rfl : k = n := by omega
      go_wp2
      exact bodyPost_ret (v := .tuple #[.slice A k c, .slice none 0 0, .bool false]) (by simp [results, Tryd.results29, go_sem]) rfl ⟨rfl, rfl⟩
end Go.Proofs.YtmibnnmampfalaaDoor
