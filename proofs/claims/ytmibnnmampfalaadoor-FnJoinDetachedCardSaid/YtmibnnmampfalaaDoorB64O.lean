/- Texts are read: the decoder, and the doors. -/
import Derived.Test.YtmibnnmampfalaaDoorB64N
namespace Go.Proofs.YtmibnnmampfalaaDoor
open Go.RowKit
set_option linter.unusedVariables false
set_option linter.unusedSimpArgs false

set_option maxRecDepth 100000 in
theorem decode0_calls (g : Nat) (A D : Option Addr) (m cd c : Nat) (w : World) :
    Calls Tryd.prog 57 #[.pointer (some ⟨g, 0, none⟩), .slice D m cd, .slice A 0 c] w fun e w' => e = .returned (.tuple #[.int .i64 0, .nilIface]) ∧ w = w' := by
  go_enter Tryd.func57, Tryd.ntmps57
  go_wp2
  go_ret2
  exact ⟨rfl, rfl⟩
theorem tab_61 (url : Bool) : gi (tab url) 61 = 255 := by cases url <;> kernel_rfl
theorem decodeAny_calls (g gd T M n c : Nat) (url : Bool) (pad : Int) (A : Option Addr) (l L : List Int) (w : World) (hE : EncAt w g (alpha url) (tab url) pad) (hp : pad = -1 ∨ pad = 61)
    (h : Rd w A (nums .u8 l)) (hn : l.length = n) (hb : IsB l) (hc : n ≤ c) (hN : n ≤ 100000) (hR : Row w gd T (nums .u8 L)) (hL : L.length = M) (hg : g ≠ gd) (hA : 0 < n → ∀ b f, A = some ⟨b, f, none⟩ → b ≠ gd) (hM : roomFor pad n M) :
    Calls Tryd.prog 57 #[.pointer (some ⟨g, 0, none⟩), .slice (some ⟨gd, 0, none⟩) M M, .slice A n c] w fun e w' => DPost w gd T M (tab url) pad l e w' := by
  by_cases h0 : 0 < n
  · obtain ⟨b0, oa, rfl, hb0, hcl⟩ := h.all (by omega)
    exact decode_calls g gd T M n c b0 oa _ _ pad l L w hE (tab_isTab url) hp (tab_61 url) hn hb (fun i hi => hcl i (by omega)) hb0 hN h0 hc hR hL hg (hA h0 _ _ rfl) hM
  · obtain rfl : n = 0 := by omega
    obtain rfl : l = [] := List.eq_nil_of_length_eq_zero hn
    refine (decode0_calls g A _ M M c w).mono ?_
    rintro e w' ⟨rfl, rfl⟩
    exact ⟨World.grownBy.refl w _, .inl ⟨[], L, rfl, rfl, (fun x hx => by cases hx), hL, hR⟩⟩
theorem newErrB_calls (s : ByteArray) (w : World) :
    Calls Tryd.prog 34 #[.string s] w fun e w' => e = .returned (.iface 76 (.pointer (some ⟨w.heap.size, 0, none⟩))) ∧ Below w.heap.size w w' := by
  go_enter Tryd.func34, Tryd.ntmps34
  go_wp2
  go_ret
  exact ⟨rfl, below_alloc0 _ _⟩
/-- What reading gives. -/
structure DecPost (w : World) (l : List Int) (e : Ending) (w' : World) : Prop where
  below : Below w.heap.size w w'
  res : (∃ (v : Value) (out : List Int), e = .returned (.tuple #[v, .nilIface]) ∧ decOf l = some out ∧ Own w' w.heap.size 5 v (nums .u8 out) ∧ IsB out) ∨
    (∃ (t : Nat) (v : Value), e = .returned (.tuple #[.slice none 0 0, .iface t v]) ∧ decOf l = none)
theorem DecPost.then {w w1 w' : World} {l : List Int} {e : Ending} (h : DecPost w1 l e w') (hb : Below w.heap.size w w1) : DecPost w l e w' := by
  refine ⟨below_next hb h.below, ?_⟩
  rcases h.res with ⟨v, out, h1, h2, h3, h4⟩ | ⟨t, v, h1, h2⟩
  · exact .inl ⟨v, out, h1, h2, h3.lower hb.size, h4⟩
  · exact .inr ⟨t, v, h1, h2⟩
def roomN (pad : Int) (n : Nat) : Nat := if pad = -1 then n / 4 * 3 + n % 4 * 6 / 8 else n / 4 * 3
theorem roomN_for {pad : Int} (hp : pad = -1 ∨ pad = 61) (n : Nat) : roomFor pad n (roomN pad n) := by
  rcases hp with rfl | rfl
  · exact .inl ⟨rfl, by rw [roomN, if_pos rfl]⟩
  · exact .inr ⟨rfl, by rw [roomN, if_neg (by omega)]⟩
theorem roomN_le {pad : Int} {n : Nat} (h : n ≤ 100000) : roomN pad n ≤ 100000 := by unfold roomN; split <;> omega
theorem dec_end {w w4 : World} {gd M : Nat} {l out rest : List Int} (hgd : w.heap.size ≤ gd) (hM : M ≤ 100000) (hlen : (out ++ rest).length = M) (hrow : Row w4 gd 5 (nums .u8 (out ++ rest))) (hib : IsB out) (hdec : decOf l = some out) (hb : Below w.heap.size w w4) (k : Nat) (hk : k = out.length) :
    DecPost w l (.returned (.tuple #[.slice (some ⟨gd, 0, none⟩) k M, .nilIface])) w4 := by
  subst hk
  rw [nums_app] at hrow
  have hO := Own.of_row (base := w.heap.size) (c := M) hrow hgd (by rw [nums_len, nums_len, ← hlen, List.length_append]) (by simp only [maxLen]; omega)
  rw [nums_len] at hO
  exact ⟨hb, .inl ⟨_, out, rfl, hdec, hO, hib⟩⟩
set_option maxRecDepth 100000 in
set_option maxHeartbeats 2000000 in
theorem dec_zzRawURL (A : Option Addr) (n c : Nat) (l : List Int) (w : World) (h : Rd w A (nums .u8 l)) (hn : l.length = n) (hc : n ≤ c) (hb : IsB l) (hN : n ≤ 100000) (hu : false = stdIn l) (hp : false = padded? l) :
    Calls Tryd.prog 69 #[.agg #[], .slice A n c] w fun e w' => DecPost w l e w' := by
  have hdo : Hid (decOf l = decA (tab true) (-1) l []) := hidden (by unfold decOf padOf; rw [← hu, ← hp]; rfl)
  obtain ⟨M, hM⟩ : ∃ M, M = roomN (-1) n := ⟨_, rfl⟩
  have hMf : Hid (roomFor (-1) n M) := hidden (by rw [hM]; exact roomN_for (by omega) n)
  have hMb : M ≤ 100000 := by rw [hM]; exact roomN_le hN
  have hMi : ¬ (M : Int) < 0 := by omega
  have H := hidden h
  have Hn := hidden hn
  have Hu := hidden hu
  have Hp := hidden hp
  have hB0 := below_alloc0 w (.cells #[] 80)
  clear h hn hu hp hM
  go_enter Tryd.func69, Tryd.ntmps69
  go_wp2_with (first
    | (go_at_call 70; go_must (refine (guess_calls A n c l _ (H.out.alloc _) Hn.out hc hb hN _ _ Hu.out Hp.out).mono ?_; rintro e w1 ⟨rfl, hB1⟩; have hB1' := below_next hB0 hB1; clear hB1; rw [show guessN (!false) false = 4 from rfl]))
    | (go_at_call 38; go_must (refine (zzRawURL_calls _).mono ?_; rintro e w2 ⟨g, rfl, hE2, hg2, hB2⟩; have hB2' := below_next hB1' hB2; clear hB2))
    | (go_at_call 58; go_must (refine (decodedLenM_calls g n M _ _ (-1) hMf.out hN _ hE2).mono ?_; rintro e w3 ⟨rfl, rfl⟩))
    | (with_reducible refine at_dst 29 ?_; go_must (refine walk_make rfl _ _ (n := M) rfl Tryd.underlying22 info_u8 rfl rfl rfl rfl rfl (by omega) (by omega) ?_))
    | (go_at_call 57; go_must (refine (decodeAny_calls g w3.heap.size 5 M n c true (-1) A l (List.replicate M 0) _ (hE2.alloc _) (by omega) ((H.out.below hB2' (Nat.le_refl _)).alloc _) Hn.out hb hc hN (zeros_row w3 M _) List.length_replicate (Nat.ne_of_lt hE2.lt) (rd_lt H.out Hn.out hB2'.size) hMf.out).mono ?_; intro e w4 hd; have hB4 := (hB2'.trans ((below_alloc0 w3 _).mono hB2'.size)).grown hd.gr (by simp; have := hB2'.size; omega) (by rintro k ⟨⟩; exact hB2'.size); rcases hd.res with ⟨out, rest, rfl, hdec, hIB, hlen, hRow⟩ | ⟨b', v', rfl, hdec⟩; have HD := hidden hdec; have HLn := hidden hlen; have HRw := hidden hRow; clear hdec hlen hRow; have q := fun W => run_upto (W := W) Tryd.underlying22 size_u8' (some ⟨w3.heap.size, 0, none⟩) M M (out.length : Int) out.length rfl (by rw [← HLn.out, List.length_append]; omega); all_goals dsimp only))
    | (go_at_call 34; go_must (refine (newErrB_calls _ _).mono ?_; rintro e w5 ⟨rfl, hB5⟩)))
  · go_ret2
    exact dec_end hB2'.size hMb HLn.out HRw.out hIB (hdo.out.trans HD.out) hB4 _ rfl
  · go_ret2
    exact ⟨below_next hB4 hB5, .inr ⟨_, _, rfl, hdo.out.trans hdec⟩⟩
set_option maxRecDepth 100000 in
set_option maxHeartbeats 2000000 in
theorem dec_zzURL (A : Option Addr) (n c : Nat) (l : List Int) (w : World) (h : Rd w A (nums .u8 l)) (hn : l.length = n) (hc : n ≤ c) (hb : IsB l) (hN : n ≤ 100000) (hu : false = stdIn l) (hp : true = padded? l) :
    Calls Tryd.prog 69 #[.agg #[], .slice A n c] w fun e w' => DecPost w l e w' := by
  have hdo : Hid (decOf l = decA (tab true) 61 l []) := hidden (by unfold decOf padOf; rw [← hu, ← hp]; rfl)
  obtain ⟨M, hM⟩ : ∃ M, M = roomN 61 n := ⟨_, rfl⟩
  have hMf : Hid (roomFor 61 n M) := hidden (by rw [hM]; exact roomN_for (by omega) n)
  have hMb : M ≤ 100000 := by rw [hM]; exact roomN_le hN
  have hMi : ¬ (M : Int) < 0 := by omega
  have H := hidden h
  have Hn := hidden hn
  have Hu := hidden hu
  have Hp := hidden hp
  have hB0 := below_alloc0 w (.cells #[] 80)
  clear h hn hu hp hM
  go_enter Tryd.func69, Tryd.ntmps69
  go_wp2_with (first
    | (go_at_call 70; go_must (refine (guess_calls A n c l _ (H.out.alloc _) Hn.out hc hb hN _ _ Hu.out Hp.out).mono ?_; rintro e w1 ⟨rfl, hB1⟩; have hB1' := below_next hB0 hB1; clear hB1; rw [show guessN (!false) true = 2 from rfl]))
    | (go_at_call 71; go_must (refine (zzURL_calls _).mono ?_; rintro e w2 ⟨g, rfl, hE2, hg2, hB2⟩; have hB2' := below_next hB1' hB2; clear hB2))
    | (go_at_call 58; go_must (refine (decodedLenM_calls g n M _ _ 61 hMf.out hN _ hE2).mono ?_; rintro e w3 ⟨rfl, rfl⟩))
    | (with_reducible refine at_dst 29 ?_; go_must (refine walk_make rfl _ _ (n := M) rfl Tryd.underlying22 info_u8 rfl rfl rfl rfl rfl (by omega) (by omega) ?_))
    | (go_at_call 57; go_must (refine (decodeAny_calls g w3.heap.size 5 M n c true 61 A l (List.replicate M 0) _ (hE2.alloc _) (by omega) ((H.out.below hB2' (Nat.le_refl _)).alloc _) Hn.out hb hc hN (zeros_row w3 M _) List.length_replicate (Nat.ne_of_lt hE2.lt) (rd_lt H.out Hn.out hB2'.size) hMf.out).mono ?_; intro e w4 hd; have hB4 := (hB2'.trans ((below_alloc0 w3 _).mono hB2'.size)).grown hd.gr (by simp; have := hB2'.size; omega) (by rintro k ⟨⟩; exact hB2'.size); rcases hd.res with ⟨out, rest, rfl, hdec, hIB, hlen, hRow⟩ | ⟨b', v', rfl, hdec⟩; have HD := hidden hdec; have HLn := hidden hlen; have HRw := hidden hRow; clear hdec hlen hRow; have q := fun W => run_upto (W := W) Tryd.underlying22 size_u8' (some ⟨w3.heap.size, 0, none⟩) M M (out.length : Int) out.length rfl (by rw [← HLn.out, List.length_append]; omega); all_goals dsimp only))
    | (go_at_call 34; go_must (refine (newErrB_calls _ _).mono ?_; rintro e w5 ⟨rfl, hB5⟩)))
  · go_ret2
    exact dec_end hB2'.size hMb HLn.out HRw.out hIB (hdo.out.trans HD.out) hB4 _ rfl
  · go_ret2
    exact ⟨below_next hB4 hB5, .inr ⟨_, _, rfl, hdo.out.trans hdec⟩⟩
set_option maxRecDepth 100000 in
set_option maxHeartbeats 2000000 in
theorem dec_zzRawStd (A : Option Addr) (n c : Nat) (l : List Int) (w : World) (h : Rd w A (nums .u8 l)) (hn : l.length = n) (hc : n ≤ c) (hb : IsB l) (hN : n ≤ 100000) (hu : true = stdIn l) (hp : false = padded? l) :
    Calls Tryd.prog 69 #[.agg #[], .slice A n c] w fun e w' => DecPost w l e w' := by
  have hdo : Hid (decOf l = decA (tab false) (-1) l []) := hidden (by unfold decOf padOf; rw [← hu, ← hp]; rfl)
  obtain ⟨M, hM⟩ : ∃ M, M = roomN (-1) n := ⟨_, rfl⟩
  have hMf : Hid (roomFor (-1) n M) := hidden (by rw [hM]; exact roomN_for (by omega) n)
  have hMb : M ≤ 100000 := by rw [hM]; exact roomN_le hN
  have hMi : ¬ (M : Int) < 0 := by omega
  have H := hidden h
  have Hn := hidden hn
  have Hu := hidden hu
  have Hp := hidden hp
  have hB0 := below_alloc0 w (.cells #[] 80)
  clear h hn hu hp hM
  go_enter Tryd.func69, Tryd.ntmps69
  go_wp2_with (first
    | (go_at_call 70; go_must (refine (guess_calls A n c l _ (H.out.alloc _) Hn.out hc hb hN _ _ Hu.out Hp.out).mono ?_; rintro e w1 ⟨rfl, hB1⟩; have hB1' := below_next hB0 hB1; clear hB1; rw [show guessN (!true) false = 3 from rfl]))
    | (go_at_call 72; go_must (refine (zzRawStd_calls _).mono ?_; rintro e w2 ⟨g, rfl, hE2, hg2, hB2⟩; have hB2' := below_next hB1' hB2; clear hB2))
    | (go_at_call 58; go_must (refine (decodedLenM_calls g n M _ _ (-1) hMf.out hN _ hE2).mono ?_; rintro e w3 ⟨rfl, rfl⟩))
    | (with_reducible refine at_dst 29 ?_; go_must (refine walk_make rfl _ _ (n := M) rfl Tryd.underlying22 info_u8 rfl rfl rfl rfl rfl (by omega) (by omega) ?_))
    | (go_at_call 57; go_must (refine (decodeAny_calls g w3.heap.size 5 M n c false (-1) A l (List.replicate M 0) _ (hE2.alloc _) (by omega) ((H.out.below hB2' (Nat.le_refl _)).alloc _) Hn.out hb hc hN (zeros_row w3 M _) List.length_replicate (Nat.ne_of_lt hE2.lt) (rd_lt H.out Hn.out hB2'.size) hMf.out).mono ?_; intro e w4 hd; have hB4 := (hB2'.trans ((below_alloc0 w3 _).mono hB2'.size)).grown hd.gr (by simp; have := hB2'.size; omega) (by rintro k ⟨⟩; exact hB2'.size); rcases hd.res with ⟨out, rest, rfl, hdec, hIB, hlen, hRow⟩ | ⟨b', v', rfl, hdec⟩; have HD := hidden hdec; have HLn := hidden hlen; have HRw := hidden hRow; clear hdec hlen hRow; have q := fun W => run_upto (W := W) Tryd.underlying22 size_u8' (some ⟨w3.heap.size, 0, none⟩) M M (out.length : Int) out.length rfl (by rw [← HLn.out, List.length_append]; omega); all_goals dsimp only))
    | (go_at_call 34; go_must (refine (newErrB_calls _ _).mono ?_; rintro e w5 ⟨rfl, hB5⟩)))
  · go_ret2
    exact dec_end hB2'.size hMb HLn.out HRw.out hIB (hdo.out.trans HD.out) hB4 _ rfl
  · go_ret2
    exact ⟨below_next hB4 hB5, .inr ⟨_, _, rfl, hdo.out.trans hdec⟩⟩
set_option maxRecDepth 100000 in
set_option maxHeartbeats 2000000 in
theorem dec_zzStdPadded (A : Option Addr) (n c : Nat) (l : List Int) (w : World) (h : Rd w A (nums .u8 l)) (hn : l.length = n) (hc : n ≤ c) (hb : IsB l) (hN : n ≤ 100000) (hu : true = stdIn l) (hp : true = padded? l) :
    Calls Tryd.prog 69 #[.agg #[], .slice A n c] w fun e w' => DecPost w l e w' := by
  have hdo : Hid (decOf l = decA (tab false) 61 l []) := hidden (by unfold decOf padOf; rw [← hu, ← hp]; rfl)
  obtain ⟨M, hM⟩ : ∃ M, M = roomN 61 n := ⟨_, rfl⟩
  have hMf : Hid (roomFor 61 n M) := hidden (by rw [hM]; exact roomN_for (by omega) n)
  have hMb : M ≤ 100000 := by rw [hM]; exact roomN_le hN
  have hMi : ¬ (M : Int) < 0 := by omega
  have H := hidden h
  have Hn := hidden hn
  have Hu := hidden hu
  have Hp := hidden hp
  have hB0 := below_alloc0 w (.cells #[] 80)
  clear h hn hu hp hM
  go_enter Tryd.func69, Tryd.ntmps69
  go_wp2_with (first
    | (go_at_call 70; go_must (refine (guess_calls A n c l _ (H.out.alloc _) Hn.out hc hb hN _ _ Hu.out Hp.out).mono ?_; rintro e w1 ⟨rfl, hB1⟩; have hB1' := below_next hB0 hB1; clear hB1; rw [show guessN (!true) true = 1 from rfl]))
    | (go_at_call 73; go_must (refine (zzStdPadded_calls _).mono ?_; rintro e w2 ⟨g, rfl, hE2, hg2, hB2⟩; have hB2' := below_next hB1' hB2; clear hB2))
    | (go_at_call 58; go_must (refine (decodedLenM_calls g n M _ _ 61 hMf.out hN _ hE2).mono ?_; rintro e w3 ⟨rfl, rfl⟩))
    | (with_reducible refine at_dst 29 ?_; go_must (refine walk_make rfl _ _ (n := M) rfl Tryd.underlying22 info_u8 rfl rfl rfl rfl rfl (by omega) (by omega) ?_))
    | (go_at_call 57; go_must (refine (decodeAny_calls g w3.heap.size 5 M n c false 61 A l (List.replicate M 0) _ (hE2.alloc _) (by omega) ((H.out.below hB2' (Nat.le_refl _)).alloc _) Hn.out hb hc hN (zeros_row w3 M _) List.length_replicate (Nat.ne_of_lt hE2.lt) (rd_lt H.out Hn.out hB2'.size) hMf.out).mono ?_; intro e w4 hd; have hB4 := (hB2'.trans ((below_alloc0 w3 _).mono hB2'.size)).grown hd.gr (by simp; have := hB2'.size; omega) (by rintro k ⟨⟩; exact hB2'.size); rcases hd.res with ⟨out, rest, rfl, hdec, hIB, hlen, hRow⟩ | ⟨b', v', rfl, hdec⟩; have HD := hidden hdec; have HLn := hidden hlen; have HRw := hidden hRow; clear hdec hlen hRow; have q := fun W => run_upto (W := W) Tryd.underlying22 size_u8' (some ⟨w3.heap.size, 0, none⟩) M M (out.length : Int) out.length rfl (by rw [← HLn.out, List.length_append]; omega); all_goals dsimp only))
    | (go_at_call 34; go_must (refine (newErrB_calls _ _).mono ?_; rintro e w5 ⟨rfl, hB5⟩)))
  · go_ret2
    exact dec_end hB2'.size hMb HLn.out HRw.out hIB (hdo.out.trans HD.out) hB4 _ rfl
  · go_ret2
    exact ⟨below_next hB4 hB5, .inr ⟨_, _, rfl, hdo.out.trans hdec⟩⟩
end Go.Proofs.YtmibnnmampfalaaDoor
