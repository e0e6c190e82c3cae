/- The reference's hash: a block. -/
import Derived.Test.YtbdmdajbdmdknaaGreatDoorShaK
namespace Go.Proofs.YtbdmdajbdmdknaaGreatDoor
open Go.RowKit
set_option linter.unusedVariables false
set_option linter.unusedSimpArgs false

/-- A word of a block. -/
def shaWord (b : List Int) (i : Nat) : Int := bits .or .u32 (bits .or .u32 (bits .or .u32 (gi b (4 * i) * 16777216) (gi b (4 * i + 1) * 65536)) (gi b (4 * i + 2) * 256)) (gi b (4 * i + 3))
/-- Cells that are written one behind the other, from s on. -/
def lays (f : List Int → Nat → Int) (ws0 : List Int) (s : Nat) : Nat → List Int
  | 0 => ws0
  | k + 1 => (lays f ws0 s k).set (s + k) (f (lays f ws0 s k) (s + k))
theorem lays_len (f : List Int → Nat → Int) (ws0 : List Int) (s : Nat) : ∀ k, (lays f ws0 s k).length = ws0.length
  | 0 => rfl
  | k + 1 => by rw [lays, List.length_set, lays_len f ws0 s k]
def shaOne (v4 v5 v6 v7 xk xw : Int) : Int := ((v7 + bits .xor .u32 (bits .xor .u32 (turn v4 6) (turn v4 11)) (turn v4 25) + bits .xor .u32 (bits .and .u32 v4 v5) (bits .and .u32 (bits .xor .u32 (if IntKind.u32.signed = true then -1 else IntKind.u32.max) v4) v6) + xk) % 4294967296 + xw) % 4294967296
def shaTwo (v0 v1 v2 : Int) : Int := (bits .xor .u32 (bits .xor .u32 (turn v0 2) (turn v0 13)) (turn v0 22) + bits .xor .u32 (bits .xor .u32 (bits .and .u32 v0 v1) (bits .and .u32 v0 v2)) (bits .and .u32 v1 v2)) % 4294967296
def shaNext (ws : List Int) (i : Nat) : Int := (gi ws (i - 16) + gi ws (i - 7) + bits .xor .u32 (bits .xor .u32 (turn (gi ws (i - 15)) 7) (turn (gi ws (i - 15)) 18)) (gi ws (i - 15) / 8) + bits .xor .u32 (bits .xor .u32 (turn (gi ws (i - 2)) 17) (turn (gi ws (i - 2)) 19)) (gi ws (i - 2) / 1024)) % 4294967296
def ws64 (w16 : List Int) (i : Nat) : List Int := lays shaNext w16 16 (i - 16)
def shaRnd (xk xw : Int) (v : List Int) : List Int := match v with
  | [v0, v1, v2, v3, v4, v5, v6, v7] => [(shaOne v4 v5 v6 v7 xk xw + shaTwo v0 v1 v2) % 4294967296, v0, v1, v2, (v3 + shaOne v4 v5 v6 v7 xk xw) % 4294967296, v4, v5, v6]
  | _ => v
def shaRs (K ws hs : List Int) : Nat → List Int
  | 0 => hs
  | k + 1 => shaRnd (gi K k) (gi ws k) (shaRs K ws hs k)
theorem shaRs_len (K ws hs : List Int) (h : hs.length = 8) : ∀ k, (shaRs K ws hs k).length = 8
  | 0 => h
  | k + 1 => by
    have := shaRs_len K ws hs h k
    rw [shaRs]
    match shaRs K ws hs k, this with
    | [v0, v1, v2, v3, v4, v5, v6, v7], _ => rfl
def shaAdd (v : List Int) (hs : List Int) : Nat → List Int := lays (fun hh i => (gi hh i + gi v i) % 4294967296) hs 0
theorem shaAdd_len (v hs : List Int) (k : Nat) : (shaAdd v hs k).length = hs.length := lays_len _ _ _ _
theorem shaAdd_succ (v hs : List Int) (k : Nat) : shaAdd v hs (k + 1) = (shaAdd v hs k).set k ((gi (shaAdd v hs k) k + gi v k) % 4294967296) := by rw [shaAdd, lays, Nat.zero_add]
def shaWords (b : List Int) : List Int := ws64 (lays (fun _ i => shaWord b i) (List.replicate 64 0) 0 16) 64
/-- The words behind a block. -/
def shaBlk (hs b : List Int) : List Int := shaAdd (shaRs shaK (shaWords b) hs 64) hs 8
theorem shaBlk_len (hs b : List Int) : (shaBlk hs b).length = hs.length := shaAdd_len _ _ _
theorem ws64_len (w16 : List Int) (i : Nat) : (ws64 w16 i).length = w16.length := lays_len _ _ _ _
theorem ws64_succ (w16 : List Int) (i : Nat) (h : 16 ≤ i) : ws64 w16 (i + 1) = (ws64 w16 i).set i (shaNext (ws64 w16 i) i) := by
  obtain ⟨j, rfl⟩ : ∃ j, i = 16 + j := ⟨i - 16, by omega⟩
  rw [ws64, ws64, show 16 + j + 1 - 16 = j + 1 by omega, show 16 + j - 16 = j by omega, lays]
def ws16 (b : List Int) : Nat → List Int := lays (fun _ i => shaWord b i) (List.replicate 64 0) 0
theorem ws16_len (b : List Int) (k : Nat) : (ws16 b k).length = 64 := by rw [ws16, lays_len, List.length_replicate]
theorem ws16_succ (b : List Int) (k : Nat) : ws16 b (k + 1) = (ws16 b k).set k (shaWord b k) := by rw [ws16, lays, Nat.zero_add]
/-- The world of a block's hash, while the words are laid. -/
structure ShaW (w W : World) (hs ws : List Int) : Prop where
  below : Below w.heap.size w W
  rh : Row W w.heap.size 113 (nums .u32 hs)
  rr : Row W (w.heap.size + 1) 113 (nums .u32 [0, 0, 0, 0, 0, 0, 0, 0])
  rw : Row W (w.heap.size + 1 + 1) 146 (nums .u32 ws)
theorem ShaW.next {w W W1 : World} {hs ws : List Int} (h : ShaW w W hs ws) (hb : Below W.heap.size W W1) : ShaW w W1 hs ws :=
  ⟨below_next h.below hb, h.rh.below hb h.rh.lt, h.rr.below hb h.rr.lt, h.rw.below hb h.rw.lt⟩
theorem ShaW.set {w W : World} {hs ws : List Int} (h : ShaW w W hs ws) (i : Nat) (v : Int) : ShaW w (W.setCell ⟨w.heap.size + 1 + 1, i, none⟩ (.int .u32 v)) hs (ws.set i v) :=
  ⟨h.below.setCell (by simp; omega) _, h.rh.far (by simp; omega) _, h.rr.far (by simp) _, h.rw.iset i v⟩
theorem ShaW.drewN {w W : World} {hs ws : List Int} (h : ShaW w W hs ws) (n : Nat) : ShaW w (W.drewN n) hs ws := ⟨below_drewN0 h.below n, h.rh, h.rr, h.rw⟩
theorem ShaW.put {w W : World} {hs ws ws' : List Int} {i : Nat} {v : Int} (h : ShaW w W hs ws) (e : ws' = ws.set i v) : ShaW w (W.setCell ⟨w.heap.size + 1 + 1, i, none⟩ (.int .u32 v)) hs ws' := by
  rw [e]; exact h.set i v
theorem ShaW.put2 {w W W1 : World} {hs ws : List Int} {o : Obj} (h : ShaW w W hs ws) (hg : (W.alloc o).grownBy W1 (some W.heap.size)) : ShaW w W1 hs ws := by
  have h1 := h.next (below_alloc0 W o)
  have hl := h.rw.lt
  exact ⟨h1.below.grown hg h1.below.size (by rintro k ⟨⟩; omega), h1.rh.grown hg (by simp; omega), h1.rr.grown hg (by simp; omega), h1.rw.grown hg (by simp; omega)⟩
theorem Row.put2 {W W1 : World} {g t : Nat} {vs : List Value} {o : Obj} (h : Row W g t vs) (hg : (W.alloc o).grownBy W1 (some W.heap.size)) : Row W1 g t vs :=
  (h.alloc o).grown hg (by have := h.lt; simp; omega)
theorem ShaW.step {w W : World} {hs ws ws' : List Int} {i : Nat} {v : Int} (h : ShaW w W hs ws) (e : ws' = ws.set i v) : ShaW w (W.setCell ⟨w.heap.size + 1 + 1, i, none⟩ (.int .u32 v)).drew hs ws' := by
  rw [e]; exact (h.set i v).drewN 1
/-- The world of a block's hash, while its rounds go. -/
structure ShaV (w W : World) (gK gV : Nat) (hs ws K v : List Int) : Prop where
  s : ShaW w W hs ws
  k : Row W gK 146 (nums .u32 K)
  v : Row W gV 113 (nums .u32 v)
  ne : gK ≠ gV
  nk : w.heap.size + 1 + 1 < gK
  lo : w.heap.size + 1 + 1 < gV
theorem ShaV.drewN {w W : World} {gK gV : Nat} {hs ws K v : List Int} (h : ShaV w W gK gV hs ws K v) (n : Nat) : ShaV w (W.drewN n) gK gV hs ws K v := ⟨h.s.drewN n, h.k.drewN n, h.v.drewN n, h.ne, h.nk, h.lo⟩
theorem ShaV.setH {w W : World} {gK gV i : Nat} {hs hs' ws K v : List Int} {x : Int} (h : ShaV w W gK gV hs ws K v) (e : hs' = hs.set i x) : ShaV w (W.setCell ⟨w.heap.size, i, none⟩ (.int .u32 x)) gK gV hs' ws K v := by
  have hl := h.lo
  have hk := h.s.rw.lt
  rw [e]
  refine ⟨⟨h.s.below.setCell (by simp) _, h.s.rh.iset i x, h.s.rr.far (by simp) _, h.s.rw.far (by simp; omega) _⟩, h.k.far (a := ⟨w.heap.size, i, none⟩) (by have := h.nk; simp; omega) _, h.v.far (by simp; omega) _, h.ne, h.nk, h.lo⟩
theorem ShaV.put {w W W1 : World} {gK gV : Nat} {hs ws K v v' : List Int} (h : ShaV w W gK gV hs ws K v) (hr : Row W1 gV 113 (nums .u32 v')) (hg : W.grownBy W1 (some gV)) : ShaV w W1 gK gV hs ws K v' := by
  have hl := h.lo
  have hn := h.ne
  exact ⟨⟨h.s.below.grown hg h.s.below.size (by rintro k ⟨⟩; omega), h.s.rh.grown hg (by simp; omega), h.s.rr.grown hg (by simp; omega), h.s.rw.grown hg (by simp; omega)⟩, h.k.grown hg (by simp [hn]), hr, hn, h.nk, hl⟩
set_option maxRecDepth 100000 in
set_option maxHeartbeats 2500000 in
theorem shaBlock_calls (h0 h1 h2 h3 h4 h5 h6 h7 : Int) (A : Option Addr) (c : Nat) (b : List Int) (w : World) (hb : Rd w A (nums .u8 b)) (hn : b.length = 64) (hB : IsB b) :
    Calls Tryz.prog 62 #[.agg #[.int .u32 h0, .int .u32 h1, .int .u32 h2, .int .u32 h3, .int .u32 h4, .int .u32 h5, .int .u32 h6, .int .u32 h7], .slice A 64 c] w fun e w' => e = .returned (.agg (nums .u32 (shaBlk [h0, h1, h2, h3, h4, h5, h6, h7] b)).toArray) ∧ Below w.heap.size w w' := by
  have Hb := hidden hb
  have Hn := hidden hn
  have HB := hidden hB
  clear hb hn hB
  go_enter Tryz.func62, Tryz.ntmps62
  go_wp2
  refine wpAbs (fun W => Hid (ShaW w W [h0, h1, h2, h3, h4, h5, h6, h7] (List.replicate 64 0))) ?_ ?_
  · refine hidden ⟨((below_alloc0 w _).alloc (by simp) _).alloc (by simp; omega) _, ?_, ?_, ?_⟩
    · exact ((Row.new w _ (nums .u32 [h0, h1, h2, h3, h4, h5, h6, h7])).alloc _).alloc _
    · have := (Row.new (w.alloc (.cells #[.int .u32 h0, .int .u32 h1, .int .u32 h2, .int .u32 h3, .int .u32 h4, .int .u32 h5, .int .u32 h6, .int .u32 h7] 113)) 113 (nums .u32 [0, 0, 0, 0, 0, 0, 0, 0]))
      rw [World.size_alloc] at this
      exact this.alloc _
    · have := Row.new ((w.alloc (.cells #[.int .u32 h0, .int .u32 h1, .int .u32 h2, .int .u32 h3, .int .u32 h4, .int .u32 h5, .int .u32 h6, .int .u32 h7] 113)).alloc (.cells #[.int .u32 0, .int .u32 0, .int .u32 0, .int .u32 0, .int .u32 0, .int .u32 0, .int .u32 0, .int .u32 0] 113)) 146 (nums .u32 (List.replicate 64 0))
      rw [World.size_alloc, World.size_alloc] at this
      exact this
  intro W0 HS0
  go_loopw [6] (fun i wr => ∃ k : Nat, k ≤ 16 ∧ i = .int .i64 k ∧ Hid (ShaW w wr [h0, h1, h2, h3, h4, h5, h6, h7] (ws16 b k))) (fun i _ => 16 - (intOf i).toNat)
  case atStart => exact ⟨0, by omega, rfl, HS0⟩
  case round =>
    obtain ⟨k, hk, rfl, HS⟩ := hrel
    by_cases hlt : k < 16
    · obtain ⟨b0, o0, rfl, hlt0, c0⟩ := Hb.out.all (by rw [Hn.out]; omega)
      have cell : ∀ i, i < 64 → wr.cell? ⟨b0, o0 + i, none⟩ = some (.int .u8 (gi b i)) := fun i hi => (HS.out.below.cell (p := ⟨b0, o0 + i, none⟩) hlt0).trans (c0 i (by rw [Hn.out]; exact hi))
      have e0 := cell (4 * k) (by omega)
      have e1 := cell (4 * k + 1) (by omega)
      have e2 := cell (4 * k + 2) (by omega)
      have e3 := cell (4 * k + 3) (by omega)
      have b0' := gi_byte HB.out (4 * k)
      have b1' := gi_byte HB.out (4 * k + 1)
      have b2' := gi_byte HB.out (4 * k + 2)
      have b3' := gi_byte HB.out (4 * k + 3)
      have ec := HS.out.rw.icell k (by rw [ws16_len]; omega)
      have ef := HS.out.rw.free k
      clear cell c0 hlt0
      have HW := hidden (ws16_succ b k)
      unfold shaWord at HW
      generalize gi b (4 * k) = x0 at *
      generalize gi b (4 * k + 1) = x1 at *
      generalize gi b (4 * k + 2) = x2 at *
      generalize gi b (4 * k + 3) = x3 at *
      generalize gi (ws16 b k) k = old at *
      go_wp2
      have q0 : 0 ≤ 4 * (k : Int) ∧ 4 * (k : Int) < 64 := by omega
      have q1 : 0 ≤ 4 * (k : Int) + 1 ∧ 4 * (k : Int) + 1 < 64 := by omega
      have q2 : 0 ≤ 4 * (k : Int) + 2 ∧ 4 * (k : Int) + 2 < 64 := by omega
      have q3 : 0 ≤ 4 * (k : Int) + 3 ∧ 4 * (k : Int) + 3 < 64 := by omega
      have m0 : (4 * (k : Int)).toNat = 4 * k := by omega
      have m1 : (4 * (k : Int) + 1).toNat = 4 * k + 1 := by omega
      have m2 : (4 * (k : Int) + 2).toNat = 4 * k + 2 := by omega
      have m3 : (4 * (k : Int) + 3).toNat = 4 * k + 3 := by omega
      have v0 : IntKind.i64.wrap (4 * (k : Int)) = 4 * (k : Int) := IntWalk.i64_in _ (by omega)
      have v1 : IntKind.i64.wrap (4 * (k : Int) + 1) = 4 * (k : Int) + 1 := IntWalk.i64_in _ (by omega)
      have v2 : IntKind.i64.wrap (4 * (k : Int) + 2) = 4 * (k : Int) + 2 := IntWalk.i64_in _ (by omega)
      have v3 : IntKind.i64.wrap (4 * (k : Int) + 3) = 4 * (k : Int) + 3 := IntWalk.i64_in _ (by omega)
      have hki : (k : Int) < 64 := by omega
      have hk0 : 0 ≤ (k : Int) := by omega
      go_still_tail 35, (by kernel_rfl)
      change wpList _ _ _ _ _ wr.drew
      go_wp2
      go_roundw
      case rel => exact ⟨k + 1, by omega, by go_num, hidden (HS.out.step HW.out)⟩
      case measure => simp [intOf]; omega
    · obtain rfl : k = 16 := by omega
      have e16 := ws16_len b 16
      generalize hw16 : ws16 b 16 = w16 at *
      have Hw16 := hidden hw16
      clear hw16
      have HS16 := hidden e16
      clear e16
      go_wp2
      go_loopw [7] (fun i wr => ∃ k : Nat, 16 ≤ k ∧ k ≤ 64 ∧ i = .int .i64 k ∧ Hid (ShaW w wr [h0, h1, h2, h3, h4, h5, h6, h7] (ws64 w16 k))) (fun i _ => 64 - (intOf i).toNat)
      case atStart => exact ⟨16, by omega, by omega, rfl, HS⟩
      case round =>
        obtain ⟨k, hk16, hk, rfl, HS⟩ := hrel
        have Hlw := hidden ((ws64_len w16 k).trans HS16.out)
        have Hnx := hidden (ws64_succ w16 k hk16)
        unfold shaNext at Hnx
        generalize hws : ws64 w16 k = ws at *
        have Hws := hidden hws
        clear hws
        by_cases hlt : k < 64
        · have cell := fun i (hi : i < 64) => HS.out.rw.icell i (by rw [Hlw.out]; exact hi)
          have ea := cell (k - 15) (by omega)
          have eb := cell (k - 2) (by omega)
          have ec := cell (k - 16) (by omega)
          have ed := cell (k - 7) (by omega)
          have ee := cell k hlt
          have ef := HS.out.rw.free k
          clear cell
          generalize gi ws (k - 15) = xa at *
          generalize gi ws (k - 2) = xb at *
          generalize gi ws (k - 16) = xc at *
          generalize gi ws (k - 7) = xd at *
          generalize gi ws k = old at *
          have q1 : 0 ≤ (k : Int) - 15 ∧ (k : Int) - 15 < 64 := by omega
          have q2 : 0 ≤ (k : Int) - 2 ∧ (k : Int) - 2 < 64 := by omega
          have q3 : 0 ≤ (k : Int) - 16 ∧ (k : Int) - 16 < 64 := by omega
          have q4 : 0 ≤ (k : Int) - 7 ∧ (k : Int) - 7 < 64 := by omega
          have q5 : 0 ≤ (k : Int) ∧ (k : Int) < 64 := by omega
          have m1 : ((k : Int) - 15).toNat = k - 15 := by omega
          have m2 : ((k : Int) - 2).toNat = k - 2 := by omega
          have m3 : ((k : Int) - 16).toNat = k - 16 := by omega
          have m4 : ((k : Int) - 7).toNat = k - 7 := by omega
          have v1 : IntKind.i64.wrap ((k : Int) - 15) = (k : Int) - 15 := IntWalk.i64_in _ (by omega)
          have v2 : IntKind.i64.wrap ((k : Int) - 2) = (k : Int) - 2 := IntWalk.i64_in _ (by omega)
          have v3 : IntKind.i64.wrap ((k : Int) - 16) = (k : Int) - 16 := IntWalk.i64_in _ (by omega)
          have v4 : IntKind.i64.wrap ((k : Int) - 7) = (k : Int) - 7 := IntWalk.i64_in _ (by omega)
          go_wp2
          go_quiet (fail)
          go_wp2
          refine wpAbs (fun W => Hid (ShaW w W [h0, h1, h2, h3, h4, h5, h6, h7] ws) ∧ W.cell? ⟨w.heap.size + 1 + 1, k - 16, none⟩ = some (.int .u32 xc) ∧ W.cell? ⟨w.heap.size + 1 + 1, k - 7, none⟩ = some (.int .u32 xd) ∧ W.cell? ⟨w.heap.size + 1 + 1, k, none⟩ = some (.int .u32 old) ∧ W.frozen? ⟨w.heap.size + 1 + 1, k, none⟩ = false) ⟨hidden (HS.out.drewN _), ec, ed, ee, ef⟩ ?_
          clear ea eb ec ed ee ef
          rintro W ⟨HSW, ec, ed, ee, ef⟩
          skip
          refine wp_region_quiet_tail (C := fun w' => ∃ n, w' = W.drewN n) 29 (by kernel_rfl) (by kernel_rfl) (by kernel_rfl) (by kernel_rfl) (by kernel_rfl) (by kernel_rfl) (by kernel_rfl) (by kernel_rfl) ⟨1, rfl⟩ ?_
          simp only [List.take_succ_cons, List.take_zero]
          repeat (go_big_quiet_step ((go_at_call 77; exact Calls.quiet_of (shaTurn_at _ (by decide) (by decide) _ _))))
          refine wpQuiet_nil ?_
          rintro w' ⟨nq, rfl⟩
          simp only [List.drop_succ_cons, List.drop_zero]
          go_wp2
          clear q1 q2 q3 q4 q5 m1 m2 m3 m4 v1 v2 v3 v4 ec ed ee ef
          go_roundw
          case rel => exact ⟨k + 1, by omega, by omega, by go_num, hidden ((HSW.out.drewN nq).put Hnx.out)⟩
          case measure => simp [intOf]; omega
        · obtain rfl : k = 64 := by omega
          clear Hnx hk16 hk hlt
          obtain ⟨K, hK⟩ : ∃ K, K = shaK := ⟨_, rfl⟩
          have HK := hidden hK
          have HKl : Hid (K.length = 64) := hidden (by rw [hK]; exact shaK_len)
          have KK : Hid (∀ W, Calls Tryz.prog 78 #[] W fun e w' => e = .returned (.agg (nums .u32 K).toArray) ∧ Below W.heap.size W w') := hidden (fun W => by rw [hK]; exact shaKeys_calls W)
          have HZ1 : ∀ W : World, Row (W.alloc (.cells #[.int .u32 0, .int .u32 0, .int .u32 0, .int .u32 0, .int .u32 0, .int .u32 0, .int .u32 0, .int .u32 0, .int .u32 0, .int .u32 0, .int .u32 0, .int .u32 0, .int .u32 0, .int .u32 0, .int .u32 0, .int .u32 0, .int .u32 0, .int .u32 0, .int .u32 0, .int .u32 0, .int .u32 0, .int .u32 0, .int .u32 0, .int .u32 0, .int .u32 0, .int .u32 0, .int .u32 0, .int .u32 0, .int .u32 0, .int .u32 0, .int .u32 0, .int .u32 0, .int .u32 0, .int .u32 0, .int .u32 0, .int .u32 0, .int .u32 0, .int .u32 0, .int .u32 0, .int .u32 0, .int .u32 0, .int .u32 0, .int .u32 0, .int .u32 0, .int .u32 0, .int .u32 0, .int .u32 0, .int .u32 0, .int .u32 0, .int .u32 0, .int .u32 0, .int .u32 0, .int .u32 0, .int .u32 0, .int .u32 0, .int .u32 0, .int .u32 0, .int .u32 0, .int .u32 0, .int .u32 0, .int .u32 0, .int .u32 0, .int .u32 0, .int .u32 0] 146)) W.heap.size 146 [.int .u32 0, .int .u32 0, .int .u32 0, .int .u32 0, .int .u32 0, .int .u32 0, .int .u32 0, .int .u32 0, .int .u32 0, .int .u32 0, .int .u32 0, .int .u32 0, .int .u32 0, .int .u32 0, .int .u32 0, .int .u32 0, .int .u32 0, .int .u32 0, .int .u32 0, .int .u32 0, .int .u32 0, .int .u32 0, .int .u32 0, .int .u32 0, .int .u32 0, .int .u32 0, .int .u32 0, .int .u32 0, .int .u32 0, .int .u32 0, .int .u32 0, .int .u32 0, .int .u32 0, .int .u32 0, .int .u32 0, .int .u32 0, .int .u32 0, .int .u32 0, .int .u32 0, .int .u32 0, .int .u32 0, .int .u32 0, .int .u32 0, .int .u32 0, .int .u32 0, .int .u32 0, .int .u32 0, .int .u32 0, .int .u32 0, .int .u32 0, .int .u32 0, .int .u32 0, .int .u32 0, .int .u32 0, .int .u32 0, .int .u32 0, .int .u32 0, .int .u32 0, .int .u32 0, .int .u32 0, .int .u32 0, .int .u32 0, .int .u32 0, .int .u32 0] := fun W => Row.new W _ _
          have HZ := hidden HZ1
          have HY1 : ∀ W : World, Row (W.alloc (.cells #[.int .u32 0, .int .u32 0, .int .u32 0, .int .u32 0, .int .u32 0, .int .u32 0, .int .u32 0, .int .u32 0] 113)) W.heap.size 113 [.int .u32 0, .int .u32 0, .int .u32 0, .int .u32 0, .int .u32 0, .int .u32 0, .int .u32 0, .int .u32 0] := fun W => Row.new W _ _
          have HY := hidden HY1
          clear hK HZ1 HY1
          go_wp2_with (first
            | (go_at_call 78; go_must (refine (KK.out _).mono ?_; rintro e w1 ⟨rfl, hB1⟩; have HS1 := hidden (HS.out.next hB1); clear hB1))
            | (with_reducible refine at_store 10 ?_; go_must (refine walk_store_row (vs := nums .u32 K) rfl 146 (.tmp 10) (.tmp 98) rfl (HZ.out w1) rfl rfl (by rw [nums_len, HKl.out]; kernel_rfl) (by rw [nums_len, HKl.out]; kernel_rfl) (nums_one _ _) ?_; intro w2 hR hg; have HR2 := hidden hR; have HS2 := hidden (HS1.out.put2 hg); clear hR hg))
            | (with_reducible refine at_dst 99 ?_; go_must (refine walk_load_row rfl 113 (.tmp 2) rfl HS2.out.rh rfl Tryz.underlying113 rfl (by kernel_rfl) ?_))
            | (with_reducible refine at_store 11 ?_; go_must (refine walk_store_row (vs := nums .u32 [h0, h1, h2, h3, h4, h5, h6, h7]) rfl 113 (.tmp 11) (.tmp 99) rfl (HY.out w2) rfl rfl (by kernel_rfl) rfl (nums_one _ _) ?_; intro w3 hR hg; have HV3 := hidden hR; have HR3 := hidden (HR2.out.put2 hg); have HS3 := hidden (HS2.out.put2 hg); clear hR hg)))
          go_loopw [12] (fun i wr => ∃ k : Nat, k ≤ 64 ∧ i = .int .i64 k ∧ Hid (ShaV w wr w1.heap.size w2.heap.size [h0, h1, h2, h3, h4, h5, h6, h7] ws K (shaRs K ws [h0, h1, h2, h3, h4, h5, h6, h7] k))) (fun i _ => 64 - (intOf i).toNat)
          case atStart => exact ⟨0, by omega, rfl, hidden ⟨HS3.out, HR3.out, HV3.out, by have := HR2.out.lt; omega, by have := HS1.out.rw.lt; omega, by have := HS2.out.rw.lt; omega⟩⟩
          case round =>
            obtain ⟨k, hk, rfl, HA⟩ := hrel
            by_cases hlt : k < 64
            · have hv8 := shaRs_len K ws [h0, h1, h2, h3, h4, h5, h6, h7] rfl k
              have hA := HA.out
              have hn : shaRs K ws [h0, h1, h2, h3, h4, h5, h6, h7] (k + 1) = shaRnd (gi K k) (gi ws k) (shaRs K ws [h0, h1, h2, h3, h4, h5, h6, h7] k) := rfl
              generalize shaRs K ws [h0, h1, h2, h3, h4, h5, h6, h7] k = v at *
              obtain ⟨v0, v1, v2, v3, v4, v5, v6, v7, rfl⟩ : ∃ v0 v1 v2 v3 v4 v5 v6 v7, v = [v0, v1, v2, v3, v4, v5, v6, v7] := by
                match v, hv8 with
                | [v0, v1, v2, v3, v4, v5, v6, v7], _ => exact ⟨_, _, _, _, _, _, _, _, rfl⟩
              clear HA
              have HA := hidden hA
              have HN := hidden hn
              clear hn
              have q5 : 0 ≤ (k : Int) ∧ (k : Int) < 64 := by omega
              clear hv8 hA
              have c0 : wr.cell? ⟨w2.heap.size, 0, none⟩ = some (.int .u32 v0) := HA.out.v.cell 0
              have c4 : wr.cell? ⟨w2.heap.size, 4, none⟩ = some (.int .u32 v4) := HA.out.v.cell 4
              go_wp2
              go_quiet (fail)
              go_wp2_with (fail)
              refine wpAbs (fun W => Hid (ShaV w W w1.heap.size w2.heap.size [h0, h1, h2, h3, h4, h5, h6, h7] ws K [v0, v1, v2, v3, v4, v5, v6, v7])) (hidden (HA.out.drewN _)) ?_
              clear HA c0 c4
              intro Wa HA
              have c5 : Wa.cell? ⟨w2.heap.size, 5, none⟩ = some (.int .u32 v5) := HA.out.v.cell 5
              have c6 : Wa.cell? ⟨w2.heap.size, 6, none⟩ = some (.int .u32 v6) := HA.out.v.cell 6
              have c7 : Wa.cell? ⟨w2.heap.size, 7, none⟩ = some (.int .u32 v7) := HA.out.v.cell 7
              have ck := HA.out.k.icell k (by rw [HKl.out]; exact hlt)
              have cw := HA.out.s.rw.icell k (by rw [Hlw.out]; exact hlt)
              generalize gi K k = xk at *
              generalize gi ws k = xw at *
              go_wp2
              refine wp_region_quiet_lit (by kernel_rfl) (by kernel_rfl) ?_
              iterate 31 (go_big_quiet_step ((go_at_call 77; exact Calls.quiet_of (shaTurn_at _ (by decide) (by decide) _ _))))
              refine wpQuiet_nil ?_
              rintro w' ⟨nq, rfl⟩
              generalize hone : ((v7 + bits .xor .u32 (bits .xor .u32 (turn v4 6) (turn v4 11)) (turn v4 25) + bits .xor .u32 (bits .and .u32 v4 v5) (bits .and .u32 (bits .xor .u32 (if IntKind.u32.signed = true then -1 else IntKind.u32.max) v4) v6) + xk) % 4294967296 + xw) % 4294967296 = one
              have Hone : Hid (shaOne v4 v5 v6 v7 xk xw = one) := hidden hone
              clear hone
              generalize bits .xor .u32 (if IntKind.u32.signed = true then -1 else IntKind.u32.max) v4 = nv4
              go_wp2_with (fail)
              refine wpAbs (fun W => Hid (ShaV w W w1.heap.size w2.heap.size [h0, h1, h2, h3, h4, h5, h6, h7] ws K [v0, v1, v2, v3, v4, v5, v6, v7])) (hidden (HA.out.drewN _)) ?_
              clear HA c5 c6 c7 ck cw
              intro Wb HA
              have c0 : Wb.cell? ⟨w2.heap.size, 0, none⟩ = some (.int .u32 v0) := HA.out.v.cell 0
              have c1 : Wb.cell? ⟨w2.heap.size, 1, none⟩ = some (.int .u32 v1) := HA.out.v.cell 1
              have c2 : Wb.cell? ⟨w2.heap.size, 2, none⟩ = some (.int .u32 v2) := HA.out.v.cell 2
              have c3 : Wb.cell? ⟨w2.heap.size, 3, none⟩ = some (.int .u32 v3) := HA.out.v.cell 3
              have c4 : Wb.cell? ⟨w2.heap.size, 4, none⟩ = some (.int .u32 v4) := HA.out.v.cell 4
              have c5 : Wb.cell? ⟨w2.heap.size, 5, none⟩ = some (.int .u32 v5) := HA.out.v.cell 5
              have c6 : Wb.cell? ⟨w2.heap.size, 6, none⟩ = some (.int .u32 v6) := HA.out.v.cell 6
              have c7 : Wb.cell? ⟨w2.heap.size, 7, none⟩ = some (.int .u32 v7) := HA.out.v.cell 7
              go_wp2
              refine wp_region_quiet_lit (by kernel_rfl) (by kernel_rfl) ?_
              iterate 25 (go_big_quiet_step ((go_at_call 77; exact Calls.quiet_of (shaTurn_at _ (by decide) (by decide) _ _))))
              refine wpQuiet_nil ?_
              rintro w' ⟨nq, rfl⟩
              generalize htwo : (bits .xor .u32 (bits .xor .u32 (turn v0 2) (turn v0 13)) (turn v0 22) + bits .xor .u32 (bits .xor .u32 (bits .and .u32 v0 v1) (bits .and .u32 v0 v2)) (bits .and .u32 v1 v2)) % 4294967296 = two
              have Htwo : Hid (shaTwo v0 v1 v2 = two) := hidden htwo
              clear htwo
              go_wp2_with (with_reducible refine at_store 11 ?_; go_must (refine walk_store_row (vs := nums .u32 [(one + two) % 4294967296, v0, v1, v2, (v3 + one) % 4294967296, v4, v5, v6]) rfl 113 (.tmp 11) (.tmp 181) rfl (HA.out.drewN nq).v rfl rfl (by kernel_rfl) rfl (nums_one _ _) ?_; intro w4 hR hg; have HA4 := hidden ((HA.out.drewN nq).put hR hg); clear hR hg))
              have HF : Hid (ShaV w w4 w1.heap.size w2.heap.size [h0, h1, h2, h3, h4, h5, h6, h7] ws K (shaRs K ws [h0, h1, h2, h3, h4, h5, h6, h7] (k + 1))) := hidden (by
                rw [HN.out]
                have hx := HA4.out
                rw [← Hone.out, ← Htwo.out] at hx
                exact hx)
              clear HA4 HA c0 c1 c2 c3 c4 c5 c6 c7
              go_roundw
              case rel => exact ⟨k + 1, by omega, by go_num, HF⟩
              case measure => simp [intOf]; omega
            · obtain rfl : k = 64 := by omega
              have hv8 := hidden (shaRs_len K ws [h0, h1, h2, h3, h4, h5, h6, h7] rfl 64)
              have HV : Hid (shaRs K ws [h0, h1, h2, h3, h4, h5, h6, h7] 64 = shaRs K ws [h0, h1, h2, h3, h4, h5, h6, h7] 64) := hidden rfl
              generalize hv : shaRs K ws [h0, h1, h2, h3, h4, h5, h6, h7] 64 = v at HA hv8
              have Hv := hidden hv
              clear hv HV hlt hk
              go_wp2
              go_loopw [17] (fun i wr => ∃ k : Nat, k ≤ 8 ∧ i = .int .i64 k ∧ Hid (ShaV w wr w1.heap.size w2.heap.size (shaAdd v [h0, h1, h2, h3, h4, h5, h6, h7] k) ws K v)) (fun i _ => 8 - (intOf i).toNat)
              case atStart => exact ⟨0, by omega, rfl, HA⟩
              case round =>
                obtain ⟨k, hk, rfl, HA⟩ := hrel
                by_cases hlt : k < 8
                · have HN := hidden (shaAdd_succ v [h0, h1, h2, h3, h4, h5, h6, h7] k)
                  have hl := shaAdd_len v [h0, h1, h2, h3, h4, h5, h6, h7] k
                  have ea := HA.out.s.rh.icell k (by rw [hl]; exact hlt)
                  have eb := HA.out.v.icell k (by rw [hv8.out]; exact hlt)
                  have ef := HA.out.s.rh.free k
                  clear hl
                  generalize gi (shaAdd v [h0, h1, h2, h3, h4, h5, h6, h7] k) k = xa at *
                  generalize gi v k = xb at *
                  have q5 : 0 ≤ (k : Int) ∧ (k : Int) < 8 := by omega
                  go_wp2
                  go_still_tail 8, (by kernel_rfl)
                  change wpList _ _ _ _ _ wr.drew
                  go_wp2
                  clear ea eb ef q5
                  go_roundw
                  case rel => (repeat apply Exists.intro); refine ⟨?_, rfl⟩; exact ⟨k + 1, by omega, by go_num, hidden ((HA.out.setH HN.out).drewN 1)⟩
                  case measure => simp [intOf]; omega
                · obtain rfl : k = 8 := by omega
                  have hl := shaAdd_len v [h0, h1, h2, h3, h4, h5, h6, h7] 8
                  generalize hr : shaAdd v [h0, h1, h2, h3, h4, h5, h6, h7] 8 = r at *
                  have Hr := hidden hr
                  have Hrl := hidden hl
                  clear hr hl hlt hk
                  go_wp2_with (first
                    | (with_reducible refine at_dst 194 ?_; go_must (refine walk_load_row (vs := nums .u32 r) rfl 113 (.tmp 2) rfl HA.out.s.rh rfl Tryz.underlying113 rfl (by rw [nums_len, Hrl.out]; kernel_rfl) ?_))
                    | (with_reducible refine at_store 4 ?_; go_must (refine walk_store_row (vs := nums .u32 r) rfl 113 (.tmp 4) (.tmp 194) rfl HA.out.s.rr rfl rfl (by rw [nums_len, Hrl.out]; kernel_rfl) (by rw [nums_len, nums_len, Hrl.out]; simp) (nums_one _ _) ?_; intro w5 hR hg; have HR5 := hidden hR; have HB5 := hidden (HA.out.s.below.grown hg HA.out.s.below.size (by rintro q ⟨⟩; omega)); clear hR hg)))
                  refine bodyPost_ret (row_results rfl _ rfl HR5.out Tryz.underlying113 rfl (by rw [nums_len, Hrl.out]; kernel_rfl)) rfl ⟨?_, HB5.out⟩
                  rw [← Hr.out, ← Hv.out, ← Hws.out, HK.out, ← Hw16.out]
                  rfl
end Go.Proofs.YtbdmdajbdmdknaaGreatDoor
