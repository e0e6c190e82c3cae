/- The steps of a key set as a list of numbers, and what the laws of FnKeySetBack and FnKeySetOrder ask of them. Nothing here speaks of the program. -/
import Derived.WalkKit
namespace Go.Proofs.YthgklpkkcaiehaaDoor
set_option linter.unusedVariables false
set_option linter.unusedSimpArgs false

structure KSt where
  kind : Nat
  key : Nat
  at_ : Nat
  id : ByteArray
structure Seen where
  ok : Bool
  index : Int
  found : Int
  all : List Nat
  deriving DecidableEq
def posK (s : List Nat) (k : Nat) : Int := if k ∈ s then (s.idxOf k : Int) else -1
/-- What a step gives, and the set behind it: the kinds are AddKey 0, RemoveKey 1, Index 2, Key 3, LookupKeyID 4; m keys; 'ids' tells their IDs. -/
def stepK (m : Nat) (ids : Nat → Option ByteArray) (s : List Nat) (x : KSt) : Seen :=
  if x.kind = 0 ∧ x.key < m then (if x.key ∈ s then ⟨false, -1, -1, s⟩ else ⟨true, -1, -1, s ++ [x.key]⟩)
  else if x.kind = 1 ∧ x.key < m then (if x.key ∈ s then ⟨true, -1, -1, s.erase x.key⟩ else ⟨false, -1, -1, s⟩)
  else if x.kind = 2 ∧ x.key < m then ⟨true, posK s x.key, -1, s⟩
  else if x.kind = 3 then (match s[x.at_]? with | some k => ⟨true, -1, k, s⟩ | none => ⟨false, -1, -1, s⟩)
  else if x.kind = 4 then (match s.find? (fun k => decide (ids k = some x.id)) with | some k => ⟨true, -1, k, s⟩ | none => ⟨false, -1, -1, s⟩)
  else ⟨true, -1, -1, s⟩
def stK (m : Nat) (ids : Nat → Option ByteArray) (s : List Nat) (l : List KSt) : List Nat := l.foldl (fun s x => (stepK m ids s x).all) s
def runK (m : Nat) (ids : Nat → Option ByteArray) : List Nat → List KSt → List Seen
  | _, [] => []
  | s, x :: l => stepK m ids s x :: runK m ids (stepK m ids s x).all l
theorem stK_snoc (m : Nat) (ids : Nat → Option ByteArray) (s : List Nat) (l : List KSt) (x : KSt) : stK m ids s (l ++ [x]) = (stepK m ids (stK m ids s l) x).all := by simp [stK]
theorem runK_snoc (m : Nat) (ids : Nat → Option ByteArray) (x : KSt) : ∀ (l : List KSt) (s : List Nat), runK m ids s (l ++ [x]) = runK m ids s l ++ [stepK m ids (stK m ids s l) x]
  | [], s => rfl
  | y :: l, s => by simp [runK, stK, runK_snoc m ids x l]
theorem runK_len (m : Nat) (ids : Nat → Option ByteArray) : ∀ (l : List KSt) (s : List Nat), (runK m ids s l).length = l.length
  | [], _ => rfl
  | _ :: l, s => by simp [runK, runK_len m ids l]
/-- What holds of the set throughout: each key is there once, and is one of the keys. -/
structure SetOk (m : Nat) (s : List Nat) : Prop where
  nd : s.Nodup
  lt : ∀ k ∈ s, k < m
theorem SetOk.nil (m : Nat) : SetOk m [] := ⟨List.nodup_nil, by simp⟩
theorem SetOk.len {m : Nat} {s : List Nat} (h : SetOk m s) : s.length ≤ m := by
  have h1 : s ⊆ List.range m := fun k hk => List.mem_range.2 (h.lt k hk)
  have := (List.nodup_range (n := m))
  have h2 := h.nd.length_le_of_subset h1
  simpa using h2
theorem SetOk.step {m : Nat} {ids : Nat → Option ByteArray} {s : List Nat} (h : SetOk m s) (x : KSt) : SetOk m (stepK m ids s x).all := by
  unfold stepK
  split
  · split
    · exact h
    · rename_i h1 h2
      refine ⟨?_, ?_⟩
      · rw [List.nodup_append]
        refine ⟨h.nd, by simp, ?_⟩
        intro a ha b hb e
        simp at hb
        subst hb
        exact h2 (e ▸ ha)
      · intro k hk
        rcases List.mem_append.1 hk with hk | hk
        · exact h.lt k hk
        · simp at hk; omega
  · split
    · split
      · exact ⟨h.nd.erase _, fun k hk => h.lt k (List.mem_of_mem_erase hk)⟩
      · exact h
    · split
      · exact h
      · split
        · split <;> exact h
        · split
          · split <;> exact h
          · exact h
/-! FnKeySetBack. -/
def kst (kind key at_ : Nat) : KSt := ⟨kind, key, at_, ByteArray.empty⟩
def backL (n t : Nat) : List KSt := (List.range n).map (fun i => kst 0 i 0) ++ (List.range n).flatMap (fun i => [kst 2 i 0, kst 3 0 i, kst 0 i 0]) ++ (List.range n).map (fun i => kst 1 ((i + t) % n) 0)
def seenAt (l : List Seen) (i : Nat) : Seen := l.getD i ⟨false, 0, 0, []⟩
def backOk (n t : Nat) : Bool :=
  let x := runK n (fun _ => none) [] (backL n t)
  (List.range n).all fun i => (seenAt x i).ok && (seenAt x i).all.length == i + 1 && (seenAt x (n + 3 * i)).index == (i : Int) && (seenAt x (n + 3 * i + 1)).ok && (seenAt x (n + 3 * i + 1)).found == (i : Int)
    && !(seenAt x (n + 3 * i + 2)).ok && (seenAt x (n + 3 * i + 2)).all.length == n && (seenAt x (4 * n + i)).ok && (seenAt x (4 * n + i)).all.length == n - 1 - i && !(seenAt x (4 * n + i)).all.contains ((i + t) % n)
theorem back_all : ((List.range 9).all fun n => (List.range n).all fun t => backOk n t) = true := by decide +kernel
end Go.Proofs.YthgklpkkcaiehaaDoor
