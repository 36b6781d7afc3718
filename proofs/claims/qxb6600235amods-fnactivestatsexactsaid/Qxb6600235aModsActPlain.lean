import Derived.Laws.RangeAny
namespace Go.Proofs.Qxb6600235aMods.Act
open Go

/-- a player: user, race, uuid, status -/
structure PlR where
  u : ByteArray
  r : ByteArray
  x : ByteArray
  t : ByteArray
/-- an engine's entry: id, race, planets, population -/
structure EnR where
  i : ByteArray
  r : ByteArray
  p : Int
  q : Int

def plV (A : Nat → PlR) (i : Nat) : Nat → Value
  | 0 => .string (A i).u
  | 1 => .string (A i).r
  | 2 => .string (A i).x
  | _ => .string (A i).t
def enV (B : Nat → EnR) (i : Nat) : Nat → Value
  | 0 => .string (B i).i
  | 1 => .string (B i).r
  | 2 => .int .i64 (B i).p
  | _ => .int .i64 (B i).q

def active : List UInt8 := [97, 99, 116, 105, 118, 101]

/-- the last entry of the race among the first m -/
def last (B : Nat → EnR) (r : ByteArray) : Nat → Option Nat
  | 0 => none
  | m + 1 => if (B m).r = r then some m else last B r m

/-- what the player k adds -/
def add (A : Nat → PlR) (B : Nat → EnR) (m k : Nat) : List Value :=
  if (A k).t.toList = active then (match last B (A k).r m with | some j => [.string (A k).u, .int .i64 (B j).p, .int .i64 (B j).q] | none => []) else []
def cnt (A : Nat → PlR) (B : Nat → EnR) (m k : Nat) : Nat :=
  if (A k).t.toList = active then (match last B (A k).r m with | some _ => 1 | none => 0) else 0
/-- the cells of the statistics of the first n players, and how many there are -/
def st (A : Nat → PlR) (B : Nat → EnR) (m : Nat) : Nat → List Value
  | 0 => []
  | k + 1 => st A B m k ++ add A B m k
def num (A : Nat → PlR) (B : Nat → EnR) (m : Nat) : Nat → Nat
  | 0 => 0
  | k + 1 => num A B m k + cnt A B m k

theorem cnt_le (A : Nat → PlR) (B : Nat → EnR) (m k : Nat) : cnt A B m k ≤ 1 := by
  unfold cnt
  split
  · cases last B (A k).r m <;> simp
  · simp
theorem num_le (A : Nat → PlR) (B : Nat → EnR) (m : Nat) : ∀ k, num A B m k ≤ k
  | 0 => Nat.le_refl _
  | k + 1 => by
    have := num_le A B m k
    have := cnt_le A B m k
    simp only [num]; omega

theorem last_none_step {B : Nat → EnR} {r : ByteArray} {m : Nat} (h : (B m).r ≠ r) : last B r (m + 1) = last B r m := by simp [last, h]
theorem last_hit {B : Nat → EnR} {r : ByteArray} {m : Nat} (h : (B m).r = r) : last B r (m + 1) = some m := by simp [last, h]
theorem last_lt {B : Nat → EnR} {r : ByteArray} {j : Nat} : ∀ {m : Nat}, last B r m = some j → j < m
  | 0, h => by simp [last] at h
  | m + 1, h => by
    by_cases e : (B m).r = r
    · rw [last_hit e] at h; simp at h; omega
    · rw [last_none_step e] at h; have := last_lt h; omega

theorem step_hit {A : Nat → PlR} {B : Nat → EnR} {m k j : Nat} (ht : (A k).t.toList = active) (hj : last B (A k).r m = some j) :
    st A B m (k + 1) = st A B m k ++ [.string (A k).u, .int .i64 (B j).p, .int .i64 (B j).q] ∧ num A B m (k + 1) = num A B m k + 1 := by
  simp [st, num, add, cnt, ht, hj]
theorem step_out {A : Nat → PlR} {B : Nat → EnR} {m k : Nat} (ht : (A k).t.toList ≠ active) : st A B m (k + 1) = st A B m k ∧ num A B m (k + 1) = num A B m k := by
  simp [st, num, add, cnt, ht]
theorem step_miss {A : Nat → PlR} {B : Nat → EnR} {m k : Nat} (hj : last B (A k).r m = none) : st A B m (k + 1) = st A B m k ∧ num A B m (k + 1) = num A B m k := by
  simp [st, num, add, cnt, hj]
end Go.Proofs.Qxb6600235aMods.Act
