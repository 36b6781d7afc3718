import Derived.Laws.RangeAny
namespace Go.Proofs.Qxb6600473aMods.Rd
open Go

/-- a step: its name, creation, awaited -/
structure StepR where
  n : ByteArray
  c : Bool
  a : Bool
/-- a command: its name, key, status -/
structure CmdR where
  n : ByteArray
  k : ByteArray
  s : ByteArray
def stV (A : Nat → StepR) (i : Nat) : Nat → Value
  | 0 => .string (A i).n
  | 1 => .bool (A i).c
  | _ => .bool (A i).a
def st4 (A : Nat → StepR) (i : Nat) : Nat → Value
  | 0 => .string (A i).n
  | 1 => .bool (A i).c
  | 2 => .bool (A i).a
  | _ => .slice none 0 0
def cmV (B : Nat → CmdR) (i : Nat) : Nat → Value
  | 0 => .string (B i).n
  | 1 => .string (B i).k
  | _ => .string (B i).s
def cm6 (B : Nat → CmdR) (i : Nat) : Nat → Value
  | 0 => .string (B i).n
  | 1 => .string (B i).k
  | 2 => .string (B i).s
  | 3 => .pointer none
  | _ => .string ByteArray.empty
def done : List UInt8 := [100, 111, 110, 101]

/-- the last step of the name among the first n -/
def last (A : Nat → StepR) (s : ByteArray) : Nat → Option Nat
  | 0 => none
  | m + 1 => if (A m).n = s then some m else last A s m
theorem last_miss {A : Nat → StepR} {r : ByteArray} {m : Nat} (h : (A m).n ≠ r) : last A r (m + 1) = last A r m := by simp [last, h]
theorem last_hit {A : Nat → StepR} {r : ByteArray} {m : Nat} (h : (A m).n = r) : last A r (m + 1) = some m := by simp [last, h]
def awo (A : Nat → StepR) (s : ByteArray) (n : Nat) : Option Bool := (last A s n).map (fun j => (A j).a)
/-- the last step of that name is awaited -/
def aw (A : Nat → StepR) (s : ByteArray) (n : Nat) : Bool := (awo A s n).getD false
/-- the command k is in the way -/
def bad (A : Nat → StepR) (n : Nat) (c : CmdR) : Bool := aw A c.n n && !(c.s.toList == done)
def anyBad (A : Nat → StepR) (n : Nat) (B : Nat → CmdR) : Nat → Bool
  | 0 => false
  | k + 1 => anyBad A n B k || bad A n (B k)
def rd (owed hasDev : Bool) (A : Nat → StepR) (n : Nat) (B : Nat → CmdR) (m : Nat) : Bool := !owed && (!hasDev || !anyBad A n B m)
theorem anyBad_hit {A : Nat → StepR} {n : Nat} {B : Nat → CmdR} {k : Nat} (h : bad A n (B k) = true) : ∀ m, k < m → anyBad A n B m = true
  | 0, hk => by omega
  | m + 1, hk => by
    by_cases e : k = m
    · subst e; simp [anyBad, h]
    · simp [anyBad, anyBad_hit h m (by omega)]
theorem anyBad_step {A : Nat → StepR} {n : Nat} {B : Nat → CmdR} {k : Nat} (h0 : anyBad A n B k = false) (h : bad A n (B k) = false) : anyBad A n B (k + 1) = false := by simp [anyBad, h, h0]
theorem bad_done {A : Nat → StepR} {n : Nat} {c : CmdR} (h : c.s.toList = done) : bad A n c = false := by simp [bad, h]
theorem bad_aw {A : Nat → StepR} {n : Nat} {c : CmdR} (h : aw A c.n n = false) : bad A n c = false := by simp [bad, h]
theorem bad_yes {A : Nat → StepR} {n : Nat} {c : CmdR} (h : aw A c.n n = true) (h2 : c.s.toList ≠ done) : bad A n c = true := by simp [bad, h, h2]
theorem rd_owed (hasDev : Bool) (A : Nat → StepR) (n : Nat) (B : Nat → CmdR) (m : Nat) : rd true hasDev A n B m = false := rfl
theorem rd_none (A : Nat → StepR) (n : Nat) (B : Nat → CmdR) (m : Nat) : rd false false A n B m = true := rfl
theorem rd_dev (A : Nat → StepR) (n : Nat) (B : Nat → CmdR) (m : Nat) : rd false true A n B m = !anyBad A n B m := rfl
end Go.Proofs.Qxb6600473aMods.Rd
