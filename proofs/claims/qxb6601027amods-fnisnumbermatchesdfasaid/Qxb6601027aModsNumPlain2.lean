import Derived.Test.Qxb6601027aModsNumPlain
namespace Go.Proofs.Qxb6601027aMods.Num
open Go

/-- what isNumber answers for the bytes that are left, when `d` says that a digit was seen -/
def num : List UInt8 → Bool → Bool
  | [], d => d
  | c :: r, d =>
    if dg c.toNat = true then num r true
    else if c.toNat = 46 ∨ c.toNat = 44 then num r d
    else if c.toNat = 69 ∨ c.toNat = 101 then (d && expL r)
    else false

/-- one step of zzNumberStep -/
def step (st n : Nat) : Nat :=
  match st with
  | 0 => if dg n = true then 1 else if n = 46 ∨ n = 44 then 0 else 5
  | 1 => if dg n = true then 1 else if n = 46 ∨ n = 44 then 1 else if n = 69 ∨ n = 101 then 2 else 5
  | 2 => if dg n = true then 4 else if sg n = true then 3 else 5
  | 3 => if dg n = true then 4 else 5
  | 4 => if dg n = true then 4 else 5
  | _ => 5
def run (st : Nat) (L : List UInt8) : Nat := L.foldl (fun q c => step q c.toNat) st
def acc (st : Nat) : Bool := st == 1 || st == 4

theorem step_le (st n : Nat) : step st n ≤ 5 := by
  unfold step
  split <;> repeat' split
  all_goals omega
theorem run_cons (st : Nat) (c : UInt8) (r : List UInt8) : run st (c :: r) = run (step st c.toNat) r := rfl

theorem acc5 (L : List UInt8) : acc (run 5 L) = false := by
  induction L with
  | nil => rfl
  | cons c r ih => rw [run_cons]; exact ih
theorem acc4 (L : List UInt8) : acc (run 4 L) = allDg L := by
  induction L with
  | nil => rfl
  | cons c r ih =>
    rw [run_cons]
    cases h : dg c.toNat with
    | true => simpa [step, h, allDg] using ih
    | false => simp [step, h, allDg, acc5]
theorem acc3 (L : List UInt8) : acc (run 3 L) = (allDg L && !L.isEmpty) := by
  cases L with
  | nil => rfl
  | cons c r =>
    rw [run_cons]
    cases h : dg c.toNat with
    | true => simp [step, h, allDg, acc4]
    | false => simp [step, h, allDg, acc5]
theorem acc2 (L : List UInt8) : acc (run 2 L) = expL L := by
  cases L with
  | nil => rfl
  | cons c r =>
    rw [run_cons]
    cases hs : sg c.toNat with
    | true =>
      have h := sg_dg hs
      simp [step, h, hs, expL, acc3]
    | false =>
      cases h : dg c.toNat with
      | true => simp [step, h, hs, expL, allDg, acc4]
      | false => simp [step, h, hs, expL, allDg, acc5]
theorem acc01 (L : List UInt8) : ∀ d : Bool, acc (run (if d = true then 1 else 0) L) = num L d := by
  induction L with
  | nil => intro d; cases d <;> rfl
  | cons c r ih =>
    intro d
    have iht := ih true
    have ihf := ih false
    rw [if_pos rfl] at iht
    rw [if_neg (by decide)] at ihf
    rw [run_cons]
    cases d with
    | true =>
      simp only [num, if_pos]
      cases h : dg c.toNat with
      | true => simp [step, h, iht]
      | false =>
        by_cases hs : c.toNat = 46 ∨ c.toNat = 44
        · simp [step, h, hs, iht]
        · by_cases he : c.toNat = 69 ∨ c.toNat = 101
          · simp [step, h, hs, he, acc2]
          · simp [step, h, hs, he, acc5]
    | false =>
      simp only [num]
      cases h : dg c.toNat with
      | true => simp [step, h, iht]
      | false =>
        by_cases hs : c.toNat = 46 ∨ c.toNat = 44
        · simp [step, h, hs, ihf]
        · simp [step, h, hs, acc5]
theorem dfa_num (L : List UInt8) : acc (run 0 L) = num L false := acc01 L false

/-- the state after the first k bytes -/
def runTo (s : ByteArray) (k : Nat) : Nat := run 0 (s.data.toList.take k)
theorem runTo_step (s : ByteArray) (k : Nat) (h : k < s.size) : runTo s (k + 1) = step (runTo s k) (s[k]'h).toNat := by
  unfold runTo run
  rw [List.take_succ_eq_append_getElem (by simpa using h), List.foldl_append]
  rfl
theorem runTo_le (s : ByteArray) (k : Nat) : runTo s k ≤ 5 := by
  unfold runTo run
  generalize hL : s.data.toList.take k = L
  clear hL
  suffices h : ∀ st, st ≤ 5 → List.foldl (fun q (c : UInt8) => step q c.toNat) st L ≤ 5 from h 0 (by omega)
  induction L with
  | nil => intro st h; exact h
  | cons c r ih => intro st _; exact ih _ (step_le _ _)
theorem runTo_all (s : ByteArray) : runTo s s.size = run 0 s.data.toList := by
  unfold runTo
  rw [List.take_of_length_le (by simp)]

def numFrom (s : ByteArray) (k : Nat) (d : Bool) : Bool := num (s.data.toList.drop k) d
theorem numFrom_end (s : ByteArray) (k : Nat) (d : Bool) (h : s.size ≤ k) : numFrom s k d = d := by
  unfold numFrom
  rw [List.drop_eq_nil_of_le (by simpa using h)]
  rfl
theorem numFrom_step (s : ByteArray) (k : Nat) (d : Bool) (h : k < s.size) :
    numFrom s k d = (if dg (s[k]'h).toNat = true then numFrom s (k + 1) true
      else if (s[k]'h).toNat = 46 ∨ (s[k]'h).toNat = 44 then numFrom s (k + 1) d
      else if (s[k]'h).toNat = 69 ∨ (s[k]'h).toNat = 101 then (d && expL (s.extract (k + 1) s.size).data.toList)
      else false) := by
  unfold numFrom
  have e : (s.extract (k + 1) s.size).data.toList = s.data.toList.drop (k + 1) := by
    rw [Lib.extract_data]
    apply List.take_of_length_le
    simp
  rw [e, List.drop_eq_getElem_cons (by simpa using h)]
  rfl
end Go.Proofs.Qxb6601027aMods.Num
