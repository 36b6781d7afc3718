import Derived.Laws.RangeAny
import Derived.Laws.Strings
import Derived.Lib.Strings
namespace Go.Proofs.Qxb6601027aMods.Num
open Go

def dg (n : Nat) : Bool := decide (48 ≤ n) && decide (n ≤ 57)
def sg (n : Nat) : Bool := n == 43 || n == 45
def allDg (L : List UInt8) : Bool := L.all (fun c => dg c.toNat)
/-- what isExponent answers -/
def expL : List UInt8 → Bool
  | [] => false
  | c :: r => if sg c.toNat = true then (allDg r && !r.isEmpty) else allDg (c :: r)
def cnt (L : List UInt8) : Nat := (L.filter (fun c => dg c.toNat)).length
def lead : List UInt8 → Nat
  | [] => 0
  | c :: _ => if sg c.toNat = true then 1 else 0
/-- what zzExponentByCount answers -/
def bc (L : List UInt8) : Bool := decide (1 ≤ cnt L) && (cnt L + lead L == L.length)

theorem cnt_le (L : List UInt8) : cnt L ≤ L.length := List.length_filter_le _ _
theorem all_cnt (L : List UInt8) : allDg L = (cnt L == L.length) := by
  unfold allDg cnt
  rw [Bool.eq_iff_iff]
  simp [List.length_filter_eq_length_iff]
theorem sg_dg {n : Nat} (h : sg n = true) : dg n = false := by
  simp [sg] at h
  simp [dg]; omega
theorem cnt_sg {c : UInt8} {r : List UInt8} (h : sg c.toNat = true) : cnt (c :: r) = cnt r := by
  unfold cnt
  rw [List.filter_cons_of_neg (by simp [sg_dg h])]
theorem exp_bc (L : List UInt8) : expL L = bc L := by
  cases L with
  | nil => rfl
  | cons c r =>
    have hr := cnt_le r
    by_cases h : sg c.toNat = true
    · simp only [expL, bc, lead, h, if_true, cnt_sg h, List.length_cons, all_cnt]
      rw [Bool.eq_iff_iff]
      cases r with
      | nil => simp [cnt]
      | cons d q =>
        simp at hr ⊢
        omega
    · simp only [expL, bc, lead, h, all_cnt]
      rw [Bool.eq_iff_iff]
      simp
      omega

/-- every byte from place k on is a digit -/
def allFrom (s : ByteArray) (k : Nat) : Bool := allDg (s.data.toList.drop k)
theorem allFrom_end (s : ByteArray) (k : Nat) (h : s.size ≤ k) : allFrom s k = true := by
  unfold allFrom
  rw [List.drop_eq_nil_of_le (by simpa using h)]
  rfl
theorem allFrom_step (s : ByteArray) (k : Nat) (h : k < s.size) : allFrom s k = (dg (s[k]'h).toNat && allFrom s (k + 1)) := by
  unfold allFrom allDg
  rw [List.drop_eq_getElem_cons (by simpa using h), List.all_cons]
  rfl
theorem data_cons (s : ByteArray) (h : 0 < s.size) : s.data.toList = (s[0]'h) :: s.data.toList.drop 1 := by
  have := List.drop_eq_getElem_cons (l := s.data.toList) (i := 0) (by simpa using h)
  rw [List.drop_zero] at this
  exact this
theorem len_data (s : ByteArray) : s.data.toList.length = s.size := Array.length_toList
theorem isEmpty_data (s : ByteArray) : s.data.toList.isEmpty = (s.size == 0) := by
  rw [← len_data]
  cases s.data.toList <;> rfl
theorem exp_empty (s : ByteArray) (h : s.size = 0) : expL s.data.toList = false := by
  have := isEmpty_data s
  rw [h] at this
  cases hl : s.data.toList with
  | nil => rfl
  | cons c r => rw [hl] at this; simp at this
theorem exp_plain (s : ByteArray) (h : 0 < s.size) (hs : sg (s[0]'h).toNat = false) : expL s.data.toList = allFrom s 0 := by
  have hd := data_cons s h
  rw [hd]
  simp only [expL, hs, Bool.false_eq_true, if_false]
  rw [← hd]
  rfl
theorem tail_data (s : ByteArray) : (s.extract 1 s.size).data.toList = s.data.toList.drop 1 := by
  rw [Lib.extract_data]
  apply List.take_of_length_le
  simp
theorem exp_signed (s : ByteArray) (h : 0 < s.size) (hs : sg (s[0]'h).toNat = true) : expL s.data.toList = (allFrom (s.extract 1 s.size) 0 && !((s.extract 1 s.size).size == 0)) := by
  have hd := data_cons s h
  rw [hd]
  simp only [expL, hs, if_true]
  have e := isEmpty_data (s.extract 1 s.size)
  rw [tail_data] at e
  rw [← e]
  unfold allFrom
  rw [tail_data, List.drop_zero]

/-- how many digits there are among the first k bytes -/
def cntTo (s : ByteArray) (k : Nat) : Nat := cnt (s.data.toList.take k)
theorem cntTo_le (s : ByteArray) (k : Nat) : cntTo s k ≤ k := by
  have h1 := cnt_le (s.data.toList.take k)
  have h2 := List.length_take_le k s.data.toList
  unfold cntTo; omega
theorem cntTo_step (s : ByteArray) (k : Nat) (h : k < s.size) : cntTo s (k + 1) = cntTo s k + (if dg (s[k]'h).toNat = true then 1 else 0) := by
  unfold cntTo cnt
  rw [List.take_succ_eq_append_getElem (by simpa using h), List.filter_append, List.length_append]
  congr 1
  show (List.filter (fun c => dg c.toNat) [s[k]'h]).length = _
  by_cases e : dg (s[k]'h).toNat = true
  · simp [e]
  · simp [e]
theorem cntTo_all (s : ByteArray) : cntTo s s.size = cnt s.data.toList := by
  unfold cntTo
  rw [List.take_of_length_le (by simp)]
theorem lead_empty (s : ByteArray) (h : s.size = 0) : lead s.data.toList = 0 := by
  have := isEmpty_data s
  rw [h] at this
  cases hl : s.data.toList with
  | nil => rfl
  | cons c r => rw [hl] at this; simp at this
theorem lead_at (s : ByteArray) (h : 0 < s.size) : lead s.data.toList = if sg (s[0]'h).toNat = true then 1 else 0 := by
  rw [data_cons s h]; rfl
end Go.Proofs.Qxb6601027aMods.Num
