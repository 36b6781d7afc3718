import Derived.Laws.RangeAny
import Derived.Laws.Strings
import Derived.Lib.Strings
namespace Go.Proofs.Qxb6600473aMods.Ws
open Go

def pre : ByteArray := ⟨#[46, 99, 108, 111, 110, 101, 45]⟩
def dash : ByteArray := ⟨#[45]⟩

/-- the last place of a dash among the first k bytes, or -1 -/
def li (s : ByteArray) : Nat → Int
  | 0 => -1
  | k + 1 => if s.data.toList[k]? = some 45 then (k : Int) else li s k
theorem li_hit {s : ByteArray} {k : Nat} (h : k < s.size) (e : (s[k]'h).toNat = 45) : li s (k + 1) = k := by
  have : s.data.toList[k]? = some 45 := by
    rw [List.getElem?_eq_getElem (by simpa using h)]
    congr 1
    exact UInt8.toNat_inj.1 e
  simp [li, this]
theorem li_miss {s : ByteArray} {k : Nat} (h : k < s.size) (e : ¬ (s[k]'h).toNat = 45) : li s (k + 1) = li s k := by
  have : ¬ s.data.toList[k]? = some 45 := by
    rw [List.getElem?_eq_getElem (by simpa using h)]
    intro x
    simp at x
    apply e
    have : s[k]'h = 45 := x
    rw [this]; rfl
  simp only [li]
  rw [if_neg this]
theorem li_lt (s : ByteArray) : ∀ k, li s k < k ∧ -1 ≤ li s k
  | 0 => by simp [li]
  | k + 1 => by
    have := li_lt s k
    simp only [li]
    split <;> omega

def hasB (s : ByteArray) : Bool := decide (7 ≤ s.size) && ((s.extract 0 7).toList == pre.toList)
/-- what workspaceOf hands back -/
def ws (s : ByteArray) : ByteArray :=
  if hasB s = true then (if 0 ≤ li (s.extract 7 s.size) (s.size - 7) then (s.extract 7 s.size).extract 0 (li (s.extract 7 s.size) (s.size - 7)).toNat else s) else s

/-- no dash from place k on -/
def noDash (s : ByteArray) : Prop := ∀ c ∈ s.data.toList, c ≠ 45

theorem ext {s s' : ByteArray} (h : s.data.toList = s'.data.toList) : s = s' := by
  cases s; cases s'
  simp at h
  subst h
  rfl

/-- the last dash of 'a - b', b without one, stands behind a -/
theorem li_list (s : ByteArray) (a b : List UInt8) (h : s.data.toList = a ++ 45 :: b) (hb : ∀ c ∈ b, c ≠ 45) : ∀ k, k ≤ b.length → li s (a.length + 1 + k) = a.length
  | 0, _ => by simp [li, h]
  | k + 1, hk => by
    have ih := li_list s a b h hb k (by omega)
    have e : s.data.toList[a.length + 1 + k]? = b[k]? := by
      rw [h, List.getElem?_append_right (by omega), show a.length + 1 + k - a.length = k + 1 by omega]
      rfl
    have : ¬ s.data.toList[a.length + 1 + k]? = some 45 := by
      rw [e, List.getElem?_eq_getElem (by omega)]
      intro x
      simp at x
      exact hb _ (List.getElem_mem (by omega)) x
    rw [show a.length + 1 + (k + 1) = a.length + 1 + k + 1 by omega]
    simp only [li, this, if_false]
    exact ih

theorem name_data (id x : ByteArray) : (pre ++ id ++ dash ++ x).data.toList = [46, 99, 108, 111, 110, 101, 45] ++ (id.data.toList ++ 45 :: x.data.toList) := by
  simp [pre, dash]
theorem name_size (id x : ByteArray) : (pre ++ id ++ dash ++ x).size = 8 + id.size + x.size := by
  have h := congrArg List.length (name_data id x)
  have e1 : id.data.toList.length = id.size := by simp
  have e2 : x.data.toList.length = x.size := by simp
  have e3 : (pre ++ id ++ dash ++ x).data.toList.length = (pre ++ id ++ dash ++ x).size := Array.length_toList
  rw [e3] at h
  rw [h, List.length_append, List.length_append, List.length_cons (a := 45), e1, e2]
  show 7 + (id.size + (x.size + 1)) = 8 + id.size + x.size
  omega

theorem ws_name (id x : ByteArray) (hx : noDash x) : ws (pre ++ id ++ dash ++ x) = id := by
  have hd := name_data id x
  have hs := name_size id x
  generalize pre ++ id ++ dash ++ x = s at *
  have hh : hasB s = true := by
    unfold hasB
    rw [ByteArray.toList_eq, ByteArray.toList_eq, Lib.extract_data, hd]
    simp [pre]; omega
  have hcd : (s.extract 7 s.size).data.toList = id.data.toList ++ 45 :: x.data.toList := by
    rw [Lib.extract_data, hd]
    simp
    have e1 : id.data.toList.length = id.size := by simp
    have e2 : x.data.toList.length = x.size := by simp
    apply List.take_of_length_le
    simp; omega
  have e1 : id.data.toList.length = id.size := by simp
  have e2 : x.data.toList.length = x.size := by simp
  have hl := li_list (s.extract 7 s.size) id.data.toList x.data.toList hcd hx x.size (by omega)
  rw [e1, show id.size + 1 + x.size = s.size - 7 by omega] at hl
  unfold ws
  rw [if_pos hh, hl, if_pos (by omega)]
  apply ext
  rw [Lib.extract_data, hcd]
  simp [e1]
theorem ws_other (s : ByteArray) (h : hasB s = false) : ws s = s := by simp [ws, h]
end Go.Proofs.Qxb6600473aMods.Ws
