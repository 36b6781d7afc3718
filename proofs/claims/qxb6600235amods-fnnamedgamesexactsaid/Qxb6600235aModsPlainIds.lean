import Derived.Laws.RangeAny
namespace Go.Proofs.Qxb6600235aMods.Ids
open Go

/-- a byte of a game id: a letter, a digit, a dash or an underscore -/
def idNat (n : Nat) : Bool := (decide (97 ≤ n) && decide (n ≤ 122)) || (decide (65 ≤ n) && decide (n ≤ 90)) || (decide (48 ≤ n) && decide (n ≤ 57)) || n == 45 || n == 95
def alpha : List UInt8 := [97, 98, 99, 100, 101, 102, 103, 104, 105, 106, 107, 108, 109, 110, 111, 112, 113, 114, 115, 116, 117, 118, 119, 120, 121, 122, 65, 66, 67, 68, 69, 70, 71, 72, 73, 74, 75, 76, 77, 78, 79, 80, 81, 82, 83, 84, 85, 86, 87, 88, 89, 90, 48, 49, 50, 51, 52, 53, 54, 55, 56, 57, 45, 95]
def anyFrom (n k : Nat) : Bool := (alpha.drop k).any (fun c => c.toNat == n)
theorem alpha_all : ∀ n : Fin 256, anyFrom n.val 0 = idNat n.val := by decide +kernel
theorem alpha_id (n : Nat) (h : n < 256) : anyFrom n 0 = idNat n := alpha_all ⟨n, h⟩
theorem alpha_length : alpha.length = 64 := rfl
theorem anyFrom_end (n : Nat) : anyFrom n 64 = false := rfl
theorem anyFrom_step (n k : Nat) (h : k < 64) : anyFrom n k = ((alpha[k]'h).toNat == n || anyFrom n (k + 1)) := by
  unfold anyFrom
  rw [List.drop_eq_getElem_cons (by exact h), List.any_cons]

/-- every byte from place k on is one of a game id's -/
def okFrom (s : ByteArray) (k : Nat) : Bool := (s.data.toList.drop k).all (fun c => idNat c.toNat)
def idB (s : ByteArray) : Bool := !(s.size == 0) && decide (s.size ≤ 128) && okFrom s 0

theorem okFrom_end (s : ByteArray) (k : Nat) (h : s.size ≤ k) : okFrom s k = true := by
  unfold okFrom
  rw [List.drop_eq_nil_of_le (by simpa using h)]
  rfl
theorem okFrom_step (s : ByteArray) (k : Nat) (h : k < s.size) : okFrom s k = (idNat (s[k]'h).toNat && okFrom s (k + 1)) := by
  unfold okFrom
  rw [List.drop_eq_getElem_cons (by simpa using h), List.all_cons]
  rfl
theorem idNat_lt {n : Nat} (h : idNat n = true) : n < 128 := by
  simp [idNat] at h; omega
theorem idB_empty (s : ByteArray) (h : s.size = 0) : idB s = false := by simp [idB, h]
theorem idB_long (s : ByteArray) (h : 128 < s.size) : idB s = false := by
  have : ¬ s.size ≤ 128 := by omega
  simp [idB, this]
theorem idB_mid (s : ByteArray) (h0 : s.size ≠ 0) (h : s.size ≤ 128) : idB s = okFrom s 0 := by simp [idB, h0, h]
/-- a byte that is no byte of an id stops it -/
theorem stop (s : ByteArray) (k : Nat) (h : k < s.size) (hb : idNat (s[k]'h).toNat = false) : okFrom s k = false := by
  rw [okFrom_step s k h, hb]; rfl
theorem go (s : ByteArray) (k : Nat) (h : k < s.size) (hb : idNat (s[k]'h).toNat = true) : okFrom s k = okFrom s (k + 1) := by
  rw [okFrom_step s k h, hb]; rfl
end Go.Proofs.Qxb6600235aMods.Ids
