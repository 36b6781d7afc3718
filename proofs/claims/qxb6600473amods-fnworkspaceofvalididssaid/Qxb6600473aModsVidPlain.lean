import Derived.Laws.RangeAny
namespace Go.Proofs.Qxb6600473aMods.Vid
open Go

/-- a byte of a workspace id: a small letter, a digit or a dash -/
def idNat (n : Nat) : Bool := (decide (97 ≤ n) && decide (n ≤ 122)) || (decide (48 ≤ n) && decide (n ≤ 57)) || n == 45
/-- every byte from place k on is one of an id's -/
def okFrom (s : ByteArray) (k : Nat) : Bool := (s.data.toList.drop k).all (fun c => idNat c.toNat)
def idB (s : ByteArray) : Bool := !(s.size == 0) && decide (s.size ≤ 64) && okFrom s 0

theorem okFrom_end (s : ByteArray) (k : Nat) (h : s.size ≤ k) : okFrom s k = true := by
  unfold okFrom
  rw [List.drop_eq_nil_of_le (by simpa using h)]
  rfl
theorem okFrom_step (s : ByteArray) (k : Nat) (h : k < s.size) : okFrom s k = (idNat (s[k]'h).toNat && okFrom s (k + 1)) := by
  unfold okFrom
  rw [List.drop_eq_getElem_cons (by simpa using h), List.all_cons]
  rfl
theorem idNat_lt {n : Nat} (h : idNat n = true) : n < 128 := by
  simp [idNat] at h; omega
theorem idB_empty (s : ByteArray) (h : s.size = 0) : idB s = false := by simp [idB, h]
theorem idB_long (s : ByteArray) (h : 64 < s.size) : idB s = false := by
  have : ¬ s.size ≤ 64 := by omega
  simp [idB, this]
theorem idB_mid (s : ByteArray) (h0 : s.size ≠ 0) (h : s.size ≤ 64) : idB s = okFrom s 0 := by simp [idB, h0, h]
theorem stop (s : ByteArray) (k : Nat) (h : k < s.size) (hb : idNat (s[k]'h).toNat = false) : okFrom s k = false := by
  rw [okFrom_step s k h, hb]; rfl
theorem go (s : ByteArray) (k : Nat) (h : k < s.size) (hb : idNat (s[k]'h).toNat = true) : okFrom s k = okFrom s (k + 1) := by
  rw [okFrom_step s k h, hb]; rfl

/-- what the rune at a place tells of the bytes -/
theorem rune_tells (s : ByteArray) (pos : Nat) (h : pos < s.size) :
    ∃ r wd : Nat, Utf8.decode s pos = (r, wd) ∧ ((idNat r = true ∧ wd = 1 ∧ okFrom s pos = okFrom s (pos + 1)) ∨ (idNat r = false ∧ okFrom s pos = false)) ∧ r ≤ 2147483647 := by
  refine ⟨(Utf8.decode s pos).1, (Utf8.decode s pos).2, rfl, ?_, decode_le s pos⟩
  by_cases ha : (s[pos]'h).toNat < 128
  · rw [decode_ascii s pos h ha]
    cases hb : idNat (s[pos]'h).toNat with
    | true => exact .inl ⟨rfl, rfl, Vid.go s pos h hb⟩
    | false => exact .inr ⟨rfl, stop s pos h hb⟩
  · have h1 := (decode_high s pos h (by omega)).1
    refine .inr ⟨?_, stop s pos h ?_⟩
    · cases hb : idNat (Utf8.decode s pos).1 with
      | true => have := idNat_lt hb; omega
      | false => rfl
    · cases hb : idNat (s[pos]'h).toNat with
      | true => have := idNat_lt hb; omega
      | false => rfl

theorem yes_cases {r : Nat} (h : idNat r = true) : (97 ≤ r ∧ r ≤ 122) ∨ (48 ≤ r ∧ r ≤ 57) ∨ r = 45 := by
  simp [idNat] at h; omega
theorem no_cases {r : Nat} (h : idNat r = false) : r < 45 ∨ (45 < r ∧ r < 48) ∨ (57 < r ∧ r < 97) ∨ 122 < r := by
  simp [idNat] at h; omega
/-- an id begins with no point -/
theorem first_of {s : ByteArray} (h : idB s = true) : ∃ c l, s.data.toList = c :: l ∧ idNat c.toNat = true := by
  simp only [idB, Bool.and_eq_true, Bool.not_eq_true', beq_eq_false_iff_ne, ne_eq, decide_eq_true_eq] at h
  obtain ⟨⟨h0, _⟩, h2⟩ := h
  cases hl : s.data.toList with
  | nil =>
    exfalso
    apply h0
    have : s.data.toList.length = 0 := by rw [hl]; rfl
    simpa using this
  | cons c l =>
    refine ⟨c, l, rfl, ?_⟩
    unfold okFrom at h2
    rw [hl] at h2
    simp at h2
    exact h2.1
end Go.Proofs.Qxb6600473aMods.Vid
