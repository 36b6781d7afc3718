import Derived.Test.Qxb6600235aModsPlainIds
import Derived.Laws.Strings
namespace Go.Proofs.Qxb6600235aMods.Ev
open Go Go.Proofs.Qxb6600235aMods.Ids

/-- a health event: id, game, type, failing, why it is of no use -/
structure EvR where
  i : ByteArray
  g : ByteArray
  t : ByteArray
  f : Bool
  u : ByteArray
def evV (E : Nat → EvR) (k : Nat) : Nat → Value
  | 0 => .string (E k).i
  | 1 => .string (E k).g
  | 2 => .string (E k).t
  | 3 => .bool (E k).f
  | _ => .string (E k).u

/-- the event can be used -/
def us (e : EvR) : Bool := e.u.toList.isEmpty && idB e.g
/-- some event before k that can be used names the game -/
def seen (E : Nat → EvR) (s : ByteArray) : Nat → Bool
  | 0 => false
  | k + 1 => seen E s k || (us (E k) && decide ((E k).g = s))
def names (E : Nat → EvR) : Nat → List Value
  | 0 => []
  | k + 1 => names E k ++ (if us (E k) = true ∧ seen E (E k).g k = false then [.string (E k).g] else [])
def num (E : Nat → EvR) : Nat → Nat
  | 0 => 0
  | k + 1 => num E k + (if us (E k) = true ∧ seen E (E k).g k = false then 1 else 0)

theorem num_le (E : Nat → EvR) : ∀ k, num E k ≤ k
  | 0 => Nat.le_refl _
  | k + 1 => by
    have := num_le E k
    simp only [num]; split <;> omega
theorem names_length (E : Nat → EvR) : ∀ k, (names E k).length = num E k * 1
  | 0 => rfl
  | k + 1 => by
    have := names_length E k
    simp only [names, num, List.length_append]; split <;> simp_all
theorem names_strings (E : Nat → EvR) : ∀ k v, v ∈ names E k → ∃ s, v = .string s
  | 0, v, h => by simp [names] at h
  | k + 1, v, h => by
    simp only [names, List.mem_append] at h
    rcases h with h | h
    · exact names_strings E k v h
    · split at h
      · simp at h; exact ⟨_, h⟩
      · simp at h

theorem step_out {E : Nat → EvR} {k : Nat} (h : us (E k) = false) : names E (k + 1) = names E k ∧ num E (k + 1) = num E k ∧ ∀ s, seen E s (k + 1) = seen E s k := by
  simp [names, num, seen, h]
theorem step_again {E : Nat → EvR} {k : Nat} (h : seen E (E k).g k = true) : names E (k + 1) = names E k ∧ num E (k + 1) = num E k ∧ ∀ s, seen E s (k + 1) = seen E s k := by
  refine ⟨by simp [names, h], by simp [num, h], fun s => ?_⟩
  by_cases e : (E k).g = s
  · subst e; simp [seen, h]
  · simp [seen, e]
theorem step_new {E : Nat → EvR} {k : Nat} (hu : us (E k) = true) (h : seen E (E k).g k = false) : names E (k + 1) = names E k ++ [.string (E k).g] ∧ num E (k + 1) = num E k + 1 ∧ ∀ s, seen E s (k + 1) = (seen E s k || decide (s = (E k).g)) := by
  refine ⟨by simp [names, h, hu], by simp [num, h, hu], fun s => ?_⟩
  simp only [seen, hu, Bool.true_and]
  congr 1
  by_cases e : (E k).g = s
  · simp [e]
  · have : ¬ s = (E k).g := fun x => e x.symm
    simp [e, this]
theorem seen_hit {E : Nat → EvR} {s : ByteArray} {t : Nat} (hu : us (E t) = true) (h : (E t).g = s) : ∀ k, t < k → seen E s k = true
  | 0, hk => by omega
  | k + 1, hk => by
    by_cases e : t = k
    · subst e; simp [seen, hu, h]
    · have := seen_hit hu h k (by omega)
      simp [seen, this]
theorem us_no {e : EvR} (h : e.u.toList.isEmpty = false) : us e = false := by simp [us, h]
theorem us_bad {e : EvR} (h : idB e.g = false) : us e = false := by simp [us, h]
theorem us_yes {e : EvR} (h : e.u.toList.isEmpty = true) (h2 : idB e.g = true) : us e = true := by simp [us, h, h2]
end Go.Proofs.Qxb6600235aMods.Ev
