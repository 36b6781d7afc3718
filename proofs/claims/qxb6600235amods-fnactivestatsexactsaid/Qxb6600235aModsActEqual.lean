import Derived.Test.Qxb6600235aModsActClone
import Derived.Deep.QuietTactic
import Derived.BigQuiet
namespace Go.Proofs.Qxb6600235aMods.Act
open Go.RowKit Go.Proofs.Qxb6600235aMods.Recs

/-- N triples: a string and two numbers -/
def Tri (L : List Value) (N : Nat) : Prop := ∀ k, k < N → ∃ u p q, L[k * 3]? = some (.string u) ∧ L[k * 3 + 1]? = some (.int .i64 p) ∧ L[k * 3 + 2]? = some (.int .i64 q)

theorem Tri_snoc {L : List Value} {N : Nat} (h : Tri L N) (hl : L.length = N * 3) (u : ByteArray) (p q : Int) : Tri (L ++ [.string u, .int .i64 p, .int .i64 q]) (N + 1) := by
  intro k hk
  by_cases e : k = N
  · subst e
    refine ⟨u, p, q, ?_, ?_, ?_⟩
    · rw [List.getElem?_append_right (by omega)]; simp [hl]
    · rw [List.getElem?_append_right (by omega)]; simp [hl]
    · rw [List.getElem?_append_right (by omega)]; simp [hl]
  · obtain ⟨u', p', q', h1, h2, h3⟩ := h k (by omega)
    exact ⟨u', p', q', by rw [List.getElem?_append_left (by omega)]; exact h1, by rw [List.getElem?_append_left (by omega)]; exact h2, by rw [List.getElem?_append_left (by omega)]; exact h3⟩

theorem st_tri (A : Nat → PlR) (B : Nat → EnR) (m : Nat) : ∀ n, (st A B m n).length = num A B m n * 3 ∧ Tri (st A B m n) (num A B m n)
  | 0 => ⟨rfl, fun k hk => absurd hk (Nat.not_lt_zero _)⟩
  | n + 1 => by
    obtain ⟨hl, ht⟩ := st_tri A B m n
    by_cases hact : (A n).t.toList = active
    · cases hj : last B (A n).r m with
      | none => rw [(step_miss hj).1, (step_miss hj).2]; exact ⟨hl, ht⟩
      | some j =>
        rw [(step_hit hact hj).1, (step_hit hact hj).2]
        exact ⟨by simp [hl, Nat.add_mul], Tri_snoc ht hl _ _ _⟩
    · rw [(step_out hact).1, (step_out hact).2]; exact ⟨hl, ht⟩

set_option maxHeartbeats 1000000 in
theorem statsEqual_any (g1 g2 c1 c2 N : Nat) (L : List Value) (w : World) (hN : N ≤ 1024) (hT : Tri L N) (h1 : ∀ j, j < N * 3 → w.cell? ⟨g1, j, none⟩ = L[j]?) (h2 : ∀ j, j < N * 3 → w.cell? ⟨g2, j, none⟩ = L[j]?) :
    Calls Trym.prog 31 #[.slice (some ⟨g1, 0, none⟩) N c1, .slice (some ⟨g2, 0, none⟩) N c2] w fun e w' => e = .returned (.bool true) ∧ Below w.heap.size w w' := by
  have HT : Hid (Tri L N ∧ (∀ j, j < N * 3 → w.cell? ⟨g1, j, none⟩ = L[j]?) ∧ (∀ j, j < N * 3 → w.cell? ⟨g2, j, none⟩ = L[j]?)) := ⟨hT, h1, h2⟩
  clear hT h1 h2
  have hne : ((N : Int) != N) = false := by simp
  go_enter Trym.func31, Trym.ntmps31
  go_wp2
  go_loopw [5] (fun i wr => ∃ k q : Nat, k ≤ N ∧ i = .int .i64 k ∧ wr = w.drewN q) (fun i _ => N - (intOf i).toNat)
  case atStart => exact ⟨0, 0, Nat.zero_le _, rfl, rfl⟩
  case round =>
    obtain ⟨k, q, hk, rfl, rfl⟩ := hrel
    by_cases hlt : k < N
    · obtain ⟨u, x, y, t0, t1, t2⟩ := HT.out.1 k hlt
      have a0 : w.cell? ⟨g1, k * 3, none⟩ = some (.string u) := (HT.out.2.1 (k * 3) (by omega)).trans t0
      have a1 : w.cell? ⟨g1, k * 3 + 1, none⟩ = some (.int .i64 x) := (HT.out.2.1 (k * 3 + 1) (by omega)).trans t1
      have a2 : w.cell? ⟨g1, k * 3 + 2, none⟩ = some (.int .i64 y) := (HT.out.2.1 (k * 3 + 2) (by omega)).trans t2
      have b0 : w.cell? ⟨g2, k * 3, none⟩ = some (.string u) := (HT.out.2.2 (k * 3) (by omega)).trans t0
      have b1 : w.cell? ⟨g2, k * 3 + 1, none⟩ = some (.int .i64 x) := (HT.out.2.2 (k * 3 + 1) (by omega)).trans t1
      have b2 : w.cell? ⟨g2, k * 3 + 2, none⟩ = some (.int .i64 y) := (HT.out.2.2 (k * 3 + 2) (by omega)).trans t2
      have i1 : (k : Int) < (N : Int) := by omega
      clear t0 t1 t2
      go_wp2_with fail
      go_quiet (fail)
      go_wp2
      go_roundw
      case rel => exact ⟨k + 1, q + nq, by omega, by go_num, rfl⟩
      case measure => simp [intOf]; omega
    · go_wp2
      go_ret
      exact ⟨rfl, ⟨rfl, rfl, rfl, Nat.le_refl _, fun _ _ => rfl⟩⟩
end Go.Proofs.Qxb6600235aMods.Act
