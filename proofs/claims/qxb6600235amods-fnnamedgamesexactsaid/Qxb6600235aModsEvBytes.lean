import Derived.Test.Qxb6600235aModsEvClone
namespace Go.Proofs.Qxb6600235aMods.Ev
open Go.RowKit Go.Proofs.Qxb6600235aMods.Recs

set_option maxHeartbeats 1000000 in
theorem bytesEvents (A : Nat → EvR) (ao : Option Addr) (n cap : Nat) (w : World) (hn : n ≤ maxLen) (hS : S 5 (evV A) w ao n) :
    Calls Trym.prog 15 #[.slice ao n cap] w fun e w' => ∃ r : Int, e = .returned (.int .i64 r) ∧ 0 ≤ r ∧ r ≤ 1048577 ∧ w' = w := by
  unfold maxLen at hn
  by_cases hbig : 1048576 < n
  · go_enter Trym.func15, Trym.ntmps15
    go_wp2
    go_ret
    exact ⟨_, rfl, by decide, by decide, rfl⟩
  have HS : Hid (S 5 (evV A) w ao n) := hS
  clear hS
  go_enter Trym.func15, Trym.ntmps15
  go_wp2
  go_loop [3, 4] (fun s i => ∃ (k : Nat) (t : Int), k ≤ n ∧ i = .int .i64 k ∧ s = .int .i64 t ∧ 0 ≤ t ∧ t ≤ 1048576) (fun _ i => n - (intOf i).toNat)
  case atStart => exact ⟨0, 0, Nat.zero_le _, rfl, rfl, by decide, by decide⟩
  case round =>
    obtain ⟨k, t, hk, rfl, rfl, ht0, ht1⟩ := hrel
    by_cases hlt : k < n
    · obtain ⟨b, off, rfl, hb, hC⟩ := HS.out (by omega)
      have h0 : w.cell? ⟨b, off + k * 5, none⟩ = some (.string (A k).i) := hC k 0 hlt (by decide)
      have h1 : w.cell? ⟨b, off + k * 5 + 1, none⟩ = some (.string (A k).g) := hC k 1 hlt (by decide)
      have h2 : w.cell? ⟨b, off + k * 5 + 2, none⟩ = some (.string (A k).t) := hC k 2 hlt (by decide)
      have h4 : w.cell? ⟨b, off + k * 5 + 4, none⟩ = some (.string (A k).u) := hC k 4 hlt (by decide)
      clear hC
      go_wp2
      all_goals first
        | (go_ret; exact ⟨_, rfl, by decide, by decide, rfl⟩)
        | (go_round; (case rel => exact ⟨k + 1, _, by omega, by go_num, rfl, by omega, by omega⟩); (case measure => simp [intOf]; omega))
    · go_wp2
      go_ret
      exact ⟨_, rfl, ht0, by omega, rfl⟩
/-- it hands back one bool or the other -/
def SomeBool (e : Ending) : Prop := ∃ r, e = .returned (.bool r)

set_option maxRecDepth 100000 in
set_option maxHeartbeats 2000000 in
theorem bytesLaw (A : Nat → EvR) (ao : Option Addr) (n cap : Nat) (w : World) (hn : n ≤ maxLen) (hS : S 5 (evV A) w ao n) :
    Calls Trym.prog 14 #[.slice ao n cap] w fun e w' => SomeBool e ∧ w' = w := by
  unfold maxLen at hn
  by_cases hbig : 1048576 < n
  · go_enter Trym.func14, Trym.ntmps14
    go_wp2
    go_ret
    exact ⟨⟨_, rfl⟩, rfl⟩
  have HS : Hid (S 5 (evV A) w ao n) := hS
  clear hS
  go_enter Trym.func14, Trym.ntmps14
  go_wp2
  go_loop [3, 4] (fun s i => ∃ (k : Nat) (t : Int), k ≤ n ∧ i = .int .i64 k ∧ s = .int .i64 t ∧ 0 ≤ t ∧ t ≤ 1048576) (fun _ i => n - (intOf i).toNat)
  case atStart => exact ⟨0, n, Nat.zero_le _, rfl, rfl, by omega, by omega⟩
  case round =>
    obtain ⟨k, t, hk, rfl, rfl, ht0, ht1⟩ := hrel
    by_cases hlt : k < n
    · obtain ⟨b, off, rfl, hb, hC⟩ := HS.out (by omega)
      have h0 : w.cell? ⟨b, off + k * 5, none⟩ = some (.string (A k).i) := hC k 0 hlt (by decide)
      have h1 : w.cell? ⟨b, off + k * 5 + 1, none⟩ = some (.string (A k).g) := hC k 1 hlt (by decide)
      have h2 : w.cell? ⟨b, off + k * 5 + 2, none⟩ = some (.string (A k).t) := hC k 2 hlt (by decide)
      have h4 : w.cell? ⟨b, off + k * 5 + 4, none⟩ = some (.string (A k).u) := hC k 4 hlt (by decide)
      clear hC
      go_wp2
      all_goals first
        | (go_ret; exact ⟨⟨_, rfl⟩, rfl⟩)
        | (go_round; (case rel => exact ⟨k + 1, _, by omega, by go_num, rfl, by omega, by omega⟩); (case measure => simp [intOf]; omega))
    · go_wp2
      go_ret
      exact ⟨⟨_, rfl⟩, rfl⟩
end Go.Proofs.Qxb6600235aMods.Ev
