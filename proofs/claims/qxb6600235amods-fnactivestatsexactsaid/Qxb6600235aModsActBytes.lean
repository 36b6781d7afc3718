import Derived.Test.Qxb6600235aModsActClone
namespace Go.Proofs.Qxb6600235aMods.Act
open Go.RowKit Go.Proofs.Qxb6600235aMods.Recs

set_option maxHeartbeats 1000000 in
theorem bytesPlayers (A : Nat → PlR) (ao : Option Addr) (n cap : Nat) (w : World) (hn : n ≤ maxLen) (hS : S 4 (plV A) w ao n) :
    Calls Trym.prog 24 #[.slice ao n cap] w fun e w' => ∃ r : Int, e = .returned (.int .i64 r) ∧ 0 ≤ r ∧ r ≤ 1048577 ∧ w' = w := by
  unfold maxLen at hn
  by_cases hbig : 1048576 < n
  · go_enter Trym.func24, Trym.ntmps24
    go_wp2
    go_ret
    exact ⟨_, rfl, by decide, by decide, rfl⟩
  have HS : Hid (S 4 (plV A) w ao n) := hS
  clear hS
  go_enter Trym.func24, Trym.ntmps24
  go_wp2
  go_loop [3, 4] (fun s i => ∃ (k : Nat) (t : Int), k ≤ n ∧ i = .int .i64 k ∧ s = .int .i64 t ∧ 0 ≤ t ∧ t ≤ 1048576) (fun _ i => n - (intOf i).toNat)
  case atStart => exact ⟨0, 0, Nat.zero_le _, rfl, rfl, by decide, by decide⟩
  case round =>
    obtain ⟨k, t, hk, rfl, rfl, ht0, ht1⟩ := hrel
    by_cases hlt : k < n
    · obtain ⟨b, off, rfl, hb, hC⟩ := HS.out (by omega)
      have h0 : w.cell? ⟨b, off + k * 4, none⟩ = some (.string (A k).u) := hC k 0 hlt (by decide)
      have h1 : w.cell? ⟨b, off + k * 4 + 1, none⟩ = some (.string (A k).r) := hC k 1 hlt (by decide)
      have h2 : w.cell? ⟨b, off + k * 4 + 2, none⟩ = some (.string (A k).x) := hC k 2 hlt (by decide)
      have h3 : w.cell? ⟨b, off + k * 4 + 3, none⟩ = some (.string (A k).t) := hC k 3 hlt (by decide)
      clear hC
      go_wp2
      all_goals first
        | (go_ret; exact ⟨_, rfl, by decide, by decide, rfl⟩)
        | (go_round; (case rel => exact ⟨k + 1, _, by omega, by go_num, rfl, by omega, by omega⟩); (case measure => simp [intOf]; omega))
    · go_wp2
      go_ret
      exact ⟨_, rfl, ht0, by omega, rfl⟩
set_option maxHeartbeats 1000000 in
theorem bytesEngine (A : Nat → EnR) (ao : Option Addr) (n cap : Nat) (w : World) (hn : n ≤ maxLen) (hS : S 4 (enV A) w ao n) :
    Calls Trym.prog 25 #[.slice ao n cap] w fun e w' => ∃ r : Int, e = .returned (.int .i64 r) ∧ 0 ≤ r ∧ r ≤ 1048577 ∧ w' = w := by
  unfold maxLen at hn
  by_cases hbig : 1048576 < n
  · go_enter Trym.func25, Trym.ntmps25
    go_wp2
    go_ret
    exact ⟨_, rfl, by decide, by decide, rfl⟩
  have HS : Hid (S 4 (enV A) w ao n) := hS
  clear hS
  go_enter Trym.func25, Trym.ntmps25
  go_wp2
  go_loop [3, 4] (fun s i => ∃ (k : Nat) (t : Int), k ≤ n ∧ i = .int .i64 k ∧ s = .int .i64 t ∧ 0 ≤ t ∧ t ≤ 1048576) (fun _ i => n - (intOf i).toNat)
  case atStart => exact ⟨0, 0, Nat.zero_le _, rfl, rfl, by decide, by decide⟩
  case round =>
    obtain ⟨k, t, hk, rfl, rfl, ht0, ht1⟩ := hrel
    by_cases hlt : k < n
    · obtain ⟨b, off, rfl, hb, hC⟩ := HS.out (by omega)
      have h0 : w.cell? ⟨b, off + k * 4, none⟩ = some (.string (A k).i) := hC k 0 hlt (by decide)
      have h1 : w.cell? ⟨b, off + k * 4 + 1, none⟩ = some (.string (A k).r) := hC k 1 hlt (by decide)
      have h2 : w.cell? ⟨b, off + k * 4 + 2, none⟩ = some (.int .i64 (A k).p) := hC k 2 hlt (by decide)
      have h3 : w.cell? ⟨b, off + k * 4 + 3, none⟩ = some (.int .i64 (A k).q) := hC k 3 hlt (by decide)
      clear hC
      go_wp2
      all_goals first
        | (go_ret; exact ⟨_, rfl, by decide, by decide, rfl⟩)
        | (go_round; (case rel => exact ⟨k + 1, _, by omega, by go_num, rfl, by omega, by omega⟩); (case measure => simp [intOf]; omega))
    · go_wp2
      go_ret
      exact ⟨_, rfl, ht0, by omega, rfl⟩

/-- it hands back one bool or the other -/
def SomeBool (e : Ending) : Prop := ∃ r, e = .returned (.bool r)

set_option maxRecDepth 100000 in
set_option maxHeartbeats 2000000 in
theorem bytesLaw (A : Nat → PlR) (B : Nat → EnR) (ao bo : Option Addr) (n cap m cap' : Nat) (w : World) (hn : n ≤ maxLen) (hm : m ≤ maxLen) (hS : S 4 (plV A) w ao n) (hT : S 4 (enV B) w bo m) :
    Calls Trym.prog 23 #[.slice ao n cap, .slice bo m cap'] w fun e w' => SomeBool e ∧ w' = w := by
  unfold maxLen at hn hm
  by_cases hbig : 1048576 < n
  · go_enter Trym.func23, Trym.ntmps23
    go_wp2
    go_ret
    exact ⟨⟨_, rfl⟩, rfl⟩
  have HS : Hid (S 4 (plV A) w ao n) := hS
  have HT : Hid (S 4 (enV B) w bo m) := hT
  clear hS hT
  go_enter Trym.func23, Trym.ntmps23
  go_wp2
  go_loop [5, 6] (fun s i => ∃ (k : Nat) (t : Int), k ≤ n ∧ i = .int .i64 k ∧ s = .int .i64 t ∧ 0 ≤ t ∧ t ≤ 1048576) (fun _ i => n - (intOf i).toNat)
  case atStart => exact ⟨0, n, Nat.zero_le _, rfl, rfl, by omega, by omega⟩
  case round =>
    obtain ⟨k, t, hk, rfl, rfl, ht0, ht1⟩ := hrel
    by_cases hlt : k < n
    · obtain ⟨b, off, rfl, hb, hC⟩ := HS.out (by omega)
      have h0 : w.cell? ⟨b, off + k * 4, none⟩ = some (.string (A k).u) := hC k 0 hlt (by decide)
      have h1 : w.cell? ⟨b, off + k * 4 + 1, none⟩ = some (.string (A k).r) := hC k 1 hlt (by decide)
      have h2 : w.cell? ⟨b, off + k * 4 + 2, none⟩ = some (.string (A k).x) := hC k 2 hlt (by decide)
      have h3 : w.cell? ⟨b, off + k * 4 + 3, none⟩ = some (.string (A k).t) := hC k 3 hlt (by decide)
      clear hC
      go_wp2
      all_goals first
        | (go_ret; exact ⟨⟨_, rfl⟩, rfl⟩)
        | (go_round; (case rel => exact ⟨k + 1, _, by omega, by go_num, rfl, by omega, by omega⟩); (case measure => simp [intOf]; omega))
    · by_cases hbig2 : 1048576 < t + m
      · by_cases hbig3 : 1048576 < m
        · go_wp2
          go_ret
          exact ⟨⟨_, rfl⟩, rfl⟩
        · go_wp2
          go_ret
          exact ⟨⟨_, rfl⟩, rfl⟩
      have hbig3 : ¬ 1048576 < m := by omega
      go_wp2
      go_loop [5, 7] (fun s i => ∃ (k : Nat) (t : Int), k ≤ m ∧ i = .int .i64 k ∧ s = .int .i64 t ∧ 0 ≤ t ∧ t ≤ 1048576) (fun _ i => m - (intOf i).toNat)
      case atStart => exact ⟨0, _, Nat.zero_le _, rfl, rfl, by omega, by omega⟩
      case round =>
        obtain ⟨k2, t2, hk2, rfl, rfl, ht02, ht12⟩ := hrel
        by_cases hlt2 : k2 < m
        · obtain ⟨b, off, rfl, hb, hC⟩ := HT.out (by omega)
          have h0 : w.cell? ⟨b, off + k2 * 4, none⟩ = some (.string (B k2).i) := hC k2 0 hlt2 (by decide)
          have h1 : w.cell? ⟨b, off + k2 * 4 + 1, none⟩ = some (.string (B k2).r) := hC k2 1 hlt2 (by decide)
          clear hC
          go_wp2
          all_goals first
            | (go_ret; exact ⟨⟨_, rfl⟩, rfl⟩)
            | (go_round; (case rel => exact ⟨k2 + 1, _, by omega, by go_num, rfl, by omega, by omega⟩); (case measure => simp [intOf]; omega))
        · go_wp2
          go_ret
          exact ⟨⟨_, rfl⟩, rfl⟩
end Go.Proofs.Qxb6600235aMods.Act
