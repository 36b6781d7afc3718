import Derived.Test.Qxb6600473aModsProg
import Derived.Test.Qxb6600473aModsRecs
import Derived.Test.Qxb6600473aModsRdPlain
import Derived.WalkSpells
import Derived.WalkLawsBesides
namespace Go.Proofs.Qxb6600473aMods.Rd
open Go.RowKit Go.Proofs.Qxb6600473aMods.Recs

/-- it hands back one bool or the other -/
def SomeBool (e : Ending) : Prop := ∃ r, e = .returned (.bool r)

set_option maxRecDepth 100000 in
set_option maxHeartbeats 2000000 in
theorem bytesLaw (x y z : Bool) (A : Nat → StepR) (B : Nat → CmdR) (ao bo : Option Addr) (n cap m cap' : Nat) (w : World) (hn : n ≤ maxLen) (hm : m ≤ maxLen) (hS : S 3 (stV A) w ao n) (hT : S 3 (cmV B) w bo m) :
    Calls Trym.prog 20 #[.bool x, .bool y, .bool z, .slice ao n cap, .slice bo m cap'] w fun e w' => SomeBool e ∧ w' = w := by
  unfold maxLen at hn hm
  by_cases hbig : 1048576 < n
  · go_enter Trym.func20, Trym.ntmps20
    go_wp2
    go_ret
    exact ⟨⟨_, rfl⟩, rfl⟩
  have HS : Hid (S 3 (stV A) w ao n) := hS
  have HT : Hid (S 3 (cmV B) w bo m) := hT
  clear hS hT
  go_enter Trym.func20, Trym.ntmps20
  go_wp2
  go_loop [11, 12] (fun s i => ∃ (k : Nat) (t : Int), k ≤ n ∧ i = .int .i64 k ∧ s = .int .i64 t ∧ 0 ≤ t ∧ t ≤ 1048576) (fun _ i => n - (intOf i).toNat)
  case atStart => exact ⟨0, n, Nat.zero_le _, rfl, rfl, by omega, by omega⟩
  case round =>
    obtain ⟨k, t, hk, rfl, rfl, ht0, ht1⟩ := hrel
    by_cases hlt : k < n
    · obtain ⟨b, off, rfl, hb, hC⟩ := HS.out (by omega)
      have h0 : w.cell? ⟨b, off + k * 3, none⟩ = some (.string (A k).n) := hC k 0 hlt (by decide)
      clear hC
      go_wp2
      all_goals first
        | (go_ret; exact ⟨⟨_, rfl⟩, rfl⟩)
        | (go_round; (case rel => exact ⟨k + 1, _, by omega, by go_num, rfl, by omega, by omega⟩); (case measure => simp [intOf]; omega))
    · by_cases hbig2 : 1048576 < t + m
      · by_cases hbig3 : 1048576 < m
        · go_wp2
          go_ret
          exact ⟨⟨_, rfl⟩, rfl⟩
        · go_wp2
          go_ret
          exact ⟨⟨_, rfl⟩, rfl⟩
      have hbig3 : ¬ 1048576 < m := by omega
      go_wp2
      go_loop [11, 13] (fun s i => ∃ (k : Nat) (t : Int), k ≤ m ∧ i = .int .i64 k ∧ s = .int .i64 t ∧ 0 ≤ t ∧ t ≤ 1048576) (fun _ i => m - (intOf i).toNat)
      case atStart => exact ⟨0, _, Nat.zero_le _, rfl, rfl, by omega, by omega⟩
      case round =>
        obtain ⟨k2, t2, hk2, rfl, rfl, ht02, ht12⟩ := hrel
        by_cases hlt2 : k2 < m
        · obtain ⟨b, off, rfl, hb, hC⟩ := HT.out (by omega)
          have h0 : w.cell? ⟨b, off + k2 * 3, none⟩ = some (.string (B k2).n) := hC k2 0 hlt2 (by decide)
          have h1 : w.cell? ⟨b, off + k2 * 3 + 1, none⟩ = some (.string (B k2).k) := hC k2 1 hlt2 (by decide)
          have h2 : w.cell? ⟨b, off + k2 * 3 + 2, none⟩ = some (.string (B k2).s) := hC k2 2 hlt2 (by decide)
          clear hC
          go_wp2
          all_goals first
            | (go_ret; exact ⟨⟨_, rfl⟩, rfl⟩)
            | (go_round; (case rel => exact ⟨k2 + 1, _, by omega, by go_num, rfl, by omega, by omega⟩); (case measure => simp [intOf]; omega))
        · go_wp2
          go_ret
          exact ⟨⟨_, rfl⟩, rfl⟩

theorem tooBig_big (ao bo : Option Addr) (n cap m cap' : Nat) (w : World) (hn : n ≤ maxLen) (hm : m ≤ maxLen) (hbig : 4096 < n ∨ 4096 < m) :
    Calls Trym.prog 21 #[.slice ao n cap, .slice bo m cap'] w fun e w' => e = .returned (.bool true) ∧ w' = w := by
  unfold maxLen at hn hm
  by_cases h1 : 4096 < n
  · go_enter Trym.func21, Trym.ntmps21
    go_wp2
    go_ret
    exact ⟨rfl, rfl⟩
  · have h2 : 4096 < m := by omega
    have hd : decide (4096 < (n : Int)) = false := by simp; omega
    go_enter Trym.func21, Trym.ntmps21
    go_wp2
    go_ret
    exact ⟨rfl, rfl⟩

set_option maxRecDepth 100000 in
set_option maxHeartbeats 2000000 in
theorem tooBig_small (A : Nat → StepR) (B : Nat → CmdR) (ao bo : Option Addr) (n cap m cap' : Nat) (w : World) (hn : n ≤ 4096) (hm : m ≤ 4096) (hS : S 3 (stV A) w ao n) (hT : S 3 (cmV B) w bo m) :
    Calls Trym.prog 21 #[.slice ao n cap, .slice bo m cap'] w fun e w' => SomeBool e ∧ w' = w := by
  have HS : Hid (S 3 (stV A) w ao n) := hS
  have HT : Hid (S 3 (cmV B) w bo m) := hT
  clear hS hT
  have hd1 : decide (4096 < (n : Int)) = false := by simp; omega
  have hd2 : decide (4096 < (m : Int)) = false := by simp; omega
  go_enter Trym.func21, Trym.ntmps21
  go_wp2
  go_loop [5, 6] (fun s i => ∃ (k : Nat) (t : Int), k ≤ n ∧ i = .int .i64 k ∧ s = .int .i64 t ∧ 0 ≤ t ∧ t ≤ 1048576) (fun _ i => n - (intOf i).toNat)
  case atStart => exact ⟨0, _, Nat.zero_le _, rfl, rfl, by omega, by omega⟩
  case round =>
    obtain ⟨k, t, hk, rfl, rfl, ht0, ht1⟩ := hrel
    by_cases hlt : k < n
    · obtain ⟨b, off, rfl, hb, hC⟩ := HS.out (by omega)
      have h0 : w.cell? ⟨b, off + k * 3, none⟩ = some (.string (A k).n) := hC k 0 hlt (by decide)
      clear hC
      go_wp2
      all_goals first
        | (go_ret; exact ⟨⟨_, rfl⟩, rfl⟩)
        | (go_round; (case rel => exact ⟨k + 1, _, by omega, by go_num, rfl, by omega, by omega⟩); (case measure => simp [intOf]; omega))
    · go_wp2
      go_loop [5, 8] (fun s i => ∃ (k : Nat) (t : Int), k ≤ m ∧ i = .int .i64 k ∧ s = .int .i64 t ∧ 0 ≤ t ∧ t ≤ 1048576) (fun _ i => m - (intOf i).toNat)
      case atStart => exact ⟨0, _, Nat.zero_le _, rfl, rfl, by omega, by omega⟩
      case round =>
        obtain ⟨k2, t2, hk2, rfl, rfl, ht02, ht12⟩ := hrel
        by_cases hlt2 : k2 < m
        · obtain ⟨b, off, rfl, hb, hC⟩ := HT.out (by omega)
          have h0 : w.cell? ⟨b, off + k2 * 3, none⟩ = some (.string (B k2).n) := hC k2 0 hlt2 (by decide)
          have h1 : w.cell? ⟨b, off + k2 * 3 + 1, none⟩ = some (.string (B k2).k) := hC k2 1 hlt2 (by decide)
          have h2 : w.cell? ⟨b, off + k2 * 3 + 2, none⟩ = some (.string (B k2).s) := hC k2 2 hlt2 (by decide)
          clear hC
          go_wp2
          all_goals first
            | (go_ret; exact ⟨⟨_, rfl⟩, rfl⟩)
            | (go_round; (case rel => exact ⟨k2 + 1, _, by omega, by go_num, rfl, by omega, by omega⟩); (case measure => simp [intOf]; omega))
        · go_wp2
          go_ret
          exact ⟨⟨_, rfl⟩, rfl⟩
end Go.Proofs.Qxb6600473aMods.Rd
