import Derived.Test.Qxb6600473aModsProg
import Derived.Test.Qxb6600473aModsRecs
import Derived.Test.Qxb6600473aModsRdPlain
import Derived.WalkSpells
import Derived.WalkLawsBesides
import Derived.Deep.QuietTactic
import Derived.BigQuiet
namespace Go.Proofs.Qxb6600473aMods.Rd
open Go.RowKit Go.Proofs.Qxb6600473aMods.Recs

theorem below_drewN' {B : Nat} {w w' : World} (h : Below B w w') (q : Nat) : Below B w (w'.drewN q) := ⟨h.os, h.tape, h.output, h.size, h.block⟩

theorem model_owed (z : Bool) (ao bo : Option Addr) (n cap m cap' : Nat) (w : World) :
    Calls Trym.prog 24 #[.bool true, .bool z, .slice ao n cap, .slice bo m cap'] w fun e w' => e = .returned (.bool false) ∧ Below w.heap.size w w' := by
  go_enter Trym.func24, Trym.ntmps24
  go_wp2
  go_ret
  exact ⟨rfl, Below.refl _ _⟩
theorem model_none (ao bo : Option Addr) (n cap m cap' : Nat) (w : World) :
    Calls Trym.prog 24 #[.bool false, .bool false, .slice ao n cap, .slice bo m cap'] w fun e w' => e = .returned (.bool true) ∧ Below w.heap.size w w' := by
  go_enter Trym.func24, Trym.ntmps24
  go_wp2
  go_ret
  exact ⟨rfl, Below.refl _ _⟩

set_option maxHeartbeats 1000000 in
theorem model_dev (A : Nat → StepR) (B : Nat → CmdR) (ao bo : Option Addr) (n cap m cap' : Nat) (w : World) (hn : n ≤ 4096) (hm : m ≤ 4096) (hS : S 3 (stV A) w ao n) (hT : S 3 (cmV B) w bo m) :
    Calls Trym.prog 24 #[.bool false, .bool true, .slice ao n cap, .slice bo m cap'] w fun e w' => e = .returned (.bool (!anyBad A n B m)) ∧ Below w.heap.size w w' := by
  have HS : Hid (S 3 (stV A) w ao n) := hS
  have HT : Hid (S 3 (cmV B) w bo m) := hT
  clear hS hT
  go_enter Trym.func24, Trym.ntmps24
  go_wp2
  go_loopw [9] (fun i wr => ∃ k : Nat, k ≤ m ∧ i = .int .i64 k ∧ anyBad A n B k = false ∧ Below w.heap.size w wr) (fun i _ => m - (intOf i).toNat)
  case atStart => exact ⟨0, Nat.zero_le _, rfl, rfl, Below.refl _ _⟩
  case round =>
    obtain ⟨k, hk, rfl, hany, hbel⟩ := hrel
    have HY : Hid (anyBad A n B k = false) := hany
    clear hany
    by_cases hlt : k < m
    · obtain ⟨b, off, rfl, hb, hC⟩ := HT.out (by omega)
      have h2 : wr.cell? ⟨b, off + k * 3 + 2, none⟩ = some (.string (B k).s) := (hbel.cell (p := ⟨b, off + k * 3 + 2, none⟩) hb).trans (hC k 2 hlt (by decide))
      have HC : Hid (∀ i j, i < m → j < 3 → w.cell? ⟨b, off + i * 3 + j, none⟩ = some (cmV B i j)) := hC
      clear hC
      by_cases hdn : (B k).s.toList = [100, 111, 110, 101]
      · have HN : Hid (anyBad A n B (k + 1) = false) := anyBad_step HY.out (bad_done hdn)
        go_wp2
        go_roundw
        case rel => exact ⟨k + 1, by omega, by go_num, HN.out, hbel⟩
        case measure => simp [intOf]; omega
      · have hbn : ((B k).s.toList == [100, 111, 110, 101]) = false := beq_eq_false_iff_ne.2 hdn
        have HDN : Hid (¬ (B k).s.toList = [100, 111, 110, 101]) := hdn
        clear hdn
        go_wp2
        go_loopw [10] (fun j wq => ∃ t : Nat, t ≤ n ∧ j = .int .i64 ((t : Int) - 1) ∧ last A (B k).n n = last A (B k).n t ∧ Below w.heap.size w wq) (fun j _ => (intOf j + 1).toNat)
        case atStart => exact ⟨n, Nat.le_refl _, rfl, rfl, hbel⟩
        case round =>
          clear hbel h2
          obtain ⟨t, htm, rfl, hl, hbel⟩ := hrel
          have HL : Hid (last A (B k).n n = last A (B k).n t) := hl
          clear hl
          cases t with
          | zero =>
            have HN : Hid (anyBad A n B (k + 1) = false) := anyBad_step HY.out (bad_aw (by unfold aw awo; rw [HL.out]; rfl))
            go_wp2
            go_roundw
            case rel => exact ⟨k + 1, by omega, by go_num, HN.out, hbel⟩
            case measure => simp [intOf]; omega
          | succ t =>
            have hlt2 : t < n := by omega
            have et : ((t + 1 : Nat) : Int) - 1 = (t : Int) := by omega
            rw [et]
            clear et
            obtain ⟨b2, off2, rfl, hb2, hC2⟩ := HS.out (by omega)
            have a0 : wr.cell? ⟨b, off + k * 3, none⟩ = some (.string (B k).n) := (hbel.cell (p := ⟨b, off + k * 3, none⟩) hb).trans (HC.out k 0 hlt (by decide))
            have e0 : wr.cell? ⟨b2, off2 + t * 3, none⟩ = some (.string (A t).n) := (hbel.cell (p := ⟨b2, off2 + t * 3, none⟩) hb2).trans (hC2 t 0 hlt2 (by decide))
            have e2 : wr.cell? ⟨b2, off2 + t * 3 + 2, none⟩ = some (.bool (A t).a) := (hbel.cell (p := ⟨b2, off2 + t * 3 + 2, none⟩) hb2).trans (hC2 t 2 hlt2 (by decide))
            clear hC2
            have hx1 : (k : Int) < (m : Int) := by omega
            have hx2 : (t : Int) < (n : Int) := by omega
            by_cases he : (A t).n = (B k).n
            · have heq : ((A t).n.toList == (B k).n.toList) = true := by rw [he]; simp
              have hawo : aw A (B k).n n = (A t).a := by
                unfold aw awo; rw [HL.out, last_hit he]; rfl
              clear he
              cases hta : (A t).a with
              | true =>
                have HN : Hid ((!anyBad A n B m) = false) := by
                  show (!anyBad A n B m) = false
                  rw [anyBad_hit (bad_yes (hawo.trans hta) HDN.out) m hlt]; rfl
                rw [hta] at e2
                clear hawo
                go_wp2_with fail
                go_quiet (fail)
                go_wp2
                go_ret
                exact ⟨ret_bool HN.out.symm, below_drewN' hbel _⟩
              | false =>
                have HN : Hid (anyBad A n B (k + 1) = false) := anyBad_step HY.out (bad_aw (hawo.trans hta))
                rw [hta] at e2
                clear hawo
                go_wp2_with fail
                go_quiet (fail)
                go_wp2
                go_roundw
                case rel => exact ⟨k + 1, by omega, by go_num, HN.out, below_drewN' hbel _⟩
                case measure => simp [intOf]; omega
            · have hne := ne_of_toList he
              have HLL : Hid (last A (B k).n n = last A (B k).n t) := HL.out.trans (last_miss he)
              clear he
              go_wp2_with fail
              go_quiet (fail)
              go_wp2
              go_roundw
              case rel => exact ⟨t, by omega, rfl, HLL.out, below_drewN' hbel _⟩
              case measure => simp [intOf]
    · obtain rfl : k = m := by omega
      have HN : Hid ((!anyBad A n B k) = true) := by
        show (!anyBad A n B k) = true
        rw [HY.out]; rfl
      go_wp2
      go_ret
      exact ⟨ret_bool HN.out.symm, hbel⟩
end Go.Proofs.Qxb6600473aMods.Rd
