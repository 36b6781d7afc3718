import Derived.Test.Qxb6600473aModsProg
import Derived.Test.Qxb6600473aModsRecs
import Derived.Test.Qxb6600473aModsSMap
import Derived.Test.Qxb6600473aModsRdPlain
import Derived.WalkSpells
import Derived.WalkLawsBesides
import Derived.Deep.DeepMust
namespace Go.Proofs.Qxb6600473aMods.Rd
open Go.RowKit Go.Proofs.Qxb6600473aMods.Recs Go.Proofs.Qxb6600473aMods.SMap
open Go.Maps (Keyed string_keyed)

theorem law9 : Keyed Trym.prog 9 := string_keyed Trym.underlying9
theorem zero4 (w : World) : (zeroValue 4).run Trym.prog w = .ok (.bool false) w := by kernel_rfl

def mapF (A : Nat → StepR) (k : Nat) (s : ByteArray) : Option Value := (awo A s k).map Value.bool
theorem mapF_step (A : Nat → StepR) (k : Nat) (s : ByteArray) : mapF A (k + 1) s = if s = (A k).n then some (.bool (A k).a) else mapF A k s := by
  unfold mapF awo
  by_cases h : s = (A k).n
  · rw [last_hit h.symm, if_pos h]; rfl
  · rw [last_miss (fun e => h e.symm), if_neg h]
theorem mapF_get (A : Nat → StepR) (k : Nat) (s : ByteArray) : (mapF A k s).getD (.bool false) = .bool (aw A s k) := by
  unfold mapF aw
  cases awo A s k <;> rfl

theorem made' {w : World} {b : Nat} (h : w.heap.size = b) (P : Program) (k : TypeId) : SMap P k (w.alloc (.map #[] 0)) b 0 (fun _ => none) := by
  subst h; exact made w P k
/-- a cell of an old block, behind a map's store -/
theorem cell_kept {w w' : World} {b o m : Nat} {v : Value} (hg : w.grownBy w' (some m)) (h : w.cell? ⟨b, o, none⟩ = some v) (hne : b ≠ m) : w'.cell? ⟨b, o, none⟩ = some v := hg.cell h (by simpa using hne)
theorem cell_alloc {w : World} {b o : Nat} {v : Value} (h : w.cell? ⟨b, o, none⟩ = some v) (x : Obj) : (w.alloc x).cell? ⟨b, o, none⟩ = some v := by
  have hlt := World.block_lt_of_cell? w _ h
  rw [World.cell?_of_block (w := w) (Below.heap_alloc w x b hlt)]; exact h

theorem ready_owed (y : Bool) (v3 p : Value) (g : Option Addr) (n c : Nat) (q : Option Addr) (w : World) (h3 : v3 = .slice g n c) (hp : p = .pointer q) :
    Calls Trym.prog 29 #[.agg #[.bool true, .bool y, .slice none 0 0, v3, p]] w fun e w' => e = .returned (.bool false) ∧ Below w.heap.size w w' := by
  subst h3
  subst hp
  go_enter Trym.func29, Trym.ntmps29
  go_wp2
  go_ret
  exact ⟨rfl, (Below.refl _ _).alloc (Nat.le_refl _) _⟩

theorem ready_none (y : Bool) (g : Option Addr) (n c : Nat) (w : World) :
    Calls Trym.prog 29 #[.agg #[.bool false, .bool y, .slice none 0 0, .slice g n c, .pointer none]] w fun e w' => e = .returned (.bool true) ∧ Below w.heap.size w w' := by
  go_enter Trym.func29, Trym.ntmps29
  go_wp2
  go_ret
  exact ⟨rfl, (Below.refl _ _).alloc (Nat.le_refl _) _⟩

set_option maxHeartbeats 1000000 in
theorem ready_dev (y : Bool) (A : Nat → StepR) (B : Nat → CmdR) (g n c d g2 m c2 : Nat) (w : World) (hn : n ≤ 4096) (hm : m ≤ 4096) (hS : S 4 (st4 A) w (some ⟨g, 0, none⟩) n) (hd : w.cell? ⟨d, 2, none⟩ = some (.slice (some ⟨g2, 0, none⟩) m c2)) (hT : S 6 (cm6 B) w (some ⟨g2, 0, none⟩) m)
    (hA : ∀ i, i < n → (A i).n.size ≤ maxLen) (hB : ∀ i, i < m → (B i).n.size ≤ maxLen) :
    Calls Trym.prog 29 #[.agg #[.bool false, .bool y, .slice none 0 0, .slice (some ⟨g, 0, none⟩) n c, .pointer (some ⟨d, 0, none⟩)]] w fun e w' => e = .returned (.bool (!anyBad A n B m)) ∧ Below w.heap.size w w' := by
  have hmm := @run_makeMap Trym.prog
  have HS : Hid (S 4 (st4 A) w (some ⟨g, 0, none⟩) n) := hS
  have HT : Hid (S 6 (cm6 B) w (some ⟨g2, 0, none⟩) m) := hT
  have HD : Hid (w.cell? ⟨d, 2, none⟩ = some (.slice (some ⟨g2, 0, none⟩) m c2)) := hd
  have HA : Hid (∀ i, i < n → (A i).n.size ≤ maxLen) := hA
  have HB : Hid (∀ i, i < m → (B i).n.size ≤ maxLen) := hB
  clear hS hT hd hA hB
  go_enter Trym.func29, Trym.ntmps29
  go_wp2
  go_loopw [17] (fun i wr => ∃ k : Nat, k ≤ n ∧ i = .int .i64 k ∧ SMap Trym.prog 9 wr (w.heap.size + 1) k (mapF A k) ∧ Below w.heap.size w wr ∧ wr.cell? ⟨w.heap.size, 4, none⟩ = some (.pointer (some ⟨d, 0, none⟩))) (fun i _ => n - (intOf i).toNat)
  case atStart => exact ⟨0, Nat.zero_le _, rfl, congr (made' (by simp) Trym.prog 9) (fun s => rfl), ((Below.refl _ _).alloc (Nat.le_refl _) _).alloc (by simp) _, cell_alloc (cell_new w _ 34 4 _ rfl) _⟩
  case round =>
    obtain ⟨k, hk, rfl, hmap, hbel, hbox⟩ := hrel
    by_cases hlt : k < n
    · obtain ⟨b, off, ha, hb, hC⟩ := HS.out (by omega)
      simp only [Option.some.injEq, Addr.mk.injEq, and_true] at ha
      obtain ⟨rfl, rfl⟩ := ha
      have h0 : wr.cell? ⟨g, 0 + k * 4, none⟩ = some (.string (A k).n) := (hbel.cell (p := ⟨g, 0 + k * 4, none⟩) hb).trans (hC k 0 hlt (by decide))
      have h1 : wr.cell? ⟨g, 0 + k * 4 + 1, none⟩ = some (.bool (A k).c) := (hbel.cell (p := ⟨g, 0 + k * 4 + 1, none⟩) hb).trans (hC k 1 hlt (by decide))
      have h2 : wr.cell? ⟨g, 0 + k * 4 + 2, none⟩ = some (.bool (A k).a) := (hbel.cell (p := ⟨g, 0 + k * 4 + 2, none⟩) hb).trans (hC k 2 hlt (by decide))
      have h3 : wr.cell? ⟨g, 0 + k * 4 + 3, none⟩ = some (.slice none 0 0) := (hbel.cell (p := ⟨g, 0 + k * 4 + 3, none⟩) hb).trans (hC k 3 hlt (by decide))
      rw [Nat.zero_add] at h0 h1 h2 h3
      have hAk := HA.out k hlt
      have hsz := hbel.size
      have hlt1 : w.heap.size + 1 < wr.heap.size := SMap.lt hmap
      have R : Hid (Below w.heap.size w wr ∧ wr.cell? ⟨w.heap.size, 4, none⟩ = some (.pointer (some ⟨d, 0, none⟩))) := ⟨hbel, hbox⟩
      clear hC hbel hbox
      go_wp2_with (at_mapUpdate; go_must (refine wpList_update _ rfl _ _ _ 57 rfl 9 4 law9 Trym.underlying9 Trym.underlying57 (w.heap.size + 1) k _ rfl (kept hmap (World.grownBy_alloc _ _ none) (by simp)) (by unfold maxLen; omega) _ _ rfl rfl hAk ?_); intro w1 hmap1 hgrow1)
      go_roundw
      case rel => exact ⟨k + 1, by omega, by go_num, congr hmap1 (mapF_step A k), (R.out.1.alloc hsz _).grown hgrow1 (by simp; omega) (fun j hj => by cases hj; omega), cell_kept hgrow1 (cell_alloc R.out.2 _) (by omega)⟩
      case measure => simp [intOf]; omega
    · obtain rfl : k = n := by omega
      have hlt1 : w.heap.size + 1 < wr.heap.size := SMap.lt hmap
      have hdb := World.block_lt_of_cell? w _ HD.out
      have hdc : wr.cell? ⟨d, 2, none⟩ = some (.slice (some ⟨g2, 0, none⟩) m c2) := (hbel.cell (p := ⟨d, 2, none⟩) hdb).trans HD.out
      clear hmm
      go_wp2
      go_loopw [33] (fun i wq => ∃ k2 : Nat, k2 ≤ m ∧ i = .int .i64 k2 ∧ anyBad A k B k2 = false ∧ SMap Trym.prog 9 wq (w.heap.size + 1) k (mapF A k) ∧ Below w.heap.size w wq) (fun i _ => m - (intOf i).toNat)
      case atStart => exact ⟨0, Nat.zero_le _, rfl, rfl, hmap, hbel⟩
      case round =>
        clear hmap hbel hbox hdc hlt1
        obtain ⟨k2, hk2, rfl, hany, hmap, hbel⟩ := hrel
        have HY : Hid (anyBad A k B k2 = false) := hany
        clear hany
        by_cases hlt2 : k2 < m
        · obtain ⟨b, off, ha, hb, hC⟩ := HT.out (by omega)
          simp only [Option.some.injEq, Addr.mk.injEq, and_true] at ha
          obtain ⟨rfl, rfl⟩ := ha
          have h0 : wr.cell? ⟨g2, 0 + k2 * 6, none⟩ = some (.string (B k2).n) := (hbel.cell (p := ⟨g2, 0 + k2 * 6, none⟩) hb).trans (hC k2 0 hlt2 (by decide))
          have h1 : wr.cell? ⟨g2, 0 + k2 * 6 + 1, none⟩ = some (.string (B k2).k) := (hbel.cell (p := ⟨g2, 0 + k2 * 6 + 1, none⟩) hb).trans (hC k2 1 hlt2 (by decide))
          have h2 : wr.cell? ⟨g2, 0 + k2 * 6 + 2, none⟩ = some (.string (B k2).s) := (hbel.cell (p := ⟨g2, 0 + k2 * 6 + 2, none⟩) hb).trans (hC k2 2 hlt2 (by decide))
          have h3 : wr.cell? ⟨g2, 0 + k2 * 6 + 3, none⟩ = some (.pointer none) := (hbel.cell (p := ⟨g2, 0 + k2 * 6 + 3, none⟩) hb).trans (hC k2 3 hlt2 (by decide))
          have h4 : wr.cell? ⟨g2, 0 + k2 * 6 + 4, none⟩ = some (.string ByteArray.empty) := (hbel.cell (p := ⟨g2, 0 + k2 * 6 + 4, none⟩) hb).trans (hC k2 4 hlt2 (by decide))
          have h5 : wr.cell? ⟨g2, 0 + k2 * 6 + 5, none⟩ = some (.string ByteArray.empty) := (hbel.cell (p := ⟨g2, 0 + k2 * 6 + 5, none⟩) hb).trans (hC k2 5 hlt2 (by decide))
          rw [Nat.zero_add] at h0 h1 h2 h3 h4 h5
          have hBk := HB.out k2 hlt2
          have hsz := hbel.size
          have hmap' := fun o => kept hmap (World.grownBy_alloc wr o none) (by simp)
          have R : Hid (Below w.heap.size w wr) := hbel
          clear hC hbel
          cases haw : aw A (B k2).n k with
          | false =>
            have HG : Hid ((mapF A k (B k2).n).getD (.bool false) = .bool false) := (mapF_get A k (B k2).n).trans (by rw [haw])
            have HN : Hid (anyBad A k B (k2 + 1) = false) := anyBad_step HY.out (bad_aw haw)
            go_wp2_with (at_lookup; go_must (refine wpList_look _ rfl _ _ 57 rfl 9 4 law9 Trym.underlying9 Trym.underlying57 _ (zero4 _) (w.heap.size + 1) k _ rfl (hmap' _) _ rfl hBk _ HG.out ?_))
            go_roundw
            case rel => exact ⟨k2 + 1, by omega, by go_num, HN.out, hmap' _, R.out.alloc hsz _⟩
            case measure => simp [intOf]; omega
          | true =>
            have HG : Hid ((mapF A k (B k2).n).getD (.bool false) = .bool true) := (mapF_get A k (B k2).n).trans (by rw [haw])
            by_cases hdn : (B k2).s.toList = [100, 111, 110, 101]
            · have HN : Hid (anyBad A k B (k2 + 1) = false) := anyBad_step HY.out (bad_done hdn)
              go_wp2_with (at_lookup; go_must (refine wpList_look _ rfl _ _ 57 rfl 9 4 law9 Trym.underlying9 Trym.underlying57 _ (zero4 _) (w.heap.size + 1) k _ rfl (hmap' _) _ rfl hBk _ HG.out ?_))
              go_roundw
              case rel => exact ⟨k2 + 1, by omega, by go_num, HN.out, hmap' _, R.out.alloc hsz _⟩
              case measure => simp [intOf]; omega
            · have hbn : ((B k2).s.toList == [100, 111, 110, 101]) = false := beq_eq_false_iff_ne.2 hdn
              have HN : Hid ((!anyBad A k B m) = false) := by
                show (!anyBad A k B m) = false
                rw [anyBad_hit (bad_yes haw hdn) m hlt2]; rfl
              clear hdn
              go_wp2_with (at_lookup; go_must (refine wpList_look _ rfl _ _ 57 rfl 9 4 law9 Trym.underlying9 Trym.underlying57 _ (zero4 _) (w.heap.size + 1) k _ rfl (hmap' _) _ rfl hBk _ HG.out ?_))
              go_ret
              exact ⟨ret_bool HN.out.symm, R.out.alloc hsz _⟩
        · obtain rfl : k2 = m := by omega
          have HN : Hid ((!anyBad A k B k2) = true) := by
            show (!anyBad A k B k2) = true
            rw [HY.out]; rfl
          go_wp2
          go_ret
          exact ⟨ret_bool HN.out.symm, hbel⟩

theorem zzReady_of (v0 v1 : Bool) (v3 : Option Addr) (n c : Nat) (q : Option Addr) (r : Bool) (w : World)
    (h : ∀ w', Below w.heap.size w w' → Calls Trym.prog 29 #[.agg #[.bool v0, .bool v1, .slice none 0 0, .slice v3 n c, .pointer q]] w' fun e w'' => e = .returned (.bool r) ∧ Below w'.heap.size w' w'') :
    Calls Trym.prog 23 #[.agg #[.bool v0, .bool v1, .slice none 0 0, .slice v3 n c, .pointer q]] w fun e w' => e = .returned (.bool r) ∧ Below w.heap.size w w' := by
  have H : Hid _ := h
  clear h
  go_enter Trym.func23, Trym.ntmps23
  go_wp2_with fail
  refine (H.out _ ((Below.refl _ _).alloc (Nat.le_refl _) _)).mono ?_
  rintro e w1 ⟨rfl, hb⟩
  have hb' := Below_trans ((Below.refl _ w).alloc (Nat.le_refl _) _) hb
  clear hb H
  go_wp2
  go_ret
  exact ⟨rfl, hb'⟩
end Go.Proofs.Qxb6600473aMods.Rd
