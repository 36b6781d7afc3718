import Derived.Test.Qxb6600235aModsProg
import Derived.Test.Qxb6600235aModsRecs
import Derived.Test.Qxb6600235aModsActPlain
import Derived.WalkSpells
import Derived.WalkLawsBesides
namespace Go.Proofs.Qxb6600235aMods.Act
open Go.RowKit Go.Proofs.Qxb6600235aMods.Recs

theorem info61 : (Trym.prog.info? 61).map (fun i => (i.zero, i.size, i.bytes)) = some (some (.agg #[.string ByteArray.empty, .string ByteArray.empty, .string ByteArray.empty, .string ByteArray.empty]), 4, 64) := by kernel_rfl
theorem info62 : (Trym.prog.info? 62).map (fun i => (i.zero, i.size, i.bytes)) = some (some (.agg #[.string ByteArray.empty, .string ByteArray.empty, .int .i64 0, .int .i64 0]), 4, 48) := by kernel_rfl

theorem nil_of_none {m : Nat} {V : Nat → Nat → Value} {w : World} {n : Nat} (h : S m V w none n) : n = 0 := by
  rcases Nat.eq_zero_or_pos n with h0 | h0
  · exact h0
  · obtain ⟨b, off, e, _⟩ := h h0; simp at e

set_option maxHeartbeats 400000 in
theorem clonePlayers (A : Nat → PlR) (ao : Option Addr) (n cap : Nat) (w : World) (hn : n ≤ 1024) (hS : S 4 (plV A) w ao n) :
    Calls Trym.prog 26 #[.slice ao n cap] w fun e w' => ∃ ao' cap', e = .returned (.slice ao' n cap') ∧ S 4 (plV A) w' ao' n ∧ Below w.heap.size w w' := by
  obtain ⟨i0, hi, hz0, hz1, hz2⟩ := info_parts info61
  cases ao with
  | none =>
    have h0 := nil_of_none hS
    subst h0
    have hnil := fun w' => Lib.run_eql_slice_nil (P := Trym.prog) w' 36 61 none 0 cap 0 0 Trym.underlying36
    go_enter Trym.func26, Trym.ntmps26
    go_wp2
    go_ret
    exact ⟨none, 0, rfl, fun h => by omega, Below.refl _ _⟩
  | some a =>
    have hnil := fun w' => Lib.run_eql_slice_nil (P := Trym.prog) w' 36 61 (some a) n cap 0 0 Trym.underlying36
    have HS : Hid (S 4 (plV A) w (some a) n) := hS
    clear hS
    go_enter Trym.func26, Trym.ntmps26
    go_wp2_with (at_make; refine wpList_make_full _ rfl _ _ 36 rfl w.heap.size 61 i0 _ 4 Trym.underlying36 hi hz0 hz1 .i64 .i64 _ _ n rfl rfl rfl rfl (by rw [hz2]; omega) (by unfold maxLen; omega) (Nat.le_refl _) ?_; intro w1 hown hgrow)
    go_loopw [4] (fun i wr => ∃ (k : Nat) (cs : List Value), k ≤ n ∧ i = .int .i64 k ∧ wr.ownsRow w.heap.size 61 4 (.slice (some ⟨w.heap.size, 0, none⟩) n n) n cs ∧ Below w.heap.size w wr ∧ F 4 (plV A) cs k) (fun i _ => n - (intOf i).toNat)
    case atStart => exact ⟨0, _, Nat.zero_le _, rfl, hown, (Below.refl _ _).grown hgrow (Nat.le_refl _) (by simp), F_zero _ _ _⟩
    case round =>
      obtain ⟨k, cs, hk, rfl, hown, hbel, hF⟩ := hrel
      by_cases hlt : k < n
      · obtain ⟨b, off, ha, hb, hC⟩ := HS.out (by omega)
        simp only [Option.some.injEq] at ha
        subst ha
        have h0 : wr.cell? ⟨b, off + k * 4, none⟩ = some (.string (A k).u) := (hbel.cell (p := ⟨b, off + k * 4, none⟩) hb).trans (hC k 0 hlt (by decide))
        have h1 : wr.cell? ⟨b, off + k * 4 + 1, none⟩ = some (.string (A k).r) := (hbel.cell (p := ⟨b, off + k * 4 + 1, none⟩) hb).trans (hC k 1 hlt (by decide))
        have h2 : wr.cell? ⟨b, off + k * 4 + 2, none⟩ = some (.string (A k).x) := (hbel.cell (p := ⟨b, off + k * 4 + 2, none⟩) hb).trans (hC k 2 hlt (by decide))
        have h3 : wr.cell? ⟨b, off + k * 4 + 3, none⟩ = some (.string (A k).t) := (hbel.cell (p := ⟨b, off + k * 4 + 3, none⟩) hb).trans (hC k 3 hlt (by decide))
        have hl := hown.1
        obtain ⟨⟨x0, e0⟩, f0⟩ := there hown (k * 4) (by omega)
        obtain ⟨⟨x1, e1⟩, f1⟩ := there hown (k * 4 + 1) (by omega)
        obtain ⟨⟨x2, e2⟩, f2⟩ := there hown (k * 4 + 2) (by omega)
        obtain ⟨⟨x3, e3⟩, f3⟩ := there hown (k * 4 + 3) (by omega)
        have R1 : Hid _ := own4_stored hown k (.string (A k).u) (.string (A k).r) (.string (A k).x) (.string (A k).t)
        have R2 : Hid _ := F4_step hF hl hlt
        have R3 : Hid (Below w.heap.size w wr) := hbel
        clear hC hown hbel hnil hl hF
        go_wp2
        go_roundw
        case rel => exact ⟨k + 1, _, by omega, by go_num, R1.out, (((R3.out.setCell (by exact Nat.le_refl _) _).setCell (by exact Nat.le_refl _) _).setCell (by exact Nat.le_refl _) _).setCell (by exact Nat.le_refl _) _, R2.out⟩
        case measure => simp [intOf]; omega
      · have e : k = n := by omega
        have R : Hid (S 4 (plV A) wr (some ⟨w.heap.size, 0, none⟩) n ∧ Below w.heap.size w wr) := ⟨S_of_own hown (by rw [← e]; exact hF), hbel⟩
        clear hown hbel hF e hnil
        go_wp2
        go_ret
        exact ⟨_, _, rfl, R.out.1, R.out.2⟩
set_option maxHeartbeats 400000 in
theorem cloneEngine (A : Nat → EnR) (ao : Option Addr) (n cap : Nat) (w : World) (hn : n ≤ 1024) (hS : S 4 (enV A) w ao n) :
    Calls Trym.prog 27 #[.slice ao n cap] w fun e w' => ∃ ao' cap', e = .returned (.slice ao' n cap') ∧ S 4 (enV A) w' ao' n ∧ Below w.heap.size w w' := by
  obtain ⟨i0, hi, hz0, hz1, hz2⟩ := info_parts info62
  cases ao with
  | none =>
    have h0 := nil_of_none hS
    subst h0
    have hnil := fun w' => Lib.run_eql_slice_nil (P := Trym.prog) w' 37 62 none 0 cap 0 0 Trym.underlying37
    go_enter Trym.func27, Trym.ntmps27
    go_wp2
    go_ret
    exact ⟨none, 0, rfl, fun h => by omega, Below.refl _ _⟩
  | some a =>
    have hnil := fun w' => Lib.run_eql_slice_nil (P := Trym.prog) w' 37 62 (some a) n cap 0 0 Trym.underlying37
    have HS : Hid (S 4 (enV A) w (some a) n) := hS
    clear hS
    go_enter Trym.func27, Trym.ntmps27
    go_wp2_with (at_make; refine wpList_make_full _ rfl _ _ 37 rfl w.heap.size 62 i0 _ 4 Trym.underlying37 hi hz0 hz1 .i64 .i64 _ _ n rfl rfl rfl rfl (by rw [hz2]; omega) (by unfold maxLen; omega) (Nat.le_refl _) ?_; intro w1 hown hgrow)
    go_loopw [4] (fun i wr => ∃ (k : Nat) (cs : List Value), k ≤ n ∧ i = .int .i64 k ∧ wr.ownsRow w.heap.size 62 4 (.slice (some ⟨w.heap.size, 0, none⟩) n n) n cs ∧ Below w.heap.size w wr ∧ F 4 (enV A) cs k) (fun i _ => n - (intOf i).toNat)
    case atStart => exact ⟨0, _, Nat.zero_le _, rfl, hown, (Below.refl _ _).grown hgrow (Nat.le_refl _) (by simp), F_zero _ _ _⟩
    case round =>
      obtain ⟨k, cs, hk, rfl, hown, hbel, hF⟩ := hrel
      by_cases hlt : k < n
      · obtain ⟨b, off, ha, hb, hC⟩ := HS.out (by omega)
        simp only [Option.some.injEq] at ha
        subst ha
        have h0 : wr.cell? ⟨b, off + k * 4, none⟩ = some (.string (A k).i) := (hbel.cell (p := ⟨b, off + k * 4, none⟩) hb).trans (hC k 0 hlt (by decide))
        have h1 : wr.cell? ⟨b, off + k * 4 + 1, none⟩ = some (.string (A k).r) := (hbel.cell (p := ⟨b, off + k * 4 + 1, none⟩) hb).trans (hC k 1 hlt (by decide))
        have h2 : wr.cell? ⟨b, off + k * 4 + 2, none⟩ = some (.int .i64 (A k).p) := (hbel.cell (p := ⟨b, off + k * 4 + 2, none⟩) hb).trans (hC k 2 hlt (by decide))
        have h3 : wr.cell? ⟨b, off + k * 4 + 3, none⟩ = some (.int .i64 (A k).q) := (hbel.cell (p := ⟨b, off + k * 4 + 3, none⟩) hb).trans (hC k 3 hlt (by decide))
        have hl := hown.1
        obtain ⟨⟨x0, e0⟩, f0⟩ := there hown (k * 4) (by omega)
        obtain ⟨⟨x1, e1⟩, f1⟩ := there hown (k * 4 + 1) (by omega)
        obtain ⟨⟨x2, e2⟩, f2⟩ := there hown (k * 4 + 2) (by omega)
        obtain ⟨⟨x3, e3⟩, f3⟩ := there hown (k * 4 + 3) (by omega)
        have R1 : Hid _ := own4_stored hown k (.string (A k).i) (.string (A k).r) (.int .i64 (A k).p) (.int .i64 (A k).q)
        have R2 : Hid _ := F4_step hF hl hlt
        have R3 : Hid (Below w.heap.size w wr) := hbel
        clear hC hown hbel hnil hl hF
        go_wp2
        go_roundw
        case rel => exact ⟨k + 1, _, by omega, by go_num, R1.out, (((R3.out.setCell (by exact Nat.le_refl _) _).setCell (by exact Nat.le_refl _) _).setCell (by exact Nat.le_refl _) _).setCell (by exact Nat.le_refl _) _, R2.out⟩
        case measure => simp [intOf]; omega
      · have e : k = n := by omega
        have R : Hid (S 4 (enV A) wr (some ⟨w.heap.size, 0, none⟩) n ∧ Below w.heap.size w wr) := ⟨S_of_own hown (by rw [← e]; exact hF), hbel⟩
        clear hown hbel hF e hnil
        go_wp2
        go_ret
        exact ⟨_, _, rfl, R.out.1, R.out.2⟩
end Go.Proofs.Qxb6600235aMods.Act
