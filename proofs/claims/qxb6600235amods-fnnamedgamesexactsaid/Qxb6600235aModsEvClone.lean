import Derived.Test.Qxb6600235aModsProg
import Derived.Test.Qxb6600235aModsRecs
import Derived.Test.Qxb6600235aModsEvPlain
import Derived.WalkSpells
import Derived.WalkLawsBesides
import Derived.Deep.RegionHeld3
namespace Go.Proofs.Qxb6600235aMods.Ev
open Go.RowKit Go.Proofs.Qxb6600235aMods.Recs

theorem info57 : (Trym.prog.info? 57).map (fun i => (i.zero, i.size, i.bytes)) = some (some (.agg #[.string ByteArray.empty, .string ByteArray.empty, .string ByteArray.empty, .bool false, .string ByteArray.empty]), 5, 72) := by kernel_rfl
theorem info58 : (Trym.prog.info? 58).map (fun i => (i.zero, i.size, i.bytes)) = some (some (.agg #[.string ByteArray.empty, .string ByteArray.empty, .string ByteArray.empty, .bool false, .string ByteArray.empty]), 5, 72) := by kernel_rfl

theorem nil_of_none {m : Nat} {V : Nat → Nat → Value} {w : World} {n : Nat} (h : S m V w none n) : n = 0 := by
  rcases Nat.eq_zero_or_pos n with h0 | h0
  · exact h0
  · obtain ⟨b, off, e, _⟩ := h h0; simp at e

set_option maxHeartbeats 400000 in
theorem cloneEvents (A : Nat → EvR) (ao : Option Addr) (n cap : Nat) (w : World) (hn : n ≤ 1024) (hS : S 5 (evV A) w ao n) :
    Calls Trym.prog 16 #[.slice ao n cap] w fun e w' => ∃ ao' cap', e = .returned (.slice ao' n cap') ∧ S 5 (evV A) w' ao' n ∧ Below w.heap.size w w' := by
  obtain ⟨i0, hi, hz0, hz1, hz2⟩ := info_parts info57
  cases ao with
  | none =>
    have h0 := nil_of_none hS
    subst h0
    have hnil := fun w' => Lib.run_eql_slice_nil (P := Trym.prog) w' 24 57 none 0 cap 0 0 Trym.underlying24
    go_enter Trym.func16, Trym.ntmps16
    go_wp2
    go_ret
    exact ⟨none, 0, rfl, fun h => by omega, Below.refl _ _⟩
  | some a =>
    have hnil := fun w' => Lib.run_eql_slice_nil (P := Trym.prog) w' 24 57 (some a) n cap 0 0 Trym.underlying24
    have HS : Hid (S 5 (evV A) w (some a) n) := hS
    clear hS
    go_enter Trym.func16, Trym.ntmps16
    go_wp2_with (at_make; refine wpList_make_full _ rfl _ _ 24 rfl w.heap.size 57 i0 _ 5 Trym.underlying24 hi hz0 hz1 .i64 .i64 _ _ n rfl rfl rfl rfl (by rw [hz2]; omega) (by unfold maxLen; omega) (Nat.le_refl _) ?_; intro w1 hown hgrow)
    go_loopw [4] (fun i wr => ∃ (k : Nat) (cs : List Value), k ≤ n ∧ i = .int .i64 k ∧ wr.ownsRow w.heap.size 57 5 (.slice (some ⟨w.heap.size, 0, none⟩) n n) n cs ∧ Below w.heap.size w wr ∧ F 5 (evV A) cs k) (fun i _ => n - (intOf i).toNat)
    case atStart => exact ⟨0, _, Nat.zero_le _, rfl, hown, (Below.refl _ _).grown hgrow (Nat.le_refl _) (by simp), F_zero _ _ _⟩
    case round =>
      obtain ⟨k, cs, hk, rfl, hown, hbel, hF⟩ := hrel
      by_cases hlt : k < n
      · obtain ⟨b, off, ha, hb, hC⟩ := HS.out (by omega)
        simp only [Option.some.injEq] at ha
        subst ha
        have h0 : wr.cell? ⟨b, off + k * 5, none⟩ = some (.string (A k).i) := (hbel.cell (p := ⟨b, off + k * 5, none⟩) hb).trans (hC k 0 hlt (by decide))
        have h1 : wr.cell? ⟨b, off + k * 5 + 1, none⟩ = some (.string (A k).g) := (hbel.cell (p := ⟨b, off + k * 5 + 1, none⟩) hb).trans (hC k 1 hlt (by decide))
        have h2 : wr.cell? ⟨b, off + k * 5 + 2, none⟩ = some (.string (A k).t) := (hbel.cell (p := ⟨b, off + k * 5 + 2, none⟩) hb).trans (hC k 2 hlt (by decide))
        have h3 : wr.cell? ⟨b, off + k * 5 + 3, none⟩ = some (.bool (A k).f) := (hbel.cell (p := ⟨b, off + k * 5 + 3, none⟩) hb).trans (hC k 3 hlt (by decide))
        have h4 : wr.cell? ⟨b, off + k * 5 + 4, none⟩ = some (.string (A k).u) := (hbel.cell (p := ⟨b, off + k * 5 + 4, none⟩) hb).trans (hC k 4 hlt (by decide))
        have hl := hown.1
        obtain ⟨⟨x0, e0⟩, f0⟩ := there hown (k * 5) (by omega)
        obtain ⟨⟨x1, e1⟩, f1⟩ := there hown (k * 5 + 1) (by omega)
        obtain ⟨⟨x2, e2⟩, f2⟩ := there hown (k * 5 + 2) (by omega)
        obtain ⟨⟨x3, e3⟩, f3⟩ := there hown (k * 5 + 3) (by omega)
        obtain ⟨⟨x4, e4⟩, f4⟩ := there hown (k * 5 + 4) (by omega)
        have R1 : Hid _ := own5_stored hown k (.string (A k).i) (.string (A k).g) (.string (A k).t) (.bool (A k).f) (.string (A k).u)
        have R2 : Hid _ := F5_step hF hl hlt
        have R3 : Hid (Below w.heap.size w wr) := hbel
        clear hC hown hbel hnil hl hF
        go_wp2
        go_roundw
        case rel => exact ⟨k + 1, _, by omega, by go_num, R1.out, ((((R3.out.setCell (by exact Nat.le_refl _) _).setCell (by exact Nat.le_refl _) _).setCell (by exact Nat.le_refl _) _).setCell (by exact Nat.le_refl _) _).setCell (by exact Nat.le_refl _) _, R2.out⟩
        case measure => simp [intOf]; omega
      · have e : k = n := by omega
        have R : Hid (S 5 (evV A) wr (some ⟨w.heap.size, 0, none⟩) n ∧ Below w.heap.size w wr) := ⟨S_of_own hown (by rw [← e]; exact hF), hbel⟩
        clear hown hbel hF e hnil
        go_wp2
        go_ret
        exact ⟨_, _, rfl, R.out.1, R.out.2⟩
set_option maxHeartbeats 400000 in
theorem convEvents (A : Nat → EvR) (ao : Option Addr) (n cap : Nat) (w : World) (hn : n ≤ 1024) (hS : S 5 (evV A) w ao n) :
    Calls Trym.prog 18 #[.slice ao n cap] w fun e w' => ∃ ao' cap', e = .returned (.slice ao' n cap') ∧ S 5 (evV A) w' ao' n ∧ Below w.heap.size w w' := by
  obtain ⟨i0, hi, hz0, hz1, hz2⟩ := info_parts info58
  cases ao with
  | none =>
    have h0 := nil_of_none hS
    subst h0
    have hnil := fun w' => Lib.run_eql_slice_nil (P := Trym.prog) w' 24 57 none 0 cap 0 0 Trym.underlying24
    go_enter Trym.func18, Trym.ntmps18
    go_wp2
    go_ret
    exact ⟨none, 0, rfl, fun h => by omega, Below.refl _ _⟩
  | some a =>
    have hnil := fun w' => Lib.run_eql_slice_nil (P := Trym.prog) w' 24 57 (some a) n cap 0 0 Trym.underlying24
    have HS : Hid (S 5 (evV A) w (some a) n) := hS
    clear hS
    go_enter Trym.func18, Trym.ntmps18
    go_wp2_with (at_make; refine wpList_make_full _ rfl _ _ 30 rfl w.heap.size 58 i0 _ 5 Trym.underlying30 hi hz0 hz1 .i64 .i64 _ _ n rfl rfl rfl rfl (by rw [hz2]; omega) (by unfold maxLen; omega) (Nat.le_refl _) ?_; intro w1 hown hgrow)
    go_loopw [4] (fun i wr => ∃ (k : Nat) (cs : List Value), k ≤ n ∧ i = .int .i64 k ∧ wr.ownsRow w.heap.size 58 5 (.slice (some ⟨w.heap.size, 0, none⟩) n n) n cs ∧ Below w.heap.size w wr ∧ F 5 (evV A) cs k) (fun i _ => n - (intOf i).toNat)
    case atStart => exact ⟨0, _, Nat.zero_le _, rfl, hown, (Below.refl _ _).grown hgrow (Nat.le_refl _) (by simp), F_zero _ _ _⟩
    case round =>
      obtain ⟨k, cs, hk, rfl, hown, hbel, hF⟩ := hrel
      by_cases hlt : k < n
      · obtain ⟨b, off, ha, hb, hC⟩ := HS.out (by omega)
        simp only [Option.some.injEq] at ha
        subst ha
        have h0 : wr.cell? ⟨b, off + k * 5, none⟩ = some (.string (A k).i) := (hbel.cell (p := ⟨b, off + k * 5, none⟩) hb).trans (hC k 0 hlt (by decide))
        have h1 : wr.cell? ⟨b, off + k * 5 + 1, none⟩ = some (.string (A k).g) := (hbel.cell (p := ⟨b, off + k * 5 + 1, none⟩) hb).trans (hC k 1 hlt (by decide))
        have h2 : wr.cell? ⟨b, off + k * 5 + 2, none⟩ = some (.string (A k).t) := (hbel.cell (p := ⟨b, off + k * 5 + 2, none⟩) hb).trans (hC k 2 hlt (by decide))
        have h3 : wr.cell? ⟨b, off + k * 5 + 3, none⟩ = some (.bool (A k).f) := (hbel.cell (p := ⟨b, off + k * 5 + 3, none⟩) hb).trans (hC k 3 hlt (by decide))
        have h4 : wr.cell? ⟨b, off + k * 5 + 4, none⟩ = some (.string (A k).u) := (hbel.cell (p := ⟨b, off + k * 5 + 4, none⟩) hb).trans (hC k 4 hlt (by decide))
        have hl := hown.1
        obtain ⟨⟨x0, e0⟩, f0⟩ := there hown (k * 5) (by omega)
        obtain ⟨⟨x1, e1⟩, f1⟩ := there hown (k * 5 + 1) (by omega)
        obtain ⟨⟨x2, e2⟩, f2⟩ := there hown (k * 5 + 2) (by omega)
        obtain ⟨⟨x3, e3⟩, f3⟩ := there hown (k * 5 + 3) (by omega)
        obtain ⟨⟨x4, e4⟩, f4⟩ := there hown (k * 5 + 4) (by omega)
        have R1 : Hid _ := own5_stored hown k (.string (A k).i) (.string (A k).g) (.string (A k).t) (.bool (A k).f) (.string (A k).u)
        have R2 : Hid _ := F5_step hF hl hlt
        have R3 : Hid (Below w.heap.size w wr) := hbel
        clear hC hown hbel hnil hl hF
        have HN : Hid (b ≠ w.heap.size) := Nat.ne_of_lt hb
        have i0' : (0 : Int) ≤ (k : Int) := Int.natCast_nonneg _
        have i1' : (k : Int) < (n : Int) := by omega
        go_wp2_with fail
        go_region_held3 (fun w' => w'.cell? ⟨b, off + k * 5, none⟩ = some (.string (A k).i) ∧ w'.cell? ⟨b, off + k * 5 + 1, none⟩ = some (.string (A k).g) ∧ w'.cell? ⟨b, off + k * 5 + 2, none⟩ = some (.string (A k).t) ∧ w'.cell? ⟨b, off + k * 5 + 3, none⟩ = some (.bool (A k).f) ∧ w'.cell? ⟨b, off + k * 5 + 4, none⟩ = some (.string (A k).u)) (first | (go_keep; done) | (exact ⟨(far5 HN.out).trans h0, (far5 HN.out).trans h1, (far5 HN.out).trans h2, (far5 HN.out).trans h3, (far5 HN.out).trans h4⟩)) (fail)
        go_wp2
        go_roundw
        case rel => exact ⟨k + 1, _, by omega, by go_num, World.ownsRow.drew R1.out, (((((R3.out.setCell (by exact Nat.le_refl _) _).setCell (by exact Nat.le_refl _) _).setCell (by exact Nat.le_refl _) _).setCell (by exact Nat.le_refl _) _).setCell (by exact Nat.le_refl _) _).drew, R2.out⟩
        case measure => simp [intOf]; omega
      · have e : k = n := by omega
        have R : Hid (S 5 (evV A) wr (some ⟨w.heap.size, 0, none⟩) n ∧ Below w.heap.size w wr) := ⟨S_of_own hown (by rw [← e]; exact hF), hbel⟩
        clear hown hbel hF e hnil
        go_wp2
        go_ret
        exact ⟨_, _, rfl, R.out.1, R.out.2⟩
end Go.Proofs.Qxb6600235aMods.Ev
