import Derived.Test.Qxb6600473aModsProg
import Derived.Test.Qxb6600473aModsRecs
import Derived.Test.Qxb6600473aModsRdPlain
import Derived.WalkSpells
import Derived.WalkLawsBesides
import Derived.Deep.RegionHeld3
import Derived.Deep.DeepMust
namespace Go.Proofs.Qxb6600473aMods.Rd
open Go.RowKit Go.Proofs.Qxb6600473aMods.Recs

theorem info52 : (Trym.prog.info? 52).map (fun i => (i.zero, i.size, i.bytes)) = some (some (.agg #[.string ByteArray.empty, .bool false, .bool false, .slice none 0 0]), 4, 48) := by kernel_rfl
theorem info41 : (Trym.prog.info? 41).map (fun i => (i.zero, i.size, i.bytes)) = some (some (.agg #[.string ByteArray.empty, .string ByteArray.empty, .string ByteArray.empty, .pointer none, .string ByteArray.empty, .string ByteArray.empty]), 6, 88) := by kernel_rfl

theorem cell_new' {w : World} {b : Nat} (hb : w.heap.size = b) (cs : Array Value) (t : TypeId) (j : Nat) (v : Value) (h : cs.toList[j]? = some v) : (w.alloc (.cells cs t)).cell? ⟨b, j, none⟩ = some v := by
  subst hb; exact cell_new w cs t j v h
/-- the block in which the result lies, as it was laid -/
def RB (w : World) (b : Nat) : Prop := w.heap[b]? = some (.cells #[.bool false, .bool false, .slice none 0 0, .slice none 0 0, .pointer none] 34 (0, 0))
theorem RB_cell {w : World} {b : Nat} (h : RB w b) : w.cell? ⟨b, 0, none⟩ = some (.bool false) ∧ w.cell? ⟨b, 1, none⟩ = some (.bool false) ∧ w.cell? ⟨b, 2, none⟩ = some (.slice none 0 0) ∧ w.cell? ⟨b, 3, none⟩ = some (.slice none 0 0) ∧ w.cell? ⟨b, 4, none⟩ = some (.pointer none) := by
  unfold RB at h
  refine ⟨?_, ?_, ?_, ?_, ?_⟩ <;> (rw [cell_of_row _ _ _ _ _ _ h]; rfl)
theorem RB_free {w : World} {b : Nat} (h : RB w b) (j : Nat) : w.frozen? ⟨b, j, none⟩ = false := frozen_of_row w b j _ 34 h
theorem RB_set {w : World} {b g o : Nat} {v : Value} (h : RB w b) (hne : b ≠ g) : RB (w.setCell ⟨g, o, none⟩ v) b := by
  unfold RB at *
  rw [Below.heap_setCell _ _ _ _ hne]; exact h

/-- one round of the steps' loop, its store done -/
theorem stored4 {w wr : World} {B n k : Nat} {cs : List Value} {A : Nat → StepR} (hown : wr.ownsRow (B + 1) 52 4 (.slice (some ⟨B + 1, 0, none⟩) n n) n cs) (hF : F 4 (st4 A) cs k) (hk : k < n) (hB : Below B w wr) (hr : RB wr B) :
    ∃ cs', ((((wr.setCell ⟨B + 1, k * 4, none⟩ (.string (A k).n)).setCell ⟨B + 1, k * 4 + 1, none⟩ (.bool (A k).c)).setCell ⟨B + 1, k * 4 + 2, none⟩ (.bool (A k).a)).setCell ⟨B + 1, k * 4 + 3, none⟩ (.slice none 0 0)).drew.ownsRow (B + 1) 52 4 (.slice (some ⟨B + 1, 0, none⟩) n n) n cs' ∧ F 4 (st4 A) cs' (k + 1) ∧
      Below B w ((((wr.setCell ⟨B + 1, k * 4, none⟩ (.string (A k).n)).setCell ⟨B + 1, k * 4 + 1, none⟩ (.bool (A k).c)).setCell ⟨B + 1, k * 4 + 2, none⟩ (.bool (A k).a)).setCell ⟨B + 1, k * 4 + 3, none⟩ (.slice none 0 0)).drew ∧
      RB ((((wr.setCell ⟨B + 1, k * 4, none⟩ (.string (A k).n)).setCell ⟨B + 1, k * 4 + 1, none⟩ (.bool (A k).c)).setCell ⟨B + 1, k * 4 + 2, none⟩ (.bool (A k).a)).setCell ⟨B + 1, k * 4 + 3, none⟩ (.slice none 0 0)).drew B :=
  ⟨_, World.ownsRow.drew (own4_stored hown k _ _ _ _), F4_step hF hown.1 hk, ((((hB.setCell (by simp) _).setCell (by simp) _).setCell (by simp) _).setCell (by simp) _).drew, RB_set (RB_set (RB_set (RB_set hr (by omega)) (by omega)) (by omega)) (by omega)⟩

set_option maxHeartbeats 1000000 in
theorem build_none (x y : Bool) (A : Nat → StepR) (ao bo : Option Addr) (n cap m cap' : Nat) (w : World) (hn : n ≤ 4096) (hS : S 3 (stV A) w ao n) :
    Calls Trym.prog 22 #[.bool x, .bool y, .bool false, .slice ao n cap, .slice bo m cap'] w fun e w' => ∃ g c, e = .returned (.agg #[.bool x, .bool y, .slice none 0 0, .slice (some ⟨g, 0, none⟩) n c, .pointer none]) ∧ S 4 (st4 A) w' (some ⟨g, 0, none⟩) n ∧ Below w.heap.size w w' := by
  obtain ⟨i0, hi, hz0, hz1, hz2⟩ := info_parts info52
  have HS : Hid (S 3 (stV A) w ao n) := hS
  clear hS
  go_enter Trym.func22, Trym.ntmps22
  go_wp2_with (at_make; go_must (refine wpList_make_full _ rfl _ _ 31 rfl (w.heap.size + 1) 52 i0 _ 4 Trym.underlying31 hi hz0 hz1 .i64 .i64 _ _ n rfl rfl rfl rfl (by rw [hz2]; omega) (by unfold maxLen; omega) (by simp) ?_); intro w1 hown hgrow)
  have hr1 : RB w1 w.heap.size := (hgrow.block w.heap.size (by simp) (by simp)).trans (heap_alloc_new w _)
  have hB1 : Below w.heap.size w w1 := ((Below.refl _ w).alloc (Nat.le_refl _) _).grown hgrow (by simp) (by simp)
  rw [show (w.alloc (.cells #[.bool false, .bool false, .slice none 0 0, .slice none 0 0, .pointer none] 34)).heap.size = w.heap.size + 1 by simp] at hown
  clear hgrow
  go_loopw [12] (fun i wr => ∃ (k : Nat) (cs : List Value), k ≤ n ∧ i = .int .i64 k ∧ wr.ownsRow (w.heap.size + 1) 52 4 (.slice (some ⟨w.heap.size + 1, 0, none⟩) n n) n cs ∧ F 4 (st4 A) cs k ∧ Below w.heap.size w wr ∧ RB wr w.heap.size) (fun i _ => n - (intOf i).toNat)
  case atStart => exact ⟨0, _, Nat.zero_le _, rfl, hown, F_zero _ _ _, hB1, hr1⟩
  case round =>
    clear hown hB1 hr1
    obtain ⟨k, cs, hk, rfl, hown, hF, hbel, hrb⟩ := hrel
    by_cases hlt : k < n
    · obtain ⟨b, off, rfl, hb, hC⟩ := HS.out (by omega)
      have h0 : wr.cell? ⟨b, off + k * 3, none⟩ = some (.string (A k).n) := (hbel.cell (p := ⟨b, off + k * 3, none⟩) hb).trans (hC k 0 hlt (by decide))
      have h1 : wr.cell? ⟨b, off + k * 3 + 1, none⟩ = some (.bool (A k).c) := (hbel.cell (p := ⟨b, off + k * 3 + 1, none⟩) hb).trans (hC k 1 hlt (by decide))
      have h2 : wr.cell? ⟨b, off + k * 3 + 2, none⟩ = some (.bool (A k).a) := (hbel.cell (p := ⟨b, off + k * 3 + 2, none⟩) hb).trans (hC k 2 hlt (by decide))
      have R : Hid _ := stored4 hown hF hlt hbel hrb
      have hl := hown.1
      obtain ⟨⟨x0, e0⟩, f0⟩ := there hown (k * 4) (by omega)
      obtain ⟨⟨x1, e1⟩, f1⟩ := there hown (k * 4 + 1) (by omega)
      obtain ⟨⟨x2, e2⟩, f2⟩ := there hown (k * 4 + 2) (by omega)
      obtain ⟨⟨x3, e3⟩, f3⟩ := there hown (k * 4 + 3) (by omega)
      clear hC hown hF hbel hrb hl
      have HN : Hid (b ≠ w.heap.size + 1) := Nat.ne_of_lt (Nat.lt_succ_of_lt hb)
      have i0' : (0 : Int) ≤ (k : Int) := Int.natCast_nonneg _
      have i1' : (k : Int) < (n : Int) := by omega
      go_wp2_with fail
      go_region_held3 (fun w' => w'.cell? ⟨b, off + k * 3, none⟩ = some (.string (A k).n) ∧ w'.cell? ⟨b, off + k * 3 + 1, none⟩ = some (.bool (A k).c) ∧ w'.cell? ⟨b, off + k * 3 + 2, none⟩ = some (.bool (A k).a)) (first | (go_keep; done) | (exact ⟨(far4 HN.out).trans h0, (far4 HN.out).trans h1, (far4 HN.out).trans h2⟩)) (fail)
      go_wp2
      go_roundw
      case rel =>
        obtain ⟨cs', r1, r2, r3, r4⟩ := R.out
        exact ⟨k + 1, cs', by omega, by go_num, r1, r2, r3, r4⟩
      case measure => simp [intOf]; omega
    · obtain rfl : k = n := by omega
      obtain ⟨c0, c1, c2, c3, c4⟩ := RB_cell hrb
      have f0 := RB_free hrb 0
      have f1 := RB_free hrb 1
      have f2 := RB_free hrb 2
      have f3 := RB_free hrb 3
      have f4 := RB_free hrb 4
      have R : Hid (Below w.heap.size w wr ∧ wr.ownsRow (w.heap.size + 1) 52 4 (.slice (some ⟨w.heap.size + 1, 0, none⟩) k k) k cs ∧ F 4 (st4 A) cs k) := ⟨hbel, hown, hF⟩
      clear hbel hown hF hrb
      go_wp2
      refine bodyPost_ret (v := .agg #[.bool x, .bool y, .slice none 0 0, .slice (some ⟨w.heap.size + 1, 0, none⟩) k k, .pointer none]) (by simp [results, Trym.results22, go_sem, c0, c1, c2, c3, c4]) rfl ⟨w.heap.size + 1, k, rfl, ?_, ?_⟩
      · exact S_of_own (ownsRow_setCell_below (ownsRow_setCell_below (ownsRow_setCell_below (ownsRow_setCell_below (ownsRow_setCell_below R.out.2.1 (by simp) _) (by simp) _) (by simp) _) (by simp) _) (by simp) _) R.out.2.2
      · exact (((((R.out.1.setCell (by simp) _).setCell (by simp) _).setCell (by simp) _).setCell (by simp) _).setCell (by simp) _)
set_option maxHeartbeats 1000000 in
theorem build_dev (x y : Bool) (A : Nat → StepR) (B : Nat → CmdR) (ao bo : Option Addr) (n cap m cap' : Nat) (w : World) (hn : n ≤ 4096) (hm : m ≤ 4096) (hS : S 3 (stV A) w ao n) (hT : S 3 (cmV B) w bo m) :
    Calls Trym.prog 22 #[.bool x, .bool y, .bool true, .slice ao n cap, .slice bo m cap'] w fun e w' => ∃ g c d g2 c2, e = .returned (.agg #[.bool x, .bool y, .slice none 0 0, .slice (some ⟨g, 0, none⟩) n c, .pointer (some ⟨d, 0, none⟩)]) ∧ S 4 (st4 A) w' (some ⟨g, 0, none⟩) n ∧ w'.cell? ⟨d, 2, none⟩ = some (.slice (some ⟨g2, 0, none⟩) m c2) ∧ S 6 (cm6 B) w' (some ⟨g2, 0, none⟩) m ∧ Below w.heap.size w w' := by
  obtain ⟨i0, hi, hz0, hz1, hz2⟩ := info_parts info52
  obtain ⟨i1, hi1, hz3, hz4, hz5⟩ := info_parts info41
  have HT : Hid (S 3 (cmV B) w bo m) := hT
  clear hT
  have HS : Hid (S 3 (stV A) w ao n) := hS
  clear hS
  go_enter Trym.func22, Trym.ntmps22
  go_wp2_with (at_make; go_must (refine wpList_make_full _ rfl _ _ 31 rfl (w.heap.size + 1) 52 i0 _ 4 Trym.underlying31 hi hz0 hz1 .i64 .i64 _ _ n rfl rfl rfl rfl (by rw [hz2]; omega) (by unfold maxLen; omega) (by simp) ?_); intro w1 hown hgrow)
  have hr1 : RB w1 w.heap.size := (hgrow.block w.heap.size (by simp) (by simp)).trans (heap_alloc_new w _)
  have hB1 : Below w.heap.size w w1 := ((Below.refl _ w).alloc (Nat.le_refl _) _).grown hgrow (by simp) (by simp)
  rw [show (w.alloc (.cells #[.bool false, .bool false, .slice none 0 0, .slice none 0 0, .pointer none] 34)).heap.size = w.heap.size + 1 by simp] at hown
  clear hgrow
  go_loopw [12] (fun i wr => ∃ (k : Nat) (cs : List Value), k ≤ n ∧ i = .int .i64 k ∧ wr.ownsRow (w.heap.size + 1) 52 4 (.slice (some ⟨w.heap.size + 1, 0, none⟩) n n) n cs ∧ F 4 (st4 A) cs k ∧ Below w.heap.size w wr ∧ RB wr w.heap.size) (fun i _ => n - (intOf i).toNat)
  case atStart => exact ⟨0, _, Nat.zero_le _, rfl, hown, F_zero _ _ _, hB1, hr1⟩
  case round =>
    clear hown hB1 hr1
    obtain ⟨k, cs, hk, rfl, hown, hF, hbel, hrb⟩ := hrel
    by_cases hlt : k < n
    · obtain ⟨b, off, rfl, hb, hC⟩ := HS.out (by omega)
      have h0 : wr.cell? ⟨b, off + k * 3, none⟩ = some (.string (A k).n) := (hbel.cell (p := ⟨b, off + k * 3, none⟩) hb).trans (hC k 0 hlt (by decide))
      have h1 : wr.cell? ⟨b, off + k * 3 + 1, none⟩ = some (.bool (A k).c) := (hbel.cell (p := ⟨b, off + k * 3 + 1, none⟩) hb).trans (hC k 1 hlt (by decide))
      have h2 : wr.cell? ⟨b, off + k * 3 + 2, none⟩ = some (.bool (A k).a) := (hbel.cell (p := ⟨b, off + k * 3 + 2, none⟩) hb).trans (hC k 2 hlt (by decide))
      have R : Hid _ := stored4 hown hF hlt hbel hrb
      have hl := hown.1
      obtain ⟨⟨x0, e0⟩, f0⟩ := there hown (k * 4) (by omega)
      obtain ⟨⟨x1, e1⟩, f1⟩ := there hown (k * 4 + 1) (by omega)
      obtain ⟨⟨x2, e2⟩, f2⟩ := there hown (k * 4 + 2) (by omega)
      obtain ⟨⟨x3, e3⟩, f3⟩ := there hown (k * 4 + 3) (by omega)
      clear hC hown hF hbel hrb hl
      have HN : Hid (b ≠ w.heap.size + 1) := Nat.ne_of_lt (Nat.lt_succ_of_lt hb)
      have i0' : (0 : Int) ≤ (k : Int) := Int.natCast_nonneg _
      have i1' : (k : Int) < (n : Int) := by omega
      go_wp2_with fail
      go_region_held3 (fun w' => w'.cell? ⟨b, off + k * 3, none⟩ = some (.string (A k).n) ∧ w'.cell? ⟨b, off + k * 3 + 1, none⟩ = some (.bool (A k).c) ∧ w'.cell? ⟨b, off + k * 3 + 2, none⟩ = some (.bool (A k).a)) (first | (go_keep; done) | (exact ⟨(far4 HN.out).trans h0, (far4 HN.out).trans h1, (far4 HN.out).trans h2⟩)) (fail)
      go_wp2
      go_roundw
      case rel =>
        obtain ⟨cs', r1, r2, r3, r4⟩ := R.out
        exact ⟨k + 1, cs', by omega, by go_num, r1, r2, r3, r4⟩
      case measure => simp [intOf]; omega
    · obtain rfl : k = n := by omega
      have hsz := hbel.size
      have hlt0 : w.heap.size < wr.heap.size := (Array.getElem?_eq_some_iff.1 hrb).1
      have R : Hid (Below w.heap.size w wr ∧ wr.ownsRow (w.heap.size + 1) 52 4 (.slice (some ⟨w.heap.size + 1, 0, none⟩) k k) k cs ∧ F 4 (st4 A) cs k ∧ RB wr w.heap.size) := ⟨hbel, hown, hF, hrb⟩
      clear hbel hown hF hrb HS
      go_wp2_with (at_make; go_must (refine wpList_make_full _ rfl _ _ 43 rfl wr.heap.size 41 i1 _ 6 Trym.underlying43 hi1 hz3 hz4 .i64 .i64 _ _ m rfl rfl rfl rfl (by rw [hz5]; omega) (by unfold maxLen; omega) (Nat.le_refl _) ?_); intro w2 hown2 hgrow2)
      obtain ⟨b2, hb2⟩ : ∃ b2, wr.heap.size = b2 := ⟨_, rfl⟩
      have HB2 : Hid (wr.heap.size = b2) := hb2
      clear hb2
      have hB2 : Below wr.heap.size wr w2 := (Below.refl _ wr).grown hgrow2 (Nat.le_refl _) (by simp)
      clear hgrow2
      go_loopw [15] (fun i wq => ∃ (k2 : Nat) (cs2 : List Value), k2 ≤ m ∧ i = .int .i64 k2 ∧ wq.ownsRow wr.heap.size 41 6 (.slice (some ⟨wr.heap.size, 0, none⟩) m m) m cs2 ∧ F 6 (cm6 B) cs2 k2 ∧ Below wr.heap.size wr wq) (fun i _ => m - (intOf i).toNat)
      case atStart => exact ⟨0, _, Nat.zero_le _, rfl, hown2, F_zero _ _ _, hB2⟩
      case round =>
        clear hown2 hB2
        obtain ⟨k2, cs2, hk2, rfl, hown2, hF2, hbel2⟩ := hrel
        by_cases hlt2 : k2 < m
        · obtain ⟨b, off, rfl, hb, hC⟩ := HT.out (by omega)
          have hb' := Nat.lt_of_lt_of_le hb hsz
          have h0 : wr.cell? ⟨b, off + k2 * 3, none⟩ = some (.string (B k2).n) := (hbel2.cell (p := ⟨b, off + k2 * 3, none⟩) hb').trans ((R.out.1.cell (p := ⟨b, off + k2 * 3, none⟩) hb).trans (hC k2 0 hlt2 (by decide)))
          have h1 : wr.cell? ⟨b, off + k2 * 3 + 1, none⟩ = some (.string (B k2).k) := (hbel2.cell (p := ⟨b, off + k2 * 3 + 1, none⟩) hb').trans ((R.out.1.cell (p := ⟨b, off + k2 * 3 + 1, none⟩) hb).trans (hC k2 1 hlt2 (by decide)))
          have h2 : wr.cell? ⟨b, off + k2 * 3 + 2, none⟩ = some (.string (B k2).s) := (hbel2.cell (p := ⟨b, off + k2 * 3 + 2, none⟩) hb').trans ((R.out.1.cell (p := ⟨b, off + k2 * 3 + 2, none⟩) hb).trans (hC k2 2 hlt2 (by decide)))
          have hl := hown2.1
          obtain ⟨⟨x0, e0⟩, f0⟩ := there hown2 (k2 * 6) (by omega)
          obtain ⟨⟨x1, e1⟩, f1⟩ := there hown2 (k2 * 6 + 1) (by omega)
          obtain ⟨⟨x2, e2⟩, f2⟩ := there hown2 (k2 * 6 + 2) (by omega)
          obtain ⟨⟨x3, e3⟩, f3⟩ := there hown2 (k2 * 6 + 3) (by omega)
          obtain ⟨⟨x4, e4⟩, f4⟩ := there hown2 (k2 * 6 + 4) (by omega)
          obtain ⟨⟨x5, e5⟩, f5⟩ := there hown2 (k2 * 6 + 5) (by omega)
          have R1 : Hid _ := own6_stored hown2 k2 (.string (B k2).n) (.string (B k2).k) (.string (B k2).s) (.pointer none) (.string ByteArray.empty) (.string ByteArray.empty)
          have R2 : Hid _ := F6_step hF2 hl hlt2
          have R3 : Hid _ := hbel2
          have HN : Hid _ := Nat.ne_of_lt hb'
          have i0' : (0 : Int) ≤ (k2 : Int) := Int.natCast_nonneg _
          have i1' : (k2 : Int) < (m : Int) := by omega
          clear hC hown2 hF2 hbel2 hl
          go_wp2_with fail
          go_region_held3 (fun w' => w'.cell? ⟨b, off + k2 * 3, none⟩ = some (.string (B k2).n) ∧ w'.cell? ⟨b, off + k2 * 3 + 1, none⟩ = some (.string (B k2).k) ∧ w'.cell? ⟨b, off + k2 * 3 + 2, none⟩ = some (.string (B k2).s)) (first | (go_keep; done) | (exact ⟨(far6 HN.out).trans h0, (far6 HN.out).trans h1, (far6 HN.out).trans h2⟩)) (fail)
          go_wp2
          go_roundw
          case rel => exact ⟨k2 + 1, _, by omega, by go_num, World.ownsRow.drew R1.out, R2.out, ((((((R3.out.setCell (by exact Nat.le_refl _) _).setCell (by exact Nat.le_refl _) _).setCell (by exact Nat.le_refl _) _).setCell (by exact Nat.le_refl _) _).setCell (by exact Nat.le_refl _) _).setCell (by exact Nat.le_refl _) _).drew⟩
          case measure => simp [intOf]; omega
        · obtain rfl : k2 = m := by omega
          have hrb2 : RB wr w.heap.size := (hbel2.block w.heap.size hlt0).trans R.out.2.2.2
          have hlt3 : w.heap.size < wr.heap.size := (Array.getElem?_eq_some_iff.1 hrb2).1
          obtain ⟨c0, c1, c2, c3, c4⟩ := RB_cell hrb2
          have f0 := RB_free hrb2 0
          have f1 := RB_free hrb2 1
          have f2 := RB_free hrb2 2
          have f3 := RB_free hrb2 3
          have f4 := RB_free hrb2 4
          have R2 : Hid _ := hbel2
          have R3 : Hid _ := hown2
          have R4 : Hid _ := hF2
          clear hbel2 hown2 hF2 hrb2
          go_wp2
          refine bodyPost_ret (v := .agg #[.bool x, .bool y, .slice none 0 0, .slice (some ⟨w.heap.size + 1, 0, none⟩) k k, .pointer (some ⟨wr.heap.size, 0, none⟩)]) (by simp [results, Trym.results22, go_sem, c0, c1, c2, c3, c4, hlt3]) rfl ⟨w.heap.size + 1, k, wr.heap.size, b2, k2, rfl, ?q1, ?q2, ?q3, ?q4⟩
          case q2 => rw [← HB2.out]; exact cell_new' (by simp) _ 45 2 _ rfl
          case q1 => exact S_of_own ((ownsRow_setCell_below (ownsRow_setCell_below (ownsRow_setCell_below (ownsRow_setCell_below (ownsRow_setCell_below (own_below R.out.2.1 R2.out) (by simp) _) (by simp) _) (by simp) _) (by simp) _) (by simp) _).alloc _) R.out.2.2.1
          case q3 => rw [← HB2.out]; exact S_of_own ((ownsRow_setCell_below (ownsRow_setCell_below (ownsRow_setCell_below (ownsRow_setCell_below (ownsRow_setCell_below R3.out hlt0 _) hlt0 _) hlt0 _) hlt0 _) hlt0 _).alloc _) R4.out
          case q4 => exact ((((((Below_trans R.out.1 R2.out).setCell (by simp) _).setCell (by simp) _).setCell (by simp) _).setCell (by simp) _).setCell (by simp) _).alloc (by simp; omega) _
end Go.Proofs.Qxb6600473aMods.Rd
