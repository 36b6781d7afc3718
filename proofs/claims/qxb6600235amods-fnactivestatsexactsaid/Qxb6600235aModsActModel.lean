import Derived.Test.Qxb6600235aModsActStats
import Derived.Deep.QuietTactic
import Derived.BigQuiet
import Derived.Deep.RegionHeld3
namespace Go.Proofs.Qxb6600235aMods.Act
open Go.RowKit Go.Proofs.Qxb6600235aMods.Recs

theorem own_drewN {w : World} {base e m n : Nat} {v : Value} {cs : List Value} (h : w.ownsRow base e m v n cs) (q : Nat) : (w.drewN q).ownsRow base e m v n cs := h
theorem below_drewN' {B : Nat} {w w' : World} (h : Below B w w') (q : Nat) : Below B w (w'.drewN q) := ⟨h.os, h.tape, h.output, h.size, h.block⟩
theorem ne_of_toList {a b : ByteArray} (h : a ≠ b) : (a.toList == b.toList) = false := by
  simp only [beq_eq_false_iff_ne, ne_eq]
  intro e
  rw [ByteArray.toList_eq, ByteArray.toList_eq] at e
  exact h (SMap.ext e)

set_option maxHeartbeats 1000000 in
theorem model_any (A : Nat → PlR) (B : Nat → EnR) (ao bo : Option Addr) (n cap m cap' : Nat) (w : World) (hn : n ≤ 1024) (hm : m ≤ 1024) (hS : S 4 (plV A) w ao n) (hT : S 4 (enV B) w bo m) :
    Calls Trym.prog 32 #[.slice ao n cap, .slice bo m cap'] w fun e w' => ∃ g c, e = .returned (.slice (some ⟨g, 0, none⟩) (num A B m n) c) ∧ w'.ownsRow w.heap.size 67 3 (.slice (some ⟨g, 0, none⟩) (num A B m n) c) (num A B m n) (st A B m n) ∧ Below w.heap.size w w' := by
  obtain ⟨i0, hi, hz0, hz1, hz2⟩ := info_parts info67
  have HS : Hid (S 4 (plV A) w ao n) := hS
  have HT : Hid (S 4 (enV B) w bo m) := hT
  clear hS hT
  go_enter Trym.func32, Trym.ntmps32
  go_wp2
  go_loopw [5, 6] (fun v i wr => ∃ (k g c : Nat), k ≤ n ∧ i = .int .i64 k ∧ v = .slice (some ⟨g, 0, none⟩) (num A B m k) c ∧
      wr.ownsRow w.heap.size 67 3 (.slice (some ⟨g, 0, none⟩) (num A B m k) c) (num A B m k) (st A B m k) ∧ Below w.heap.size w wr) (fun _ i _ => n - (intOf i).toNat)
  case atStart => exact ⟨0, w.heap.size, 0, Nat.zero_le _, rfl, rfl, World.ownsRow_lit w #[] 0 (Nat.le_refl _) (by decide) rfl, (Below.refl _ _).alloc (Nat.le_refl _) _⟩
  case round =>
    obtain ⟨k, g, c, hk, rfl, rfl, hown, hbel⟩ := hrel
    by_cases hlt : k < n
    · obtain ⟨b, off, rfl, hb, hC⟩ := HS.out (by omega)
      have h3 : wr.cell? ⟨b, off + k * 4 + 3, none⟩ = some (.string (A k).t) := (hbel.cell (p := ⟨b, off + k * 4 + 3, none⟩) hb).trans (hC k 3 hlt (by decide))
      have HC : Hid (∀ i j, i < n → j < 4 → w.cell? ⟨b, off + i * 4 + j, none⟩ = some (plV A i j)) := hC
      have hnum := num_le A B m k
      clear hC
      by_cases ht : (A k).t.toList = [97, 99, 116, 105, 118, 101]
      · go_wp2
        go_loopw [5, 7] (fun v j wq => ∃ t : Nat, t ≤ m ∧ v = .slice (some ⟨g, 0, none⟩) (num A B m k) c ∧ j = .int .i64 ((t : Int) - 1) ∧ last B (A k).r m = last B (A k).r t ∧
          wq.ownsRow w.heap.size 67 3 (.slice (some ⟨g, 0, none⟩) (num A B m k) c) (num A B m k) (st A B m k) ∧ Below w.heap.size w wq) (fun _ j _ => (intOf j + 1).toNat)
        case atStart => exact ⟨m, Nat.le_refl _, rfl, rfl, rfl, hown, hbel⟩
        case round =>
          clear hown hbel h3
          obtain ⟨t, htm, rfl, rfl, hl, hown, hbel⟩ := hrel
          have HL : Hid (last B (A k).r m = last B (A k).r t) := hl
          clear hl
          cases t with
          | zero =>
            have hd : Hid (st A B m (k + 1) = st A B m k ∧ num A B m (k + 1) = num A B m k) := step_miss HL.out
            go_wp2
            go_roundw
            case rel => exact ⟨k + 1, g, c, by omega, by go_num, by rw [hd.out.2], by rw [hd.out.1, hd.out.2]; exact hown, hbel⟩
            case measure => simp [intOf]; omega
          | succ t =>
            have hlt2 : t < m := by omega
            have et : ((t + 1 : Nat) : Int) - 1 = (t : Int) := by omega
            rw [et]
            clear et
            obtain ⟨b2, off2, rfl, hb2, hC2⟩ := HT.out (by omega)
            have a0 : wr.cell? ⟨b, off + k * 4, none⟩ = some (.string (A k).u) := (hbel.cell (p := ⟨b, off + k * 4, none⟩) hb).trans (HC.out k 0 hlt (by decide))
            have a1 : wr.cell? ⟨b, off + k * 4 + 1, none⟩ = some (.string (A k).r) := (hbel.cell (p := ⟨b, off + k * 4 + 1, none⟩) hb).trans (HC.out k 1 hlt (by decide))
            have e1 : wr.cell? ⟨b2, off2 + t * 4 + 1, none⟩ = some (.string (B t).r) := (hbel.cell (p := ⟨b2, off2 + t * 4 + 1, none⟩) hb2).trans (hC2 t 1 hlt2 (by decide))
            have e2 : wr.cell? ⟨b2, off2 + t * 4 + 2, none⟩ = some (.int .i64 (B t).p) := (hbel.cell (p := ⟨b2, off2 + t * 4 + 2, none⟩) hb2).trans (hC2 t 2 hlt2 (by decide))
            have e3 : wr.cell? ⟨b2, off2 + t * 4 + 3, none⟩ = some (.int .i64 (B t).q) := (hbel.cell (p := ⟨b2, off2 + t * 4 + 3, none⟩) hb2).trans (hC2 t 3 hlt2 (by decide))
            clear hC2
            have hx1 : (k : Int) < (n : Int) := by omega
            have hx2 : (t : Int) < (m : Int) := by omega
            by_cases he : (B t).r = (A k).r
            · have HD : Hid (st A B m (k + 1) = st A B m k ++ [.string (A k).u, .int .i64 (B t).p, .int .i64 (B t).q] ∧ num A B m (k + 1) = num A B m k + 1) := step_hit ht (HL.out.trans (last_hit he))
              have heq : ((B t).r.toList == (A k).r.toList) = true := by simp [he]
              clear he
              go_wp2_with fail
              go_quiet (fail)
              go_wp2_with fail
              obtain ⟨wz, hwz⟩ : ∃ wz, wz = wr.drewN nq := ⟨_, rfl⟩
              rw [← hwz]
              have A0 : wz.cell? ⟨b, off + k * 4, none⟩ = some (.string (A k).u) := by rw [hwz]; exact a0
              have E2 : wz.cell? ⟨b2, off2 + t * 4 + 2, none⟩ = some (.int .i64 (B t).p) := by rw [hwz]; exact e2
              have E3 : wz.cell? ⟨b2, off2 + t * 4 + 3, none⟩ = some (.int .i64 (B t).q) := by rw [hwz]; exact e3
              have hown' : wz.ownsRow w.heap.size 67 3 (.slice (some ⟨g, 0, none⟩) (num A B m k) c) (num A B m k) (st A B m k) := by rw [hwz]; exact own_drewN hown _
              have hbel' : Below w.heap.size w wz := by rw [hwz]; exact below_drewN' hbel _
              clear hwz hown hbel a0 a1 e1 e2 e3 heq HL HC
              have hx3 : (0 : Int) ≤ (k : Int) := by omega
              have hx4 : (0 : Int) ≤ (t : Int) := by omega
              have hsz := hbel'.size
              have hge := own_ge hown'
              have n1 : some b ≠ some g := by simp; omega
              have n2 : some b2 ≠ some g := by simp; omega
              have N1 : Hid (some b ≠ some g) := n1
              have N2 : Hid (some b2 ≠ some g) := n2
              clear n1 n2
              go_region_held3 (fun w' => w'.cell? ⟨b, off + k * 4, none⟩ = some (.string (A k).u) ∧ w'.cell? ⟨b2, off2 + t * 4 + 2, none⟩ = some (.int .i64 (B t).p) ∧ w'.cell? ⟨b2, off2 + t * 4 + 3, none⟩ = some (.int .i64 (B t).q))
                (first
                  | (go_keep; done)
                  | (go_split_ands
                     refine ⟨?_, ?_, ?_⟩
                     · (rw [hgrow.cell_far _ (by simp; omega) N1.out]; assumption)
                     · (rw [hgrow.cell_far _ (by simp; omega) N2.out]; assumption)
                     · (rw [hgrow.cell_far _ (by simp; omega) N2.out]; assumption)))
                ((refine step_append_lies _ (by rfl) _ _ _ (by rfl) w.heap.size 67 i0 _ 3 32 Trym.underlying43 hi hz0 hz1 hz2 rfl (by omega) (.slice (some ⟨g, 0, none⟩) (num A B m k) c) (num A B m k) (st A B m k) (by rfl) ((hown'.alloc _).drew)
                    ⟨wz.heap.size, 0, none⟩ 1 1 [.string (A k).u, .int .i64 (B t).p, .int .i64 (B t).q] (by rfl) (by rfl) (World.news_of_block (cs := #[.string (A k).u, .int .i64 (B t).p, .int .i64 (B t).q]) (t := 67) (fr := (0, 0)) (heap_alloc_new wz _)) (by simp [Value.oneCell'])
                    (by omega) (by unfold maxLen; omega) (by omega) (by simp; omega) (wz.heap.size + 1) (by simp) ?_; intro gg cc w1 hown1 hgrow hat hlt9))
              go_wp2
              go_roundw
              case rel => exact ⟨k + 1, gg, cc, by omega, by go_num, by rw [HD.out.2], by rw [HD.out.1, HD.out.2]; exact hown1, ((hbel'.alloc hsz _).drew).grown (row := some g) hgrow (by simp; omega) (fun j hj => by cases hj; omega)⟩
              case measure => simp [intOf]; omega
            · have hne := ne_of_toList he
              go_wp2_with fail
              go_quiet (fail)
              go_wp2
              go_roundw
              case rel => exact ⟨t, by omega, rfl, rfl, HL.out.trans (last_none_step he), own_drewN hown _, below_drewN' hbel _⟩
              case measure => simp [intOf]
      · have hd : Hid (st A B m (k + 1) = st A B m k ∧ num A B m (k + 1) = num A B m k) := step_out ht
        have hb3 : ((A k).t.toList == [97, 99, 116, 105, 118, 101]) = false := beq_eq_false_iff_ne.2 ht
        go_wp2
        go_roundw
        case rel => exact ⟨k + 1, g, c, by omega, by go_num, by rw [hd.out.2], by rw [hd.out.1, hd.out.2]; exact hown, hbel⟩
        case measure => simp [intOf]; omega
    · obtain rfl : k = n := by omega
      go_wp2
      go_ret
      exact ⟨g, c, rfl, hown, hbel⟩
end Go.Proofs.Qxb6600235aMods.Act
