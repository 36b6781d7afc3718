import Derived.Test.Qxb6600235aModsActClone
import Derived.Test.Qxb6600235aModsSMap
import Derived.Deep.AppendLies
import Derived.Deep.DeepMust
namespace Go.Proofs.Qxb6600235aMods.Act
open Go.RowKit Go.Proofs.Qxb6600235aMods.Recs Go.Proofs.Qxb6600235aMods.SMap
open Go.Maps (Keyed string_keyed)

theorem run_makeMap_hint {P : Program} {t a b : TypeId} (ht : P.underlying t = some (.map a b)) (k : IntKind) (n : Int) (w : World) : (Instr.makeMap t (some (.int k n))).run P w = .ok (.map (some w.heap.size)) (w.alloc (.map #[] 0)) := by
  simp [Instr.makeMap, run_underlying ht, asInt, asIntOf]
theorem law : Keyed Trym.prog 9 := string_keyed Trym.underlying9
theorem zero54 (w : World) : (zeroValue 54).run Trym.prog w = .ok (.agg #[.string ByteArray.empty, .string ByteArray.empty, .int .i64 0, .int .i64 0]) w := by kernel_rfl
theorem info67 : (Trym.prog.info? 67).map (fun i => (i.zero, i.size, i.bytes)) = some (some (.agg #[.string ByteArray.empty, .int .i64 0, .int .i64 0]), 3, 32) := by kernel_rfl

def enAgg (B : Nat → EnR) (j : Nat) : Value := .agg #[.string (B j).i, .string (B j).r, .int .i64 (B j).p, .int .i64 (B j).q]
def mapF (B : Nat → EnR) (k : Nat) (s : ByteArray) : Option Value := (last B s k).map (enAgg B)

theorem mapF_step (B : Nat → EnR) (k : Nat) (s : ByteArray) : mapF B (k + 1) s = if s = (B k).r then some (enAgg B k) else mapF B k s := by
  unfold mapF
  by_cases h : s = (B k).r
  · rw [last_hit h.symm, if_pos h]; rfl
  · rw [last_none_step (fun e => h e.symm), if_neg h]

theorem news_at {W : World} {blk : Nat} (h : W.heap.size = blk) (cs : Array Value) (t : TypeId) : ∀ j u, cs.toList[j]? = some u → (W.alloc (.cells cs t)).cell? ((⟨blk, 0, none⟩ : Addr).add j) = some u := by
  subst h
  exact World.news_of_block (heap_alloc_new W _)

set_option maxHeartbeats 1000000 in
theorem activeStats_any (A : Nat → PlR) (B : Nat → EnR) (ao bo : Option Addr) (n cap m cap' : Nat) (w : World) (hn : n ≤ 1024) (hm : m ≤ 1024) (hS : S 4 (plV A) w ao n) (hT : S 4 (enV B) w bo m)
    (hA : ∀ i, i < n → (A i).r.size ≤ maxLen) (hB : ∀ i, i < m → (B i).r.size ≤ maxLen) :
    Calls Trym.prog 40 #[.slice ao n cap, .slice bo m cap'] w fun e w' => ∃ g c, e = .returned (.slice (some ⟨g, 0, none⟩) (num A B m n) c) ∧ w'.ownsRow (w.heap.size + 1) 67 3 (.slice (some ⟨g, 0, none⟩) (num A B m n) c) (num A B m n) (st A B m n) ∧ Below w.heap.size w w' := by
  obtain ⟨i0, hi, hz0, hz1, hz2⟩ := info_parts info67
  have hmk := fun w' => run_makeMap_hint (P := Trym.prog) Trym.underlying69 .i64 m w'
  have HS : Hid (S 4 (plV A) w ao n) := hS
  have HT : Hid (S 4 (enV B) w bo m) := hT
  have HA : Hid (∀ i, i < n → (A i).r.size ≤ maxLen) := hA
  have HB : Hid (∀ i, i < m → (B i).r.size ≤ maxLen) := hB
  clear hS hT hA hB
  go_enter Trym.func40, Trym.ntmps40
  go_wp2
  go_loopw [18] (fun i wr => ∃ k : Nat, k ≤ m ∧ i = .int .i64 k ∧ SMap Trym.prog 9 wr w.heap.size k (mapF B k) ∧ Below w.heap.size w wr) (fun i _ => m - (intOf i).toNat)
  case atStart => exact ⟨0, Nat.zero_le _, rfl, congr (made w Trym.prog 9) (fun s => rfl), (Below.refl _ _).alloc (Nat.le_refl _) _⟩
  case round =>
    obtain ⟨k, hk, rfl, hmap, hbel⟩ := hrel
    by_cases hlt : k < m
    · obtain ⟨b, off, rfl, hb, hC⟩ := HT.out (by omega)
      have h0 : wr.cell? ⟨b, off + k * 4, none⟩ = some (.string (B k).i) := (hbel.cell (p := ⟨b, off + k * 4, none⟩) hb).trans (hC k 0 hlt (by decide))
      have h1 : wr.cell? ⟨b, off + k * 4 + 1, none⟩ = some (.string (B k).r) := (hbel.cell (p := ⟨b, off + k * 4 + 1, none⟩) hb).trans (hC k 1 hlt (by decide))
      have h2 : wr.cell? ⟨b, off + k * 4 + 2, none⟩ = some (.int .i64 (B k).p) := (hbel.cell (p := ⟨b, off + k * 4 + 2, none⟩) hb).trans (hC k 2 hlt (by decide))
      have h3 : wr.cell? ⟨b, off + k * 4 + 3, none⟩ = some (.int .i64 (B k).q) := (hbel.cell (p := ⟨b, off + k * 4 + 3, none⟩) hb).trans (hC k 3 hlt (by decide))
      have hBk := HB.out k hlt
      have hsz := hbel.size
      have R : Hid (Below w.heap.size w wr) := hbel
      clear hC hbel
      go_wp2_with (at_mapUpdate; refine wpList_update _ rfl _ _ _ 69 rfl 9 54 law Trym.underlying9 Trym.underlying69 w.heap.size k _ rfl (kept hmap (World.grownBy_alloc _ _ none) (by simp)) (by unfold maxLen; omega) _ _ rfl rfl hBk ?_; intro w1 hmap1 hgrow1)
      go_roundw
      case rel => exact ⟨k + 1, by omega, by go_num, congr hmap1 (mapF_step B k), (R.out.alloc hsz _).grown hgrow1 (by simp; omega) (fun j hj => by cases hj; exact Nat.le_refl _)⟩
      case measure => simp [intOf]; omega
    · obtain rfl : k = m := by omega
      have hsz := hbel.size
      have hlt0 : w.heap.size < wr.heap.size := SMap.lt hmap
      go_wp2_with fail
      go_loopw [8, 30] (fun v i wq => ∃ (k2 g c : Nat), k2 ≤ n ∧ i = .int .i64 k2 ∧ v = .slice (some ⟨g, 0, none⟩) (num A B k k2) c ∧
          wq.ownsRow (w.heap.size + 1) 67 3 (.slice (some ⟨g, 0, none⟩) (num A B k k2) c) (num A B k k2) (st A B k k2) ∧ SMap Trym.prog 9 wq w.heap.size k (mapF B k) ∧ Below w.heap.size w wq) (fun _ i _ => n - (intOf i).toNat)
      case atStart => exact ⟨0, wr.heap.size, 0, Nat.zero_le _, rfl, rfl, World.ownsRow_lit wr #[] 0 (by omega) (by decide) rfl, kept hmap (World.grownBy_alloc _ _ none) (by simp), hbel.alloc hsz _⟩
      case round =>
        clear hmap hbel hsz hlt0
        obtain ⟨k2, g, c, hk2, rfl, rfl, hown, hmap, hbel⟩ := hrel
        by_cases hlt2 : k2 < n
        · obtain ⟨b, off, rfl, hb, hC⟩ := HS.out (by omega)
          have h0 : wr.cell? ⟨b, off + k2 * 4, none⟩ = some (.string (A k2).u) := (hbel.cell (p := ⟨b, off + k2 * 4, none⟩) hb).trans (hC k2 0 hlt2 (by decide))
          have h1 : wr.cell? ⟨b, off + k2 * 4 + 1, none⟩ = some (.string (A k2).r) := (hbel.cell (p := ⟨b, off + k2 * 4 + 1, none⟩) hb).trans (hC k2 1 hlt2 (by decide))
          have h2 : wr.cell? ⟨b, off + k2 * 4 + 2, none⟩ = some (.string (A k2).x) := (hbel.cell (p := ⟨b, off + k2 * 4 + 2, none⟩) hb).trans (hC k2 2 hlt2 (by decide))
          have h3 : wr.cell? ⟨b, off + k2 * 4 + 3, none⟩ = some (.string (A k2).t) := (hbel.cell (p := ⟨b, off + k2 * 4 + 3, none⟩) hb).trans (hC k2 3 hlt2 (by decide))
          have hAk := HA.out k2 hlt2
          have hsz := hbel.size
          have hsz2 : w.heap.size < wr.heap.size := SMap.lt hmap
          have R : Hid (Below w.heap.size w wr) := hbel
          have hmap' := fun o => kept hmap (World.grownBy_alloc wr o none) (by simp)
          have hnum := num_le A B k k2
          clear hC hbel hmk HT HB
          cases hl : last B (A k2).r k with
          | none =>
            have hF : mapF B k (A k2).r = none := by simp [mapF, hl]
            have hu : (mapF B k (A k2).r).getD (.agg #[.string ByteArray.empty, .string ByteArray.empty, .int .i64 0, .int .i64 0]) = .agg #[.string ByteArray.empty, .string ByteArray.empty, .int .i64 0, .int .i64 0] := by rw [hF]; rfl
            have hy : (mapF B k (A k2).r).isSome = false := by rw [hF]; rfl
            have HU : Hid (_ ∧ _) := ⟨hu, hy⟩
            clear hu hy hF
            have hd : Hid (st A B k (k2 + 1) = st A B k k2 ∧ num A B k (k2 + 1) = num A B k k2) := step_miss hl
            go_wp2_with (at_lookup; refine wpList_look_ok _ rfl _ _ 69 rfl 9 54 law Trym.underlying9 Trym.underlying69 _ (zero54 _) w.heap.size k _ rfl (hmap' _) _ rfl hAk _ _ HU.out.1 HU.out.2 ?_)
            all_goals
              go_roundw
              case rel => exact ⟨k2 + 1, g, c, by omega, by go_num, by rw [hd.out.2], by rw [hd.out.1, hd.out.2]; exact ((hown.alloc _).alloc _), kept (hmap' _) (World.grownBy_alloc _ _ none) (by simp), (R.out.alloc hsz _).alloc (by simp; omega) _⟩
              case measure => simp [intOf]; omega
          | some j =>
            have hF : mapF B k (A k2).r = some (enAgg B j) := by simp [mapF, hl]
            have hu : (mapF B k (A k2).r).getD (.agg #[.string ByteArray.empty, .string ByteArray.empty, .int .i64 0, .int .i64 0]) = .agg #[.string (B j).i, .string (B j).r, .int .i64 (B j).p, .int .i64 (B j).q] := by rw [hF]; rfl
            have hy : (mapF B k (A k2).r).isSome = true := by rw [hF]; rfl
            have HU : Hid (_ ∧ _) := ⟨hu, hy⟩
            clear hu hy hF
            by_cases ht : (A k2).t.toList = [97, 99, 116, 105, 118, 101]
            · have HD : Hid (st A B k (k2 + 1) = st A B k k2 ++ [.string (A k2).u, .int .i64 (B j).p, .int .i64 (B j).q] ∧ num A B k (k2 + 1) = num A B k k2 + 1) := step_hit ht hl
              have hge := own_ge hown
              go_wp2_with (first
                | (at_lookup; refine wpList_look_ok _ rfl _ _ 69 rfl 9 54 law Trym.underlying9 Trym.underlying69 _ (zero54 _) w.heap.size k _ rfl (hmap' _) _ rfl hAk _ _ HU.out.1 HU.out.2 ?_)
                | (at_builtin; go_must (refine wpList_append_lies _ rfl _ _ _ rfl (w.heap.size + 1) 67 i0 _ 3 32 Trym.underlying43 hi hz0 hz1 hz2 rfl (by omega) _ (num A B k k2) (st A B k k2) rfl (((hown.alloc _).alloc _).alloc _) _ 1 1 [.string (A k2).u, .int .i64 (B j).p, .int .i64 (B j).q] rfl rfl (news_at (by simp) #[.string (A k2).u, .int .i64 (B j).p, .int .i64 (B j).q] 67) (by simp [Value.oneCell']) (by omega) (by unfold maxLen; omega) (by omega) (by simp; omega) (wr.heap.size + 3) (by simp) ?_); intro g' c' w1 hown1 hgrow1 hat1 hlt1))
              go_roundw
              case rel =>
                refine ⟨k2 + 1, g', c', by omega, by go_num, by rw [HD.out.2], by rw [HD.out.1, HD.out.2]; exact hown1, ?_, ?_⟩
                · exact kept (row := some g) (kept (kept (hmap' _) (World.grownBy_alloc _ _ none) (by simp)) (World.grownBy_alloc _ _ none) (by simp)) hgrow1 (by simp; omega)
                · exact (((R.out.alloc hsz _).alloc (by simp; omega) _).alloc (by simp; omega) _).grown (row := some g) hgrow1 (by simp; omega) (fun j hj => by cases hj; omega)
              case measure => simp [intOf]; omega
            · have hd : Hid (st A B k (k2 + 1) = st A B k k2 ∧ num A B k (k2 + 1) = num A B k k2) := step_out ht
              go_wp2_with (first
                | (at_lookup; refine wpList_look_ok _ rfl _ _ 69 rfl 9 54 law Trym.underlying9 Trym.underlying69 _ (zero54 _) w.heap.size k _ rfl (hmap' _) _ rfl hAk _ _ HU.out.1 HU.out.2 ?_))
              go_roundw
              case rel => exact ⟨k2 + 1, g, c, by omega, by go_num, by rw [hd.out.2], by rw [hd.out.1, hd.out.2]; exact ((hown.alloc _).alloc _), kept (hmap' _) (World.grownBy_alloc _ _ none) (by simp), (R.out.alloc hsz _).alloc (by simp; omega) _⟩
              case measure => simp [intOf]; omega
        · obtain rfl : k2 = n := by omega
          go_wp2
          go_ret
          exact ⟨g, c, rfl, hown, hbel⟩

theorem zzActiveStats_any (A : Nat → PlR) (B : Nat → EnR) (ao bo : Option Addr) (n cap m cap' : Nat) (w : World) (hn : n ≤ 1024) (hm : m ≤ 1024) (hS : S 4 (plV A) w ao n) (hT : S 4 (enV B) w bo m)
    (hA : ∀ i, i < n → (A i).r.size ≤ maxLen) (hB : ∀ i, i < m → (B i).r.size ≤ maxLen) :
    Calls Trym.prog 28 #[.slice ao n cap, .slice bo m cap'] w fun e w' => ∃ g c, e = .returned (.slice (some ⟨g, 0, none⟩) (num A B m n) c) ∧ w'.ownsRow (w.heap.size + 1) 67 3 (.slice (some ⟨g, 0, none⟩) (num A B m n) c) (num A B m n) (st A B m n) ∧ Below w.heap.size w w' := by
  have HS : Hid (S 4 (plV A) w ao n) := hS
  have HT : Hid (S 4 (enV B) w bo m) := hT
  have HA : Hid (∀ i, i < n → (A i).r.size ≤ maxLen) := hA
  have HB : Hid (∀ i, i < m → (B i).r.size ≤ maxLen) := hB
  clear hS hT hA hB
  go_enter Trym.func28, Trym.ntmps28
  go_wp2_with (go_at_call 40; go_must (refine (activeStats_any A B ao bo n cap m cap' _ hn hm HS.out HT.out HA.out HB.out).mono ?_); rintro e w' ⟨g, c, rfl, ho, hb⟩)
  go_ret
  exact ⟨g, c, rfl, ho, hb⟩
end Go.Proofs.Qxb6600235aMods.Act
