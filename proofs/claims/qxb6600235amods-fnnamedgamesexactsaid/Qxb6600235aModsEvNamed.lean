import Derived.Test.Qxb6600235aModsEvClone
import Derived.Test.Qxb6600235aModsIds
import Derived.Test.Qxb6600235aModsSMap
import Derived.Deep.AppendLies
import Derived.Deep.DeepMust
namespace Go.Proofs.Qxb6600235aMods.Ev
open Go.RowKit Go.Proofs.Qxb6600235aMods.Recs Go.Proofs.Qxb6600235aMods.SMap Go.Proofs.Qxb6600235aMods.Ids
open Go.Maps (Keyed string_keyed)

theorem own_below {w w' : World} {base e m n : Nat} {v : Value} {L : List Value} (h : w.ownsRow base e m v n L) (hb : Below w.heap.size w w') : w'.ownsRow base e m v n L := by
  refine ⟨h.1, ?_⟩
  rcases h.2 with h' | ⟨g, cap, cur, hv, hg, hh, r⟩
  · exact .inl h'
  · exact .inr ⟨g, cap, cur, hv, hg, (hb.block g (Array.getElem?_eq_some_iff.1 hh).1).trans hh, r⟩

/-- a slice of strings that reads as L -/
def Strs (w : World) (ao : Option Addr) (n : Nat) (L : List Value) : Prop := 0 < n → ∃ g, ao = some ⟨g, 0, none⟩ ∧ g < w.heap.size ∧ ∀ j, j < n → w.cell? ⟨g, j, none⟩ = L[j]?
theorem Strs_below {w w' : World} {ao : Option Addr} {n : Nat} {L : List Value} (h : Strs w ao n L) (hb : Below w.heap.size w w') : Strs w' ao n L := fun h0 => by
  obtain ⟨g, rfl, hg, hc⟩ := h h0
  exact ⟨g, rfl, Nat.lt_of_lt_of_le hg hb.size, fun j hj => (hb.cell (p := ⟨g, j, none⟩) hg).trans (hc j hj)⟩
theorem own_shape {w : World} {base e n : Nat} {v : Value} {L : List Value} (h : w.ownsRow base e 1 v n L) : ∃ ao c, v = .slice ao n c ∧ Strs w ao n L := by
  rcases h.2 with ⟨rfl, rfl⟩ | ⟨g, cap, cur, rfl, hb, hg, r⟩
  · exact ⟨none, 0, rfl, fun h => absurd h (Nat.lt_irrefl _)⟩
  · exact ⟨some ⟨g, 0, none⟩, cap, rfl, fun _ => ⟨g, rfl, (Array.getElem?_eq_some_iff.1 hg).1, fun j hj => h.cellAt j (by omega)⟩⟩

theorem own_blk {w : World} {base e m n : Nat} {v : Value} {L : List Value} (h : w.ownsRow base e m v n L) : ∀ j, v.ownBlock = some j → base ≤ j := fun j hj => by
  rcases h.2 with ⟨rfl, _⟩ | ⟨g, cap, cur, rfl, hg, _⟩
  · simp [Value.ownBlock] at hj
  · simp [Value.ownBlock] at hj; omega
theorem own_ne {w : World} {base e m n b : Nat} {v : Value} {L : List Value} (h : w.ownsRow base e m v n L) (hb : b < base) : some b ≠ v.ownBlock := fun e => by
  have := own_blk h b e.symm; omega
theorem news_at {W : World} {blk : Nat} (h : W.heap.size = blk) (cs : Array Value) (t : TypeId) : ∀ j u, cs.toList[j]? = some u → (W.alloc (.cells cs t)).cell? ((⟨blk, 0, none⟩ : Addr).add j) = some u := by
  subst h
  exact World.news_of_block (heap_alloc_new W _)
theorem cell_new (w : World) (cs : Array Value) (t : TypeId) (j : Nat) (v : Value) (h : cs.toList[j]? = some v) : (w.alloc (.cells cs t)).cell? ⟨w.heap.size, j, none⟩ = some v := by
  rw [cell_of_row _ _ _ _ _ _ (heap_alloc_new w _)]; simpa using h

theorem law9 : Keyed Trym.prog 9 := string_keyed Trym.underlying9
theorem zero4 (w : World) : (zeroValue 4).run Trym.prog w = .ok (.bool false) w := by kernel_rfl
theorem info9 : (Trym.prog.info? 9).map (fun i => (i.zero, i.size, i.bytes)) = some (some (.string ByteArray.empty), 1, 16) := by kernel_rfl

def mapF (E : Nat → EvR) (k : Nat) (s : ByteArray) : Option Value := if seen E s k = true then some (.bool true) else none
theorem mapF_get (E : Nat → EvR) (k : Nat) (s : ByteArray) : (mapF E k s).getD (.bool false) = .bool (seen E s k) := by
  unfold mapF
  cases seen E s k <;> simp
theorem mapF_new {E : Nat → EvR} {k : Nat} (h : ∀ s, seen E s (k + 1) = (seen E s k || decide (s = (E k).g))) (s : ByteArray) : mapF E (k + 1) s = if s = (E k).g then some (.bool true) else mapF E k s := by
  unfold mapF
  rw [h]
  by_cases e : s = (E k).g
  · simp [e]
  · simp [e]
theorem mapF_same {E : Nat → EvR} {k : Nat} (h : ∀ s, seen E s (k + 1) = seen E s k) (s : ByteArray) : mapF E (k + 1) s = mapF E k s := by
  unfold mapF; rw [h]

set_option maxHeartbeats 1000000 in
theorem namedGames_any (E : Nat → EvR) (ao : Option Addr) (n cap : Nat) (w : World) (hn : n ≤ 1024) (hS : S 5 (evV E) w ao n) (hE : ∀ i, i < n → (E i).g.size ≤ maxLen) :
    Calls Trym.prog 38 #[.slice ao n cap] w fun e w' => ∃ v, e = .returned v ∧ w'.ownsRow (w.heap.size + 1) 9 1 v (num E n) (names E n) ∧ Below w.heap.size w w' := by
  obtain ⟨i0, hi, hz0, hz1, hz2⟩ := info_parts info9
  have hmm := @run_makeMap Trym.prog
  have HS : Hid (S 5 (evV E) w ao n) := hS
  have HE : Hid (∀ i, i < n → (E i).g.size ≤ maxLen) := hE
  clear hS hE
  go_enter Trym.func38, Trym.ntmps38
  go_wp2
  go_loopw [3, 10] (fun v i wr => ∃ k : Nat, k ≤ n ∧ i = .int .i64 k ∧ wr.ownsRow (w.heap.size + 1) 9 1 v (num E k) (names E k) ∧ SMap Trym.prog 9 wr w.heap.size k (mapF E k) ∧ Below w.heap.size w wr) (fun _ i _ => n - (intOf i).toNat)
  case atStart => exact ⟨0, Nat.zero_le _, rfl, World.ownsRow_nil _ _ _ _, congr (made w Trym.prog 9) (fun s => rfl), (Below.refl _ _).alloc (Nat.le_refl _) _⟩
  case round =>
    obtain ⟨k, hk, rfl, hown, hmap, hbel⟩ := hrel
    by_cases hlt : k < n
    · obtain ⟨b, off, rfl, hb, hC⟩ := HS.out (by omega)
      have h0 : wr.cell? ⟨b, off + k * 5, none⟩ = some (.string (E k).i) := (hbel.cell (p := ⟨b, off + k * 5, none⟩) hb).trans (hC k 0 hlt (by decide))
      have h1 : wr.cell? ⟨b, off + k * 5 + 1, none⟩ = some (.string (E k).g) := (hbel.cell (p := ⟨b, off + k * 5 + 1, none⟩) hb).trans (hC k 1 hlt (by decide))
      have h2 : wr.cell? ⟨b, off + k * 5 + 2, none⟩ = some (.string (E k).t) := (hbel.cell (p := ⟨b, off + k * 5 + 2, none⟩) hb).trans (hC k 2 hlt (by decide))
      have h3 : wr.cell? ⟨b, off + k * 5 + 3, none⟩ = some (.bool (E k).f) := (hbel.cell (p := ⟨b, off + k * 5 + 3, none⟩) hb).trans (hC k 3 hlt (by decide))
      have h4 : wr.cell? ⟨b, off + k * 5 + 4, none⟩ = some (.string (E k).u) := (hbel.cell (p := ⟨b, off + k * 5 + 4, none⟩) hb).trans (hC k 4 hlt (by decide))
      have hEk := HE.out k hlt
      have hsz := hbel.size
      have hsz2 : w.heap.size < wr.heap.size := SMap.lt hmap
      have R : Hid (Below w.heap.size w wr) := hbel
      have hnum := num_le E k
      clear hC hbel hmm
      have hmap' := fun o => kept hmap (World.grownBy_alloc wr o none) (by simp)
      have HG : Hid ((mapF E k (E k).g).getD (.bool false) = .bool (seen E (E k).g k)) := mapF_get E k (E k).g
      cases hu : (E k).u.toList.isEmpty with
      | false =>
        have hd : Hid (names E (k + 1) = names E k ∧ num E (k + 1) = num E k ∧ ∀ s, seen E s (k + 1) = seen E s k) := step_out (us_no hu)
        go_wp2_with fail
        go_roundw
        case rel => exact ⟨k + 1, by omega, by go_num, by rw [hd.out.1, hd.out.2.1]; exact hown.alloc _, mono (congr (hmap' _) (mapF_same hd.out.2.2)) (Nat.le_succ _), R.out.alloc hsz _⟩
        case measure => simp [intOf]; omega
      | true =>
        cases hid : idB (E k).g with
        | false =>
          have hd : Hid (names E (k + 1) = names E k ∧ num E (k + 1) = num E k ∧ ∀ s, seen E s (k + 1) = seen E s k) := step_out (us_bad hid)
          go_wp2_with (go_at_call 36; refine (isGameID_any _ hEk _).mono ?_; rintro e w1 ⟨rfl, hb1⟩)
          go_roundw
          case rel => exact ⟨k + 1, by omega, by go_num, by rw [hd.out.1, hd.out.2.1]; exact own_below (hown.alloc _) hb1, mono (congr (below (hmap' _) hb1 (by simp; omega)) (mapF_same hd.out.2.2)) (Nat.le_succ _), (R.out.alloc hsz _).trans (hb1.mono (by simp; omega))⟩
          case measure => simp [intOf]; omega
        | true =>
          cases hsn : seen E (E k).g k with
          | true =>
            have hd : Hid (names E (k + 1) = names E k ∧ num E (k + 1) = num E k ∧ ∀ s, seen E s (k + 1) = seen E s k) := step_again hsn
            have HG2 : Hid ((mapF E k (E k).g).getD (.bool false) = .bool true) := HG.out.trans (by rw [hsn])
            go_wp2_with fail
            refine (isGameID_any _ hEk _).mono ?_
            rintro e w1 ⟨rfl, hb1⟩
            have hc1 : w1.cell? ⟨wr.heap.size, 1, none⟩ = some (.string (E k).g) := (hb1.cell (p := ⟨wr.heap.size, 1, none⟩) (by simp)).trans (cell_new wr _ 58 1 (.string (E k).g) rfl)
            have hm1 : SMap Trym.prog 9 w1 w.heap.size k (mapF E k) := below (hmap' _) hb1 (by simp; omega)
            have hlk : (Instr.lookup 68 (.map (some w.heap.size)) (.string (E k).g) false).run Trym.prog w1 = .ok (.bool true) w1 := (SMap.look hm1 law9 Trym.underlying9 Trym.underlying68 (zero4 w1) hEk).trans (by rw [HG2.out])
            rw [hid]
            go_wp2
            go_roundw
            case rel => exact ⟨k + 1, by omega, by go_num, by rw [hd.out.1, hd.out.2.1]; exact own_below (hown.alloc _) hb1, mono (congr hm1 (mapF_same hd.out.2.2)) (Nat.le_succ _), (R.out.alloc hsz _).trans (hb1.mono (by simp; omega))⟩
            case measure => simp [intOf]; omega
          | false =>
            have hd : Hid (names E (k + 1) = names E k ++ [.string (E k).g] ∧ num E (k + 1) = num E k + 1 ∧ ∀ s, seen E s (k + 1) = (seen E s k || decide (s = (E k).g))) := step_new (us_yes hu hid) hsn
            have HG2 : Hid ((mapF E k (E k).g).getD (.bool false) = .bool false) := HG.out.trans (by rw [hsn])
            go_wp2_with fail
            refine (isGameID_any _ hEk _).mono ?_
            rintro e w1 ⟨rfl, hb1⟩
            have hc1 : w1.cell? ⟨wr.heap.size, 1, none⟩ = some (.string (E k).g) := (hb1.cell (p := ⟨wr.heap.size, 1, none⟩) (by simp)).trans (cell_new wr _ 58 1 (.string (E k).g) rfl)
            have hm1 : SMap Trym.prog 9 w1 w.heap.size k (mapF E k) := below (hmap' _) hb1 (by simp; omega)
            have hlk : (Instr.lookup 68 (.map (some w.heap.size)) (.string (E k).g) false).run Trym.prog w1 = .ok (.bool false) w1 := (SMap.look hm1 law9 Trym.underlying9 Trym.underlying68 (zero4 w1) hEk).trans (by rw [HG2.out])
            rw [hid]
            have hown1 := own_below (hown.alloc (.cells #[.string (E k).i, .string (E k).g, .string (E k).t, .bool (E k).f, .string (E k).u] 58)) hb1
            have R1 : Hid (Below w.heap.size w w1) := (R.out.alloc hsz _).trans (hb1.mono (by simp; omega))
            have hsz1 := R1.out.size
            have hne := own_ne hown (Nat.lt_succ_self w.heap.size)
            have HB : Hid (∀ j, Value.ownBlock u3 = some j → w.heap.size + 1 ≤ j) := own_blk hown
            go_wp2_with (first
              | (at_mapUpdate; go_must (refine wpList_update _ rfl _ _ _ 68 rfl 9 4 law9 Trym.underlying9 Trym.underlying68 w.heap.size k _ rfl hm1 (by unfold maxLen; omega) _ _ rfl rfl hEk ?_); intro w2 hm2 hg2; have hc2 : w2.cell? ⟨wr.heap.size, 1, none⟩ = some (.string (E k).g) := hg2.cell hc1 (by simp; omega); have hown2 := hown1.kept hg2 (.inr (Ne.symm hne)); have hsz2' := hg2.size)
              | (at_builtin; go_must (refine wpList_append_lies _ rfl _ _ _ rfl (w.heap.size + 1) 9 i0 _ 1 16 Trym.underlying28 hi hz0 hz1 hz2 rfl (by omega) _ (num E k) (names E k) rfl (hown2.alloc _) _ 1 1 [.string (E k).g] rfl rfl (news_at rfl #[.string (E k).g] 9) (by simp [Value.oneCell']) (by omega) (by unfold maxLen; omega) (by omega) (by simp; omega) (w2.heap.size + 1) (by simp) ?_); intro g' c' w3 hown3 hgrow3 hat3 hlt3))
            go_roundw
            case rel =>
              refine ⟨k + 1, by omega, by go_num, by rw [hd.out.1, hd.out.2.1]; exact hown3, congr (kept (kept hm2 (World.grownBy_alloc _ _ none) (by simp)) hgrow3 hne) (mapF_new hd.out.2.2), ?_⟩
              exact (((R1.out.grown hg2 hsz1 (fun j hj => by cases hj; exact Nat.le_refl _)).alloc (by omega) _).grown hgrow3 (by simp; omega) (fun j hj => by have := HB.out j hj; omega))
            case measure => simp [intOf]; omega
    · obtain rfl : k = n := by omega
      go_wp2
      go_ret
      exact ⟨_, rfl, hown, hbel⟩
end Go.Proofs.Qxb6600235aMods.Ev
