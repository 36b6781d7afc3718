import Derived.Test.Qxb6600235aModsEvModel
import Derived.Test.Qxb6600235aModsBQ
namespace Go.Proofs.Qxb6600235aMods.Ev
open Go.RowKit Go.Proofs.Qxb6600235aMods.Recs Go.Proofs.Qxb6600235aMods.Ids Go.Proofs.Qxb6600235aMods.BQ

theorem usable_is (b : Bool) (e : EvR) (he : e.g.size ≤ maxLen) (hu : us e = b) (w : World) :
    Calls Trym.prog 39 #[.agg #[.string e.i, .string e.g, .string e.t, .bool e.f, .string e.u]] w fun r w' => r = .returned (.bool b) ∧ Below w.heap.size w w' := by
  rw [← hu]; exact usable_any e he w

set_option maxHeartbeats 1000000 in
theorem modelGames_any (E : Nat → EvR) (ao : Option Addr) (n cap : Nat) (w : World) (hn : n ≤ 1024) (hS : S 5 (evV E) w ao n) (hE : ∀ i, i < n → (E i).g.size ≤ maxLen) :
    Calls Trym.prog 20 #[.slice ao n cap] w fun e w' => ∃ v, e = .returned v ∧ w'.ownsRow w.heap.size 9 1 v (num E n) (names E n) ∧ Below w.heap.size w w' := by
  obtain ⟨i0, hi, hz0, hz1, hz2⟩ := info_parts info9
  have HS : Hid (S 5 (evV E) w ao n) := hS
  have HE : Hid (∀ i, i < n → (E i).g.size ≤ maxLen) := hE
  clear hS hE
  go_enter Trym.func20, Trym.ntmps20
  go_wp2
  go_loopw [3, 4] (fun v i wr => ∃ k : Nat, k ≤ n ∧ i = .int .i64 k ∧ wr.ownsRow w.heap.size 9 1 v (num E k) (names E k) ∧ Below w.heap.size w wr) (fun _ i _ => n - (intOf i).toNat)
  case atStart => exact ⟨0, Nat.zero_le _, rfl, World.ownsRow_nil _ _ _ _, Below.refl _ _⟩
  case round =>
    obtain ⟨k, hk, rfl, hown, hbel⟩ := hrel
    by_cases hlt : k < n
    · obtain ⟨b, off, rfl, hb, hC⟩ := HS.out (by omega)
      have HC : Hid (∀ i j, i < n → j < 5 → w.cell? ⟨b, off + i * 5 + j, none⟩ = some (evV E i j)) := hC
      have h0 : wr.cell? ⟨b, off + k * 5, none⟩ = some (.string (E k).i) := (hbel.cell (p := ⟨b, off + k * 5, none⟩) hb).trans (hC k 0 hlt (by decide))
      have h1 : wr.cell? ⟨b, off + k * 5 + 1, none⟩ = some (.string (E k).g) := (hbel.cell (p := ⟨b, off + k * 5 + 1, none⟩) hb).trans (hC k 1 hlt (by decide))
      have h2 : wr.cell? ⟨b, off + k * 5 + 2, none⟩ = some (.string (E k).t) := (hbel.cell (p := ⟨b, off + k * 5 + 2, none⟩) hb).trans (hC k 2 hlt (by decide))
      have h3 : wr.cell? ⟨b, off + k * 5 + 3, none⟩ = some (.bool (E k).f) := (hbel.cell (p := ⟨b, off + k * 5 + 3, none⟩) hb).trans (hC k 3 hlt (by decide))
      have h4 : wr.cell? ⟨b, off + k * 5 + 4, none⟩ = some (.string (E k).u) := (hbel.cell (p := ⟨b, off + k * 5 + 4, none⟩) hb).trans (hC k 4 hlt (by decide))
      have hEk := HE.out k hlt
      have hsz := hbel.size
      have R : Hid (Below w.heap.size w wr) := hbel
      have hnum := num_le E k
      clear hC hbel
      cases hus : us (E k) with
      | false =>
        have hd : Hid (names E (k + 1) = names E k ∧ num E (k + 1) = num E k ∧ ∀ s, seen E s (k + 1) = seen E s k) := step_out hus
        go_wp2_with fail
        refine (usable_any (E k) hEk _).mono ?_
        rintro e w1 ⟨rfl, hb1⟩
        rw [hus]
        go_wp2
        go_roundw
        case rel => exact ⟨k + 1, by omega, by go_num, by rw [hd.out.1, hd.out.2.1]; exact own_below hown hb1, Below_trans R.out hb1⟩
        case measure => simp [intOf]; omega
      | true =>
        go_wp2_with fail
        refine (usable_any (E k) hEk _).mono ?_
        rintro e w1 ⟨rfl, hb1⟩
        rw [hus]
        go_wp2_with fail
        have hown1 := own_below hown hb1
        have R1 : Below w.heap.size w w1 := Below_trans R.out hb1
        clear hown hb1 R h0 h1 h2 h3 h4 hsz
        go_loopw [5, 6] (fun fi j wq => ∃ t : Nat, t ≤ k ∧ fi = .bool true ∧ j = .int .i64 t ∧ seen E (E k).g t = false ∧ wq.ownsRow w.heap.size 9 1 u3 (num E k) (names E k) ∧ Below w.heap.size w wq) (fun _ j _ => k - (intOf j).toNat)
        case atStart => exact ⟨0, Nat.zero_le _, rfl, rfl, rfl, hown1, R1⟩
        case round =>
          clear hown1 R1
          obtain ⟨t, htk, rfl, rfl, hsn, hown, hbel⟩ := hrel
          have HSN : Hid (seen E (E k).g t = false) := hsn
          clear hsn
          have hsz := hbel.size
          have a1 : wr.cell? ⟨b, off + k * 5 + 1, none⟩ = some (.string (E k).g) := (hbel.cell (p := ⟨b, off + k * 5 + 1, none⟩) hb).trans (HC.out k 1 hlt (by decide))
          by_cases htlt : t < k
          · have htn : t < n := by omega
            have h0 : wr.cell? ⟨b, off + t * 5, none⟩ = some (.string (E t).i) := (hbel.cell (p := ⟨b, off + t * 5, none⟩) hb).trans (HC.out t 0 htn (by decide))
            have h1 : wr.cell? ⟨b, off + t * 5 + 1, none⟩ = some (.string (E t).g) := (hbel.cell (p := ⟨b, off + t * 5 + 1, none⟩) hb).trans (HC.out t 1 htn (by decide))
            have h2 : wr.cell? ⟨b, off + t * 5 + 2, none⟩ = some (.string (E t).t) := (hbel.cell (p := ⟨b, off + t * 5 + 2, none⟩) hb).trans (HC.out t 2 htn (by decide))
            have h3 : wr.cell? ⟨b, off + t * 5 + 3, none⟩ = some (.bool (E t).f) := (hbel.cell (p := ⟨b, off + t * 5 + 3, none⟩) hb).trans (HC.out t 3 htn (by decide))
            have h4 : wr.cell? ⟨b, off + t * 5 + 4, none⟩ = some (.string (E t).u) := (hbel.cell (p := ⟨b, off + t * 5 + 4, none⟩) hb).trans (HC.out t 4 htn (by decide))
            have hEt := HE.out t htn
            have x0 : (0 : Int) ≤ (t : Int) := by omega
            have x1 : (t : Int) < (n : Int) := by omega
            have x2 : (0 : Int) ≤ (k : Int) := by omega
            have x3 : (k : Int) < (n : Int) := by omega
            cases hut : us (E t) with
            | false =>
              have HSS : Hid (seen E (E k).g (t + 1) = false) := by
                show seen E (E k).g (t + 1) = false
                rw [(step_out hut).2.2, HSN.out]
              have nz : Nonempty (Bel wr) := ⟨⟨wr, Below.refl _ _⟩⟩
              have z0 := bel_cell h0
              have z1 := bel_cell h1
              have z2 := bel_cell h2
              have z3 := bel_cell h3
              have z4 := bel_cell h4
              go_wp2_with fail
              refine region_below (by kernel_rfl) (by kernel_rfl) ?_
              repeat (go_big_quiet_step ((go_at_call 39; exact quiet_call (usable_is false (E t) hEt hut _))))
              refine wpQuiet_nil ?_
              intro _ hw'
              obtain ⟨z, hw''⟩ := hw'
              subst hw''
              go_wp2
              go_roundw
              case rel => exact ⟨t + 1, by omega, rfl, by go_num, HSS.out, own_below hown z.bel, Below_trans hbel z.bel⟩
              case measure => simp [intOf]; omega
            | true =>
              have nz : Nonempty (Bel wr) := ⟨⟨wr, Below.refl _ _⟩⟩
              have z0 := bel_cell h0
              have z1 := bel_cell h1
              have z2 := bel_cell h2
              have z3 := bel_cell h3
              have z4 := bel_cell h4
              have z5 := bel_cell a1
              by_cases heq : (E t).g = (E k).g
              · have hb8 : ((E t).g.toList == (E k).g.toList) = true := by rw [heq]; simp
                have hd : Hid (names E (k + 1) = names E k ∧ num E (k + 1) = num E k ∧ ∀ s, seen E s (k + 1) = seen E s k) := step_again (seen_hit hut heq k htlt)
                clear heq
                go_wp2_with fail
                refine region_below (by kernel_rfl) (by kernel_rfl) ?_
                repeat (go_big_quiet_step ((go_at_call 39; exact quiet_call (usable_is true (E t) hEt hut _))))
                refine wpQuiet_nil ?_
                intro _ hw'
                obtain ⟨z, hw''⟩ := hw'
                subst hw''
                go_wp2
                go_roundw
                case rel => exact ⟨k + 1, by omega, by go_num, by rw [hd.out.1, hd.out.2.1]; exact own_below hown z.bel, Below_trans hbel z.bel⟩
                case measure => simp [intOf]; omega
              · have hb8 := ne_of_toList heq
                have HSS : Hid (seen E (E k).g (t + 1) = false) := by
                  show seen E (E k).g (t + 1) = false
                  simp [seen, HSN.out, heq]
                clear heq
                go_wp2_with fail
                refine region_below (by kernel_rfl) (by kernel_rfl) ?_
                repeat (go_big_quiet_step ((go_at_call 39; exact quiet_call (usable_is true (E t) hEt hut _))))
                refine wpQuiet_nil ?_
                intro _ hw'
                obtain ⟨z, hw''⟩ := hw'
                subst hw''
                go_wp2
                go_roundw
                case rel => exact ⟨t + 1, by omega, rfl, by go_num, HSS.out, own_below hown z.bel, Below_trans hbel z.bel⟩
                case measure => simp [intOf]; omega
          · have etk : t = k := by omega
            have hd : Hid (names E (k + 1) = names E k ++ [.string (E k).g] ∧ num E (k + 1) = num E k + 1 ∧ ∀ s, seen E s (k + 1) = (seen E s k || decide (s = (E k).g))) := step_new hus (by rw [← etk]; rw [etk]; rw [etk] at HSN; exact HSN.out)
            have HB : Hid (∀ j, Value.ownBlock u3 = some j → w.heap.size ≤ j) := own_blk hown
            clear etk
            go_wp2_with (first
              | (at_builtin; go_must (refine wpList_append_lies _ rfl _ _ _ rfl w.heap.size 9 i0 _ 1 16 Trym.underlying28 hi hz0 hz1 hz2 rfl (by omega) _ (num E k) (names E k) rfl (hown.alloc _) _ 1 1 [.string (E k).g] rfl rfl (news_at rfl #[.string (E k).g] 9) (by simp [Value.oneCell']) (by omega) (by unfold maxLen; omega) (by omega) (by simp; omega) (wr.heap.size + 1) (by simp) ?_); intro g' c' w3 hown3 hgrow3 hat3 hlt3))
            go_roundw
            case rel => exact ⟨k + 1, by omega, by go_num, by rw [hd.out.1, hd.out.2.1]; exact hown3, (hbel.alloc hsz _).grown hgrow3 (by simp; omega) (fun j hj => HB.out j hj)⟩
            case measure => simp [intOf]; omega
    · obtain rfl : k = n := by omega
      go_wp2
      go_ret
      exact ⟨_, rfl, hown, hbel⟩
end Go.Proofs.Qxb6600235aMods.Ev
