import Derived.Test.Qxb6600235aModsActBytes
import Derived.Test.Qxb6600235aModsActConv
import Derived.Test.Qxb6600235aModsActModel
import Derived.Test.Qxb6600235aModsActEqual
namespace Go.Proofs.Qxb6600235aMods.Act
open Go.RowKit Go.Proofs.Qxb6600235aMods.Recs

theorem own_cells {w w' : World} {base e m g n c : Nat} {L : List Value} (h : w.ownsRow base e m (.slice (some ⟨g, 0, none⟩) n c) n L) (hb : Below w.heap.size w w') : ∀ j, j < n * m → w'.cell? ⟨g, j, none⟩ = L[j]? := fun j hj => by
  have hg : g < w.heap.size := by
    rcases h.2 with ⟨h', _⟩ | ⟨g', cap', cur, h', _, hg, _⟩
    · simp at h'
    · simp only [Value.slice.injEq, Option.some.injEq, Addr.mk.injEq, and_true, true_and] at h'
      obtain ⟨rfl, rfl⟩ := h'
      exact (Array.getElem?_eq_some_iff.1 hg).1
  exact (hb.cell (p := ⟨g, j, none⟩) hg).trans (h.cellAt j hj)

set_option maxHeartbeats 1000000 in
theorem law_short (A : Nat → PlR) (B : Nat → EnR) (ao bo : Option Addr) (n cap m cap' : Nat) (w : World) (hn : n ≤ maxLen) (hm : m ≤ maxLen) (hS : S 4 (plV A) w ao n) (hT : S 4 (enV B) w bo m) (hbig : 1024 < n ∨ 1024 < m) :
    Calls Trym.prog 7 #[.slice ao n cap, .slice bo m cap'] w fun e w' => e = .returned (.bool true) ∧ Below w.heap.size w w' := by
  have HS : Hid (S 4 (plV A) w ao n) := hS
  have HT : Hid (S 4 (enV B) w bo m) := hT
  have HN : Hid (n ≤ maxLen ∧ m ≤ maxLen) := ⟨hn, hm⟩
  unfold maxLen at hn hm
  clear hS hT
  rcases hbig with hbig | hbig
  all_goals
    go_enter Trym.func7, Trym.ntmps7
    go_wp2_with (first
      | (go_at_call 23; refine (bytesLaw A B ao bo n cap m cap' _ HN.out.1 HN.out.2 HS.out HT.out).mono ?_; rintro e w' ⟨⟨r, rfl⟩, rfl⟩; cases r)
      | (go_at_call 24; refine (bytesPlayers A ao n cap _ HN.out.1 HS.out).mono ?_; rintro e w' ⟨r1, rfl, hr1, hr1', rfl⟩)
      | (go_at_call 25; refine (bytesEngine B bo m cap' _ HN.out.2 HT.out).mono ?_; rintro e w' ⟨r2, rfl, hr2, hr2', rfl⟩))
    all_goals
      go_ret
      exact ⟨rfl, Below.refl _ _⟩

set_option maxHeartbeats 1000000 in
theorem law_main (A : Nat → PlR) (B : Nat → EnR) (ao bo : Option Addr) (n cap m cap' : Nat) (w : World) (hn : n ≤ 1024) (hm : m ≤ 1024) (hS : S 4 (plV A) w ao n) (hT : S 4 (enV B) w bo m)
    (hA : ∀ i, i < n → (A i).r.size ≤ maxLen) (hB : ∀ i, i < m → (B i).r.size ≤ maxLen) :
    Calls Trym.prog 7 #[.slice ao n cap, .slice bo m cap'] w fun e w' => e = .returned (.bool true) ∧ Below w.heap.size w w' := by
  have HS : Hid (S 4 (plV A) w ao n) := hS
  have HT : Hid (S 4 (enV B) w bo m) := hT
  have HN : Hid (n ≤ maxLen ∧ m ≤ maxLen) := ⟨by unfold maxLen; omega, by unfold maxLen; omega⟩
  have HA : Hid (∀ i, i < n → (A i).r.size ≤ maxLen) := hA
  have HB : Hid (∀ i, i < m → (B i).r.size ≤ maxLen) := hB
  have hnil := fun w' g N c => Lib.run_eql_slice_nil (P := Trym.prog) w' 43 67 (some ⟨g, 0, none⟩) N c 0 0 Trym.underlying43
  have hnum := num_le A B m n
  clear hS hT hA hB
  go_enter Trym.func7, Trym.ntmps7
  go_wp2_with (first
    | (go_at_call 23; refine (bytesLaw A B ao bo n cap m cap' _ HN.out.1 HN.out.2 HS.out HT.out).mono ?_; rintro e w' ⟨⟨r, rfl⟩, hw⟩; subst w'; cases r)
    | (go_at_call 24; refine (bytesPlayers A ao n cap _ HN.out.1 HS.out).mono ?_; rintro e w' ⟨r1, rfl, hr1, hr1', hw⟩; subst w')
    | (go_at_call 25; refine (bytesEngine B bo m cap' _ HN.out.2 HT.out).mono ?_; rintro e w' ⟨r2, rfl, hr2, hr2', hw⟩; subst w'))
  all_goals first
    | (go_ret; exact ⟨rfl, Below.refl _ _⟩)
    | skip
  clear HN hr1 hr1' hr2 hr2'
  refine (clonePlayers A ao n cap _ hn HS.out).mono ?_
  rintro e w1 ⟨ao1, cap1, rfl, hS1, hb1⟩
  have P1 : Hid (S 4 (plV A) w1 ao1 n) := hS1
  have Q1 : Hid (S 4 (enV B) w1 bo m) := S_below HT.out hb1
  have T1 : Hid (Below w.heap.size w w1) := hb1
  clear hS1 hb1 HS HT
  go_wp2_with fail
  refine (cloneEngine B bo m cap' _ hm Q1.out).mono ?_
  rintro e w2 ⟨bo1, cap2, rfl, hS1, hb1⟩
  have P2 : Hid (S 4 (plV A) w2 ao1 n) := S_below P1.out hb1
  have Q2 : Hid (S 4 (enV B) w2 bo1 m) := hS1
  have T2 : Hid (Below w.heap.size w w2) := Below_trans T1.out hb1
  clear hS1 hb1 P1 Q1 T1
  go_wp2_with fail
  refine (convPlayers A ao1 n cap1 _ hn P2.out).mono ?_
  rintro e w3 ⟨ao2, cap3, rfl, hS1, hb1⟩
  have P3 : Hid (S 4 (plV A) w3 ao1 n) := S_below P2.out hb1
  have Q3 : Hid (S 4 (enV B) w3 bo1 m) := S_below Q2.out hb1
  have X3 : Hid (S 4 (plV A) w3 ao2 n) := hS1
  have T3 : Hid (Below w.heap.size w w3) := Below_trans T2.out hb1
  clear hS1 hb1 P2 Q2 T2
  go_wp2_with fail
  refine (convEngine B bo1 m cap2 _ hm Q3.out).mono ?_
  rintro e w4 ⟨bo2, cap4, rfl, hS1, hb1⟩
  have P4 : Hid (S 4 (plV A) w4 ao1 n) := S_below P3.out hb1
  have Q4 : Hid (S 4 (enV B) w4 bo1 m) := S_below Q3.out hb1
  have X4 : Hid (S 4 (plV A) w4 ao2 n) := S_below X3.out hb1
  have Y4 : Hid (S 4 (enV B) w4 bo2 m) := hS1
  have T4 : Hid (Below w.heap.size w w4) := Below_trans T3.out hb1
  clear hS1 hb1 P3 Q3 T3 X3
  go_wp2_with fail
  refine (zzActiveStats_any A B ao2 bo2 n cap3 m cap4 _ hn hm X4.out Y4.out HA.out HB.out).mono ?_
  rintro e w5 ⟨g1, c1, rfl, ho1, hb1⟩
  have P5 : Hid (S 4 (plV A) w5 ao1 n) := S_below P4.out hb1
  have Q5 : Hid (S 4 (enV B) w5 bo1 m) := S_below Q4.out hb1
  have T5 : Hid (Below w.heap.size w w5) := Below_trans T4.out hb1
  have O5 : Hid (w5.ownsRow (w4.heap.size + 1) 67 3 (.slice (some ⟨g1, 0, none⟩) (num A B m n) c1) (num A B m n) (st A B m n)) := ho1
  clear ho1 hb1 P4 Q4 T4 X4 Y4
  go_wp2_with fail
  refine (model_any A B ao1 bo1 n cap1 m cap2 _ hn hm P5.out Q5.out).mono ?_
  rintro e w6 ⟨g2, c2, rfl, ho1, hb1⟩
  have T6 : Hid (Below w.heap.size w w6) := Below_trans T5.out hb1
  have O6 : Hid ((∀ j, j < num A B m n * 3 → w6.cell? ⟨g1, j, none⟩ = (st A B m n)[j]?) ∧ (∀ j, j < num A B m n * 3 → w6.cell? ⟨g2, j, none⟩ = (st A B m n)[j]?)) := ⟨own_cells O5.out hb1, own_cells ho1 (Below.refl _ _)⟩
  clear ho1 hb1 P5 Q5 T5 O5
  go_wp2_with fail
  refine (statsEqual_any g1 g2 c1 c2 (num A B m n) (st A B m n) _ (by omega) (st_tri A B m n).2 O6.out.1 O6.out.2).mono ?_
  rintro e w7 ⟨rfl, hb1⟩
  have T7 : Hid (Below w.heap.size w w7) := Below_trans T6.out hb1
  clear hb1 O6 T6
  go_wp2
  go_ret
  exact ⟨rfl, T7.out⟩
end Go.Proofs.Qxb6600235aMods.Act
