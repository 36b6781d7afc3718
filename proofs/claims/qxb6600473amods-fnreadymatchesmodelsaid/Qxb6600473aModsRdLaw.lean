import Derived.Test.Qxb6600473aModsRdBytes
import Derived.Test.Qxb6600473aModsRdBuild
import Derived.Test.Qxb6600473aModsRdReady
import Derived.Test.Qxb6600473aModsRdModel
import Derived.Test.Qxb6600473aModsOpens
namespace Go.Proofs.Qxb6600473aMods.Rd
open Go.RowKit Go.Proofs.Qxb6600473aMods.Recs Go.Proofs.Qxb6600473aMods.Opens

theorem zzReady_none (x y : Bool) (g : Option Addr) (n c : Nat) (w : World) :
    Calls Trym.prog 23 #[.agg #[.bool x, .bool y, .slice none 0 0, .slice g n c, .pointer none]] w fun e w' => e = .returned (.bool (!x)) ∧ Below w.heap.size w w' := by
  cases x with
  | true => exact zzReady_of true y g n c none false w (fun w' _ => ready_owed y _ _ g n c none w' rfl rfl)
  | false => exact zzReady_of false y g n c none true w (fun w' _ => ready_none y g n c w')

theorem zzReady_dev (x y : Bool) (A : Nat → StepR) (B : Nat → CmdR) (g n c d g2 m c2 : Nat) (w : World) (hn : n ≤ 4096) (hm : m ≤ 4096) (hS : S 4 (st4 A) w (some ⟨g, 0, none⟩) n) (hd : w.cell? ⟨d, 2, none⟩ = some (.slice (some ⟨g2, 0, none⟩) m c2)) (hT : S 6 (cm6 B) w (some ⟨g2, 0, none⟩) m)
    (hA : ∀ i, i < n → (A i).n.size ≤ maxLen) (hB : ∀ i, i < m → (B i).n.size ≤ maxLen) :
    Calls Trym.prog 23 #[.agg #[.bool x, .bool y, .slice none 0 0, .slice (some ⟨g, 0, none⟩) n c, .pointer (some ⟨d, 0, none⟩)]] w fun e w' => e = .returned (.bool (!x && !anyBad A n B m)) ∧ Below w.heap.size w w' := by
  cases x with
  | true => exact zzReady_of true y _ n c _ false w (fun w' _ => ready_owed y _ _ _ n c _ w' rfl rfl)
  | false => exact zzReady_of false y _ n c _ _ w (fun w' hb => ready_dev y A B g n c d g2 m c2 w' hn hm (S_below hS hb) ((hb.cell (p := ⟨d, 2, none⟩) (World.block_lt_of_cell? w _ hd)).trans hd) (S_below hT hb) hA hB)

theorem model_no (x : Bool) (ao bo : Option Addr) (n cap m cap' : Nat) (w : World) :
    Calls Trym.prog 24 #[.bool x, .bool false, .slice ao n cap, .slice bo m cap'] w fun e w' => e = .returned (.bool (!x)) ∧ Below w.heap.size w w' := by
  cases x with
  | true => exact model_owed false ao bo n cap m cap' w
  | false => exact model_none ao bo n cap m cap' w
theorem model_yes (x : Bool) (A : Nat → StepR) (B : Nat → CmdR) (ao bo : Option Addr) (n cap m cap' : Nat) (w : World) (hn : n ≤ 4096) (hm : m ≤ 4096) (hS : S 3 (stV A) w ao n) (hT : S 3 (cmV B) w bo m) :
    Calls Trym.prog 24 #[.bool x, .bool true, .slice ao n cap, .slice bo m cap'] w fun e w' => e = .returned (.bool (!x && !anyBad A n B m)) ∧ Below w.heap.size w w' := by
  cases x with
  | true => exact model_owed true ao bo n cap m cap' w
  | false => exact model_dev A B ao bo n cap m cap' w hn hm hS hT

set_option maxHeartbeats 1000000 in
theorem law_short (x y z : Bool) (A : Nat → StepR) (B : Nat → CmdR) (ao bo : Option Addr) (n cap m cap' : Nat) (w : World) (hn : n ≤ maxLen) (hm : m ≤ maxLen) (hS : S 3 (stV A) w ao n) (hT : S 3 (cmV B) w bo m) (hbig : 4096 < n ∨ 4096 < m) :
    Calls Trym.prog 8 #[.bool x, .bool y, .bool z, .slice ao n cap, .slice bo m cap'] w fun e w' => e = .returned (.bool true) ∧ Below w.heap.size w w' := by
  have HS : Hid (S 3 (stV A) w ao n) := hS
  have HT : Hid (S 3 (cmV B) w bo m) := hT
  have HN : Hid (n ≤ maxLen ∧ m ≤ maxLen ∧ (4096 < n ∨ 4096 < m)) := ⟨hn, hm, hbig⟩
  clear hS hT hn hm hbig
  go_enter Trym.func8, Trym.ntmps8
  go_wp2_with (first
    | (go_at_call 20; refine (bytesLaw x y z A B ao bo n cap m cap' _ HN.out.1 HN.out.2.1 HS.out HT.out).mono ?_; rintro e w' ⟨⟨r, rfl⟩, hw⟩; subst w'; cases r)
    | (go_at_call 21; refine (tooBig_big ao bo n cap m cap' _ HN.out.1 HN.out.2.1 HN.out.2.2).mono ?_; rintro e w' ⟨rfl, hw⟩; subst w'))
  all_goals
    go_ret
    exact ⟨rfl, Below.refl _ _⟩

set_option maxHeartbeats 1000000 in
theorem law_main (x y z : Bool) (A : Nat → StepR) (B : Nat → CmdR) (ao bo : Option Addr) (n cap m cap' : Nat) (w : World) (hn : n ≤ 4096) (hm : m ≤ 4096) (hS : S 3 (stV A) w ao n) (hT : S 3 (cmV B) w bo m)
    (hA : ∀ i, i < n → (A i).n.size ≤ maxLen) (hB : ∀ i, i < m → (B i).n.size ≤ maxLen) :
    Calls Trym.prog 8 #[.bool x, .bool y, .bool z, .slice ao n cap, .slice bo m cap'] w fun e w' => e = .returned (.bool true) ∧ Below w.heap.size w w' := by
  have HS : Hid (S 3 (stV A) w ao n) := hS
  have HT : Hid (S 3 (cmV B) w bo m) := hT
  have HN : Hid (n ≤ maxLen ∧ m ≤ maxLen) := ⟨by unfold maxLen; omega, by unfold maxLen; omega⟩
  have HA : Hid (∀ i, i < n → (A i).n.size ≤ maxLen) := hA
  have HB : Hid (∀ i, i < m → (B i).n.size ≤ maxLen) := hB
  clear hS hT hA hB
  go_enter Trym.func8, Trym.ntmps8
  go_wp2_with (first
    | (go_at_call 20; refine (bytesLaw x y z A B ao bo n cap m cap' _ HN.out.1 HN.out.2 HS.out HT.out).mono ?_; rintro e w' ⟨⟨r, rfl⟩, hw⟩; subst w'; cases r)
    | (go_at_call 21; refine (tooBig_small A B ao bo n cap m cap' _ hn hm HS.out HT.out).mono ?_; rintro e w' ⟨⟨r, rfl⟩, hw⟩; subst w'; cases r))
  all_goals first
    | (go_ret; exact ⟨rfl, Below.refl _ _⟩)
    | skip
  clear HN
  cases z with
  | false =>
    refine (build_none x y A ao bo n cap m cap' _ hn HS.out).mono ?_
    rintro e w1 ⟨g, c, rfl, hS1, hb1⟩
    have T1 : Hid (Below w.heap.size w w1) := hb1
    have hsz := hb1.size
    clear hS1 hb1 HS HT HA HB
    go_wp2_with fail
    refine (zzReady_none x y (some ⟨g, 0, none⟩) n c _).mono ?_
    rintro e w2 ⟨rfl, hb2⟩
    have T2 : Hid (Below w.heap.size w w2) := Below_trans (T1.out.alloc hsz _) hb2
    clear hb2 T1
    go_wp2_with fail
    refine (model_no x ao bo n cap m cap' _).mono ?_
    rintro e w3 ⟨rfl, hb3⟩
    have T3 : Hid (Below w.heap.size w w3) := Below_trans T2.out hb3
    clear hb3 T2
    go_wp2
    go_ret
    exact ⟨ret_bool (by simp), T3.out⟩
  | true =>
    refine (build_dev x y A B ao bo n cap m cap' _ hn hm HS.out HT.out).mono ?_
    rintro e w1 ⟨g, c, d, g2, c2, rfl, hS1, hd1, hT1, hb1⟩
    have T1 : Hid (Below w.heap.size w w1) := hb1
    have U1 : Hid (S 4 (st4 A) w1 (some ⟨g, 0, none⟩) n ∧ w1.cell? ⟨d, 2, none⟩ = some (.slice (some ⟨g2, 0, none⟩) m c2) ∧ S 6 (cm6 B) w1 (some ⟨g2, 0, none⟩) m) := ⟨hS1, hd1, hT1⟩
    have hsz := hb1.size
    clear hS1 hd1 hT1 hb1
    go_wp2_with fail
    refine (zzReady_dev x y A B g n c d g2 m c2 _ hn hm (S_below U1.out.1 ((Below.refl _ _).alloc (Nat.le_refl _) _)) (cell_alloc U1.out.2.1 _) (S_below U1.out.2.2 ((Below.refl _ _).alloc (Nat.le_refl _) _)) HA.out HB.out).mono ?_
    rintro e w2 ⟨rfl, hb2⟩
    have T2 : Hid (Below w.heap.size w w2) := Below_trans (T1.out.alloc hsz _) hb2
    clear hb2 T1 U1
    go_wp2_with fail
    refine (model_yes x A B ao bo n cap m cap' _ hn hm (S_below HS.out T2.out) (S_below HT.out T2.out)).mono ?_
    rintro e w3 ⟨rfl, hb3⟩
    have T3 : Hid (Below w.heap.size w w3) := Below_trans T2.out hb3
    clear hb3 T2
    go_wp2
    go_ret
    exact ⟨ret_bool (by simp), T3.out⟩

theorem cells47 : Trym.prog.cellsOf 47 = 3 := by kernel_rfl
theorem cells49 : Trym.prog.cellsOf 49 = 3 := by kernel_rfl
theorem cells9 : Trym.prog.cellsOf 9 = 1 := by kernel_rfl
theorem cells4 : Trym.prog.cellsOf 4 = 1 := by kernel_rfl

section
variable {H : Type} {enc : TypeId × Value → H} {W : World} {spare : Nat → Bool} {held : Bool}

theorem open_step {fuel : Nat} {cs : List Value} {x : DataW H × List MemPlace} (h : DataW.trod enc Trym.prog W 0 spare held fuel 47 cs = some x) :
    ∃ p : StepR, cs = [.string p.n, .bool p.c, .bool p.a] ∧ p.n.size ≤ maxLen := by
  have hl := struct_len Trym.underlying47 h
  rw [cells47] at hl
  obtain ⟨n0, y0, f0⟩ := field Trym.underlying47 h 0 _ rfl
  obtain ⟨n1, y1, f1⟩ := field Trym.underlying47 h 1 _ rfl
  obtain ⟨n2, y2, f2⟩ := field Trym.underlying47 h 2 _ rfl
  match cs, hl with
  | [c0, c1, c2], _ =>
    replace f0 : DataW.trod enc Trym.prog W 0 spare held n0 9 (List.take (Trym.prog.cellsOf 9) (List.drop 0 [c0, c1, c2])) = some y0 := f0
    rw [cells9] at f0
    replace f1 : DataW.trod enc Trym.prog W 0 spare held n1 4 (List.take (Trym.prog.cellsOf 4) (List.drop 1 [c0, c1, c2])) = some y1 := f1
    rw [cells4] at f1
    replace f2 : DataW.trod enc Trym.prog W 0 spare held n2 4 (List.take (Trym.prog.cellsOf 4) (List.drop 2 [c0, c1, c2])) = some y2 := f2
    rw [cells4] at f2
    obtain ⟨s0, e0, _, hs⟩ := DataW.trod_string Trym.underlying9 f0
    obtain ⟨s1, e1, _⟩ := DataW.trod_bool Trym.underlying4 f1
    obtain ⟨s2, e2, _⟩ := DataW.trod_bool Trym.underlying4 f2
    simp at e0 e1 e2
    exact ⟨⟨s0, s1, s2⟩, by simp [e0, e1, e2], hs⟩
theorem open_cmd {fuel : Nat} {cs : List Value} {x : DataW H × List MemPlace} (h : DataW.trod enc Trym.prog W 0 spare held fuel 49 cs = some x) :
    ∃ p : CmdR, cs = [.string p.n, .string p.k, .string p.s] ∧ p.n.size ≤ maxLen := by
  have hl := struct_len Trym.underlying49 h
  rw [cells49] at hl
  obtain ⟨n0, y0, f0⟩ := field Trym.underlying49 h 0 _ rfl
  obtain ⟨n1, y1, f1⟩ := field Trym.underlying49 h 1 _ rfl
  obtain ⟨n2, y2, f2⟩ := field Trym.underlying49 h 2 _ rfl
  match cs, hl with
  | [c0, c1, c2], _ =>
    replace f0 : DataW.trod enc Trym.prog W 0 spare held n0 9 (List.take (Trym.prog.cellsOf 9) (List.drop 0 [c0, c1, c2])) = some y0 := f0
    rw [cells9] at f0
    replace f1 : DataW.trod enc Trym.prog W 0 spare held n1 9 (List.take (Trym.prog.cellsOf 9) (List.drop 1 [c0, c1, c2])) = some y1 := f1
    rw [cells9] at f1
    replace f2 : DataW.trod enc Trym.prog W 0 spare held n2 9 (List.take (Trym.prog.cellsOf 9) (List.drop 2 [c0, c1, c2])) = some y2 := f2
    rw [cells9] at f2
    obtain ⟨s0, e0, _, hs⟩ := DataW.trod_string Trym.underlying9 f0
    obtain ⟨s1, e1, _, _⟩ := DataW.trod_string Trym.underlying9 f1
    obtain ⟨s2, e2, _, _⟩ := DataW.trod_string Trym.underlying9 f2
    simp at e0 e1 e2
    exact ⟨⟨s0, s1, s2⟩, by simp [e0, e1, e2], hs⟩

theorem open_steps {ao : Option Addr} {n cap : Nat} {d : DataW H} {p : List MemPlace} (h : DataW.Trod enc Trym.prog W 0 spare held 26 (.slice ao n cap) d p) :
    ∃ A : Nat → StepR, S 3 (stV A) W ao n ∧ n ≤ maxLen ∧ ∀ i, i < n → (A i).n.size ≤ maxLen := by
  obtain ⟨fuel, hf⟩ := h
  rcases Deep.open_slice Trym.underlying26 hf with ⟨hcs, _⟩ | ⟨a, l, c, m, fu, D, Pl, hcs, _, hl, hm, hmm, _, hx⟩
  · simp [Value.cells] at hcs
    obtain ⟨rfl, rfl, rfl⟩ := hcs
    exact ⟨fun _ => ⟨.empty, false, false⟩, fun h => absurd h (Nat.lt_irrefl _), Nat.zero_le _, fun i h => absurd h (Nat.not_lt_zero _)⟩
  · simp [Value.cells] at hcs
    obtain ⟨rfl, rfl, rfl⟩ := hcs
    have hle : n ≤ m := by rw [hmm]; split <;> omega
    obtain ⟨A, hA⟩ := @Deep.choose_lt StepR ⟨⟨.empty, false, false⟩⟩ n (fun i p => W.cells? 0 (a.add (i * 3)) 3 = some [.string p.n, .bool p.c, .bool p.a] ∧ p.n.size ≤ maxLen) (fun i hi => by
      obtain ⟨cs, h1, h2⟩ := hx i (Nat.lt_of_lt_of_le hi hle)
      obtain ⟨p, rfl, hp⟩ := open_step h2
      rw [cells47] at h1
      exact ⟨p, h1, hp⟩)
    refine ⟨A, S_of_cells (by decide) (fun i hi => ⟨_, (hA i hi).1, fun j hj => ?_⟩), by omega, fun i hi => (hA i hi).2⟩
    match j, hj with
    | 0, _ => rfl
    | 1, _ => rfl
    | 2, _ => rfl
theorem open_cmds {ao : Option Addr} {n cap : Nat} {d : DataW H} {p : List MemPlace} (h : DataW.Trod enc Trym.prog W 0 spare held 27 (.slice ao n cap) d p) :
    ∃ A : Nat → CmdR, S 3 (cmV A) W ao n ∧ n ≤ maxLen ∧ ∀ i, i < n → (A i).n.size ≤ maxLen := by
  obtain ⟨fuel, hf⟩ := h
  rcases Deep.open_slice Trym.underlying27 hf with ⟨hcs, _⟩ | ⟨a, l, c, m, fu, D, Pl, hcs, _, hl, hm, hmm, _, hx⟩
  · simp [Value.cells] at hcs
    obtain ⟨rfl, rfl, rfl⟩ := hcs
    exact ⟨fun _ => ⟨.empty, .empty, .empty⟩, fun h => absurd h (Nat.lt_irrefl _), Nat.zero_le _, fun i h => absurd h (Nat.not_lt_zero _)⟩
  · simp [Value.cells] at hcs
    obtain ⟨rfl, rfl, rfl⟩ := hcs
    have hle : n ≤ m := by rw [hmm]; split <;> omega
    obtain ⟨A, hA⟩ := @Deep.choose_lt CmdR ⟨⟨.empty, .empty, .empty⟩⟩ n (fun i p => W.cells? 0 (a.add (i * 3)) 3 = some [.string p.n, .string p.k, .string p.s] ∧ p.n.size ≤ maxLen) (fun i hi => by
      obtain ⟨cs, h1, h2⟩ := hx i (Nat.lt_of_lt_of_le hi hle)
      obtain ⟨p, rfl, hp⟩ := open_cmd h2
      rw [cells49] at h1
      exact ⟨p, h1, hp⟩)
    refine ⟨A, S_of_cells (by decide) (fun i hi => ⟨_, (hA i hi).1, fun j hj => ?_⟩), by omega, fun i hi => (hA i hi).2⟩
    match j, hj with
    | 0, _ => rfl
    | 1, _ => rfl
    | 2, _ => rfl
end
end Go.Proofs.Qxb6600473aMods.Rd
