import Derived.Test.Qxb6600235aModsEvBytes
import Derived.Test.Qxb6600235aModsEvModel2
import Derived.Test.Qxb6600235aModsOpens
namespace Go.Proofs.Qxb6600235aMods.Ev
open Go.RowKit Go.Proofs.Qxb6600235aMods.Recs Go.Proofs.Qxb6600235aMods.Opens

set_option maxHeartbeats 1000000 in
theorem law_short (A : Nat → EvR) (ao : Option Addr) (n cap : Nat) (w : World) (hn : n ≤ maxLen) (hS : S 5 (evV A) w ao n) (hbig : 1024 < n) :
    Calls Trym.prog 5 #[.slice ao n cap] w fun e w' => e = .returned (.bool true) ∧ Below w.heap.size w w' := by
  have HS : Hid (S 5 (evV A) w ao n) := hS
  have HN : Hid (n ≤ maxLen) := hn
  unfold maxLen at hn
  clear hS
  go_enter Trym.func5, Trym.ntmps5
  go_wp2_with (first
    | (go_at_call 14; refine (bytesLaw A ao n cap _ HN.out HS.out).mono ?_; rintro e w' ⟨⟨r, rfl⟩, rfl⟩; cases r)
    | (go_at_call 15; refine (bytesEvents A ao n cap _ HN.out HS.out).mono ?_; rintro e w' ⟨r1, rfl, hr1, hr1', rfl⟩))
  all_goals
    go_ret
    exact ⟨rfl, Below.refl _ _⟩

set_option maxHeartbeats 1000000 in
theorem law_main (A : Nat → EvR) (ao : Option Addr) (n cap : Nat) (w : World) (hn : n ≤ 1024) (hS : S 5 (evV A) w ao n) (hA : ∀ i, i < n → (A i).g.size ≤ maxLen) :
    Calls Trym.prog 5 #[.slice ao n cap] w fun e w' => e = .returned (.bool true) ∧ Below w.heap.size w w' := by
  have HS : Hid (S 5 (evV A) w ao n) := hS
  have HN : Hid (n ≤ maxLen) := by show n ≤ maxLen; unfold maxLen; omega
  have HA : Hid (∀ i, i < n → (A i).g.size ≤ maxLen) := hA
  have hnum := num_le A n
  clear hS hA
  go_enter Trym.func5, Trym.ntmps5
  go_wp2_with (first
    | (go_at_call 14; refine (bytesLaw A ao n cap _ HN.out HS.out).mono ?_; rintro e w' ⟨⟨r, rfl⟩, hw⟩; subst w'; cases r)
    | (go_at_call 15; refine (bytesEvents A ao n cap _ HN.out HS.out).mono ?_; rintro e w' ⟨r1, rfl, hr1, hr1', hw⟩; subst w'))
  all_goals first
    | (go_ret; exact ⟨rfl, Below.refl _ _⟩)
    | skip
  clear HN hr1 hr1'
  refine (cloneEvents A ao n cap _ hn HS.out).mono ?_
  rintro e w1 ⟨ao1, cap1, rfl, hS1, hb1⟩
  have P1 : Hid (S 5 (evV A) w1 ao1 n) := hS1
  have T1 : Hid (Below w.heap.size w w1) := hb1
  clear hS1 hb1 HS
  go_wp2_with fail
  refine (convEvents A ao1 n cap1 _ hn P1.out).mono ?_
  rintro e w2 ⟨ao2, cap2, rfl, hS1, hb1⟩
  have P2 : Hid (S 5 (evV A) w2 ao1 n) := S_below P1.out hb1
  have X2 : Hid (S 5 (evV A) w2 ao2 n) := hS1
  have T2 : Hid (Below w.heap.size w w2) := Below_trans T1.out hb1
  clear hS1 hb1 P1 T1
  go_wp2_with fail
  refine (zzNamed_any A ao2 n cap2 _ hn X2.out HA.out).mono ?_
  rintro e w3 ⟨go, c1, rfl, hs1, hb1⟩
  have P3 : Hid (S 5 (evV A) w3 ao1 n) := S_below P2.out hb1
  have O3 : Hid (Strs w3 go (num A n) (names A n)) := hs1
  have T3 : Hid (Below w.heap.size w w3) := Below_trans T2.out hb1
  clear hs1 hb1 P2 T2 X2
  go_wp2_with fail
  refine (modelGames_any A ao1 n cap1 _ hn P3.out HA.out).mono ?_
  rintro e w4 ⟨v, rfl, ho, hb1⟩
  obtain ⟨mo, c2, hv, hs2⟩ := own_shape ho
  rw [hv]
  have O4 : Hid (Strs w4 go (num A n) (names A n) ∧ Strs w4 mo (num A n) (names A n)) := ⟨Strs_below O3.out hb1, hs2⟩
  have T4 : Hid (Below w.heap.size w w4) := Below_trans T3.out hb1
  clear hs2 hb1 P3 T3 O3 ho hv
  go_wp2_with fail
  refine (stringsEqual_any go mo c1 c2 (num A n) (names A n) _ (by omega) (by have := names_length A n; omega) (fun v hv => names_strings A n v hv) O4.out.1 O4.out.2).mono ?_
  rintro e w5 ⟨rfl, hb1⟩
  have T5 : Hid (Below w.heap.size w w5) := Below_trans T4.out hb1
  clear hb1 O4 T4
  go_wp2
  go_ret
  exact ⟨rfl, T5.out⟩

theorem cells57 : Trym.prog.cellsOf 57 = 5 := by kernel_rfl
theorem cells9 : Trym.prog.cellsOf 9 = 1 := by kernel_rfl
theorem cells4 : Trym.prog.cellsOf 4 = 1 := by kernel_rfl

section
variable {H : Type} {enc : TypeId × Value → H} {W : World} {spare : Nat → Bool} {held : Bool}

theorem open_event {fuel : Nat} {cs : List Value} {x : DataW H × List MemPlace} (h : DataW.trod enc Trym.prog W 0 spare held fuel 57 cs = some x) :
    ∃ p : EvR, cs = [.string p.i, .string p.g, .string p.t, .bool p.f, .string p.u] ∧ p.g.size ≤ maxLen := by
  have hl := struct_len Trym.underlying57 h
  rw [cells57] at hl
  obtain ⟨n0, y0, f0⟩ := field Trym.underlying57 h 0 _ rfl
  obtain ⟨n1, y1, f1⟩ := field Trym.underlying57 h 1 _ rfl
  obtain ⟨n2, y2, f2⟩ := field Trym.underlying57 h 2 _ rfl
  obtain ⟨n3, y3, f3⟩ := field Trym.underlying57 h 3 _ rfl
  obtain ⟨n4, y4, f4⟩ := field Trym.underlying57 h 4 _ rfl
  match cs, hl with
  | [c0, c1, c2, c3, c4], _ =>
    replace f0 : DataW.trod enc Trym.prog W 0 spare held n0 9 (List.take (Trym.prog.cellsOf 9) (List.drop 0 [c0, c1, c2, c3, c4])) = some y0 := f0
    rw [cells9] at f0
    replace f1 : DataW.trod enc Trym.prog W 0 spare held n1 9 (List.take (Trym.prog.cellsOf 9) (List.drop 1 [c0, c1, c2, c3, c4])) = some y1 := f1
    rw [cells9] at f1
    replace f2 : DataW.trod enc Trym.prog W 0 spare held n2 9 (List.take (Trym.prog.cellsOf 9) (List.drop 2 [c0, c1, c2, c3, c4])) = some y2 := f2
    rw [cells9] at f2
    replace f3 : DataW.trod enc Trym.prog W 0 spare held n3 4 (List.take (Trym.prog.cellsOf 4) (List.drop 3 [c0, c1, c2, c3, c4])) = some y3 := f3
    rw [cells4] at f3
    replace f4 : DataW.trod enc Trym.prog W 0 spare held n4 9 (List.take (Trym.prog.cellsOf 9) (List.drop 4 [c0, c1, c2, c3, c4])) = some y4 := f4
    rw [cells9] at f4
    obtain ⟨s0, e0, _, _⟩ := DataW.trod_string Trym.underlying9 f0
    obtain ⟨s1, e1, _, hs⟩ := DataW.trod_string Trym.underlying9 f1
    obtain ⟨s2, e2, _, _⟩ := DataW.trod_string Trym.underlying9 f2
    obtain ⟨s3, e3, _⟩ := DataW.trod_bool Trym.underlying4 f3
    obtain ⟨s4, e4, _, _⟩ := DataW.trod_string Trym.underlying9 f4
    simp at e0 e1 e2 e3 e4
    exact ⟨⟨s0, s1, s2, s3, s4⟩, by simp [e0, e1, e2, e3, e4], hs⟩

theorem open_events {ao : Option Addr} {n cap : Nat} {d : DataW H} {p : List MemPlace} (h : DataW.Trod enc Trym.prog W 0 spare held 24 (.slice ao n cap) d p) :
    ∃ A : Nat → EvR, S 5 (evV A) W ao n ∧ n ≤ maxLen ∧ ∀ i, i < n → (A i).g.size ≤ maxLen := by
  obtain ⟨fuel, hf⟩ := h
  rcases Deep.open_slice Trym.underlying24 hf with ⟨hcs, _⟩ | ⟨a, l, c, m, fu, D, Pl, hcs, _, hl, hm, hmm, _, hx⟩
  · simp [Value.cells] at hcs
    obtain ⟨rfl, rfl, rfl⟩ := hcs
    exact ⟨fun _ => ⟨.empty, .empty, .empty, false, .empty⟩, fun h => absurd h (Nat.lt_irrefl _), Nat.zero_le _, fun i h => absurd h (Nat.not_lt_zero _)⟩
  · simp [Value.cells] at hcs
    obtain ⟨rfl, rfl, rfl⟩ := hcs
    have hle : n ≤ m := by rw [hmm]; split <;> omega
    obtain ⟨A, hA⟩ := @Deep.choose_lt EvR ⟨⟨.empty, .empty, .empty, false, .empty⟩⟩ n (fun i p => W.cells? 0 (a.add (i * 5)) 5 = some [.string p.i, .string p.g, .string p.t, .bool p.f, .string p.u] ∧ p.g.size ≤ maxLen) (fun i hi => by
      obtain ⟨cs, h1, h2⟩ := hx i (Nat.lt_of_lt_of_le hi hle)
      obtain ⟨p, rfl, hp⟩ := open_event h2
      rw [cells57] at h1
      exact ⟨p, h1, hp⟩)
    refine ⟨A, S_of_cells (by decide) (fun i hi => ⟨_, (hA i hi).1, fun j hj => ?_⟩), by omega, fun i hi => (hA i hi).2⟩
    match j, hj with
    | 0, _ => rfl
    | 1, _ => rfl
    | 2, _ => rfl
    | 3, _ => rfl
    | 4, _ => rfl
end
end Go.Proofs.Qxb6600235aMods.Ev
