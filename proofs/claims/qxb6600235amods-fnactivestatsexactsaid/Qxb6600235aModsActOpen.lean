import Derived.Test.Qxb6600235aModsProg
import Derived.Test.Qxb6600235aModsOpens
import Derived.Test.Qxb6600235aModsActPlain
namespace Go.Proofs.Qxb6600235aMods.Act
open Go Go.RowKit Go.Proofs.Qxb6600235aMods.Recs Go.Proofs.Qxb6600235aMods.Opens

theorem cells61 : Trym.prog.cellsOf 61 = 4 := by kernel_rfl
theorem cells62 : Trym.prog.cellsOf 62 = 4 := by kernel_rfl
theorem cells9 : Trym.prog.cellsOf 9 = 1 := by kernel_rfl
theorem cells2 : Trym.prog.cellsOf 2 = 1 := by kernel_rfl

section
variable {H : Type} {enc : TypeId × Value → H} {W : World} {spare : Nat → Bool} {held : Bool}

theorem open_player {fuel : Nat} {cs : List Value} {x : DataW H × List MemPlace} (h : DataW.trod enc Trym.prog W 0 spare held fuel 61 cs = some x) :
    ∃ p : PlR, cs = [.string p.u, .string p.r, .string p.x, .string p.t] ∧ p.r.size ≤ maxLen := by
  have hl := struct_len Trym.underlying61 h
  rw [cells61] at hl
  obtain ⟨n0, y0, f0⟩ := field Trym.underlying61 h 0 _ rfl
  obtain ⟨n1, y1, f1⟩ := field Trym.underlying61 h 1 _ rfl
  obtain ⟨n2, y2, f2⟩ := field Trym.underlying61 h 2 _ rfl
  obtain ⟨n3, y3, f3⟩ := field Trym.underlying61 h 3 _ rfl
  match cs, hl with
  | [c0, c1, c2, c3], _ =>
    replace f0 : DataW.trod enc Trym.prog W 0 spare held n0 9 (List.take (Trym.prog.cellsOf 9) (List.drop 0 [c0, c1, c2, c3])) = some y0 := f0
    rw [cells9] at f0
    replace f1 : DataW.trod enc Trym.prog W 0 spare held n1 9 (List.take (Trym.prog.cellsOf 9) (List.drop 1 [c0, c1, c2, c3])) = some y1 := f1
    rw [cells9] at f1
    replace f2 : DataW.trod enc Trym.prog W 0 spare held n2 9 (List.take (Trym.prog.cellsOf 9) (List.drop 2 [c0, c1, c2, c3])) = some y2 := f2
    rw [cells9] at f2
    replace f3 : DataW.trod enc Trym.prog W 0 spare held n3 9 (List.take (Trym.prog.cellsOf 9) (List.drop 3 [c0, c1, c2, c3])) = some y3 := f3
    rw [cells9] at f3
    obtain ⟨s0, e0, _, _⟩ := DataW.trod_string Trym.underlying9 f0
    obtain ⟨s1, e1, _, hs⟩ := DataW.trod_string Trym.underlying9 f1
    obtain ⟨s2, e2, _, _⟩ := DataW.trod_string Trym.underlying9 f2
    obtain ⟨s3, e3, _, _⟩ := DataW.trod_string Trym.underlying9 f3
    simp at e0 e1 e2 e3
    exact ⟨⟨s0, s1, s2, s3⟩, by simp [e0, e1, e2, e3], hs⟩

theorem open_engine {fuel : Nat} {cs : List Value} {x : DataW H × List MemPlace} (h : DataW.trod enc Trym.prog W 0 spare held fuel 62 cs = some x) :
    ∃ p : EnR, cs = [.string p.i, .string p.r, .int .i64 p.p, .int .i64 p.q] ∧ p.r.size ≤ maxLen := by
  have hl := struct_len Trym.underlying62 h
  rw [cells62] at hl
  obtain ⟨n0, y0, f0⟩ := field Trym.underlying62 h 0 _ rfl
  obtain ⟨n1, y1, f1⟩ := field Trym.underlying62 h 1 _ rfl
  obtain ⟨n2, y2, f2⟩ := field Trym.underlying62 h 2 _ rfl
  obtain ⟨n3, y3, f3⟩ := field Trym.underlying62 h 3 _ rfl
  match cs, hl with
  | [c0, c1, c2, c3], _ =>
    replace f0 : DataW.trod enc Trym.prog W 0 spare held n0 9 (List.take (Trym.prog.cellsOf 9) (List.drop 0 [c0, c1, c2, c3])) = some y0 := f0
    rw [cells9] at f0
    replace f1 : DataW.trod enc Trym.prog W 0 spare held n1 9 (List.take (Trym.prog.cellsOf 9) (List.drop 1 [c0, c1, c2, c3])) = some y1 := f1
    rw [cells9] at f1
    replace f2 : DataW.trod enc Trym.prog W 0 spare held n2 2 (List.take (Trym.prog.cellsOf 2) (List.drop 2 [c0, c1, c2, c3])) = some y2 := f2
    rw [cells2] at f2
    replace f3 : DataW.trod enc Trym.prog W 0 spare held n3 2 (List.take (Trym.prog.cellsOf 2) (List.drop 3 [c0, c1, c2, c3])) = some y3 := f3
    rw [cells2] at f3
    obtain ⟨s0, e0, _, _⟩ := DataW.trod_string Trym.underlying9 f0
    obtain ⟨s1, e1, _, hs⟩ := DataW.trod_string Trym.underlying9 f1
    obtain ⟨s2, e2, _, _⟩ := DataW.trod_int Trym.underlying2 f2
    obtain ⟨s3, e3, _, _⟩ := DataW.trod_int Trym.underlying2 f3
    simp at e0 e1 e2 e3
    exact ⟨⟨s0, s1, s2, s3⟩, by simp [e0, e1, e2, e3], hs⟩

theorem open_players {ao : Option Addr} {n cap : Nat} {d : DataW H} {p : List MemPlace} (h : DataW.Trod enc Trym.prog W 0 spare held 36 (.slice ao n cap) d p) :
    ∃ A : Nat → PlR, S 4 (plV A) W ao n ∧ n ≤ maxLen ∧ ∀ i, i < n → (A i).r.size ≤ maxLen := by
  obtain ⟨fuel, hf⟩ := h
  rcases Deep.open_slice Trym.underlying36 hf with ⟨hcs, _⟩ | ⟨a, l, c, m, fu, D, Pl, hcs, _, hl, hm, hmm, _, hx⟩
  · simp [Value.cells] at hcs
    obtain ⟨rfl, rfl, rfl⟩ := hcs
    exact ⟨fun _ => ⟨.empty, .empty, .empty, .empty⟩, fun h => absurd h (Nat.lt_irrefl _), Nat.zero_le _, fun i h => absurd h (Nat.not_lt_zero _)⟩
  · simp [Value.cells] at hcs
    obtain ⟨rfl, rfl, rfl⟩ := hcs
    have hle : n ≤ m := by rw [hmm]; split <;> omega
    obtain ⟨A, hA⟩ := @Deep.choose_lt PlR ⟨⟨.empty, .empty, .empty, .empty⟩⟩ n (fun i p => W.cells? 0 (a.add (i * 4)) 4 = some [.string p.u, .string p.r, .string p.x, .string p.t] ∧ p.r.size ≤ maxLen) (fun i hi => by
      obtain ⟨cs, h1, h2⟩ := hx i (Nat.lt_of_lt_of_le hi hle)
      obtain ⟨p, rfl, hp⟩ := open_player h2
      rw [cells61] at h1
      exact ⟨p, h1, hp⟩)
    refine ⟨A, S_of_cells (by decide) (fun i hi => ⟨_, (hA i hi).1, fun j hj => ?_⟩), by omega, fun i hi => (hA i hi).2⟩
    match j, hj with
    | 0, _ => rfl
    | 1, _ => rfl
    | 2, _ => rfl
    | 3, _ => rfl

theorem open_engines {ao : Option Addr} {n cap : Nat} {d : DataW H} {p : List MemPlace} (h : DataW.Trod enc Trym.prog W 0 spare held 37 (.slice ao n cap) d p) :
    ∃ A : Nat → EnR, S 4 (enV A) W ao n ∧ n ≤ maxLen ∧ ∀ i, i < n → (A i).r.size ≤ maxLen := by
  obtain ⟨fuel, hf⟩ := h
  rcases Deep.open_slice Trym.underlying37 hf with ⟨hcs, _⟩ | ⟨a, l, c, m, fu, D, Pl, hcs, _, hl, hm, hmm, _, hx⟩
  · simp [Value.cells] at hcs
    obtain ⟨rfl, rfl, rfl⟩ := hcs
    exact ⟨fun _ => ⟨.empty, .empty, 0, 0⟩, fun h => absurd h (Nat.lt_irrefl _), Nat.zero_le _, fun i h => absurd h (Nat.not_lt_zero _)⟩
  · simp [Value.cells] at hcs
    obtain ⟨rfl, rfl, rfl⟩ := hcs
    have hle : n ≤ m := by rw [hmm]; split <;> omega
    obtain ⟨A, hA⟩ := @Deep.choose_lt EnR ⟨⟨.empty, .empty, 0, 0⟩⟩ n (fun i p => W.cells? 0 (a.add (i * 4)) 4 = some [.string p.i, .string p.r, .int .i64 p.p, .int .i64 p.q] ∧ p.r.size ≤ maxLen) (fun i hi => by
      obtain ⟨cs, h1, h2⟩ := hx i (Nat.lt_of_lt_of_le hi hle)
      obtain ⟨p, rfl, hp⟩ := open_engine h2
      rw [cells62] at h1
      exact ⟨p, h1, hp⟩)
    refine ⟨A, S_of_cells (by decide) (fun i hi => ⟨_, (hA i hi).1, fun j hj => ?_⟩), by omega, fun i hi => (hA i hi).2⟩
    match j, hj with
    | 0, _ => rfl
    | 1, _ => rfl
    | 2, _ => rfl
    | 3, _ => rfl
end
end Go.Proofs.Qxb6600235aMods.Act
