import Derived.Test.Qxb6600235aModsEvNamed
import Derived.Deep.QuietTactic
import Derived.BigQuiet
import Derived.Deep.RegionHeld3
import Derived.Deep.RegionWith
namespace Go.Proofs.Qxb6600235aMods.Ev
open Go.RowKit Go.Proofs.Qxb6600235aMods.Recs Go.Proofs.Qxb6600235aMods.Ids

theorem zzNamed_any (E : Nat → EvR) (ao : Option Addr) (n cap : Nat) (w : World) (hn : n ≤ 1024) (hS : S 5 (evV E) w ao n) (hE : ∀ i, i < n → (E i).g.size ≤ maxLen) :
    Calls Trym.prog 17 #[.slice ao n cap] w fun e w' => ∃ ao' c, e = .returned (.slice ao' (num E n) c) ∧ Strs w' ao' (num E n) (names E n) ∧ Below w.heap.size w w' := by
  have HS : Hid (S 5 (evV E) w ao n) := hS
  have HE : Hid (∀ i, i < n → (E i).g.size ≤ maxLen) := hE
  clear hS hE
  go_enter Trym.func17, Trym.ntmps17
  go_wp2_with fail
  refine (namedGames_any E ao n cap _ hn HS.out HE.out).mono ?_
  rintro e w1 ⟨v, rfl, ho, hb⟩
  obtain ⟨ao', c, hv, hs⟩ := own_shape ho
  rw [hv]
  clear ho hv
  go_wp2
  go_ret
  exact ⟨ao', c, rfl, hs, hb⟩

theorem usable_any (e : EvR) (he : e.g.size ≤ maxLen) (w : World) :
    Calls Trym.prog 39 #[.agg #[.string e.i, .string e.g, .string e.t, .bool e.f, .string e.u]] w fun r w' => r = .returned (.bool (us e)) ∧ Below w.heap.size w w' := by
  cases hu : e.u.toList.isEmpty with
  | false =>
    have HU : Hid (us e = false) := us_no hu
    go_enter Trym.func39, Trym.ntmps39
    go_wp2
    go_ret
    exact ⟨Recs.ret_bool HU.out.symm, (Below.refl _ _).alloc (Nat.le_refl _) _⟩
  | true =>
    have HU : Hid (us e = idB e.g) := by
      show us e = idB e.g
      simp [us, hu]
    go_enter Trym.func39, Trym.ntmps39
    go_wp2_with (go_at_call 12; refine (model_any _ he _).mono ?_; rintro r w1 ⟨rfl, hw⟩; subst w1)
    go_ret
    exact ⟨Recs.ret_bool HU.out.symm, (Below.refl _ _).alloc (Nat.le_refl _) _⟩

theorem ne_of_toList {a b : ByteArray} (h : a ≠ b) : (a.toList == b.toList) = false := by
  simp only [beq_eq_false_iff_ne, ne_eq]
  intro e
  rw [ByteArray.toList_eq, ByteArray.toList_eq] at e
  exact h (SMap.ext e)

set_option maxHeartbeats 1000000 in
theorem stringsEqual_any (ao bo : Option Addr) (c1 c2 N : Nat) (L : List Value) (w : World) (hN : N ≤ 1024) (hL : L.length = N) (hT : ∀ v, v ∈ L → ∃ s, v = .string s) (h1 : Strs w ao N L) (h2 : Strs w bo N L) :
    Calls Trym.prog 19 #[.slice ao N c1, .slice bo N c2] w fun e w' => e = .returned (.bool true) ∧ Below w.heap.size w w' := by
  have HT : Hid (L.length = N ∧ (∀ v, v ∈ L → ∃ s, v = .string s) ∧ Strs w ao N L ∧ Strs w bo N L) := ⟨hL, hT, h1, h2⟩
  clear hT h1 h2 hL
  have hne : ((N : Int) != N) = false := by simp
  go_enter Trym.func19, Trym.ntmps19
  go_wp2
  go_loopw [5] (fun i wr => ∃ k q : Nat, k ≤ N ∧ i = .int .i64 k ∧ wr = w.drewN q) (fun i _ => N - (intOf i).toNat)
  case atStart => exact ⟨0, 0, Nat.zero_le _, rfl, rfl⟩
  case round =>
    obtain ⟨k, q, hk, rfl, rfl⟩ := hrel
    by_cases hlt : k < N
    · obtain ⟨g1, rfl, _, hc1⟩ := HT.out.2.2.1 (by omega)
      obtain ⟨g2, rfl, _, hc2⟩ := HT.out.2.2.2 (by omega)
      have hkl : k < L.length := by have := HT.out.1; omega
      obtain ⟨u, hu⟩ := HT.out.2.1 (L[k]'hkl) (List.getElem_mem hkl)
      have hu' : L[k]? = some (.string u) := by rw [List.getElem?_eq_getElem hkl, hu]
      have a0 : w.cell? ⟨g1, k, none⟩ = some (.string u) := (hc1 k hlt).trans hu'
      have b0 : w.cell? ⟨g2, k, none⟩ = some (.string u) := (hc2 k hlt).trans hu'
      have i1 : (k : Int) < (N : Int) := by omega
      clear hc1 hc2 hu hu' hkl
      go_wp2_with fail
      go_quiet (fail)
      go_wp2
      go_roundw
      case rel => exact ⟨k + 1, q + nq, by omega, by go_num, rfl⟩
      case measure => simp [intOf]; omega
    · go_wp2
      go_ret
      exact ⟨rfl, ⟨rfl, rfl, rfl, Nat.le_refl _, fun _ _ => rfl⟩⟩
end Go.Proofs.Qxb6600235aMods.Ev
