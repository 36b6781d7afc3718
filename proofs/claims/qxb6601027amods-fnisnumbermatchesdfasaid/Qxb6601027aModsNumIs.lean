import Derived.Test.Qxb6601027aModsNumWalk
namespace Go.Proofs.Qxb6601027aMods.Num
open Go.RowKit

set_option maxHeartbeats 2000000 in
theorem isNumber_any (s : ByteArray) (hs : s.size ≤ maxLen) (w : World) :
    Calls Trym.prog 19 #[.string s] w fun e w' => e = .returned (.bool (num s.data.toList false)) ∧ w' = w := by
  have hx : ∀ k, (s.extract (k + 1) s.size).size ≤ maxLen := fun k => Nat.le_trans (by simp) hs
  unfold maxLen at hs
  go_enter Trym.func19, Trym.ntmps19
  go_wp2
  go_loop [3, 4] (fun d i => ∃ (k : Nat) (b : Bool), k ≤ s.size ∧ i = .int .i64 k ∧ d = .bool b ∧ num s.data.toList false = numFrom s k b) (fun _ i => s.size - (intOf i).toNat)
  case atStart => exact ⟨0, false, Nat.zero_le _, rfl, rfl, rfl⟩
  case round =>
    obtain ⟨k, b, hk, rfl, rfl, hr⟩ := hrel
    have HR : Hid (num s.data.toList false = numFrom s k b) := hr
    clear hr
    by_cases hlt : k < s.size
    · have HS : Hid (numFrom s k b = (if dg (s[k]'hlt).toNat = true then numFrom s (k + 1) true
        else if (s[k]'hlt).toNat = 46 ∨ (s[k]'hlt).toNat = 44 then numFrom s (k + 1) b
        else if (s[k]'hlt).toNat = 69 ∨ (s[k]'hlt).toNat = 101 then (b && expL (s.extract (k + 1) s.size).data.toList)
        else false)) := numFrom_step s k b hlt
      rcases byte_cases (s[k]'hlt).toNat with ⟨hd, hsg, h46, h44, h69, h101, h43, h45⟩ | h | h | h | h | h | h | ⟨hd, hsg, h46, h44, h69, h101, h43, h45⟩
      · have HN : Hid (numFrom s k b = numFrom s (k + 1) true) := by show numFrom s k b = _; rw [HS.out, if_pos hd]
        clear HS
        go_wp2_with (first
          | (go_at_call 22; refine (digit22 _ _).mono ?_; rintro e w' ⟨rfl, hw⟩; subst w')
          | (go_at_call 21; refine (isExponent_any _ (hx k) _).mono ?_; rintro e w' ⟨rfl, hw⟩; subst w'))
        go_round
        case rel => exact ⟨k + 1, true, by omega, by go_num, rfl, by rw [HR.out, HN.out]⟩
        case measure => simp [intOf]; omega
      · have hd : dg 46 = false := rfl
        have HN : Hid (numFrom s k b = numFrom s (k + 1) b) := by show numFrom s k b = _; rw [HS.out, h]; rfl
        clear HS
        go_wp2_with (first
          | (go_at_call 22; refine (digit22 _ _).mono ?_; rintro e w' ⟨rfl, hw⟩; subst w')
          | (go_at_call 21; refine (isExponent_any _ (hx k) _).mono ?_; rintro e w' ⟨rfl, hw⟩; subst w'))
        go_round
        case rel => exact ⟨k + 1, b, by omega, by go_num, rfl, by rw [HR.out, HN.out]⟩
        case measure => simp [intOf]; omega
      · have hd : dg 44 = false := rfl
        have HN : Hid (numFrom s k b = numFrom s (k + 1) b) := by show numFrom s k b = _; rw [HS.out, h]; rfl
        clear HS
        go_wp2_with (first
          | (go_at_call 22; refine (digit22 _ _).mono ?_; rintro e w' ⟨rfl, hw⟩; subst w')
          | (go_at_call 21; refine (isExponent_any _ (hx k) _).mono ?_; rintro e w' ⟨rfl, hw⟩; subst w'))
        go_round
        case rel => exact ⟨k + 1, b, by omega, by go_num, rfl, by rw [HR.out, HN.out]⟩
        case measure => simp [intOf]; omega
      · have hd : dg 69 = false := rfl
        have HN : Hid (numFrom s k b = (b && expL (s.extract (k + 1) s.size).data.toList)) := by show numFrom s k b = _; rw [HS.out, h]; rfl
        clear HS
        cases b with
        | true =>
          go_wp2_with (first
          | (go_at_call 22; refine (digit22 _ _).mono ?_; rintro e w' ⟨rfl, hw⟩; subst w')
          | (go_at_call 21; refine (isExponent_any _ (hx k) _).mono ?_; rintro e w' ⟨rfl, hw⟩; subst w'))
          go_ret
          exact ⟨ret_bool (by rw [HR.out, HN.out, Lib.extract_data]; rfl), rfl⟩
        | false =>
          go_wp2_with (first
          | (go_at_call 22; refine (digit22 _ _).mono ?_; rintro e w' ⟨rfl, hw⟩; subst w')
          | (go_at_call 21; refine (isExponent_any _ (hx k) _).mono ?_; rintro e w' ⟨rfl, hw⟩; subst w'))
          go_ret
          exact ⟨ret_bool (by rw [HR.out, HN.out]; rfl), rfl⟩
      · have hd : dg 101 = false := rfl
        have HN : Hid (numFrom s k b = (b && expL (s.extract (k + 1) s.size).data.toList)) := by show numFrom s k b = _; rw [HS.out, h]; rfl
        clear HS
        cases b with
        | true =>
          go_wp2_with (first
          | (go_at_call 22; refine (digit22 _ _).mono ?_; rintro e w' ⟨rfl, hw⟩; subst w')
          | (go_at_call 21; refine (isExponent_any _ (hx k) _).mono ?_; rintro e w' ⟨rfl, hw⟩; subst w'))
          go_ret
          exact ⟨ret_bool (by rw [HR.out, HN.out, Lib.extract_data]; rfl), rfl⟩
        | false =>
          go_wp2_with (first
          | (go_at_call 22; refine (digit22 _ _).mono ?_; rintro e w' ⟨rfl, hw⟩; subst w')
          | (go_at_call 21; refine (isExponent_any _ (hx k) _).mono ?_; rintro e w' ⟨rfl, hw⟩; subst w'))
          go_ret
          exact ⟨ret_bool (by rw [HR.out, HN.out]; rfl), rfl⟩
      · have hd : dg 43 = false := rfl
        have HN : Hid (numFrom s k b = false) := by show numFrom s k b = _; rw [HS.out, h]; rfl
        clear HS
        go_wp2_with (first
          | (go_at_call 22; refine (digit22 _ _).mono ?_; rintro e w' ⟨rfl, hw⟩; subst w')
          | (go_at_call 21; refine (isExponent_any _ (hx k) _).mono ?_; rintro e w' ⟨rfl, hw⟩; subst w'))
        go_ret
        exact ⟨ret_bool (by rw [HR.out, HN.out]), rfl⟩
      · have hd : dg 45 = false := rfl
        have HN : Hid (numFrom s k b = false) := by show numFrom s k b = _; rw [HS.out, h]; rfl
        clear HS
        go_wp2_with (first
          | (go_at_call 22; refine (digit22 _ _).mono ?_; rintro e w' ⟨rfl, hw⟩; subst w')
          | (go_at_call 21; refine (isExponent_any _ (hx k) _).mono ?_; rintro e w' ⟨rfl, hw⟩; subst w'))
        go_ret
        exact ⟨ret_bool (by rw [HR.out, HN.out]), rfl⟩
      · have e46 := ne_of_beq (m := 46) h46
        have e44 := ne_of_beq (m := 44) h44
        have e69 := ne_of_beq (m := 69) h69
        have e101 := ne_of_beq (m := 101) h101
        have HN : Hid (numFrom s k b = false) := by show numFrom s k b = _; rw [HS.out]; simp [hd, e46, e44, e69, e101]
        clear HS
        go_wp2_with (first
          | (go_at_call 22; refine (digit22 _ _).mono ?_; rintro e w' ⟨rfl, hw⟩; subst w')
          | (go_at_call 21; refine (isExponent_any _ (hx k) _).mono ?_; rintro e w' ⟨rfl, hw⟩; subst w'))
        go_ret
        exact ⟨ret_bool (by rw [HR.out, HN.out]), rfl⟩
    · have HF : Hid (numFrom s k b = b) := numFrom_end s k b (by omega)
      go_wp2
      go_ret
      exact ⟨ret_bool (by rw [HR.out, HF.out]), rfl⟩

theorem zzIsNumber_any (s : ByteArray) (hs : s.size ≤ maxLen) (w : World) :
    Calls Trym.prog 9 #[.string s] w fun e w' => e = .returned (.bool (num s.data.toList false)) ∧ w' = w := by
  have hs' := hs
  unfold maxLen at hs'
  go_enter Trym.func9, Trym.ntmps9
  go_wp2_with (go_at_call 19; refine (isNumber_any _ hs _).mono ?_; rintro e w' ⟨rfl, hw⟩; subst w')
  go_ret
  exact ⟨rfl, rfl⟩
end Go.Proofs.Qxb6601027aMods.Num
