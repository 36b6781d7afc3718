import Derived.Test.Qxb6601027aModsProg
import Derived.Test.Qxb6601027aModsNumPlain
import Derived.WalkKit
import Derived.WalkSpells
import Derived.WalkLawsBesides
namespace Go.Proofs.Qxb6601027aMods.Num
open Go.RowKit
theorem ret_bool {a b : Bool} (h : a = b) : Ending.returned (.bool a) = .returned (.bool b) := by rw [h]
theorem ret_int {k : IntKind} {a b : Int} (h : a = b) : Ending.returned (.int k a) = .returned (.int k b) := by rw [h]
theorem empty_is (s : ByteArray) (b : Bool) (h : (s.size == 0) = b) : s.toList.isEmpty = b := by
  rw [ByteArray.toList_eq, isEmpty_data, h]

theorem digit22 (n : Nat) (w : World) : Calls Trym.prog 22 #[.int .u8 n] w fun e w' => e = .returned (.bool (dg n)) ∧ w' = w := by
  by_cases h1 : 48 ≤ n
  · by_cases h2 : n ≤ 57
    · have HD : Hid (dg n = true) := by show dg n = true; simp [dg, h1, h2]
      have hd : decide ((n : Int) ≤ 57) = true := by simp; omega
      go_enter Trym.func22, Trym.ntmps22
      go_wp2
      go_ret
      exact ⟨ret_bool HD.out.symm, rfl⟩
    · have HD : Hid (dg n = false) := by show dg n = false; simp [dg, h2]
      have hd : decide ((n : Int) ≤ 57) = false := by simp; omega
      go_enter Trym.func22, Trym.ntmps22
      go_wp2
      go_ret
      exact ⟨ret_bool HD.out.symm, rfl⟩
  · have HD : Hid (dg n = false) := by show dg n = false; simp [dg, h1]
    have hd : decide ((48 : Int) ≤ (n : Int)) = false := by simp; omega
    go_enter Trym.func22, Trym.ntmps22
    go_wp2
    go_ret
    exact ⟨ret_bool HD.out.symm, rfl⟩
theorem digit18 (n : Nat) (w : World) : Calls Trym.prog 18 #[.int .u8 n] w fun e w' => e = .returned (.bool (dg n)) ∧ w' = w := by
  by_cases h1 : 48 ≤ n
  · by_cases h2 : n ≤ 57
    · have HD : Hid (dg n = true) := by show dg n = true; simp [dg, h1, h2]
      have hd : decide ((n : Int) ≤ 57) = true := by simp; omega
      go_enter Trym.func18, Trym.ntmps18
      go_wp2
      go_ret
      exact ⟨ret_bool HD.out.symm, rfl⟩
    · have HD : Hid (dg n = false) := by show dg n = false; simp [dg, h2]
      have hd : decide ((n : Int) ≤ 57) = false := by simp; omega
      go_enter Trym.func18, Trym.ntmps18
      go_wp2
      go_ret
      exact ⟨ret_bool HD.out.symm, rfl⟩
  · have HD : Hid (dg n = false) := by show dg n = false; simp [dg, h1]
    have hd : decide ((48 : Int) ≤ (n : Int)) = false := by simp; omega
    go_enter Trym.func18, Trym.ntmps18
    go_wp2
    go_ret
    exact ⟨ret_bool HD.out.symm, rfl⟩

theorem sg_cases {n : Nat} {b : Bool} (h : sg n = b) : (b = true ∧ n = 43) ∨ (b = true ∧ n = 45 ∧ ((n : Int) == 43) = false) ∨ (b = false ∧ ((n : Int) == 43) = false ∧ ((n : Int) == 45) = false) := by
  unfold sg at h
  by_cases h1 : n = 43
  · subst h1; left; exact ⟨by rw [← h]; rfl, rfl⟩
  · by_cases h2 : n = 45
    · subst h2; right; left; exact ⟨by rw [← h]; rfl, rfl, rfl⟩
    · right; right
      refine ⟨by rw [← h]; simp [h1, h2], beq_eq_false_iff_ne.2 (by omega), beq_eq_false_iff_ne.2 (by omega)⟩

set_option maxHeartbeats 1000000 in
theorem isExponent_any (s : ByteArray) (hs : s.size ≤ maxLen) (w : World) :
    Calls Trym.prog 21 #[.string s] w fun e w' => e = .returned (.bool (expL s.data.toList)) ∧ w' = w := by
  unfold maxLen at hs
  by_cases h0 : s.size = 0
  · have HE : Hid (expL s.data.toList = false) := exp_empty s h0
    have hb := empty_is s true (by simp [h0])
    go_enter Trym.func21, Trym.ntmps21
    go_wp2
    refine wp_loop_rounds 1 ?_
    rw [rounds_succ]
    go_wp2
    go_ret
    exact ⟨ret_bool HE.out.symm, rfl⟩
  have hpos : 0 < s.size := by omega
  have hb := empty_is s false (beq_eq_false_iff_ne.2 h0)
  cases hsg : sg (s[0]'hpos).toNat with
  | false =>
    have HE : Hid (expL s.data.toList = allFrom s 0) := exp_plain s hpos hsg
    rcases sg_cases hsg with ⟨h, _⟩ | ⟨h, _⟩ | ⟨_, h1, h2⟩
    · cases h
    · cases h
    clear hsg
    go_enter Trym.func21, Trym.ntmps21
    go_wp2
    go_loop [3] (fun i => ∃ k : Nat, k ≤ s.size ∧ i = .int .i64 k ∧ allFrom s 0 = allFrom s k) (fun i => s.size - (intOf i).toNat)
    case atStart => exact ⟨0, Nat.zero_le _, rfl, rfl⟩
    case round =>
      obtain ⟨k, hk, rfl, hr⟩ := hrel
      have HR : Hid (allFrom s 0 = allFrom s k) := hr
      clear hr
      by_cases hlt : k < s.size
      · have HS : Hid (allFrom s k = (dg (s[k]'hlt).toNat && allFrom s (k + 1))) := allFrom_step s k hlt
        cases hd : dg (s[k]'hlt).toNat with
        | true =>
          go_wp2_with (go_at_call 22; refine (digit22 _ _).mono ?_; rintro e w' ⟨rfl, hw⟩; subst w')
          go_round
          case rel => exact ⟨k + 1, by omega, by go_num, by rw [HR.out, HS.out, hd]; rfl⟩
          case measure => simp [intOf]; omega
        | false =>
          go_wp2_with (go_at_call 22; refine (digit22 _ _).mono ?_; rintro e w' ⟨rfl, hw⟩; subst w')
          go_ret
          exact ⟨ret_bool (by rw [HE.out, HR.out, HS.out, hd]; rfl), rfl⟩
      · go_wp2
        go_ret
        exact ⟨ret_bool (by rw [HE.out, HR.out, allFrom_end s k (by omega)]), rfl⟩
  | true =>
    have HE : Hid (expL s.data.toList = (allFrom (s.extract 1 s.size) 0 && !((s.extract 1 s.size).size == 0))) := exp_signed s hpos hsg
    rcases sg_cases hsg with ⟨_, h1⟩ | ⟨_, h1, h2⟩ | ⟨h, _⟩
    · clear hsg
      go_enter Trym.func21, Trym.ntmps21
      go_wp2
      have ht : (s.extract 1 s.size).size ≤ s.size := by simp
      generalize s.extract 1 s.size = t at HE ht ⊢
      go_loop [3] (fun i => ∃ k : Nat, k ≤ t.size ∧ i = .int .i64 k ∧ allFrom t 0 = allFrom t k) (fun i => t.size - (intOf i).toNat)
      case atStart => exact ⟨0, Nat.zero_le _, rfl, rfl⟩
      case round =>
        obtain ⟨k, hk, rfl, hr⟩ := hrel
        have HR : Hid (allFrom t 0 = allFrom t k) := hr
        clear hr
        by_cases hlt : k < t.size
        · have HS : Hid (allFrom t k = (dg (t[k]'hlt).toNat && allFrom t (k + 1))) := allFrom_step t k hlt
          cases hd : dg (t[k]'hlt).toNat with
          | true =>
            go_wp2_with (go_at_call 22; refine (digit22 _ _).mono ?_; rintro e w' ⟨rfl, hw⟩; subst w')
            go_round
            case rel => exact ⟨k + 1, by omega, by go_num, by rw [HR.out, HS.out, hd]; rfl⟩
            case measure => simp [intOf]; omega
          | false =>
            go_wp2_with (go_at_call 22; refine (digit22 _ _).mono ?_; rintro e w' ⟨rfl, hw⟩; subst w')
            go_ret
            exact ⟨ret_bool (by rw [HE.out, HR.out, HS.out, hd]; rfl), rfl⟩
        · have HF : Hid (allFrom t k = true) := allFrom_end t k (by omega)
          cases h9 : (t.size == 0) with
          | true =>
            have hb9 := empty_is t true h9
            go_wp2
            go_ret
            exact ⟨ret_bool (by rw [HE.out, HR.out, HF.out, h9]; rfl), rfl⟩
          | false =>
            have hb9 := empty_is t false h9
            go_wp2
            go_ret
            exact ⟨ret_bool (by rw [HE.out, HR.out, HF.out, h9]; rfl), rfl⟩
    · clear hsg
      go_enter Trym.func21, Trym.ntmps21
      go_wp2
      have ht : (s.extract 1 s.size).size ≤ s.size := by simp
      generalize s.extract 1 s.size = t at HE ht ⊢
      go_loop [3] (fun i => ∃ k : Nat, k ≤ t.size ∧ i = .int .i64 k ∧ allFrom t 0 = allFrom t k) (fun i => t.size - (intOf i).toNat)
      case atStart => exact ⟨0, Nat.zero_le _, rfl, rfl⟩
      case round =>
        obtain ⟨k, hk, rfl, hr⟩ := hrel
        have HR : Hid (allFrom t 0 = allFrom t k) := hr
        clear hr
        by_cases hlt : k < t.size
        · have HS : Hid (allFrom t k = (dg (t[k]'hlt).toNat && allFrom t (k + 1))) := allFrom_step t k hlt
          cases hd : dg (t[k]'hlt).toNat with
          | true =>
            go_wp2_with (go_at_call 22; refine (digit22 _ _).mono ?_; rintro e w' ⟨rfl, hw⟩; subst w')
            go_round
            case rel => exact ⟨k + 1, by omega, by go_num, by rw [HR.out, HS.out, hd]; rfl⟩
            case measure => simp [intOf]; omega
          | false =>
            go_wp2_with (go_at_call 22; refine (digit22 _ _).mono ?_; rintro e w' ⟨rfl, hw⟩; subst w')
            go_ret
            exact ⟨ret_bool (by rw [HE.out, HR.out, HS.out, hd]; rfl), rfl⟩
        · have HF : Hid (allFrom t k = true) := allFrom_end t k (by omega)
          cases h9 : (t.size == 0) with
          | true =>
            have hb9 := empty_is t true h9
            go_wp2
            go_ret
            exact ⟨ret_bool (by rw [HE.out, HR.out, HF.out, h9]; rfl), rfl⟩
          | false =>
            have hb9 := empty_is t false h9
            go_wp2
            go_ret
            exact ⟨ret_bool (by rw [HE.out, HR.out, HF.out, h9]; rfl), rfl⟩
    · cases h

theorem zzIsExponent_any (s : ByteArray) (hs : s.size ≤ maxLen) (w : World) :
    Calls Trym.prog 13 #[.string s] w fun e w' => e = .returned (.bool (expL s.data.toList)) ∧ w' = w := by
  have hs' := hs
  unfold maxLen at hs'
  go_enter Trym.func13, Trym.ntmps13
  go_wp2_with (go_at_call 21; refine (isExponent_any _ hs _).mono ?_; rintro e w' ⟨rfl, hw⟩; subst w')
  go_ret
  exact ⟨rfl, rfl⟩

theorem bc_small (s : ByteArray) (h : cntTo s s.size = 0) : bc s.data.toList = false := by
  rw [cntTo_all] at h
  simp [bc, h]
theorem bc_big (s : ByteArray) (h : 1 ≤ cntTo s s.size) {l : Nat} (hl : lead s.data.toList = l) : bc s.data.toList = ((cntTo s s.size + l : Int) == (s.size : Int)) := by
  rw [cntTo_all] at h ⊢
  unfold bc
  rw [hl, len_data, decide_eq_true h, Bool.true_and, Bool.eq_iff_iff]
  simp
  omega

set_option maxHeartbeats 1000000 in
theorem byCount_any (s : ByteArray) (hs : s.size ≤ 1048576) (w : World) :
    Calls Trym.prog 16 #[.string s] w fun e w' => e = .returned (.bool (bc s.data.toList)) ∧ w' = w := by
  go_enter Trym.func16, Trym.ntmps16
  go_wp2
  go_loop [3, 4] (fun c i => ∃ k : Nat, k ≤ s.size ∧ i = .int .i64 k ∧ c = .int .i64 (cntTo s k)) (fun _ i => s.size - (intOf i).toNat)
  case atStart => exact ⟨0, Nat.zero_le _, rfl, rfl⟩
  case round =>
    obtain ⟨k, hk, rfl, rfl⟩ := hrel
    have hcl := cntTo_le s k
    by_cases hlt : k < s.size
    · have HS : Hid (cntTo s (k + 1) = cntTo s k + (if dg (s[k]'hlt).toNat = true then 1 else 0)) := cntTo_step s k hlt
      generalize cntTo s k = m at HS hcl ⊢
      cases hd : dg (s[k]'hlt).toNat with
      | true =>
        go_wp2_with (go_at_call 18; refine (digit18 _ _).mono ?_; rintro e w' ⟨rfl, hw⟩; subst w')
        go_round
        case rel => exact ⟨k + 1, by omega, by go_num, by rw [HS.out, hd]; go_num⟩
        case measure => simp [intOf]; omega
      | false =>
        go_wp2_with (go_at_call 18; refine (digit18 _ _).mono ?_; rintro e w' ⟨rfl, hw⟩; subst w')
        go_round
        case rel => exact ⟨k + 1, by omega, by go_num, by rw [HS.out, hd]; rfl⟩
        case measure => simp [intOf]; omega
    · obtain rfl : k = s.size := by omega
      by_cases hc : cntTo s s.size = 0
      · have HB : Hid (bc s.data.toList = false) := bc_small s hc
        rw [hc]
        by_cases h0 : s.size = 0
        · go_wp2
          go_ret
          exact ⟨ret_bool HB.out.symm, rfl⟩
        · have hpos : 0 < s.size := by omega
          cases hsg : sg (s[0]'hpos).toNat with
          | true =>
            rcases sg_cases hsg with ⟨_, h1⟩ | ⟨_, h1, h2⟩ | ⟨h, _⟩
            · clear hsg
              go_wp2
              go_ret
              exact ⟨ret_bool HB.out.symm, rfl⟩
            · clear hsg
              go_wp2
              go_ret
              exact ⟨ret_bool HB.out.symm, rfl⟩
            · cases h
          | false =>
            rcases sg_cases hsg with ⟨h, _⟩ | ⟨h, _⟩ | ⟨_, h1, h2⟩
            · cases h
            · cases h
            clear hsg
            go_wp2
            go_ret
            exact ⟨ret_bool HB.out.symm, rfl⟩
      · by_cases h0 : s.size = 0
        · omega
        · have hpos : 0 < s.size := by omega
          have HL : Hid (∀ l, lead s.data.toList = l → bc s.data.toList = ((cntTo s s.size + l : Int) == (s.size : Int))) := fun l hl => bc_big s (by omega) hl
          have HA : Hid (lead s.data.toList = if sg (s[0]'hpos).toNat = true then 1 else 0) := lead_at s hpos
          generalize cntTo s s.size = m at HL hc hcl ⊢
          have hm : 1 ≤ m := by omega
          cases hsg : sg (s[0]'hpos).toNat with
          | true =>
            have HB : Hid (bc s.data.toList = (((m : Int) + 1) == (s.size : Int))) := HL.out 1 (by rw [HA.out, hsg]; rfl)
            rcases sg_cases hsg with ⟨_, h1⟩ | ⟨_, h1, h2⟩ | ⟨h, _⟩
            · clear hsg
              go_wp2
              go_ret
              exact ⟨ret_bool HB.out.symm, rfl⟩
            · clear hsg
              go_wp2
              go_ret
              exact ⟨ret_bool HB.out.symm, rfl⟩
            · cases h
          | false =>
            have HB : Hid (bc s.data.toList = (((m : Int) + 0) == (s.size : Int))) := HL.out 0 (by rw [HA.out, hsg]; rfl)
            rcases sg_cases hsg with ⟨h, _⟩ | ⟨h, _⟩ | ⟨_, h1, h2⟩
            · cases h
            · cases h
            clear hsg
            go_wp2
            go_ret
            exact ⟨ret_bool (by rw [HB.out, Int.add_zero]), rfl⟩
end Go.Proofs.Qxb6601027aMods.Num
