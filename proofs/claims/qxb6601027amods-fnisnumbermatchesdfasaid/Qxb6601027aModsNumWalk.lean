import Derived.Test.Qxb6601027aModsExp
import Derived.Test.Qxb6601027aModsNumPlain2
namespace Go.Proofs.Qxb6601027aMods.Num
open Go.RowKit

/-- the byte classes that the two functions tell apart, each with its tests in the form the walk asks for -/
theorem byte_cases (n : Nat) :
    (dg n = true ∧ sg n = false ∧ ((n : Int) == 46) = false ∧ ((n : Int) == 44) = false ∧ ((n : Int) == 69) = false ∧ ((n : Int) == 101) = false ∧ ((n : Int) == 43) = false ∧ ((n : Int) == 45) = false)
    ∨ n = 46 ∨ n = 44 ∨ n = 69 ∨ n = 101 ∨ n = 43 ∨ n = 45
    ∨ (dg n = false ∧ sg n = false ∧ ((n : Int) == 46) = false ∧ ((n : Int) == 44) = false ∧ ((n : Int) == 69) = false ∧ ((n : Int) == 101) = false ∧ ((n : Int) == 43) = false ∧ ((n : Int) == 45) = false) := by
  by_cases h1 : n = 46
  · exact .inr (.inl h1)
  by_cases h2 : n = 44
  · exact .inr (.inr (.inl h2))
  by_cases h3 : n = 69
  · exact .inr (.inr (.inr (.inl h3)))
  by_cases h4 : n = 101
  · exact .inr (.inr (.inr (.inr (.inl h4))))
  by_cases h5 : n = 43
  · exact .inr (.inr (.inr (.inr (.inr (.inl h5)))))
  by_cases h6 : n = 45
  · exact .inr (.inr (.inr (.inr (.inr (.inr (.inl h6))))))
  have hs : sg n = false := by simp [sg, h5, h6]
  have e : ∀ m : Nat, n ≠ m → ((n : Int) == (m : Int)) = false := fun m h => beq_eq_false_iff_ne.2 (by omega)
  cases hd : dg n with
  | true => exact .inl ⟨rfl, hs, e 46 h1, e 44 h2, e 69 h3, e 101 h4, e 43 h5, e 45 h6⟩
  | false => exact .inr (.inr (.inr (.inr (.inr (.inr (.inr ⟨rfl, hs, e 46 h1, e 44 h2, e 69 h3, e 101 h4, e 43 h5, e 45 h6⟩))))))

theorem ne_of_beq {n m : Nat} (h : ((n : Int) == (m : Int)) = false) : ¬ n = m := by
  have := beq_eq_false_iff_ne.1 h
  omega

set_option maxHeartbeats 4000000 in
theorem step_any (st n : Nat) (hst : st ≤ 5) (w : World) :
    Calls Trym.prog 20 #[.int .i64 st, .int .u8 n] w fun e w' => e = .returned (.int .i64 (step st n)) ∧ w' = w := by
  have hst' : st = 0 ∨ st = 1 ∨ st = 2 ∨ st = 3 ∨ st = 4 ∨ st = 5 := by omega
  rcases byte_cases n with ⟨hd, hsg, h46, h44, h69, h101, h43, h45⟩ | rfl | rfl | rfl | rfl | rfl | rfl | ⟨hd, hsg, h46, h44, h69, h101, h43, h45⟩
  · rcases hst' with rfl | rfl | rfl | rfl | rfl | rfl
    · have HS : Hid (step 0 n = 1) := by show step 0 n = 1; simp [step, hd]
      go_enter Trym.func20, Trym.ntmps20
      go_wp2_with (go_at_call 18; refine (digit18 _ _).mono ?_; rintro e w' ⟨rfl, hw⟩; subst w')
      go_ret
      exact ⟨ret_int (by rw [HS.out]; rfl), rfl⟩
    · have HS : Hid (step 1 n = 1) := by show step 1 n = 1; simp [step, hd]
      go_enter Trym.func20, Trym.ntmps20
      go_wp2_with (go_at_call 18; refine (digit18 _ _).mono ?_; rintro e w' ⟨rfl, hw⟩; subst w')
      go_ret
      exact ⟨ret_int (by rw [HS.out]; rfl), rfl⟩
    · have HS : Hid (step 2 n = 4) := by show step 2 n = 4; simp [step, hd]
      go_enter Trym.func20, Trym.ntmps20
      go_wp2_with (go_at_call 18; refine (digit18 _ _).mono ?_; rintro e w' ⟨rfl, hw⟩; subst w')
      go_ret
      exact ⟨ret_int (by rw [HS.out]; rfl), rfl⟩
    · have HS : Hid (step 3 n = 4) := by show step 3 n = 4; simp [step, hd]
      go_enter Trym.func20, Trym.ntmps20
      go_wp2_with (go_at_call 18; refine (digit18 _ _).mono ?_; rintro e w' ⟨rfl, hw⟩; subst w')
      go_ret
      exact ⟨ret_int (by rw [HS.out]; rfl), rfl⟩
    · have HS : Hid (step 4 n = 4) := by show step 4 n = 4; simp [step, hd]
      go_enter Trym.func20, Trym.ntmps20
      go_wp2_with (go_at_call 18; refine (digit18 _ _).mono ?_; rintro e w' ⟨rfl, hw⟩; subst w')
      go_ret
      exact ⟨ret_int (by rw [HS.out]; rfl), rfl⟩
    · have HS : Hid (step 5 n = 5) := rfl
      go_enter Trym.func20, Trym.ntmps20
      go_wp2_with (go_at_call 18; refine (digit18 _ _).mono ?_; rintro e w' ⟨rfl, hw⟩; subst w')
      go_ret
      exact ⟨ret_int (by rw [HS.out]; rfl), rfl⟩
  · have hd : dg 46 = false := rfl
    rcases hst' with rfl | rfl | rfl | rfl | rfl | rfl
    · have HS : Hid (step 0 46 = 0) := rfl
      go_enter Trym.func20, Trym.ntmps20
      go_wp2_with (go_at_call 18; refine (digit18 _ _).mono ?_; rintro e w' ⟨rfl, hw⟩; subst w')
      go_ret
      exact ⟨ret_int (by rw [HS.out]; rfl), rfl⟩
    · have HS : Hid (step 1 46 = 1) := rfl
      go_enter Trym.func20, Trym.ntmps20
      go_wp2_with (go_at_call 18; refine (digit18 _ _).mono ?_; rintro e w' ⟨rfl, hw⟩; subst w')
      go_ret
      exact ⟨ret_int (by rw [HS.out]; rfl), rfl⟩
    · have HS : Hid (step 2 46 = 5) := rfl
      go_enter Trym.func20, Trym.ntmps20
      go_wp2_with (go_at_call 18; refine (digit18 _ _).mono ?_; rintro e w' ⟨rfl, hw⟩; subst w')
      go_ret
      exact ⟨ret_int (by rw [HS.out]; rfl), rfl⟩
    · have HS : Hid (step 3 46 = 5) := rfl
      go_enter Trym.func20, Trym.ntmps20
      go_wp2_with (go_at_call 18; refine (digit18 _ _).mono ?_; rintro e w' ⟨rfl, hw⟩; subst w')
      go_ret
      exact ⟨ret_int (by rw [HS.out]; rfl), rfl⟩
    · have HS : Hid (step 4 46 = 5) := rfl
      go_enter Trym.func20, Trym.ntmps20
      go_wp2_with (go_at_call 18; refine (digit18 _ _).mono ?_; rintro e w' ⟨rfl, hw⟩; subst w')
      go_ret
      exact ⟨ret_int (by rw [HS.out]; rfl), rfl⟩
    · have HS : Hid (step 5 46 = 5) := rfl
      go_enter Trym.func20, Trym.ntmps20
      go_wp2_with (go_at_call 18; refine (digit18 _ _).mono ?_; rintro e w' ⟨rfl, hw⟩; subst w')
      go_ret
      exact ⟨ret_int (by rw [HS.out]; rfl), rfl⟩
  · have hd : dg 44 = false := rfl
    rcases hst' with rfl | rfl | rfl | rfl | rfl | rfl
    · have HS : Hid (step 0 44 = 0) := rfl
      go_enter Trym.func20, Trym.ntmps20
      go_wp2_with (go_at_call 18; refine (digit18 _ _).mono ?_; rintro e w' ⟨rfl, hw⟩; subst w')
      go_ret
      exact ⟨ret_int (by rw [HS.out]; rfl), rfl⟩
    · have HS : Hid (step 1 44 = 1) := rfl
      go_enter Trym.func20, Trym.ntmps20
      go_wp2_with (go_at_call 18; refine (digit18 _ _).mono ?_; rintro e w' ⟨rfl, hw⟩; subst w')
      go_ret
      exact ⟨ret_int (by rw [HS.out]; rfl), rfl⟩
    · have HS : Hid (step 2 44 = 5) := rfl
      go_enter Trym.func20, Trym.ntmps20
      go_wp2_with (go_at_call 18; refine (digit18 _ _).mono ?_; rintro e w' ⟨rfl, hw⟩; subst w')
      go_ret
      exact ⟨ret_int (by rw [HS.out]; rfl), rfl⟩
    · have HS : Hid (step 3 44 = 5) := rfl
      go_enter Trym.func20, Trym.ntmps20
      go_wp2_with (go_at_call 18; refine (digit18 _ _).mono ?_; rintro e w' ⟨rfl, hw⟩; subst w')
      go_ret
      exact ⟨ret_int (by rw [HS.out]; rfl), rfl⟩
    · have HS : Hid (step 4 44 = 5) := rfl
      go_enter Trym.func20, Trym.ntmps20
      go_wp2_with (go_at_call 18; refine (digit18 _ _).mono ?_; rintro e w' ⟨rfl, hw⟩; subst w')
      go_ret
      exact ⟨ret_int (by rw [HS.out]; rfl), rfl⟩
    · have HS : Hid (step 5 44 = 5) := rfl
      go_enter Trym.func20, Trym.ntmps20
      go_wp2_with (go_at_call 18; refine (digit18 _ _).mono ?_; rintro e w' ⟨rfl, hw⟩; subst w')
      go_ret
      exact ⟨ret_int (by rw [HS.out]; rfl), rfl⟩
  · have hd : dg 69 = false := rfl
    rcases hst' with rfl | rfl | rfl | rfl | rfl | rfl
    · have HS : Hid (step 0 69 = 5) := rfl
      go_enter Trym.func20, Trym.ntmps20
      go_wp2_with (go_at_call 18; refine (digit18 _ _).mono ?_; rintro e w' ⟨rfl, hw⟩; subst w')
      go_ret
      exact ⟨ret_int (by rw [HS.out]; rfl), rfl⟩
    · have HS : Hid (step 1 69 = 2) := rfl
      go_enter Trym.func20, Trym.ntmps20
      go_wp2_with (go_at_call 18; refine (digit18 _ _).mono ?_; rintro e w' ⟨rfl, hw⟩; subst w')
      go_ret
      exact ⟨ret_int (by rw [HS.out]; rfl), rfl⟩
    · have HS : Hid (step 2 69 = 5) := rfl
      go_enter Trym.func20, Trym.ntmps20
      go_wp2_with (go_at_call 18; refine (digit18 _ _).mono ?_; rintro e w' ⟨rfl, hw⟩; subst w')
      go_ret
      exact ⟨ret_int (by rw [HS.out]; rfl), rfl⟩
    · have HS : Hid (step 3 69 = 5) := rfl
      go_enter Trym.func20, Trym.ntmps20
      go_wp2_with (go_at_call 18; refine (digit18 _ _).mono ?_; rintro e w' ⟨rfl, hw⟩; subst w')
      go_ret
      exact ⟨ret_int (by rw [HS.out]; rfl), rfl⟩
    · have HS : Hid (step 4 69 = 5) := rfl
      go_enter Trym.func20, Trym.ntmps20
      go_wp2_with (go_at_call 18; refine (digit18 _ _).mono ?_; rintro e w' ⟨rfl, hw⟩; subst w')
      go_ret
      exact ⟨ret_int (by rw [HS.out]; rfl), rfl⟩
    · have HS : Hid (step 5 69 = 5) := rfl
      go_enter Trym.func20, Trym.ntmps20
      go_wp2_with (go_at_call 18; refine (digit18 _ _).mono ?_; rintro e w' ⟨rfl, hw⟩; subst w')
      go_ret
      exact ⟨ret_int (by rw [HS.out]; rfl), rfl⟩
  · have hd : dg 101 = false := rfl
    rcases hst' with rfl | rfl | rfl | rfl | rfl | rfl
    · have HS : Hid (step 0 101 = 5) := rfl
      go_enter Trym.func20, Trym.ntmps20
      go_wp2_with (go_at_call 18; refine (digit18 _ _).mono ?_; rintro e w' ⟨rfl, hw⟩; subst w')
      go_ret
      exact ⟨ret_int (by rw [HS.out]; rfl), rfl⟩
    · have HS : Hid (step 1 101 = 2) := rfl
      go_enter Trym.func20, Trym.ntmps20
      go_wp2_with (go_at_call 18; refine (digit18 _ _).mono ?_; rintro e w' ⟨rfl, hw⟩; subst w')
      go_ret
      exact ⟨ret_int (by rw [HS.out]; rfl), rfl⟩
    · have HS : Hid (step 2 101 = 5) := rfl
      go_enter Trym.func20, Trym.ntmps20
      go_wp2_with (go_at_call 18; refine (digit18 _ _).mono ?_; rintro e w' ⟨rfl, hw⟩; subst w')
      go_ret
      exact ⟨ret_int (by rw [HS.out]; rfl), rfl⟩
    · have HS : Hid (step 3 101 = 5) := rfl
      go_enter Trym.func20, Trym.ntmps20
      go_wp2_with (go_at_call 18; refine (digit18 _ _).mono ?_; rintro e w' ⟨rfl, hw⟩; subst w')
      go_ret
      exact ⟨ret_int (by rw [HS.out]; rfl), rfl⟩
    · have HS : Hid (step 4 101 = 5) := rfl
      go_enter Trym.func20, Trym.ntmps20
      go_wp2_with (go_at_call 18; refine (digit18 _ _).mono ?_; rintro e w' ⟨rfl, hw⟩; subst w')
      go_ret
      exact ⟨ret_int (by rw [HS.out]; rfl), rfl⟩
    · have HS : Hid (step 5 101 = 5) := rfl
      go_enter Trym.func20, Trym.ntmps20
      go_wp2_with (go_at_call 18; refine (digit18 _ _).mono ?_; rintro e w' ⟨rfl, hw⟩; subst w')
      go_ret
      exact ⟨ret_int (by rw [HS.out]; rfl), rfl⟩
  · have hd : dg 43 = false := rfl
    rcases hst' with rfl | rfl | rfl | rfl | rfl | rfl
    · have HS : Hid (step 0 43 = 5) := rfl
      go_enter Trym.func20, Trym.ntmps20
      go_wp2_with (go_at_call 18; refine (digit18 _ _).mono ?_; rintro e w' ⟨rfl, hw⟩; subst w')
      go_ret
      exact ⟨ret_int (by rw [HS.out]; rfl), rfl⟩
    · have HS : Hid (step 1 43 = 5) := rfl
      go_enter Trym.func20, Trym.ntmps20
      go_wp2_with (go_at_call 18; refine (digit18 _ _).mono ?_; rintro e w' ⟨rfl, hw⟩; subst w')
      go_ret
      exact ⟨ret_int (by rw [HS.out]; rfl), rfl⟩
    · have HS : Hid (step 2 43 = 3) := rfl
      go_enter Trym.func20, Trym.ntmps20
      go_wp2_with (go_at_call 18; refine (digit18 _ _).mono ?_; rintro e w' ⟨rfl, hw⟩; subst w')
      go_ret
      exact ⟨ret_int (by rw [HS.out]; rfl), rfl⟩
    · have HS : Hid (step 3 43 = 5) := rfl
      go_enter Trym.func20, Trym.ntmps20
      go_wp2_with (go_at_call 18; refine (digit18 _ _).mono ?_; rintro e w' ⟨rfl, hw⟩; subst w')
      go_ret
      exact ⟨ret_int (by rw [HS.out]; rfl), rfl⟩
    · have HS : Hid (step 4 43 = 5) := rfl
      go_enter Trym.func20, Trym.ntmps20
      go_wp2_with (go_at_call 18; refine (digit18 _ _).mono ?_; rintro e w' ⟨rfl, hw⟩; subst w')
      go_ret
      exact ⟨ret_int (by rw [HS.out]; rfl), rfl⟩
    · have HS : Hid (step 5 43 = 5) := rfl
      go_enter Trym.func20, Trym.ntmps20
      go_wp2_with (go_at_call 18; refine (digit18 _ _).mono ?_; rintro e w' ⟨rfl, hw⟩; subst w')
      go_ret
      exact ⟨ret_int (by rw [HS.out]; rfl), rfl⟩
  · have hd : dg 45 = false := rfl
    rcases hst' with rfl | rfl | rfl | rfl | rfl | rfl
    · have HS : Hid (step 0 45 = 5) := rfl
      go_enter Trym.func20, Trym.ntmps20
      go_wp2_with (go_at_call 18; refine (digit18 _ _).mono ?_; rintro e w' ⟨rfl, hw⟩; subst w')
      go_ret
      exact ⟨ret_int (by rw [HS.out]; rfl), rfl⟩
    · have HS : Hid (step 1 45 = 5) := rfl
      go_enter Trym.func20, Trym.ntmps20
      go_wp2_with (go_at_call 18; refine (digit18 _ _).mono ?_; rintro e w' ⟨rfl, hw⟩; subst w')
      go_ret
      exact ⟨ret_int (by rw [HS.out]; rfl), rfl⟩
    · have HS : Hid (step 2 45 = 3) := rfl
      go_enter Trym.func20, Trym.ntmps20
      go_wp2_with (go_at_call 18; refine (digit18 _ _).mono ?_; rintro e w' ⟨rfl, hw⟩; subst w')
      go_ret
      exact ⟨ret_int (by rw [HS.out]; rfl), rfl⟩
    · have HS : Hid (step 3 45 = 5) := rfl
      go_enter Trym.func20, Trym.ntmps20
      go_wp2_with (go_at_call 18; refine (digit18 _ _).mono ?_; rintro e w' ⟨rfl, hw⟩; subst w')
      go_ret
      exact ⟨ret_int (by rw [HS.out]; rfl), rfl⟩
    · have HS : Hid (step 4 45 = 5) := rfl
      go_enter Trym.func20, Trym.ntmps20
      go_wp2_with (go_at_call 18; refine (digit18 _ _).mono ?_; rintro e w' ⟨rfl, hw⟩; subst w')
      go_ret
      exact ⟨ret_int (by rw [HS.out]; rfl), rfl⟩
    · have HS : Hid (step 5 45 = 5) := rfl
      go_enter Trym.func20, Trym.ntmps20
      go_wp2_with (go_at_call 18; refine (digit18 _ _).mono ?_; rintro e w' ⟨rfl, hw⟩; subst w')
      go_ret
      exact ⟨ret_int (by rw [HS.out]; rfl), rfl⟩
  · have e46 := ne_of_beq (m := 46) h46
    have e44 := ne_of_beq (m := 44) h44
    have e69 := ne_of_beq (m := 69) h69
    have e101 := ne_of_beq (m := 101) h101
    rcases hst' with rfl | rfl | rfl | rfl | rfl | rfl
    · have HS : Hid (step 0 n = 5) := by show step 0 n = 5; simp [step, hd, e46, e44]
      go_enter Trym.func20, Trym.ntmps20
      go_wp2_with (go_at_call 18; refine (digit18 _ _).mono ?_; rintro e w' ⟨rfl, hw⟩; subst w')
      go_ret
      exact ⟨ret_int (by rw [HS.out]; rfl), rfl⟩
    · have HS : Hid (step 1 n = 5) := by show step 1 n = 5; simp [step, hd, e46, e44, e69, e101]
      go_enter Trym.func20, Trym.ntmps20
      go_wp2_with (go_at_call 18; refine (digit18 _ _).mono ?_; rintro e w' ⟨rfl, hw⟩; subst w')
      go_ret
      exact ⟨ret_int (by rw [HS.out]; rfl), rfl⟩
    · have HS : Hid (step 2 n = 5) := by show step 2 n = 5; simp [step, hd, hsg]
      go_enter Trym.func20, Trym.ntmps20
      go_wp2_with (go_at_call 18; refine (digit18 _ _).mono ?_; rintro e w' ⟨rfl, hw⟩; subst w')
      go_ret
      exact ⟨ret_int (by rw [HS.out]; rfl), rfl⟩
    · have HS : Hid (step 3 n = 5) := by show step 3 n = 5; simp [step, hd]
      go_enter Trym.func20, Trym.ntmps20
      go_wp2_with (go_at_call 18; refine (digit18 _ _).mono ?_; rintro e w' ⟨rfl, hw⟩; subst w')
      go_ret
      exact ⟨ret_int (by rw [HS.out]; rfl), rfl⟩
    · have HS : Hid (step 4 n = 5) := by show step 4 n = 5; simp [step, hd]
      go_enter Trym.func20, Trym.ntmps20
      go_wp2_with (go_at_call 18; refine (digit18 _ _).mono ?_; rintro e w' ⟨rfl, hw⟩; subst w')
      go_ret
      exact ⟨ret_int (by rw [HS.out]; rfl), rfl⟩
    · have HS : Hid (step 5 n = 5) := rfl
      go_enter Trym.func20, Trym.ntmps20
      go_wp2_with (go_at_call 18; refine (digit18 _ _).mono ?_; rintro e w' ⟨rfl, hw⟩; subst w')
      go_ret
      exact ⟨ret_int (by rw [HS.out]; rfl), rfl⟩

theorem acc_cases (q : Nat) (h : q ≤ 5) : (q = 1 ∧ acc q = true) ∨ (q = 4 ∧ acc q = true) ∨ (acc q = false ∧ ((q : Int) == 1) = false ∧ ((q : Int) == 4) = false) := by
  by_cases h1 : q = 1
  · subst h1; exact .inl ⟨rfl, rfl⟩
  by_cases h4 : q = 4
  · subst h4; exact .inr (.inl ⟨rfl, rfl⟩)
  exact .inr (.inr ⟨by simp [acc, h1, h4], beq_eq_false_iff_ne.2 (by omega), beq_eq_false_iff_ne.2 (by omega)⟩)

set_option maxHeartbeats 1000000 in
theorem dfa_any (s : ByteArray) (hs : s.size ≤ maxLen) (w : World) :
    Calls Trym.prog 10 #[.string s] w fun e w' => e = .returned (.bool (acc (run 0 s.data.toList))) ∧ w' = w := by
  unfold maxLen at hs
  go_enter Trym.func10, Trym.ntmps10
  go_wp2
  go_loop [3, 4] (fun q i => ∃ k : Nat, k ≤ s.size ∧ i = .int .i64 k ∧ q = .int .i64 (runTo s k)) (fun _ i => s.size - (intOf i).toNat)
  case atStart => exact ⟨0, Nat.zero_le _, rfl, rfl⟩
  case round =>
    obtain ⟨k, hk, rfl, rfl⟩ := hrel
    have hq := runTo_le s k
    by_cases hlt : k < s.size
    · have HS : Hid (runTo s (k + 1) = step (runTo s k) (s[k]'hlt).toNat) := runTo_step s k hlt
      generalize runTo s k = q at HS hq ⊢
      go_wp2_with (go_at_call 20; refine (step_any _ _ hq _).mono ?_; rintro e w' ⟨rfl, hw⟩; subst w')
      go_round
      case rel => exact ⟨k + 1, by omega, by go_num, by rw [HS.out]⟩
      case measure => simp [intOf]; omega
    · obtain rfl : k = s.size := by omega
      have HE : Hid (run 0 s.data.toList = runTo s s.size) := (runTo_all s).symm
      generalize runTo s s.size = q at HE hq ⊢
      rcases acc_cases q hq with ⟨rfl, ha⟩ | ⟨rfl, ha⟩ | ⟨ha, h1, h4⟩
      · have HA : Hid (acc (run 0 s.data.toList) = true) := by show acc (run 0 s.data.toList) = true; rw [HE.out, ha]
        clear ha
        go_wp2
        go_ret
        exact ⟨ret_bool HA.out.symm, rfl⟩
      · have HA : Hid (acc (run 0 s.data.toList) = true) := by show acc (run 0 s.data.toList) = true; rw [HE.out, ha]
        clear ha
        go_wp2
        go_ret
        exact ⟨ret_bool HA.out.symm, rfl⟩
      · have HA : Hid (acc (run 0 s.data.toList) = false) := by show acc (run 0 s.data.toList) = false; rw [HE.out, ha]
        clear ha
        go_wp2
        go_ret
        exact ⟨ret_bool HA.out.symm, rfl⟩

end Go.Proofs.Qxb6601027aMods.Num
