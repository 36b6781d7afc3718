import Derived.Test.Qxb6600473aModsProg
import Derived.Test.Qxb6600473aModsWsPlain
import Derived.WalkKit
import Derived.WalkSpells
import Derived.WalkLawsBesides
namespace Go.Proofs.Qxb6600473aMods.Ws
open Go.RowKit

theorem ret_bool {a b : Bool} (h : a = b) : Ending.returned (.bool a) = .returned (.bool b) := by rw [h]
theorem ret_int {k : IntKind} {a b : Int} (h : a = b) : Ending.returned (.int k a) = .returned (.int k b) := by rw [h]
theorem ret_str {a b : ByteArray} (h : a = b) : Ending.returned (.string a) = .returned (.string b) := by rw [h]

set_option maxHeartbeats 400000 in
theorem lastByte_any (s : ByteArray) (hs : s.size ≤ maxLen) (w : World) :
    Calls Trym.prog 33 #[.string s, .int .u8 45] w fun e w' => e = .returned (.int .i64 (li s s.size)) ∧ w' = w := by
  unfold maxLen at hs
  go_enter Trym.func33, Trym.ntmps33
  go_wp2
  go_loop [5] (fun i => ∃ k : Nat, k ≤ s.size ∧ i = .int .i64 ((k : Int) - 1) ∧ li s s.size = li s k) (fun i => (intOf i + 1).toNat)
  case atStart => exact ⟨s.size, Nat.le_refl _, rfl, rfl⟩
  case round =>
    obtain ⟨k, hk, rfl, hl⟩ := hrel
    have HL : Hid (li s s.size = li s k) := hl
    clear hl
    cases k with
    | zero =>
      go_wp2
      go_ret
      exact ⟨ret_int (by rw [HL.out]; rfl), rfl⟩
    | succ k =>
      have et : ((k + 1 : Nat) : Int) - 1 = (k : Int) := by omega
      rw [et]
      clear et
      have hlt : k < s.size := by omega
      by_cases he : (s[k]'hlt).toNat = 45
      · have HH : Hid (li s (k + 1) = k) := li_hit hlt he
        have hb : (((s[k]'hlt).toNat : Int) == 45) = true := by simp; omega
        clear he
        go_wp2
        go_ret
        exact ⟨ret_int (by rw [HL.out, HH.out]), rfl⟩
      · have HH : Hid (li s (k + 1) = li s k) := li_miss hlt he
        have hb : (((s[k]'hlt).toNat : Int) == 45) = false := by simp; omega
        clear he
        go_wp2
        go_round
        case rel => exact ⟨k, by omega, rfl, by rw [HL.out, HH.out]⟩
        case measure => simp [intOf]

theorem lastIndex_any (s : ByteArray) (hs : s.size ≤ maxLen) (w : World) :
    Calls Trym.prog 31 #[.string s, .string ⟨#[45]⟩] w fun e w' => e = .returned (.int .i64 (li s s.size)) ∧ w' = w := by
  go_enter Trym.func31, Trym.ntmps31
  go_wp2_with (go_at_call 33; refine (lastByte_any _ hs _).mono ?_; rintro e w' ⟨rfl, hw⟩; subst w')
  go_ret
  exact ⟨rfl, rfl⟩

set_option maxHeartbeats 400000 in
theorem hasPrefix_any (s : ByteArray) (hs : s.size ≤ maxLen) (w : World) :
    Calls Trym.prog 35 #[.string s, .string ⟨#[46, 99, 108, 111, 110, 101, 45]⟩] w fun e w' => e = .returned (.bool (hasB s)) ∧ w' = w := by
  unfold maxLen at hs
  by_cases h : 7 ≤ s.size
  · have HB : Hid (hasB s = ((s.extract 0 7).toList == [46, 99, 108, 111, 110, 101, 45])) := by
      show hasB s = _
      simp [hasB, h, pre, ByteArray.toList_eq]
    have hd : decide ((7 : Int) ≤ (s.size : Int)) = true := by simp; omega
    go_enter Trym.func35, Trym.ntmps35
    go_wp2
    go_ret
    exact ⟨ret_bool HB.out.symm, rfl⟩
  · have HB : Hid (hasB s = false) := by
      show hasB s = false
      simp [hasB, h]
    have hd : decide ((7 : Int) ≤ (s.size : Int)) = false := by simp; omega
    go_enter Trym.func35, Trym.ntmps35
    go_wp2
    go_ret
    exact ⟨ret_bool HB.out.symm, rfl⟩

theorem has_size {s : ByteArray} (h : hasB s = true) : 7 ≤ s.size := by
  simp [hasB] at h; exact h.1

theorem cutLite_yes (s : ByteArray) (hs : s.size ≤ maxLen) (h : hasB s = true) (w : World) :
    Calls Trym.prog 32 #[.string s, .string ⟨#[46, 99, 108, 111, 110, 101, 45]⟩] w fun e w' => e = .returned (.tuple #[.string (s.extract 7 s.size), .bool true]) ∧ w' = w := by
  have h7 := has_size h
  have hs' := hs
  unfold maxLen at hs'
  go_enter Trym.func32, Trym.ntmps32
  go_wp2_with (go_at_call 35; refine (hasPrefix_any _ hs _).mono ?_; rintro e w' ⟨rfl, hw⟩; subst w')
  go_ret2
  exact ⟨rfl, rfl⟩
theorem cutLite_no (s : ByteArray) (hs : s.size ≤ maxLen) (h : hasB s = false) (w : World) :
    Calls Trym.prog 32 #[.string s, .string ⟨#[46, 99, 108, 111, 110, 101, 45]⟩] w fun e w' => e = .returned (.tuple #[.string s, .bool false]) ∧ w' = w := by
  go_enter Trym.func32, Trym.ntmps32
  go_wp2_with (go_at_call 35; refine (hasPrefix_any _ hs _).mono ?_; rintro e w' ⟨rfl, hw⟩; subst w')
  go_ret2
  exact ⟨rfl, rfl⟩
theorem cut_yes (s : ByteArray) (hs : s.size ≤ maxLen) (h : hasB s = true) (w : World) :
    Calls Trym.prog 30 #[.string s, .string ⟨#[46, 99, 108, 111, 110, 101, 45]⟩] w fun e w' => e = .returned (.tuple #[.string (s.extract 7 s.size), .bool true]) ∧ w' = w := by
  go_enter Trym.func30, Trym.ntmps30
  go_wp2_with (go_at_call 32; refine (cutLite_yes _ hs h _).mono ?_; rintro e w' ⟨rfl, hw⟩; subst w')
  go_ret2
  exact ⟨rfl, rfl⟩
theorem cut_no (s : ByteArray) (hs : s.size ≤ maxLen) (h : hasB s = false) (w : World) :
    Calls Trym.prog 30 #[.string s, .string ⟨#[46, 99, 108, 111, 110, 101, 45]⟩] w fun e w' => e = .returned (.tuple #[.string s, .bool false]) ∧ w' = w := by
  go_enter Trym.func30, Trym.ntmps30
  go_wp2_with (go_at_call 32; refine (cutLite_no _ hs h _).mono ?_; rintro e w' ⟨rfl, hw⟩; subst w')
  go_ret2
  exact ⟨rfl, rfl⟩

theorem size_cut (s : ByteArray) : (s.extract 7 s.size).size = s.size - 7 := by simp

set_option maxHeartbeats 400000 in
theorem workspaceOf_any (s : ByteArray) (hs : s.size ≤ maxLen) (w : World) :
    Calls Trym.prog 28 #[.string s] w fun e w' => e = .returned (.string (ws s)) ∧ w' = w := by
  cases h : hasB s with
  | false =>
    have HW : Hid (ws s = s) := ws_other s h
    go_enter Trym.func28, Trym.ntmps28
    go_wp2_with (go_at_call 30; refine (cut_no _ hs h _).mono ?_; rintro e w' ⟨rfl, hw⟩; subst w')
    go_ret
    exact ⟨ret_str HW.out.symm, rfl⟩
  | true =>
    have hc : (s.extract 7 s.size).size ≤ maxLen := by rw [size_cut]; omega
    have hcs := size_cut s
    have hli := li_lt (s.extract 7 s.size) (s.size - 7)
    by_cases hp : 0 ≤ li (s.extract 7 s.size) (s.size - 7)
    · obtain ⟨t, ht⟩ := Int.eq_ofNat_of_zero_le hp
      have HW : Hid (ws s = (s.extract 7 s.size).extract 0 t) := by
        show ws s = _
        unfold ws
        rw [if_pos h, if_pos hp, ht]
        rfl
      have htl : t < s.size - 7 := by omega
      have LI : Hid (∀ w, Calls Trym.prog 31 #[.string (s.extract 7 s.size), .string ⟨#[45]⟩] w fun e w' => e = .returned (.int .i64 t) ∧ w' = w) := by
        intro w
        have := lastIndex_any (s.extract 7 s.size) hc w
        rw [hcs, ht] at this
        exact this
      clear hp ht hli
      go_enter Trym.func28, Trym.ntmps28
      go_wp2_with (first
        | (go_at_call 30; refine (cut_yes _ hs h _).mono ?_; rintro e w' ⟨rfl, hw⟩; subst w')
        | (go_at_call 31; refine (LI.out _).mono ?_; rintro e w' ⟨rfl, hw⟩; subst w'))
      go_ret
      exact ⟨ret_str HW.out.symm, rfl⟩
    · have HW : Hid (ws s = s) := by
        show ws s = s
        unfold ws
        rw [if_pos h, if_neg hp]
      have ht : li (s.extract 7 s.size) (s.size - 7) = -1 := by omega
      have LI : Hid (∀ w, Calls Trym.prog 31 #[.string (s.extract 7 s.size), .string ⟨#[45]⟩] w fun e w' => e = .returned (.int .i64 (-1)) ∧ w' = w) := by
        intro w
        have := lastIndex_any (s.extract 7 s.size) hc w
        rw [hcs, ht] at this
        exact this
      clear hp ht hli
      go_enter Trym.func28, Trym.ntmps28
      go_wp2_with (first
        | (go_at_call 30; refine (cut_yes _ hs h _).mono ?_; rintro e w' ⟨rfl, hw⟩; subst w')
        | (go_at_call 31; refine (LI.out _).mono ?_; rintro e w' ⟨rfl, hw⟩; subst w'))
      go_ret
      exact ⟨ret_str HW.out.symm, rfl⟩

theorem zzWorkspaceOf_any (s : ByteArray) (hs : s.size ≤ maxLen) (w : World) :
    Calls Trym.prog 16 #[.string s] w fun e w' => e = .returned (.string (ws s)) ∧ w' = w := by
  go_enter Trym.func16, Trym.ntmps16
  go_wp2_with (go_at_call 28; refine (workspaceOf_any _ hs _).mono ?_; rintro e w' ⟨rfl, hw⟩; subst w')
  go_ret
  exact ⟨rfl, rfl⟩

/-- is there a dash among the first k bytes? -/
def dTo (s : ByteArray) (k : Nat) : Bool := (s.data.toList.take k).contains 45
theorem dTo_step (s : ByteArray) (k : Nat) (h : k < s.size) : dTo s (k + 1) = (dTo s k || (s[k]'h) == 45) := by
  unfold dTo
  rw [List.take_succ_eq_append_getElem (by simpa using h)]
  simp only [List.contains_eq_any_beq, List.any_append, List.any_cons, List.any_nil, Bool.or_false]
  congr 1
  exact Bool.eq_iff_iff.2 ⟨fun e => beq_iff_eq.2 (eq_of_beq e).symm, fun e => beq_iff_eq.2 (eq_of_beq e).symm⟩
theorem dTo_all {s : ByteArray} (h : dTo s s.size = false) : noDash s := by
  intro c hc e
  subst e
  unfold dTo at h
  rw [List.take_of_length_le (by simp)] at h
  have h2 := List.contains_iff_mem.2 hc
  rw [h] at h2
  cases h2
theorem dTo_hit {s : ByteArray} {k : Nat} (h : k < s.size) (e : (s[k]'h).toNat = 45) : dTo s s.size = true := by
  unfold dTo
  rw [List.take_of_length_le (by simp)]
  apply List.contains_iff_mem.2
  have e2 : s[k]'h = 45 := UInt8.toNat_inj.1 e
  rw [← e2]
  exact List.getElem_mem (by simpa using h)

set_option maxHeartbeats 400000 in
theorem hasDash_any (s : ByteArray) (hs : s.size ≤ maxLen) (w : World) :
    Calls Trym.prog 15 #[.string s] w fun e w' => e = .returned (.bool (dTo s s.size)) ∧ w' = w := by
  unfold maxLen at hs
  go_enter Trym.func15, Trym.ntmps15
  go_wp2
  go_loop [3] (fun i => ∃ k : Nat, k ≤ s.size ∧ i = .int .i64 k ∧ dTo s k = false) (fun i => s.size - (intOf i).toNat)
  case atStart => exact ⟨0, Nat.zero_le _, rfl, rfl⟩
  case round =>
    obtain ⟨k, hk, rfl, hl⟩ := hrel
    have HL : Hid (dTo s k = false) := hl
    clear hl
    by_cases hlt : k < s.size
    · by_cases he : (s[k]'hlt).toNat = 45
      · have HH : Hid (dTo s s.size = true) := dTo_hit hlt he
        have hb : (((s[k]'hlt).toNat : Int) == 45) = true := by simp; omega
        clear he
        go_wp2
        go_ret
        exact ⟨ret_bool HH.out.symm, rfl⟩
      · have HH : Hid (dTo s (k + 1) = false) := by
          show dTo s (k + 1) = false
          rw [dTo_step s k hlt, HL.out]
          simp
          intro x
          apply he
          rw [x]; rfl
        have hb : (((s[k]'hlt).toNat : Int) == 45) = false := by simp; omega
        clear he
        go_wp2
        go_round
        case rel => exact ⟨k + 1, by omega, by go_num, HH.out⟩
        case measure => simp [intOf]; omega
    · have HH : Hid (dTo s s.size = false) := by
        have e : k = s.size := by omega
        rw [e] at HL
        exact HL.out
      go_wp2
      go_ret
      exact ⟨ret_bool HH.out.symm, rfl⟩

/-- it hands back one bool or the other -/
def SomeBool (e : Ending) : Prop := ∃ r, e = .returned (.bool r)
theorem bytes14 (s x : ByteArray) (hs : s.size ≤ maxLen) (hx : x.size ≤ maxLen) (w : World) :
    Calls Trym.prog 14 #[.string s, .string x] w fun e w' => SomeBool e ∧ w' = w := by
  unfold maxLen at hs hx
  go_enter Trym.func14, Trym.ntmps14
  go_wp2
  all_goals (go_ret; exact ⟨⟨_, rfl⟩, rfl⟩)
theorem bytes19 (s x : ByteArray) (hs : s.size ≤ maxLen) (hx : x.size ≤ maxLen) (w : World) :
    Calls Trym.prog 19 #[.string s, .string x] w fun e w' => SomeBool e ∧ w' = w := by
  unfold maxLen at hs hx
  go_enter Trym.func19, Trym.ntmps19
  go_wp2
  all_goals (go_ret; exact ⟨⟨_, rfl⟩, rfl⟩)
end Go.Proofs.Qxb6600473aMods.Ws
