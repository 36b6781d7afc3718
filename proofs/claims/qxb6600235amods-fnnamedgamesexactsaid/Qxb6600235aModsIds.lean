import Derived.Test.Qxb6600235aModsProg
import Derived.Test.Qxb6600235aModsPlainIds
import Derived.WalkKit
import Derived.WalkSpells
import Derived.WalkLawsBesides
namespace Go.Proofs.Qxb6600235aMods.Ids
open Go.RowKit

theorem ret_bool {a b : Bool} (h : a = b) : Ending.returned (.bool a) = .returned (.bool b) := by rw [h]

set_option maxHeartbeats 400000 in
theorem byte_any (n : Nat) (h : n < 256) (w : World) :
    Calls Trym.prog 37 #[.int .u8 n] w fun e w' => e = .returned (.bool (idNat n)) ∧ w' = w := by
  go_enter Trym.func37, Trym.ntmps37
  go_wp2
  go_loop [3] (fun i => ∃ k : Nat, k ≤ 64 ∧ i = .int .i64 k ∧ anyFrom n 0 = anyFrom n k) (fun i => 64 - (intOf i).toNat)
  case atStart => exact ⟨0, Nat.zero_le _, rfl, rfl⟩
  case round =>
    obtain ⟨k, hk, rfl, hr⟩ := hrel
    have HR : Hid (anyFrom n 0 = anyFrom n k) := hr
    clear hr
    by_cases hlt : k < 64
    · have HS : Hid (anyFrom n k = ((alpha[k]'hlt).toNat == n || anyFrom n (k + 1))) := anyFrom_step n k hlt
      go_wp2
      · have ht' : (((alpha[k]'hlt).toNat : Int) == n) = true := by assumption
        go_ret
        refine ⟨?_, rfl⟩
        rw [← alpha_id n h, HR.out, HS.out]
        have : (alpha[k]'hlt).toNat = n := by simp at ht'; omega
        simp [this]
      · have ht' : (((alpha[k]'hlt).toNat : Int) == n) = false := by assumption
        go_round
        case rel =>
          refine ⟨k + 1, by omega, by go_num, ?_⟩
          rw [HR.out, HS.out]
          have : ¬ (alpha[k]'hlt).toNat = n := by simp at ht'; omega
          simp [this]
        case measure => simp [intOf]; omega
    · have HE : Hid (idNat n = false) := by
        have e : k = 64 := by omega
        show idNat n = false
        rw [← alpha_id n h, HR.out, e, anyFrom_end]
      go_wp2
      go_ret
      exact ⟨ret_bool HE.out.symm, rfl⟩

set_option maxHeartbeats 400000 in
theorem model_any (s : ByteArray) (hs : s.size ≤ maxLen) (w : World) :
    Calls Trym.prog 12 #[.string s] w fun e w' => e = .returned (.bool (idB s)) ∧ w' = w := by
  unfold maxLen at hs
  by_cases h0 : s.size = 0
  · have HI := idB_empty s h0
    have hb : ((s.size : Int) == 0) = true := by simp [h0]
    have HI' : Hid (idB s = false) := HI
    clear HI h0
    go_enter Trym.func12, Trym.ntmps12
    go_wp2
    go_ret
    exact ⟨ret_bool HI'.out.symm, rfl⟩
  have hb : ((s.size : Int) == 0) = false := beq_eq_false_iff_ne.2 (by omega)
  by_cases h1 : 128 < s.size
  · have HI' : Hid (idB s = false) := idB_long s h1
    go_enter Trym.func12, Trym.ntmps12
    go_wp2
    go_ret
    exact ⟨ret_bool HI'.out.symm, rfl⟩
  have HI : Hid (idB s = okFrom s 0) := idB_mid s h0 (by omega)
  have hd : decide (128 < (s.size : Int)) = false := by simp; omega
  go_enter Trym.func12, Trym.ntmps12
  go_wp2
  go_loop [3] (fun i => ∃ k : Nat, k ≤ s.size ∧ i = .int .i64 k ∧ okFrom s 0 = okFrom s k) (fun i => s.size - (intOf i).toNat)
  case atStart => exact ⟨0, Nat.zero_le _, rfl, rfl⟩
  case round =>
    obtain ⟨k, hk, rfl, hr⟩ := hrel
    have HR : Hid (okFrom s 0 = okFrom s k) := hr
    clear hr
    by_cases hlt : k < s.size
    · by_cases hb : idNat (s[k]'hlt).toNat = true
      · have HS : Hid (okFrom s k = okFrom s (k + 1)) := Ids.go s k hlt hb
        go_wp2_with (go_at_call 37; refine (byte_any _ (by exact UInt8.toNat_lt _) _).mono ?_; rintro e w' ⟨rfl, rfl⟩)
        go_round
        case rel => exact ⟨k + 1, by omega, by go_num, by rw [HR.out, HS.out]⟩
        case measure => simp [intOf]; omega
      · have HS : Hid (okFrom s k = false) := stop s k hlt (by simpa using hb)
        go_wp2_with (go_at_call 37; refine (byte_any _ (by exact UInt8.toNat_lt _) _).mono ?_; rintro e w' ⟨rfl, rfl⟩)
        go_ret
        exact ⟨ret_bool (by rw [HI.out, HR.out, HS.out]), rfl⟩
    · go_wp2
      go_ret
      exact ⟨ret_bool (by rw [HI.out, HR.out, okFrom_end s k (by omega)]), rfl⟩

theorem width_pos (s : ByteArray) (pos : Nat) (h : pos < s.size) : 1 ≤ (Utf8.decode s pos).2 := by
  by_cases ha : (s[pos]'h).toNat < 128
  · rw [decode_ascii s pos h ha]
    exact Nat.le_refl _
  · exact (decode_high s pos h (by omega)).2

/-- what the rune at a place tells of the bytes -/
theorem rune_tells (s : ByteArray) (pos : Nat) (h : pos < s.size) :
    ∃ r wd : Nat, Utf8.decode s pos = (r, wd) ∧ ((idNat r = true ∧ wd = 1 ∧ okFrom s pos = okFrom s (pos + 1)) ∨ (idNat r = false ∧ okFrom s pos = false)) ∧ r ≤ 2147483647 := by
  refine ⟨(Utf8.decode s pos).1, (Utf8.decode s pos).2, rfl, ?_, decode_le s pos⟩
  by_cases ha : (s[pos]'h).toNat < 128
  · rw [decode_ascii s pos h ha]
    cases hb : idNat (s[pos]'h).toNat with
    | true => exact .inl ⟨rfl, rfl, Ids.go s pos h hb⟩
    | false => exact .inr ⟨rfl, stop s pos h hb⟩
  · have h1 := (decode_high s pos h (by omega)).1
    refine .inr ⟨?_, stop s pos h ?_⟩
    · cases hb : idNat (Utf8.decode s pos).1 with
      | true => have := idNat_lt hb; omega
      | false => rfl
    · cases hb : idNat (s[pos]'h).toNat with
      | true => have := idNat_lt hb; omega
      | false => rfl

theorem yes_cases {r : Nat} (h : idNat r = true) : (97 ≤ r ∧ r ≤ 122) ∨ (65 ≤ r ∧ r ≤ 90) ∨ (48 ≤ r ∧ r ≤ 57) ∨ r = 45 ∨ r = 95 := by
  simp [idNat] at h; omega
theorem no_cases {r : Nat} (h : idNat r = false) : r < 45 ∨ (45 < r ∧ r < 48) ∨ (57 < r ∧ r < 65) ∨ (90 < r ∧ r < 95) ∨ r = 96 ∨ 122 < r := by
  simp [idNat] at h; omega

set_option maxHeartbeats 1000000 in
theorem isGameID_any (s : ByteArray) (hs : s.size ≤ maxLen) (w : World) :
    Calls Trym.prog 36 #[.string s] w fun e w' => e = .returned (.bool (idB s)) ∧ Below w.heap.size w w' := by
  unfold maxLen at hs
  by_cases h0 : s.size = 0
  · have HI := idB_empty s h0
    have hb : ((s.size : Int) == 0) = true := by simp [h0]
    have HI' : Hid (idB s = false) := HI
    clear HI h0
    go_enter Trym.func36, Trym.ntmps36
    go_wp2
    go_ret
    exact ⟨ret_bool HI'.out.symm, Below.refl _ _⟩
  have hb : ((s.size : Int) == 0) = false := beq_eq_false_iff_ne.2 (by omega)
  by_cases h1 : 128 < s.size
  · have HI' : Hid (idB s = false) := idB_long s h1
    go_enter Trym.func36, Trym.ntmps36
    go_wp2
    go_ret
    exact ⟨ret_bool HI'.out.symm, Below.refl _ _⟩
  have HI : Hid (idB s = okFrom s 0) := idB_mid s h0 (by omega)
  have hd : decide (128 < (s.size : Int)) = false := by simp; omega
  go_enter Trym.func36, Trym.ntmps36
  go_wp2
  go_loopw [4] (fun _ w' => ∃ pos : Nat, w' = w.iter s pos ∧ okFrom s 0 = okFrom s pos) (fun _ w' => s.size - w'.iterPos w.heap.size)
  case atStart => exact ⟨0, rfl, rfl⟩
  case round =>
    obtain ⟨pos, rfl, hr⟩ := hrel
    have HR : Hid (okFrom s 0 = okFrom s pos) := hr
    clear hr
    by_cases hp : pos < s.size
    · obtain ⟨r, wd, hdec, hcase, hrl⟩ := rune_tells s pos hp
      have hnx : ∀ ty, (Instr.next (.pointer (some ⟨w.heap.size, 0, none⟩)) true ty).run Trym.prog (w.iter s pos) = .ok (.tuple #[.bool true, .int .i64 pos, .int .i32 r]) (w.iter s (pos + wd)) := fun ty => by
        rw [run_next_any w s pos ty hp, hdec]
      clear hdec
      rcases hcase with ⟨hid, rfl, hk⟩ | ⟨hid, hk⟩
      · have HK : Hid (okFrom s pos = okFrom s (pos + 1)) := hk
        have hcs := yes_cases hid
        clear hk hid
        rcases hcs with hc | hc | hc | hc | hc
        all_goals
          go_wp2
          go_roundw
          case rel => exact ⟨pos + 1, rfl, by rw [HR.out, HK.out]⟩
          case measure => simp; omega
      · have HK : Hid (okFrom s pos = false) := hk
        have hcs := no_cases hid
        clear hk hid
        have he1 : ((r : Int) == 45) = false := beq_eq_false_iff_ne.2 (by omega)
        have he2 : ((r : Int) == 95) = false := beq_eq_false_iff_ne.2 (by omega)
        rcases hcs with hc | hc | hc | hc | hc | hc
        · go_wp2
          go_ret
          exact ⟨ret_bool (by rw [HI.out, HR.out, HK.out]), (Below.refl _ _).alloc (Nat.le_refl _) _⟩
        · go_wp2
          go_ret
          exact ⟨ret_bool (by rw [HI.out, HR.out, HK.out]), (Below.refl _ _).alloc (Nat.le_refl _) _⟩
        · have hd57 : decide ((r : Int) ≤ 57) = false := by simp; omega
          go_wp2
          go_ret
          exact ⟨ret_bool (by rw [HI.out, HR.out, HK.out]), (Below.refl _ _).alloc (Nat.le_refl _) _⟩
        · have hd57 : decide ((r : Int) ≤ 57) = false := by simp; omega
          have hd90 : decide ((r : Int) ≤ 90) = false := by simp; omega
          go_wp2
          go_ret
          exact ⟨ret_bool (by rw [HI.out, HR.out, HK.out]), (Below.refl _ _).alloc (Nat.le_refl _) _⟩
        · have hd57 : decide ((r : Int) ≤ 57) = false := by simp; omega
          have hd90 : decide ((r : Int) ≤ 90) = false := by simp; omega
          go_wp2
          go_ret
          exact ⟨ret_bool (by rw [HI.out, HR.out, HK.out]), (Below.refl _ _).alloc (Nat.le_refl _) _⟩
        · have hd57 : decide ((r : Int) ≤ 57) = false := by simp; omega
          have hd90 : decide ((r : Int) ≤ 90) = false := by simp; omega
          have hd122 : decide ((r : Int) ≤ 122) = false := by simp; omega
          go_wp2
          go_ret
          exact ⟨ret_bool (by rw [HI.out, HR.out, HK.out]), (Below.refl _ _).alloc (Nat.le_refl _) _⟩
    · have hnx : ∀ ty, (Instr.next (.pointer (some ⟨w.heap.size, 0, none⟩)) true ty).run Trym.prog (w.iter s pos) = _ := fun ty => run_next_end w s pos ty hp
      go_wp2
      go_ret
      exact ⟨ret_bool (by rw [HI.out, HR.out, okFrom_end s pos (by omega)]), (Below.refl _ _).alloc (Nat.le_refl _) _⟩

theorem zzIsGameID_any (s : ByteArray) (hs : s.size ≤ maxLen) (w : World) :
    Calls Trym.prog 11 #[.string s] w fun e w' => e = .returned (.bool (idB s)) ∧ Below w.heap.size w w' := by
  go_enter Trym.func11, Trym.ntmps11
  go_wp2_with (go_at_call 36; refine (isGameID_any _ hs _).mono ?_; rintro e w' ⟨rfl, hb⟩)
  go_ret
  exact ⟨rfl, by assumption⟩
end Go.Proofs.Qxb6600235aMods.Ids
