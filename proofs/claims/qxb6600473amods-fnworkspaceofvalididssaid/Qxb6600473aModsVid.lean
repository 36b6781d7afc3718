import Derived.Test.Qxb6600473aModsProg
import Derived.Test.Qxb6600473aModsVidPlain
import Derived.WalkKit
import Derived.WalkSpells
import Derived.WalkLawsBesides
namespace Go.Proofs.Qxb6600473aMods.Vid
open Go.RowKit
theorem ret_bool {a b : Bool} (h : a = b) : Ending.returned (.bool a) = .returned (.bool b) := by rw [h]

theorem empty_iff (s : ByteArray) (b : Bool) (h : (s.size == 0) = b) : s.toList.isEmpty = b := by
  rw [ByteArray.toList_eq, ← h]
  cases hl : s.data.toList with
  | nil =>
    have : s.data.toList.length = 0 := by rw [hl]; rfl
    have e : s.size = 0 := by simpa using this
    simp [e]
  | cons c l =>
    have : s.data.toList.length = l.length + 1 := by rw [hl]; rfl
    have e : ¬ s.size = 0 := by
      have e2 : s.data.toList.length = s.size := Array.length_toList
      omega
    simp [e]

set_option maxHeartbeats 1000000 in
theorem validID_any (s : ByteArray) (hs : s.size ≤ maxLen) (w : World) :
    Calls Trym.prog 27 #[.string s] w fun e w' => e = .returned (.bool (idB s)) ∧ Below w.heap.size w w' := by
  unfold maxLen at hs
  by_cases h0 : s.size = 0
  · have HI' : Hid (idB s = false) := idB_empty s h0
    have hb := empty_iff s true (by simp [h0])
    clear h0
    go_enter Trym.func27, Trym.ntmps27
    go_wp2
    go_ret
    exact ⟨ret_bool HI'.out.symm, Below.refl _ _⟩
  have hb := empty_iff s false (beq_eq_false_iff_ne.2 h0)
  by_cases h1 : 64 < s.size
  · have HI' : Hid (idB s = false) := idB_long s h1
    go_enter Trym.func27, Trym.ntmps27
    go_wp2
    go_ret
    exact ⟨ret_bool HI'.out.symm, Below.refl _ _⟩
  have HI : Hid (idB s = okFrom s 0) := idB_mid s h0 (by omega)
  have hd : decide (64 < (s.size : Int)) = false := by simp; omega
  go_enter Trym.func27, Trym.ntmps27
  go_wp2
  go_loopw [4] (fun _ w' => ∃ pos : Nat, w' = w.iter s pos ∧ okFrom s 0 = okFrom s pos) (fun _ w' => s.size - w'.iterPos w.heap.size)
  case atStart => exact ⟨0, rfl, rfl⟩
  case round =>
    obtain ⟨pos, rfl, hr⟩ := hrel
    have HR : Hid (okFrom s 0 = okFrom s pos) := hr
    clear hr
    by_cases hp : pos < s.size
    · obtain ⟨r, wd, hdec, hcase, hrl⟩ := rune_tells s pos hp
      have hnx : ∀ ty, (Instr.next (.pointer (some ⟨w.heap.size, 0, none⟩)) true ty).run Trym.prog (w.iter s pos) = .ok (.tuple #[.bool true, .int .i64 pos, .int .i32 r]) (w.iter s (pos + wd)) := fun ty => by
        rw [run_next_any w s pos ty hp, hdec]
      clear hdec
      rcases hcase with ⟨hid, rfl, hk⟩ | ⟨hid, hk⟩
      · have HK : Hid (okFrom s pos = okFrom s (pos + 1)) := hk
        have hcs := yes_cases hid
        clear hk hid
        rcases hcs with hc | hc | hc
        all_goals
          go_wp2
          go_roundw
          case rel => exact ⟨pos + 1, rfl, by rw [HR.out, HK.out]⟩
          case measure => simp; omega
      · have HK : Hid (okFrom s pos = false) := hk
        have hcs := no_cases hid
        clear hk hid
        have he1 : ((r : Int) == 45) = false := beq_eq_false_iff_ne.2 (by omega)
        rcases hcs with hc | hc | hc | hc
        · go_wp2
          go_ret
          exact ⟨ret_bool (by rw [HI.out, HR.out, HK.out]), (Below.refl _ _).alloc (Nat.le_refl _) _⟩
        · go_wp2
          go_ret
          exact ⟨ret_bool (by rw [HI.out, HR.out, HK.out]), (Below.refl _ _).alloc (Nat.le_refl _) _⟩
        · have hd57 : decide ((r : Int) ≤ 57) = false := by simp; omega
          go_wp2
          go_ret
          exact ⟨ret_bool (by rw [HI.out, HR.out, HK.out]), (Below.refl _ _).alloc (Nat.le_refl _) _⟩
        · have hd57 : decide ((r : Int) ≤ 57) = false := by simp; omega
          have hd122 : decide ((r : Int) ≤ 122) = false := by simp; omega
          go_wp2
          go_ret
          exact ⟨ret_bool (by rw [HI.out, HR.out, HK.out]), (Below.refl _ _).alloc (Nat.le_refl _) _⟩
    · have hnx : ∀ ty, (Instr.next (.pointer (some ⟨w.heap.size, 0, none⟩)) true ty).run Trym.prog (w.iter s pos) = _ := fun ty => run_next_end w s pos ty hp
      go_wp2
      go_ret
      exact ⟨ret_bool (by rw [HI.out, HR.out, okFrom_end s pos (by omega)]), (Below.refl _ _).alloc (Nat.le_refl _) _⟩

theorem zzValidID_any (s : ByteArray) (hs : s.size ≤ maxLen) (w : World) :
    Calls Trym.prog 12 #[.string s] w fun e w' => e = .returned (.bool (idB s)) ∧ Below w.heap.size w w' := by
  go_enter Trym.func12, Trym.ntmps12
  go_wp2_with (go_at_call 27; refine (validID_any _ hs _).mono ?_; rintro e w' ⟨rfl, hb⟩)
  go_ret
  exact ⟨rfl, by assumption⟩
end Go.Proofs.Qxb6600473aMods.Vid
