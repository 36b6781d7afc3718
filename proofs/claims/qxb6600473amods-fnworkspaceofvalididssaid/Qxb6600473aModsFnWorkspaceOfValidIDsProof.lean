import Derived.Test.Qxb6600473aModsRows
import Derived.Test.Qxb6600473aModsWs
import Derived.Test.Qxb6600473aModsVid
import Derived.ProofKit
import Derived.OpenShut
import Derived.ShutString
import Derived.ChangeOld
import Derived.Below
namespace Go.Proofs.Qxb6600473aMods.fnWorkspaceOfValidIDs
open Go.ChangeShapes Go.WideShapes Go.ChangeAt Go.RowKit
open Go.ChangeMaps (open_string shut_string)
open Go.Proofs.Qxb6600473aMods.Ws
set_option linter.unusedVariables false

theorem own : ownKnob Trym.prog.godebug = none := by kernel_rfl

/-- a workspace id does not begin as a clone name does -/
theorem id_no_prefix {s : ByteArray} (h : Vid.idB s = true) : hasB s = false := by
  obtain ⟨c, l, hl, hc⟩ := Vid.first_of h
  cases hb : hasB s with
  | false => rfl
  | true =>
    exfalso
    unfold hasB at hb
    simp only [Bool.and_eq_true, beq_iff_eq] at hb
    have h2 := hb.2
    rw [ByteArray.toList_eq, ByteArray.toList_eq, Lib.extract_data, hl] at h2
    simp [pre] at h2
    rw [h2.1] at hc
    exact absurd hc (by decide)
/-- a clone directory's name is no workspace id -/
theorem name_no_id (id x : ByteArray) : Vid.idB (pre ++ id ++ dash ++ x) = false := by
  cases hb : Vid.idB (pre ++ id ++ dash ++ x) with
  | false => rfl
  | true =>
    exfalso
    obtain ⟨c, l, hl, hc⟩ := Vid.first_of hb
    rw [name_data] at hl
    simp at hl
    rw [← hl.1] at hc
    exact absurd hc (by decide)

set_option maxHeartbeats 1000000 in
theorem walk (a0 a1 : ByteArray) (w0 : a0.size ≤ maxLen) (w1 : a1.size ≤ maxLen) (w : World) :
    Calls Trym.prog 7 #[.string a0, .string a1] w fun e w' => e = .returned (.bool true) ∧ Below w.heap.size w w' := by
  have hs0 := w0
  have hs1 := w1
  unfold maxLen at hs0 hs1
  by_cases h : a0.size + a1.size ≤ 1048576
  · cases hid : Vid.idB a0 with
    | false =>
      go_enter Trym.func7, Trym.ntmps7
      go_wp2_with (first
        | (go_at_call 19; refine (bytes19 _ _ w0 w1 _).mono ?_; rintro e w' ⟨⟨r, rfl⟩, hw⟩; subst w'; cases r)
        | (go_at_call 12; refine (Vid.zzValidID_any _ w0 _).mono ?_; rintro e w2 ⟨rfl, hb⟩))
      all_goals (go_ret; exact ⟨rfl, by first | assumption | exact Below.refl _ _⟩)
    | true =>
      cases hdash : dTo a1 a1.size with
      | true =>
        go_enter Trym.func7, Trym.ntmps7
        go_wp2_with (first
          | (go_at_call 19; refine (bytes19 _ _ w0 w1 _).mono ?_; rintro e w' ⟨⟨r, rfl⟩, hw⟩; subst w'; cases r)
          | (go_at_call 12; refine (Vid.zzValidID_any _ w0 _).mono ?_; rintro e w2 ⟨rfl, hb⟩)
          | (go_at_call 15; refine (hasDash_any _ w1 _).mono ?_; rintro e w' ⟨rfl, hw⟩; subst w'))
        all_goals (go_ret; exact ⟨rfl, by first | assumption | exact Below.refl _ _⟩)
      | false =>
        have hn : (pre ++ a0 ++ dash ++ a1).size ≤ maxLen := by rw [name_size]; unfold maxLen; omega
        have hws := ws_name a0 a1 (dTo_all hdash)
        have W1 : Hid (∀ w, Calls Trym.prog 16 #[.string a0] w fun e w' => e = .returned (.string a0) ∧ w' = w) := by
          intro w
          have := zzWorkspaceOf_any a0 w0 w
          rw [ws_other a0 (id_no_prefix hid)] at this
          exact this
        have W2 : Hid (∀ w, Calls Trym.prog 16 #[.string ((⟨#[46, 99, 108, 111, 110, 101, 45]⟩ : ByteArray) ++ a0 ++ ⟨#[45]⟩ ++ a1)] w fun e w' => e = .returned (.string a0) ∧ w' = w) := by
          intro w
          have := zzWorkspaceOf_any (pre ++ a0 ++ dash ++ a1) hn w
          rw [hws] at this
          exact this
        have W3 : Hid (∀ w, Calls Trym.prog 12 #[.string ((⟨#[46, 99, 108, 111, 110, 101, 45]⟩ : ByteArray) ++ a0 ++ ⟨#[45]⟩ ++ a1)] w fun e w' => e = .returned (.bool false) ∧ Below w.heap.size w w') := by
          intro w
          have := Vid.zzValidID_any (pre ++ a0 ++ dash ++ a1) hn w
          rw [name_no_id] at this
          exact this
        clear hn hws
        go_enter Trym.func7, Trym.ntmps7
        go_wp2_with (first
          | (go_at_call 19; refine (bytes19 _ _ w0 w1 _).mono ?_; rintro e w' ⟨⟨r, rfl⟩, hw⟩; subst w'; cases r))
        all_goals first
          | (go_ret; exact ⟨rfl, Below.refl _ _⟩)
          | skip
        refine (Vid.zzValidID_any _ w0 _).mono ?_
        rintro e w2 ⟨rfl, hb⟩
        rw [hid]
        go_wp2_with fail
        refine (hasDash_any _ w1 _).mono ?_
        rintro e w' ⟨rfl, hw⟩
        subst w'
        rw [hdash]
        go_wp2_with fail
        refine (W1.out _).mono ?_
        rintro e w' ⟨rfl, hw⟩
        subst w'
        go_wp2_with fail
        refine (W2.out _).mono ?_
        rintro e w' ⟨rfl, hw⟩
        subst w'
        go_wp2_with fail
        refine (W3.out _).mono ?_
        rintro e w3 ⟨rfl, hb3⟩
        go_wp2
        go_ret
        exact ⟨ret_bool (by simp), hb.trans (hb3.mono hb.size)⟩
  · go_enter Trym.func7, Trym.ntmps7
    go_wp2_with (first
      | (go_at_call 19; refine (bytes19 _ _ w0 w1 _).mono ?_; rintro e w' ⟨⟨r, rfl⟩, hw⟩; subst w'; cases r))
    all_goals (go_ret; exact ⟨rfl, Below.refl _ _⟩)

set_option maxRecDepth 100000 in
theorem lifted (os : Os) (started : os.Started) (H : Type) (enc : TypeId × Value → H) :
    ReturnsInHanded {} Trym.checked os 7 .any (Rows.fnWorkspaceOfValidIDsSpec.pre6 enc Trym.prog Trym.f7 Rows.fnWorkspaceOfValidIDsRow.domain false) (Rows.fnWorkspaceOfValidIDsSpec.post enc Trym.prog Trym.f7 false true false false) := by
  refine returnsInHanded_of_change (C := Trym.checked) own started (by kernel_rfl) Trym.func7
    (ChangeSpec.witness6 (enc := enc) (C := Trym.checked) false ⟨#[], #[.string ByteArray.empty, .string ByteArray.empty], []⟩ 8 (by kernel_rfl) (by kernel_rfl) (by kernel_rfl) (by kernel_rfl)) ?_
  intro W base args ds gs before hval0 hW hcnd _
  have hval : ∀ (j : Nat) t v, Trym.f7.params[j]? = some t → args[j]? = some v → Value.okWide Trym.prog W .any base t v := hval0
  have hW' := hW
  obtain ⟨p, q, hA0, hV, rfl, hfz, hnd⟩ := hW
  have hA : DataW.TrodAll enc Trym.prog W 0 (fun _ => true) true Trym.f7.params.toList args.toList ds p := hA0
  rw [Trym.params7] at hA hval
  obtain ⟨v0, vs0, d0, ds0, p0, q0, hargs, rfl, rfl, h0, r0⟩ := trodAll_cons hA
  obtain ⟨v1, vs1, d1, ds1, p1, q1, rfl, rfl, rfl, h1, r1⟩ := trodAll_cons r0
  obtain ⟨rfl, rfl, rfl⟩ := trodAll_nil r1
  obtain rfl : args = #[v0, v1] := by cases args; simp_all
  obtain ⟨rfl, rfl⟩ := trodVars_none hV
  obtain ⟨a0, rfl, rfl, rfl, w0⟩ := open_string Trym.underlying9 (hval 0 9 v0 rfl rfl) h0
  obtain ⟨a1, rfl, rfl, rfl, w1⟩ := open_string Trym.underlying9 (hval 1 9 v1 rfl rfl) h1
  clear hA0 hval0
  refine (walk a0 a1 w0 w1 W).mono fun e W' ⟨he, bel⟩ => ?_
  subst he
  exact ⟨_, rfl, _, _, _, [], _, [], hW', trodAll_mk1 (shut_bool Trym.underlying4 _), (trodAll_cons_mk (shut_string Trym.underlying9 w0) (trodAll_cons_mk (shut_string Trym.underlying9 w1) trodAll_mk0)), rfl, bel.frame _, fun h => by cases h⟩

theorem over : Rows.fnWorkspaceOfValidIDsRow.holds Trym.pinned (OpenSpec.ofChange Rows.fnWorkspaceOfValidIDsSpec) :=
  OpenClaim.holds_of_wide 7 Trym.f7 rfl rfl rfl rfl rfl rfl rfl ⟨rfl, rfl, rfl, rfl, rfl⟩ rfl rfl rfl rfl rfl (by kernel_rfl) Trym.func7 (by kernel_rfl)
    (of_decide_eq_true (by kernel_rfl)) (by unfold Func.isWrapper; first | (rw [if_pos (by decide +kernel)]; kernel_rfl) | (rw [if_neg (by decide +kernel)]; exact ⟨rfl, rfl⟩))
    (fun os started H enc _ => lifted os started H enc)

theorem proved : Rows.FnWorkspaceOfValidIDsSaid := over
end Go.Proofs.Qxb6600473aMods.fnWorkspaceOfValidIDs
