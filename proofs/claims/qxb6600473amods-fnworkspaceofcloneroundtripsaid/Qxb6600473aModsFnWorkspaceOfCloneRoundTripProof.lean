import Derived.Test.Qxb6600473aModsRows
import Derived.Test.Qxb6600473aModsWs
import Derived.ProofKit
import Derived.OpenShut
import Derived.ShutString
import Derived.ChangeOld
import Derived.Below
namespace Go.Proofs.Qxb6600473aMods.fnWorkspaceOfCloneRoundTrip
open Go.ChangeShapes Go.WideShapes Go.ChangeAt Go.RowKit
open Go.ChangeMaps (open_string shut_string)
open Go.Proofs.Qxb6600473aMods.Ws
set_option linter.unusedVariables false

theorem own : ownKnob Trym.prog.godebug = none := by kernel_rfl

set_option maxHeartbeats 1000000 in
theorem walk (a0 a1 : ByteArray) (w0 : a0.size ≤ maxLen) (w1 : a1.size ≤ maxLen) (w : World) :
    Calls Trym.prog 5 #[.string a0, .string a1] w fun e w' => e = .returned (.bool true) ∧ Below w.heap.size w w' := by
  have hs0 := w0
  have hs1 := w1
  unfold maxLen at hs0 hs1
  by_cases h : a0.size + a1.size ≤ 1048576
  · cases hdash : dTo a1 a1.size with
    | true =>
      go_enter Trym.func5, Trym.ntmps5
      go_wp2_with (first
        | (go_at_call 14; refine (bytes14 _ _ w0 w1 _).mono ?_; rintro e w' ⟨⟨r, rfl⟩, hw⟩; subst w'; cases r)
        | (go_at_call 15; refine (hasDash_any _ w1 _).mono ?_; rintro e w' ⟨rfl, hw⟩; subst w'))
      all_goals (go_ret; exact ⟨rfl, Below.refl _ _⟩)
    | false =>
      have hn : (pre ++ a0 ++ dash ++ a1).size ≤ maxLen := by rw [name_size]; unfold maxLen; omega
      have hws := ws_name a0 a1 (dTo_all hdash)
      have W : Hid (∀ w, Calls Trym.prog 16 #[.string ((⟨#[46, 99, 108, 111, 110, 101, 45]⟩ : ByteArray) ++ a0 ++ ⟨#[45]⟩ ++ a1)] w fun e w' => e = .returned (.string a0) ∧ w' = w) := by
        intro w
        have := zzWorkspaceOf_any (pre ++ a0 ++ dash ++ a1) hn w
        rw [hws] at this
        exact this
      clear hn hws
      go_enter Trym.func5, Trym.ntmps5
      go_wp2_with (first
        | (go_at_call 14; refine (bytes14 _ _ w0 w1 _).mono ?_; rintro e w' ⟨⟨r, rfl⟩, hw⟩; subst w'; cases r)
        | (go_at_call 15; refine (hasDash_any _ w1 _).mono ?_; rintro e w' ⟨rfl, hw⟩; subst w'))
      all_goals first
        | (go_ret; exact ⟨rfl, Below.refl _ _⟩)
        | skip
      refine (W.out _).mono ?_
      rintro e w' ⟨rfl, hw⟩
      subst w'
      go_wp2
      go_ret
      exact ⟨ret_bool (by simp), Below.refl _ _⟩
  · go_enter Trym.func5, Trym.ntmps5
    go_wp2_with (first
      | (go_at_call 14; refine (bytes14 _ _ w0 w1 _).mono ?_; rintro e w' ⟨⟨r, rfl⟩, hw⟩; subst w'; cases r))
    all_goals (go_ret; exact ⟨rfl, Below.refl _ _⟩)

set_option maxRecDepth 100000 in
theorem lifted (os : Os) (started : os.Started) (H : Type) (enc : TypeId × Value → H) :
    ReturnsInHanded {} Trym.checked os 5 .any (Rows.fnWorkspaceOfCloneRoundTripSpec.pre6 enc Trym.prog Trym.f5 Rows.fnWorkspaceOfCloneRoundTripRow.domain false) (Rows.fnWorkspaceOfCloneRoundTripSpec.post enc Trym.prog Trym.f5 false true false false) := by
  refine returnsInHanded_of_change (C := Trym.checked) own started (by kernel_rfl) Trym.func5
    (ChangeSpec.witness6 (enc := enc) (C := Trym.checked) false ⟨#[], #[.string ByteArray.empty, .string ByteArray.empty], []⟩ 8 (by kernel_rfl) (by kernel_rfl) (by kernel_rfl) (by kernel_rfl)) ?_
  intro W base args ds gs before hval0 hW hcnd _
  have hval : ∀ (j : Nat) t v, Trym.f5.params[j]? = some t → args[j]? = some v → Value.okWide Trym.prog W .any base t v := hval0
  have hW' := hW
  obtain ⟨p, q, hA0, hV, rfl, hfz, hnd⟩ := hW
  have hA : DataW.TrodAll enc Trym.prog W 0 (fun _ => true) true Trym.f5.params.toList args.toList ds p := hA0
  rw [Trym.params5] at hA hval
  obtain ⟨v0, vs0, d0, ds0, p0, q0, hargs, rfl, rfl, h0, r0⟩ := trodAll_cons hA
  obtain ⟨v1, vs1, d1, ds1, p1, q1, rfl, rfl, rfl, h1, r1⟩ := trodAll_cons r0
  obtain ⟨rfl, rfl, rfl⟩ := trodAll_nil r1
  obtain rfl : args = #[v0, v1] := by cases args; simp_all
  obtain ⟨rfl, rfl⟩ := trodVars_none hV
  obtain ⟨a0, rfl, rfl, rfl, w0⟩ := open_string Trym.underlying9 (hval 0 9 v0 rfl rfl) h0
  obtain ⟨a1, rfl, rfl, rfl, w1⟩ := open_string Trym.underlying9 (hval 1 9 v1 rfl rfl) h1
  clear hA0 hval0
  refine (walk a0 a1 w0 w1 W).mono fun e W' ⟨he, bel⟩ => ?_
  subst he
  exact ⟨_, rfl, _, _, _, [], _, [], hW', trodAll_mk1 (shut_bool Trym.underlying4 _), (trodAll_cons_mk (shut_string Trym.underlying9 w0) (trodAll_cons_mk (shut_string Trym.underlying9 w1) trodAll_mk0)), rfl, bel.frame _, fun h => by cases h⟩

theorem over : Rows.fnWorkspaceOfCloneRoundTripRow.holds Trym.pinned (OpenSpec.ofChange Rows.fnWorkspaceOfCloneRoundTripSpec) :=
  OpenClaim.holds_of_wide 5 Trym.f5 rfl rfl rfl rfl rfl rfl rfl ⟨rfl, rfl, rfl, rfl, rfl⟩ rfl rfl rfl rfl rfl (by kernel_rfl) Trym.func5 (by kernel_rfl)
    (of_decide_eq_true (by kernel_rfl)) (by unfold Func.isWrapper; first | (rw [if_pos (by decide +kernel)]; kernel_rfl) | (rw [if_neg (by decide +kernel)]; exact ⟨rfl, rfl⟩))
    (fun os started H enc _ => lifted os started H enc)

theorem proved : Rows.FnWorkspaceOfCloneRoundTripSaid := over
end Go.Proofs.Qxb6600473aMods.fnWorkspaceOfCloneRoundTrip
