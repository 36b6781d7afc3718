/-
  No cell of these rows narrows 'for every input' (looked for: loops, veiled, ifaces, maps, wideKeys, modest, calm, conditions, laid).
  DERIVED. THE GIVEN ROWS OF THIS SEAT. 8 by the template 'for every input the law returns true; each argument reads behind the call as it read before'; 0 by the template 'total and deterministic' (their statements: Qxb6600473aModsTotals.lean).
  GIVEN WITH THE SEED: the statements are not yours to turn. If you find one false, say at which input.
  Laid BY PROGRAM, IN A SANDBOX (cutbox-rows.mjs): the forced cells as the released guide's own fill.sh prints them over the translation 35b7499d5caa5b92… (all of the seat's roots in one cut). By AI agents, Wed Nov 11 2026. No macro, syntax, notation, axiom, sorry.
-/
import Derived.Test.Qxb6600473aModsChecked
import GoSem.Claim
import GoSem.ClaimJoined
import GoSem.ClaimMapViews
import Derived.JoinedTies
import Derived.KernelRfl
namespace Go.Proofs.Qxb6600473aMods
/- THE CELL 'sum', in the pinned program and in every row, IS THE sha256 OF THE DUMP (.gsa) THAT Qxb6600473aModsProg.lean LOADS. Nothing in Lean hashes anything: it is a label: what it is worth is what the hold of that sum in a sandbox is worth. -/
noncomputable def Trym.pinned : Pinned := { name := "qxb6600473amods", sum := "35b7499d5caa5b922d4529e65214168d8208f27537df713c15839fbf168c99da", checked := Trym.checked }
namespace Rows
def none {H : Type} : Left H := { results := [], args := [] }

/-- 'zzlaws_internal_agent_b1.FnValidIDSubstringsStayValid': WHATEVER THE INPUT: true; the input reads as it did. -/
def fnValidIDSubstringsStayValidSpec : ChangeSpec := { name := "fnValidIDSubstringsStayValid", fn := fun _ => fun
  | [d1, d2, d3] => { results := [.lit (.bool true)], args := [d1, d2, d3] }
  | _ => none }
def fnValidIDSubstringsStayValidRow : OpenClaim := { program := "qxb6600473amods", sum := "35b7499d5caa5b922d4529e65214168d8208f27537df713c15839fbf168c99da", func := "example.com/skerry/skerry/zzlaws_internal_agent_b1.FnValidIDSubstringsStayValid", spec := "fnValidIDSubstringsStayValid", make := .lifted ["publicsums"], apart := false }
def FnValidIDSubstringsStayValidSaid : Prop := fnValidIDSubstringsStayValidRow.holds Trym.pinned (OpenSpec.ofChange fnValidIDSubstringsStayValidSpec)

/-- ITS FALSE NEIGHBOUR: 'it returns false'. Refute it at one input. -/
def fnValidIDSubstringsStayValidWrong : ChangeSpec := { name := "fnValidIDSubstringsStayValid", fn := fun _ => fun
  | [d1, d2, d3] => { results := [.lit (.bool false)], args := [d1, d2, d3] }
  | _ => none }
def FnValidIDSubstringsStayValidWrongFalsely : Prop := fnValidIDSubstringsStayValidRow.holds Trym.pinned (OpenSpec.ofChange fnValidIDSubstringsStayValidWrong)

/-- 'zzlaws_internal_agent_b1.FnValidIDDashJoin': WHATEVER THE INPUT: true; the input reads as it did. -/
def fnValidIDDashJoinSpec : ChangeSpec := { name := "fnValidIDDashJoin", fn := fun _ => fun
  | [d1, d2] => { results := [.lit (.bool true)], args := [d1, d2] }
  | _ => none }
def fnValidIDDashJoinRow : OpenClaim := { program := "qxb6600473amods", sum := "35b7499d5caa5b922d4529e65214168d8208f27537df713c15839fbf168c99da", func := "example.com/skerry/skerry/zzlaws_internal_agent_b1.FnValidIDDashJoin", spec := "fnValidIDDashJoin", make := .lifted ["publicsums"], apart := false }
def FnValidIDDashJoinSaid : Prop := fnValidIDDashJoinRow.holds Trym.pinned (OpenSpec.ofChange fnValidIDDashJoinSpec)

/-- ITS FALSE NEIGHBOUR: 'it returns false'. Refute it at one input. -/
def fnValidIDDashJoinWrong : ChangeSpec := { name := "fnValidIDDashJoin", fn := fun _ => fun
  | [d1, d2] => { results := [.lit (.bool false)], args := [d1, d2] }
  | _ => none }
def FnValidIDDashJoinWrongFalsely : Prop := fnValidIDDashJoinRow.holds Trym.pinned (OpenSpec.ofChange fnValidIDDashJoinWrong)

/-- 'zzlaws_internal_agent_b1.FnWorkspaceOfCloneRoundTrip': WHATEVER THE INPUT: true; the input reads as it did. -/
def fnWorkspaceOfCloneRoundTripSpec : ChangeSpec := { name := "fnWorkspaceOfCloneRoundTrip", fn := fun _ => fun
  | [d1, d2] => { results := [.lit (.bool true)], args := [d1, d2] }
  | _ => none }
def fnWorkspaceOfCloneRoundTripRow : OpenClaim := { program := "qxb6600473amods", sum := "35b7499d5caa5b922d4529e65214168d8208f27537df713c15839fbf168c99da", func := "example.com/skerry/skerry/zzlaws_internal_agent_b1.FnWorkspaceOfCloneRoundTrip", spec := "fnWorkspaceOfCloneRoundTrip", make := .lifted ["publicsums"], apart := false }
def FnWorkspaceOfCloneRoundTripSaid : Prop := fnWorkspaceOfCloneRoundTripRow.holds Trym.pinned (OpenSpec.ofChange fnWorkspaceOfCloneRoundTripSpec)

/-- ITS FALSE NEIGHBOUR: 'it returns false'. Refute it at one input. -/
def fnWorkspaceOfCloneRoundTripWrong : ChangeSpec := { name := "fnWorkspaceOfCloneRoundTrip", fn := fun _ => fun
  | [d1, d2] => { results := [.lit (.bool false)], args := [d1, d2] }
  | _ => none }
def FnWorkspaceOfCloneRoundTripWrongFalsely : Prop := fnWorkspaceOfCloneRoundTripRow.holds Trym.pinned (OpenSpec.ofChange fnWorkspaceOfCloneRoundTripWrong)

/-- 'zzlaws_internal_agent_b1.FnWorkspaceOfOtherNamesUnchanged': WHATEVER THE INPUT: true; the input reads as it did. -/
def fnWorkspaceOfOtherNamesUnchangedSpec : ChangeSpec := { name := "fnWorkspaceOfOtherNamesUnchanged", fn := fun _ => fun
  | [d] => { results := [.lit (.bool true)], args := [d] }
  | _ => none }
def fnWorkspaceOfOtherNamesUnchangedRow : OpenClaim := { program := "qxb6600473amods", sum := "35b7499d5caa5b922d4529e65214168d8208f27537df713c15839fbf168c99da", func := "example.com/skerry/skerry/zzlaws_internal_agent_b1.FnWorkspaceOfOtherNamesUnchanged", spec := "fnWorkspaceOfOtherNamesUnchanged", make := .lifted ["publicsums"], apart := false }
def FnWorkspaceOfOtherNamesUnchangedSaid : Prop := fnWorkspaceOfOtherNamesUnchangedRow.holds Trym.pinned (OpenSpec.ofChange fnWorkspaceOfOtherNamesUnchangedSpec)

/-- ITS FALSE NEIGHBOUR: 'it returns false'. Refute it at one input. -/
def fnWorkspaceOfOtherNamesUnchangedWrong : ChangeSpec := { name := "fnWorkspaceOfOtherNamesUnchanged", fn := fun _ => fun
  | [d] => { results := [.lit (.bool false)], args := [d] }
  | _ => none }
def FnWorkspaceOfOtherNamesUnchangedWrongFalsely : Prop := fnWorkspaceOfOtherNamesUnchangedRow.holds Trym.pinned (OpenSpec.ofChange fnWorkspaceOfOtherNamesUnchangedWrong)

/-- 'zzlaws_internal_agent_b1.FnWorkspaceOfValidIDs': WHATEVER THE INPUT: true; the input reads as it did. -/
def fnWorkspaceOfValidIDsSpec : ChangeSpec := { name := "fnWorkspaceOfValidIDs", fn := fun _ => fun
  | [d1, d2] => { results := [.lit (.bool true)], args := [d1, d2] }
  | _ => none }
def fnWorkspaceOfValidIDsRow : OpenClaim := { program := "qxb6600473amods", sum := "35b7499d5caa5b922d4529e65214168d8208f27537df713c15839fbf168c99da", func := "example.com/skerry/skerry/zzlaws_internal_agent_b1.FnWorkspaceOfValidIDs", spec := "fnWorkspaceOfValidIDs", make := .lifted ["publicsums"], apart := false }
def FnWorkspaceOfValidIDsSaid : Prop := fnWorkspaceOfValidIDsRow.holds Trym.pinned (OpenSpec.ofChange fnWorkspaceOfValidIDsSpec)

/-- ITS FALSE NEIGHBOUR: 'it returns false'. Refute it at one input. -/
def fnWorkspaceOfValidIDsWrong : ChangeSpec := { name := "fnWorkspaceOfValidIDs", fn := fun _ => fun
  | [d1, d2] => { results := [.lit (.bool false)], args := [d1, d2] }
  | _ => none }
def FnWorkspaceOfValidIDsWrongFalsely : Prop := fnWorkspaceOfValidIDsRow.holds Trym.pinned (OpenSpec.ofChange fnWorkspaceOfValidIDsWrong)

/-- 'zzlaws_internal_agent_b1.FnReadyMatchesModel': WHATEVER THE INPUT: true; the input reads as it did. -/
def fnReadyMatchesModelSpec : ChangeSpec := { name := "fnReadyMatchesModel", fn := fun _ => fun
  | [d1, d2, d3, d4, d5] => { results := [.lit (.bool true)], args := [d1, d2, d3, d4, d5] }
  | _ => none }
def fnReadyMatchesModelRow : OpenClaim := { program := "qxb6600473amods", sum := "35b7499d5caa5b922d4529e65214168d8208f27537df713c15839fbf168c99da", func := "example.com/skerry/skerry/zzlaws_internal_agent_b1.FnReadyMatchesModel", spec := "fnReadyMatchesModel", make := .lifted ["publicsums"], apart := false }
def FnReadyMatchesModelSaid : Prop := fnReadyMatchesModelRow.holds Trym.pinned (OpenSpec.ofChange fnReadyMatchesModelSpec)

/-- ITS FALSE NEIGHBOUR: 'it returns false'. Refute it at one input. -/
def fnReadyMatchesModelWrong : ChangeSpec := { name := "fnReadyMatchesModel", fn := fun _ => fun
  | [d1, d2, d3, d4, d5] => { results := [.lit (.bool false)], args := [d1, d2, d3, d4, d5] }
  | _ => none }
def FnReadyMatchesModelWrongFalsely : Prop := fnReadyMatchesModelRow.holds Trym.pinned (OpenSpec.ofChange fnReadyMatchesModelWrong)

/-- 'zzlaws_internal_agent_b1.FnReadyMarkingDoneKeepsReady': WHATEVER THE INPUT: true; the input reads as it did. -/
def fnReadyMarkingDoneKeepsReadySpec : ChangeSpec := { name := "fnReadyMarkingDoneKeepsReady", fn := fun _ => fun
  | [d1, d2, d3, d4, d5, d6] => { results := [.lit (.bool true)], args := [d1, d2, d3, d4, d5, d6] }
  | _ => none }
def fnReadyMarkingDoneKeepsReadyRow : OpenClaim := { program := "qxb6600473amods", sum := "35b7499d5caa5b922d4529e65214168d8208f27537df713c15839fbf168c99da", func := "example.com/skerry/skerry/zzlaws_internal_agent_b1.FnReadyMarkingDoneKeepsReady", spec := "fnReadyMarkingDoneKeepsReady", make := .lifted ["publicsums"], apart := false }
def FnReadyMarkingDoneKeepsReadySaid : Prop := fnReadyMarkingDoneKeepsReadyRow.holds Trym.pinned (OpenSpec.ofChange fnReadyMarkingDoneKeepsReadySpec)

/-- ITS FALSE NEIGHBOUR: 'it returns false'. Refute it at one input. -/
def fnReadyMarkingDoneKeepsReadyWrong : ChangeSpec := { name := "fnReadyMarkingDoneKeepsReady", fn := fun _ => fun
  | [d1, d2, d3, d4, d5, d6] => { results := [.lit (.bool false)], args := [d1, d2, d3, d4, d5, d6] }
  | _ => none }
def FnReadyMarkingDoneKeepsReadyWrongFalsely : Prop := fnReadyMarkingDoneKeepsReadyRow.holds Trym.pinned (OpenSpec.ofChange fnReadyMarkingDoneKeepsReadyWrong)

/-- 'zzlaws_internal_agent_b1.FnReadyCommandOrderFree': WHATEVER THE INPUT: true; the input reads as it did. -/
def fnReadyCommandOrderFreeSpec : ChangeSpec := { name := "fnReadyCommandOrderFree", fn := fun _ => fun
  | [d1, d2, d3, d4, d5] => { results := [.lit (.bool true)], args := [d1, d2, d3, d4, d5] }
  | _ => none }
def fnReadyCommandOrderFreeRow : OpenClaim := { program := "qxb6600473amods", sum := "35b7499d5caa5b922d4529e65214168d8208f27537df713c15839fbf168c99da", func := "example.com/skerry/skerry/zzlaws_internal_agent_b1.FnReadyCommandOrderFree", spec := "fnReadyCommandOrderFree", make := .lifted ["publicsums"], apart := false }
def FnReadyCommandOrderFreeSaid : Prop := fnReadyCommandOrderFreeRow.holds Trym.pinned (OpenSpec.ofChange fnReadyCommandOrderFreeSpec)

/-- ITS FALSE NEIGHBOUR: 'it returns false'. Refute it at one input. -/
def fnReadyCommandOrderFreeWrong : ChangeSpec := { name := "fnReadyCommandOrderFree", fn := fun _ => fun
  | [d1, d2, d3, d4, d5] => { results := [.lit (.bool false)], args := [d1, d2, d3, d4, d5] }
  | _ => none }
def FnReadyCommandOrderFreeWrongFalsely : Prop := fnReadyCommandOrderFreeRow.holds Trym.pinned (OpenSpec.ofChange fnReadyCommandOrderFreeWrong)

end Rows
end Go.Proofs.Qxb6600473aMods
