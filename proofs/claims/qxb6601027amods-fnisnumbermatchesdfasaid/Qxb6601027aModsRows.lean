/-
  No cell of these rows narrows 'for every input' (looked for: loops, veiled, ifaces, maps, wideKeys, modest, calm, conditions, laid).
  DERIVED. THE GIVEN ROWS OF THIS SEAT. 5 by the template 'for every input the law returns true; each argument reads behind the call as it read before'; 0 by the template 'total and deterministic' (their statements: Qxb6601027aModsTotals.lean).
  GIVEN WITH THE SEED: the statements are not yours to turn. If you find one false, say at which input.
  Laid BY PROGRAM, IN A SANDBOX (cutbox-rows.mjs): the forced cells as the released guide's own fill.sh prints them over the translation 19a7ca0a79a533d4… (all of the seat's roots in one cut). By AI agents, Wed Nov 11 2026. No macro, syntax, notation, axiom, sorry.
-/
import Derived.Test.Qxb6601027aModsChecked
import GoSem.Claim
import GoSem.ClaimJoined
import GoSem.ClaimMapViews
import Derived.JoinedTies
import Derived.KernelRfl
namespace Go.Proofs.Qxb6601027aMods
/- THE CELL 'sum', in the pinned program and in every row, IS THE sha256 OF THE DUMP (.gsa) THAT Qxb6601027aModsProg.lean LOADS. Nothing in Lean hashes anything: it is a label: what it is worth is what the hold of that sum in a sandbox is worth. -/
noncomputable def Trym.pinned : Pinned := { name := "qxb6601027amods", sum := "19a7ca0a79a533d44198d3ea3dfb78c35302f6e6ab61308e70dac55ba7c590c0", checked := Trym.checked }
namespace Rows
def none {H : Type} : Left H := { results := [], args := [] }

/-- 'zzlaws_internal_csvfile_b1.FnIsNumberMatchesDFA': WHATEVER THE INPUT: true; the input reads as it did. -/
def fnIsNumberMatchesDFASpec : ChangeSpec := { name := "fnIsNumberMatchesDFA", fn := fun _ => fun
  | [d] => { results := [.lit (.bool true)], args := [d] }
  | _ => none }
def fnIsNumberMatchesDFARow : OpenClaim := { program := "qxb6601027amods", sum := "19a7ca0a79a533d44198d3ea3dfb78c35302f6e6ab61308e70dac55ba7c590c0", func := "example.com/zhaomu/zhaomu/zzlaws_internal_csvfile_b1.FnIsNumberMatchesDFA", spec := "fnIsNumberMatchesDFA", make := .lifted ["publicsums"], apart := false }
def FnIsNumberMatchesDFASaid : Prop := fnIsNumberMatchesDFARow.holds Trym.pinned (OpenSpec.ofChange fnIsNumberMatchesDFASpec)

/-- ITS FALSE NEIGHBOUR: 'it returns false'. Refute it at one input. -/
def fnIsNumberMatchesDFAWrong : ChangeSpec := { name := "fnIsNumberMatchesDFA", fn := fun _ => fun
  | [d] => { results := [.lit (.bool false)], args := [d] }
  | _ => none }
def FnIsNumberMatchesDFAWrongFalsely : Prop := fnIsNumberMatchesDFARow.holds Trym.pinned (OpenSpec.ofChange fnIsNumberMatchesDFAWrong)

/-- 'zzlaws_internal_csvfile_b1.FnIsNumberExponentSplit': WHATEVER THE INPUT: true; the input reads as it did. -/
def fnIsNumberExponentSplitSpec : ChangeSpec := { name := "fnIsNumberExponentSplit", fn := fun _ => fun
  | [d1, d2, d3] => { results := [.lit (.bool true)], args := [d1, d2, d3] }
  | _ => none }
def fnIsNumberExponentSplitRow : OpenClaim := { program := "qxb6601027amods", sum := "19a7ca0a79a533d44198d3ea3dfb78c35302f6e6ab61308e70dac55ba7c590c0", func := "example.com/zhaomu/zhaomu/zzlaws_internal_csvfile_b1.FnIsNumberExponentSplit", spec := "fnIsNumberExponentSplit", make := .lifted ["publicsums"], apart := false }
def FnIsNumberExponentSplitSaid : Prop := fnIsNumberExponentSplitRow.holds Trym.pinned (OpenSpec.ofChange fnIsNumberExponentSplitSpec)

/-- ITS FALSE NEIGHBOUR: 'it returns false'. Refute it at one input. -/
def fnIsNumberExponentSplitWrong : ChangeSpec := { name := "fnIsNumberExponentSplit", fn := fun _ => fun
  | [d1, d2, d3] => { results := [.lit (.bool false)], args := [d1, d2, d3] }
  | _ => none }
def FnIsNumberExponentSplitWrongFalsely : Prop := fnIsNumberExponentSplitRow.holds Trym.pinned (OpenSpec.ofChange fnIsNumberExponentSplitWrong)

/-- 'zzlaws_internal_csvfile_b1.FnIsNumberSeparatorInsertion': WHATEVER THE INPUT: true; the input reads as it did. -/
def fnIsNumberSeparatorInsertionSpec : ChangeSpec := { name := "fnIsNumberSeparatorInsertion", fn := fun _ => fun
  | [d1, d2, d3] => { results := [.lit (.bool true)], args := [d1, d2, d3] }
  | _ => none }
def fnIsNumberSeparatorInsertionRow : OpenClaim := { program := "qxb6601027amods", sum := "19a7ca0a79a533d44198d3ea3dfb78c35302f6e6ab61308e70dac55ba7c590c0", func := "example.com/zhaomu/zhaomu/zzlaws_internal_csvfile_b1.FnIsNumberSeparatorInsertion", spec := "fnIsNumberSeparatorInsertion", make := .lifted ["publicsums"], apart := false }
def FnIsNumberSeparatorInsertionSaid : Prop := fnIsNumberSeparatorInsertionRow.holds Trym.pinned (OpenSpec.ofChange fnIsNumberSeparatorInsertionSpec)

/-- ITS FALSE NEIGHBOUR: 'it returns false'. Refute it at one input. -/
def fnIsNumberSeparatorInsertionWrong : ChangeSpec := { name := "fnIsNumberSeparatorInsertion", fn := fun _ => fun
  | [d1, d2, d3] => { results := [.lit (.bool false)], args := [d1, d2, d3] }
  | _ => none }
def FnIsNumberSeparatorInsertionWrongFalsely : Prop := fnIsNumberSeparatorInsertionRow.holds Trym.pinned (OpenSpec.ofChange fnIsNumberSeparatorInsertionWrong)

/-- 'zzlaws_internal_csvfile_b1.FnIsExponentMatchesDigitCount': WHATEVER THE INPUT: true; the input reads as it did. -/
def fnIsExponentMatchesDigitCountSpec : ChangeSpec := { name := "fnIsExponentMatchesDigitCount", fn := fun _ => fun
  | [d] => { results := [.lit (.bool true)], args := [d] }
  | _ => none }
def fnIsExponentMatchesDigitCountRow : OpenClaim := { program := "qxb6601027amods", sum := "19a7ca0a79a533d44198d3ea3dfb78c35302f6e6ab61308e70dac55ba7c590c0", func := "example.com/zhaomu/zhaomu/zzlaws_internal_csvfile_b1.FnIsExponentMatchesDigitCount", spec := "fnIsExponentMatchesDigitCount", make := .lifted ["publicsums"], apart := false }
def FnIsExponentMatchesDigitCountSaid : Prop := fnIsExponentMatchesDigitCountRow.holds Trym.pinned (OpenSpec.ofChange fnIsExponentMatchesDigitCountSpec)

/-- ITS FALSE NEIGHBOUR: 'it returns false'. Refute it at one input. -/
def fnIsExponentMatchesDigitCountWrong : ChangeSpec := { name := "fnIsExponentMatchesDigitCount", fn := fun _ => fun
  | [d] => { results := [.lit (.bool false)], args := [d] }
  | _ => none }
def FnIsExponentMatchesDigitCountWrongFalsely : Prop := fnIsExponentMatchesDigitCountRow.holds Trym.pinned (OpenSpec.ofChange fnIsExponentMatchesDigitCountWrong)

/-- 'zzlaws_internal_csvfile_b1.FnIsExponentSignPrefix': WHATEVER THE INPUT: true; the input reads as it did. -/
def fnIsExponentSignPrefixSpec : ChangeSpec := { name := "fnIsExponentSignPrefix", fn := fun _ => fun
  | [d1, d2] => { results := [.lit (.bool true)], args := [d1, d2] }
  | _ => none }
def fnIsExponentSignPrefixRow : OpenClaim := { program := "qxb6601027amods", sum := "19a7ca0a79a533d44198d3ea3dfb78c35302f6e6ab61308e70dac55ba7c590c0", func := "example.com/zhaomu/zhaomu/zzlaws_internal_csvfile_b1.FnIsExponentSignPrefix", spec := "fnIsExponentSignPrefix", make := .lifted ["publicsums"], apart := false }
def FnIsExponentSignPrefixSaid : Prop := fnIsExponentSignPrefixRow.holds Trym.pinned (OpenSpec.ofChange fnIsExponentSignPrefixSpec)

/-- ITS FALSE NEIGHBOUR: 'it returns false'. Refute it at one input. -/
def fnIsExponentSignPrefixWrong : ChangeSpec := { name := "fnIsExponentSignPrefix", fn := fun _ => fun
  | [d1, d2] => { results := [.lit (.bool false)], args := [d1, d2] }
  | _ => none }
def FnIsExponentSignPrefixWrongFalsely : Prop := fnIsExponentSignPrefixRow.holds Trym.pinned (OpenSpec.ofChange fnIsExponentSignPrefixWrong)

end Rows
end Go.Proofs.Qxb6601027aMods
