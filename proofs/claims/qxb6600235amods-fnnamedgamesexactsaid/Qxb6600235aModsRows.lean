/-
  No cell of these rows narrows 'for every input' (looked for: loops, veiled, ifaces, maps, wideKeys, modest, calm, conditions, laid).
  DERIVED. THE GIVEN ROWS OF THIS SEAT. 7 by the template 'for every input the law returns true; each argument reads behind the call as it read before'; 0 by the template 'total and deterministic' (their statements: Qxb6600235aModsTotals.lean).
  GIVEN WITH THE SEED: the statements are not yours to turn. If you find one false, say at which input.
  Laid BY PROGRAM, IN A SANDBOX (cutbox-rows.mjs): the forced cells as the released guide's own fill.sh prints them over the translation 5297f049ea80a774… (all of the seat's roots in one cut). By AI agents, Wed Nov 11 2026. No macro, syntax, notation, axiom, sorry.
-/
import Derived.Test.Qxb6600235aModsChecked
import GoSem.Claim
import GoSem.ClaimJoined
import GoSem.ClaimMapViews
import Derived.JoinedTies
import Derived.KernelRfl
namespace Go.Proofs.Qxb6600235aMods
/- THE CELL 'sum', in the pinned program and in every row, IS THE sha256 OF THE DUMP (.gsa) THAT Qxb6600235aModsProg.lean LOADS. Nothing in Lean hashes anything: it is a label: what it is worth is what the hold of that sum in a sandbox is worth. -/
noncomputable def Trym.pinned : Pinned := { name := "qxb6600235amods", sum := "5297f049ea80a774f126e93ba719cba07d41cbd67ee836fbe87f56509dae5e0c", checked := Trym.checked }
namespace Rows
def none {H : Type} : Left H := { results := [], args := [] }

/-- 'zzlaws_internal_runtimes_b1.FnIsGameIDExact': WHATEVER THE INPUT: true; the input reads as it did. -/
def fnIsGameIDExactSpec : ChangeSpec := { name := "fnIsGameIDExact", fn := fun _ => fun
  | [d] => { results := [.lit (.bool true)], args := [d] }
  | _ => none }
def fnIsGameIDExactRow : OpenClaim := { program := "qxb6600235amods", sum := "5297f049ea80a774f126e93ba719cba07d41cbd67ee836fbe87f56509dae5e0c", func := "example.com/nestor/nestor/zzlaws_internal_runtimes_b1.FnIsGameIDExact", spec := "fnIsGameIDExact", make := .lifted ["publicsums"], apart := false }
def FnIsGameIDExactSaid : Prop := fnIsGameIDExactRow.holds Trym.pinned (OpenSpec.ofChange fnIsGameIDExactSpec)

/-- ITS FALSE NEIGHBOUR: 'it returns false'. Refute it at one input. -/
def fnIsGameIDExactWrong : ChangeSpec := { name := "fnIsGameIDExact", fn := fun _ => fun
  | [d] => { results := [.lit (.bool false)], args := [d] }
  | _ => none }
def FnIsGameIDExactWrongFalsely : Prop := fnIsGameIDExactRow.holds Trym.pinned (OpenSpec.ofChange fnIsGameIDExactWrong)

/-- 'zzlaws_internal_runtimes_b1.FnIsGameIDConcat': WHATEVER THE INPUT: true; the input reads as it did. -/
def fnIsGameIDConcatSpec : ChangeSpec := { name := "fnIsGameIDConcat", fn := fun _ => fun
  | [d1, d2] => { results := [.lit (.bool true)], args := [d1, d2] }
  | _ => none }
def fnIsGameIDConcatRow : OpenClaim := { program := "qxb6600235amods", sum := "5297f049ea80a774f126e93ba719cba07d41cbd67ee836fbe87f56509dae5e0c", func := "example.com/nestor/nestor/zzlaws_internal_runtimes_b1.FnIsGameIDConcat", spec := "fnIsGameIDConcat", make := .lifted ["publicsums"], apart := false }
def FnIsGameIDConcatSaid : Prop := fnIsGameIDConcatRow.holds Trym.pinned (OpenSpec.ofChange fnIsGameIDConcatSpec)

/-- ITS FALSE NEIGHBOUR: 'it returns false'. Refute it at one input. -/
def fnIsGameIDConcatWrong : ChangeSpec := { name := "fnIsGameIDConcat", fn := fun _ => fun
  | [d1, d2] => { results := [.lit (.bool false)], args := [d1, d2] }
  | _ => none }
def FnIsGameIDConcatWrongFalsely : Prop := fnIsGameIDConcatRow.holds Trym.pinned (OpenSpec.ofChange fnIsGameIDConcatWrong)

/-- 'zzlaws_internal_runtimes_b1.FnNamedGamesExact': WHATEVER THE INPUT: true; the input reads as it did. -/
def fnNamedGamesExactSpec : ChangeSpec := { name := "fnNamedGamesExact", fn := fun _ => fun
  | [d] => { results := [.lit (.bool true)], args := [d] }
  | _ => none }
def fnNamedGamesExactRow : OpenClaim := { program := "qxb6600235amods", sum := "5297f049ea80a774f126e93ba719cba07d41cbd67ee836fbe87f56509dae5e0c", func := "example.com/nestor/nestor/zzlaws_internal_runtimes_b1.FnNamedGamesExact", spec := "fnNamedGamesExact", make := .lifted ["publicsums"], apart := false }
def FnNamedGamesExactSaid : Prop := fnNamedGamesExactRow.holds Trym.pinned (OpenSpec.ofChange fnNamedGamesExactSpec)

/-- ITS FALSE NEIGHBOUR: 'it returns false'. Refute it at one input. -/
def fnNamedGamesExactWrong : ChangeSpec := { name := "fnNamedGamesExact", fn := fun _ => fun
  | [d] => { results := [.lit (.bool false)], args := [d] }
  | _ => none }
def FnNamedGamesExactWrongFalsely : Prop := fnNamedGamesExactRow.holds Trym.pinned (OpenSpec.ofChange fnNamedGamesExactWrong)

/-- 'zzlaws_internal_runtimes_b1.FnNamedGamesConcat': WHATEVER THE INPUT: true; the input reads as it did. -/
def fnNamedGamesConcatSpec : ChangeSpec := { name := "fnNamedGamesConcat", fn := fun _ => fun
  | [d1, d2] => { results := [.lit (.bool true)], args := [d1, d2] }
  | _ => none }
def fnNamedGamesConcatRow : OpenClaim := { program := "qxb6600235amods", sum := "5297f049ea80a774f126e93ba719cba07d41cbd67ee836fbe87f56509dae5e0c", func := "example.com/nestor/nestor/zzlaws_internal_runtimes_b1.FnNamedGamesConcat", spec := "fnNamedGamesConcat", make := .lifted ["publicsums"], apart := false }
def FnNamedGamesConcatSaid : Prop := fnNamedGamesConcatRow.holds Trym.pinned (OpenSpec.ofChange fnNamedGamesConcatSpec)

/-- ITS FALSE NEIGHBOUR: 'it returns false'. Refute it at one input. -/
def fnNamedGamesConcatWrong : ChangeSpec := { name := "fnNamedGamesConcat", fn := fun _ => fun
  | [d1, d2] => { results := [.lit (.bool false)], args := [d1, d2] }
  | _ => none }
def FnNamedGamesConcatWrongFalsely : Prop := fnNamedGamesConcatRow.holds Trym.pinned (OpenSpec.ofChange fnNamedGamesConcatWrong)

/-- 'zzlaws_internal_runtimes_b1.FnActiveStatsExact': WHATEVER THE INPUT: true; the input reads as it did. -/
def fnActiveStatsExactSpec : ChangeSpec := { name := "fnActiveStatsExact", fn := fun _ => fun
  | [d1, d2] => { results := [.lit (.bool true)], args := [d1, d2] }
  | _ => none }
def fnActiveStatsExactRow : OpenClaim := { program := "qxb6600235amods", sum := "5297f049ea80a774f126e93ba719cba07d41cbd67ee836fbe87f56509dae5e0c", func := "example.com/nestor/nestor/zzlaws_internal_runtimes_b1.FnActiveStatsExact", spec := "fnActiveStatsExact", make := .lifted ["publicsums"], apart := false }
def FnActiveStatsExactSaid : Prop := fnActiveStatsExactRow.holds Trym.pinned (OpenSpec.ofChange fnActiveStatsExactSpec)

/-- ITS FALSE NEIGHBOUR: 'it returns false'. Refute it at one input. -/
def fnActiveStatsExactWrong : ChangeSpec := { name := "fnActiveStatsExact", fn := fun _ => fun
  | [d1, d2] => { results := [.lit (.bool false)], args := [d1, d2] }
  | _ => none }
def FnActiveStatsExactWrongFalsely : Prop := fnActiveStatsExactRow.holds Trym.pinned (OpenSpec.ofChange fnActiveStatsExactWrong)

/-- 'zzlaws_internal_runtimes_b1.FnActiveStatsSplitPlayers': WHATEVER THE INPUT: true; the input reads as it did. -/
def fnActiveStatsSplitPlayersSpec : ChangeSpec := { name := "fnActiveStatsSplitPlayers", fn := fun _ => fun
  | [d1, d2, d3] => { results := [.lit (.bool true)], args := [d1, d2, d3] }
  | _ => none }
def fnActiveStatsSplitPlayersRow : OpenClaim := { program := "qxb6600235amods", sum := "5297f049ea80a774f126e93ba719cba07d41cbd67ee836fbe87f56509dae5e0c", func := "example.com/nestor/nestor/zzlaws_internal_runtimes_b1.FnActiveStatsSplitPlayers", spec := "fnActiveStatsSplitPlayers", make := .lifted ["publicsums"], apart := false }
def FnActiveStatsSplitPlayersSaid : Prop := fnActiveStatsSplitPlayersRow.holds Trym.pinned (OpenSpec.ofChange fnActiveStatsSplitPlayersSpec)

/-- ITS FALSE NEIGHBOUR: 'it returns false'. Refute it at one input. -/
def fnActiveStatsSplitPlayersWrong : ChangeSpec := { name := "fnActiveStatsSplitPlayers", fn := fun _ => fun
  | [d1, d2, d3] => { results := [.lit (.bool false)], args := [d1, d2, d3] }
  | _ => none }
def FnActiveStatsSplitPlayersWrongFalsely : Prop := fnActiveStatsSplitPlayersRow.holds Trym.pinned (OpenSpec.ofChange fnActiveStatsSplitPlayersWrong)

/-- 'zzlaws_internal_runtimes_b1.FnActiveStatsEngineOrderFree': WHATEVER THE INPUT: true; the input reads as it did. -/
def fnActiveStatsEngineOrderFreeSpec : ChangeSpec := { name := "fnActiveStatsEngineOrderFree", fn := fun _ => fun
  | [d1, d2] => { results := [.lit (.bool true)], args := [d1, d2] }
  | _ => none }
def fnActiveStatsEngineOrderFreeRow : OpenClaim := { program := "qxb6600235amods", sum := "5297f049ea80a774f126e93ba719cba07d41cbd67ee836fbe87f56509dae5e0c", func := "example.com/nestor/nestor/zzlaws_internal_runtimes_b1.FnActiveStatsEngineOrderFree", spec := "fnActiveStatsEngineOrderFree", make := .lifted ["publicsums"], apart := false }
def FnActiveStatsEngineOrderFreeSaid : Prop := fnActiveStatsEngineOrderFreeRow.holds Trym.pinned (OpenSpec.ofChange fnActiveStatsEngineOrderFreeSpec)

/-- ITS FALSE NEIGHBOUR: 'it returns false'. Refute it at one input. -/
def fnActiveStatsEngineOrderFreeWrong : ChangeSpec := { name := "fnActiveStatsEngineOrderFree", fn := fun _ => fun
  | [d1, d2] => { results := [.lit (.bool false)], args := [d1, d2] }
  | _ => none }
def FnActiveStatsEngineOrderFreeWrongFalsely : Prop := fnActiveStatsEngineOrderFreeRow.holds Trym.pinned (OpenSpec.ofChange fnActiveStatsEngineOrderFreeWrong)

end Rows
end Go.Proofs.Qxb6600235aMods
