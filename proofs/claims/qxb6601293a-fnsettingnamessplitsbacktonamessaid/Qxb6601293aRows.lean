/-
  No cell of these rows narrows 'for every input' (looked for: loops, veiled, ifaces, maps, wideKeys, modest, calm, conditions, laid).
  DERIVED. THE GIVEN ROWS OF THIS SEAT. 5 by the template 'for every input the law returns true; each argument reads behind the call as it read before'; 0 by the template 'total and deterministic' (their statements: Qxb6601293aTotals.lean).
  GIVEN WITH THE SEED: the statements are not yours to turn. If you find one false, say at which input.
  Laid BY PROGRAM, IN A SANDBOX (cutbox-rows.mjs): the forced cells as the released guide's own fill.sh prints them over the translation e1cedf8efdf43af1… (all of the seat's roots in one cut). By AI agents, Wed Nov 11 2026. No macro, syntax, notation, axiom, sorry.
-/
import Derived.Test.Qxb6601293aChecked
import GoSem.Claim
import GoSem.ClaimJoined
import GoSem.ClaimMapViews
import Derived.JoinedTies
import Derived.KernelRfl
namespace Go.Proofs.Qxb6601293a
/- THE CELL 'sum', in the pinned program and in every row, IS THE sha256 OF THE DUMP (.gsa) THAT Qxb6601293aProg.lean LOADS. Nothing in Lean hashes anything: it is a label: what it is worth is what the hold of that sum in a sandbox is worth. -/
noncomputable def Try.pinned : Pinned := { name := "qxb6601293a", sum := "e1cedf8efdf43af177cb2ceeab296650cb7c5316446ec8d83a70d44249d29b66", checked := Try.checked }
namespace Rows
def none {H : Type} : Left H := { results := [], args := [] }

/-- 'zzlaws_internal_experiment_b1.FnSettingNamesSplitsBackToNames': WHATEVER THE INPUT: true; the input reads as it did. -/
def fnSettingNamesSplitsBackToNamesSpec : ChangeSpec := { name := "fnSettingNamesSplitsBackToNames", fn := fun _ => fun
  | [d] => { results := [.lit (.bool true)], args := [d] }
  | _ => none }
def fnSettingNamesSplitsBackToNamesRow : OpenClaim := { program := "qxb6601293a", sum := "e1cedf8efdf43af177cb2ceeab296650cb7c5316446ec8d83a70d44249d29b66", func := "example.com/umbel/umbel/zzlaws_internal_experiment_b1.FnSettingNamesSplitsBackToNames", spec := "fnSettingNamesSplitsBackToNames", inPlace := ["internal/abi.NoEscape", "internal/bytealg.MakeNoZero"], apart := false }
def FnSettingNamesSplitsBackToNamesSaid : Prop := fnSettingNamesSplitsBackToNamesRow.holds Try.pinned (OpenSpec.ofChange fnSettingNamesSplitsBackToNamesSpec)

/-- ITS FALSE NEIGHBOUR: 'it returns false'. Refute it at one input. -/
def fnSettingNamesSplitsBackToNamesWrong : ChangeSpec := { name := "fnSettingNamesSplitsBackToNames", fn := fun _ => fun
  | [d] => { results := [.lit (.bool false)], args := [d] }
  | _ => none }
def FnSettingNamesSplitsBackToNamesWrongFalsely : Prop := fnSettingNamesSplitsBackToNamesRow.holds Try.pinned (OpenSpec.ofChange fnSettingNamesSplitsBackToNamesWrong)

/-- 'zzlaws_internal_experiment_b1.FnBetterIsStrictOrder': WHATEVER THE INPUT: true; the input reads as it did. -/
def fnBetterIsStrictOrderSpec : ChangeSpec := { name := "fnBetterIsStrictOrder", fn := fun _ => fun
  | [d1, d2, d3, d4, d5, d6, d7] => { results := [.lit (.bool true)], args := [d1, d2, d3, d4, d5, d6, d7] }
  | _ => none }
def fnBetterIsStrictOrderRow : OpenClaim := { program := "qxb6601293a", sum := "e1cedf8efdf43af177cb2ceeab296650cb7c5316446ec8d83a70d44249d29b66", func := "example.com/umbel/umbel/zzlaws_internal_experiment_b1.FnBetterIsStrictOrder", spec := "fnBetterIsStrictOrder", apart := false }
def FnBetterIsStrictOrderSaid : Prop := fnBetterIsStrictOrderRow.holds Try.pinned (OpenSpec.ofChange fnBetterIsStrictOrderSpec)

/-- ITS FALSE NEIGHBOUR: 'it returns false'. Refute it at one input. -/
def fnBetterIsStrictOrderWrong : ChangeSpec := { name := "fnBetterIsStrictOrder", fn := fun _ => fun
  | [d1, d2, d3, d4, d5, d6, d7] => { results := [.lit (.bool false)], args := [d1, d2, d3, d4, d5, d6, d7] }
  | _ => none }
def FnBetterIsStrictOrderWrongFalsely : Prop := fnBetterIsStrictOrderRow.holds Try.pinned (OpenSpec.ofChange fnBetterIsStrictOrderWrong)

/-- 'zzlaws_internal_experiment_b1.FnBetterMirrorsUnderOtherDirection': WHATEVER THE INPUT: true; the input reads as it did. -/
def fnBetterMirrorsUnderOtherDirectionSpec : ChangeSpec := { name := "fnBetterMirrorsUnderOtherDirection", fn := fun _ => fun
  | [d1, d2, d3, d4, d5, d6] => { results := [.lit (.bool true)], args := [d1, d2, d3, d4, d5, d6] }
  | _ => none }
def fnBetterMirrorsUnderOtherDirectionRow : OpenClaim := { program := "qxb6601293a", sum := "e1cedf8efdf43af177cb2ceeab296650cb7c5316446ec8d83a70d44249d29b66", func := "example.com/umbel/umbel/zzlaws_internal_experiment_b1.FnBetterMirrorsUnderOtherDirection", spec := "fnBetterMirrorsUnderOtherDirection", apart := false }
def FnBetterMirrorsUnderOtherDirectionSaid : Prop := fnBetterMirrorsUnderOtherDirectionRow.holds Try.pinned (OpenSpec.ofChange fnBetterMirrorsUnderOtherDirectionSpec)

/-- ITS FALSE NEIGHBOUR: 'it returns false'. Refute it at one input. -/
def fnBetterMirrorsUnderOtherDirectionWrong : ChangeSpec := { name := "fnBetterMirrorsUnderOtherDirection", fn := fun _ => fun
  | [d1, d2, d3, d4, d5, d6] => { results := [.lit (.bool false)], args := [d1, d2, d3, d4, d5, d6] }
  | _ => none }
def FnBetterMirrorsUnderOtherDirectionWrongFalsely : Prop := fnBetterMirrorsUnderOtherDirectionRow.holds Try.pinned (OpenSpec.ofChange fnBetterMirrorsUnderOtherDirectionWrong)

/-- 'zzlaws_internal_experiment_b1.FnReachedAgreesWithNotBetterThanGoal': WHATEVER THE INPUT: true; the input reads as it did. -/
def fnReachedAgreesWithNotBetterThanGoalSpec : ChangeSpec := { name := "fnReachedAgreesWithNotBetterThanGoal", fn := fun _ => fun
  | [d1, d2, d3, d4, d5] => { results := [.lit (.bool true)], args := [d1, d2, d3, d4, d5] }
  | _ => none }
def fnReachedAgreesWithNotBetterThanGoalRow : OpenClaim := { program := "qxb6601293a", sum := "e1cedf8efdf43af177cb2ceeab296650cb7c5316446ec8d83a70d44249d29b66", func := "example.com/umbel/umbel/zzlaws_internal_experiment_b1.FnReachedAgreesWithNotBetterThanGoal", spec := "fnReachedAgreesWithNotBetterThanGoal", apart := false }
def FnReachedAgreesWithNotBetterThanGoalSaid : Prop := fnReachedAgreesWithNotBetterThanGoalRow.holds Try.pinned (OpenSpec.ofChange fnReachedAgreesWithNotBetterThanGoalSpec)

/-- ITS FALSE NEIGHBOUR: 'it returns false'. Refute it at one input. -/
def fnReachedAgreesWithNotBetterThanGoalWrong : ChangeSpec := { name := "fnReachedAgreesWithNotBetterThanGoal", fn := fun _ => fun
  | [d1, d2, d3, d4, d5] => { results := [.lit (.bool false)], args := [d1, d2, d3, d4, d5] }
  | _ => none }
def FnReachedAgreesWithNotBetterThanGoalWrongFalsely : Prop := fnReachedAgreesWithNotBetterThanGoalRow.holds Try.pinned (OpenSpec.ofChange fnReachedAgreesWithNotBetterThanGoalWrong)

/-- 'zzlaws_internal_experiment_b1.FnReachedIsKeptByBetterValues': WHATEVER THE INPUT: true; the input reads as it did. -/
def fnReachedIsKeptByBetterValuesSpec : ChangeSpec := { name := "fnReachedIsKeptByBetterValues", fn := fun _ => fun
  | [d1, d2, d3, d4, d5, d6] => { results := [.lit (.bool true)], args := [d1, d2, d3, d4, d5, d6] }
  | _ => none }
def fnReachedIsKeptByBetterValuesRow : OpenClaim := { program := "qxb6601293a", sum := "e1cedf8efdf43af177cb2ceeab296650cb7c5316446ec8d83a70d44249d29b66", func := "example.com/umbel/umbel/zzlaws_internal_experiment_b1.FnReachedIsKeptByBetterValues", spec := "fnReachedIsKeptByBetterValues", apart := false }
def FnReachedIsKeptByBetterValuesSaid : Prop := fnReachedIsKeptByBetterValuesRow.holds Try.pinned (OpenSpec.ofChange fnReachedIsKeptByBetterValuesSpec)

/-- ITS FALSE NEIGHBOUR: 'it returns false'. Refute it at one input. -/
def fnReachedIsKeptByBetterValuesWrong : ChangeSpec := { name := "fnReachedIsKeptByBetterValues", fn := fun _ => fun
  | [d1, d2, d3, d4, d5, d6] => { results := [.lit (.bool false)], args := [d1, d2, d3, d4, d5, d6] }
  | _ => none }
def FnReachedIsKeptByBetterValuesWrongFalsely : Prop := fnReachedIsKeptByBetterValuesRow.holds Try.pinned (OpenSpec.ofChange fnReachedIsKeptByBetterValuesWrong)

end Rows
end Go.Proofs.Qxb6601293a
