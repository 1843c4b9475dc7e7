/-
  No cell of these rows narrows 'for every input' (looked for: loops, veiled, ifaces, maps, wideKeys, modest, calm, conditions, laid).
  DERIVED. THE GIVEN ROWS OF THIS SEAT. 2 by the template 'for every input the law returns true; each argument reads behind the call as it read before'; 0 by the template 'total and deterministic' (their statements: Qxb6630262aTotals.lean).
  GIVEN WITH THE SEED: the statements are not yours to turn. If you find one false, say at which input.
  Laid BY PROGRAM, IN A SANDBOX (cutbox-rows.mjs): the forced cells as the released guide's own fill.sh prints them over the translation e1aea5b740010079… (all of the seat's roots in one cut). By AI agents, Wed Nov 11 2026. No macro, syntax, notation, axiom, sorry.
-/
import Derived.Test.Qxb6630262aChecked
import GoSem.Claim
import GoSem.ClaimJoined
import GoSem.ClaimMapViews
import Derived.JoinedTies
import Derived.KernelRfl
namespace Go.Proofs.Qxb6630262a
/- THE CELL 'sum', in the pinned program and in every row, IS THE sha256 OF THE DUMP (.gsa) THAT Qxb6630262aProg.lean LOADS. Nothing in Lean hashes anything: it is a label: what it is worth is what the hold of that sum in a sandbox is worth. -/
noncomputable def Try.pinned : Pinned := { name := "qxb6630262a", sum := "e1aea5b740010079859dd546a015f246362fe074909a99c97a9ece55ac60eac7", checked := Try.checked }
namespace Rows
def none {H : Type} : Left H := { results := [], args := [] }

/-- 'zzlaws_internal_agent_b1.FnHealthIsCountOfThresholdsReachedAndShiftFree': WHATEVER THE INPUT: true; the input reads as it did. -/
def fnHealthIsCountOfThresholdsReachedAndShiftFreeSpec : ChangeSpec := { name := "fnHealthIsCountOfThresholdsReachedAndShiftFree", fn := fun _ => fun
  | [d1, d2, d3, d4, d5, d6] => { results := [.lit (.bool true)], args := [d1, d2, d3, d4, d5, d6] }
  | _ => none }
def fnHealthIsCountOfThresholdsReachedAndShiftFreeRow : OpenClaim := { program := "qxb6630262a", sum := "e1aea5b740010079859dd546a015f246362fe074909a99c97a9ece55ac60eac7", func := "example.com/watchkeep/watchkeep/zzlaws_internal_agent_b1.FnHealthIsCountOfThresholdsReachedAndShiftFree", spec := "fnHealthIsCountOfThresholdsReachedAndShiftFree", apart := false }
def FnHealthIsCountOfThresholdsReachedAndShiftFreeSaid : Prop := fnHealthIsCountOfThresholdsReachedAndShiftFreeRow.holds Try.pinned (OpenSpec.ofChange fnHealthIsCountOfThresholdsReachedAndShiftFreeSpec)

/-- ITS FALSE NEIGHBOUR: 'it returns false'. Refute it at one input. -/
def fnHealthIsCountOfThresholdsReachedAndShiftFreeWrong : ChangeSpec := { name := "fnHealthIsCountOfThresholdsReachedAndShiftFree", fn := fun _ => fun
  | [d1, d2, d3, d4, d5, d6] => { results := [.lit (.bool false)], args := [d1, d2, d3, d4, d5, d6] }
  | _ => none }
def FnHealthIsCountOfThresholdsReachedAndShiftFreeWrongFalsely : Prop := fnHealthIsCountOfThresholdsReachedAndShiftFreeRow.holds Try.pinned (OpenSpec.ofChange fnHealthIsCountOfThresholdsReachedAndShiftFreeWrong)

/-- 'zzlaws_internal_agent_b1.FnHealthStepsExactlyAtEachThreshold': WHATEVER THE INPUT: true; the input reads as it did. -/
def fnHealthStepsExactlyAtEachThresholdSpec : ChangeSpec := { name := "fnHealthStepsExactlyAtEachThreshold", fn := fun _ => fun
  | [d1, d2, d3, d4, d5] => { results := [.lit (.bool true)], args := [d1, d2, d3, d4, d5] }
  | _ => none }
def fnHealthStepsExactlyAtEachThresholdRow : OpenClaim := { program := "qxb6630262a", sum := "e1aea5b740010079859dd546a015f246362fe074909a99c97a9ece55ac60eac7", func := "example.com/watchkeep/watchkeep/zzlaws_internal_agent_b1.FnHealthStepsExactlyAtEachThreshold", spec := "fnHealthStepsExactlyAtEachThreshold", apart := false }
def FnHealthStepsExactlyAtEachThresholdSaid : Prop := fnHealthStepsExactlyAtEachThresholdRow.holds Try.pinned (OpenSpec.ofChange fnHealthStepsExactlyAtEachThresholdSpec)

/-- ITS FALSE NEIGHBOUR: 'it returns false'. Refute it at one input. -/
def fnHealthStepsExactlyAtEachThresholdWrong : ChangeSpec := { name := "fnHealthStepsExactlyAtEachThreshold", fn := fun _ => fun
  | [d1, d2, d3, d4, d5] => { results := [.lit (.bool false)], args := [d1, d2, d3, d4, d5] }
  | _ => none }
def FnHealthStepsExactlyAtEachThresholdWrongFalsely : Prop := fnHealthStepsExactlyAtEachThresholdRow.holds Try.pinned (OpenSpec.ofChange fnHealthStepsExactlyAtEachThresholdWrong)

end Rows
end Go.Proofs.Qxb6630262a
