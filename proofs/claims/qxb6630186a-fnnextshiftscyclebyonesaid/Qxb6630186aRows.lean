/-
  No cell of these rows narrows 'for every input' (looked for: loops, veiled, ifaces, maps, wideKeys, modest, calm, conditions, laid).
  DERIVED. THE GIVEN ROWS OF THIS SEAT. 2 by the template 'for every input the law returns true; each argument reads behind the call as it read before'; 0 by the template 'total and deterministic' (their statements: Qxb6630186aTotals.lean).
  GIVEN WITH THE SEED: the statements are not yours to turn. If you find one false, say at which input.
  Laid BY PROGRAM, IN A SANDBOX (cutbox-rows.mjs): the forced cells as the released guide's own fill.sh prints them over the translation 7ee71c6613bd6bd6… (all of the seat's roots in one cut). By AI agents, Wed Nov 11 2026. No macro, syntax, notation, axiom, sorry.
-/
import Derived.Test.Qxb6630186aChecked
import GoSem.Claim
import GoSem.ClaimJoined
import GoSem.ClaimMapViews
import Derived.JoinedTies
import Derived.KernelRfl
namespace Go.Proofs.Qxb6630186a
/- THE CELL 'sum', in the pinned program and in every row, IS THE sha256 OF THE DUMP (.gsa) THAT Qxb6630186aProg.lean LOADS. Nothing in Lean hashes anything: it is a label: what it is worth is what the hold of that sum in a sandbox is worth. -/
noncomputable def Try.pinned : Pinned := { name := "qxb6630186a", sum := "7ee71c6613bd6bd6587ecb576c01b839ed610e991e2c7099eda918f45078513a", checked := Try.checked }
namespace Rows
def none {H : Type} : Left H := { results := [], args := [] }

/-- 'zzlaws_pkg_identity_b1.FnNextIteratedIsRotation': WHATEVER THE INPUT: true; the input reads as it did. -/
def fnNextIteratedIsRotationSpec : ChangeSpec := { name := "fnNextIteratedIsRotation", fn := fun _ => fun
  | [d1, d2] => { results := [.lit (.bool true)], args := [d1, d2] }
  | _ => none }
def fnNextIteratedIsRotationRow : OpenClaim := { program := "qxb6630186a", sum := "7ee71c6613bd6bd6587ecb576c01b839ed610e991e2c7099eda918f45078513a", func := "example.com/netstrand/netstrand/zzlaws_pkg_identity_b1.FnNextIteratedIsRotation", spec := "fnNextIteratedIsRotation", apart := false }
def FnNextIteratedIsRotationSaid : Prop := fnNextIteratedIsRotationRow.holds Try.pinned (OpenSpec.ofChange fnNextIteratedIsRotationSpec)

/-- ITS FALSE NEIGHBOUR: 'it returns false'. Refute it at one input. -/
def fnNextIteratedIsRotationWrong : ChangeSpec := { name := "fnNextIteratedIsRotation", fn := fun _ => fun
  | [d1, d2] => { results := [.lit (.bool false)], args := [d1, d2] }
  | _ => none }
def FnNextIteratedIsRotationWrongFalsely : Prop := fnNextIteratedIsRotationRow.holds Try.pinned (OpenSpec.ofChange fnNextIteratedIsRotationWrong)

/-- 'zzlaws_pkg_identity_b1.FnNextShiftsCycleByOne': WHATEVER THE INPUT: true; the input reads as it did. -/
def fnNextShiftsCycleByOneSpec : ChangeSpec := { name := "fnNextShiftsCycleByOne", fn := fun _ => fun
  | [d1, d2] => { results := [.lit (.bool true)], args := [d1, d2] }
  | _ => none }
def fnNextShiftsCycleByOneRow : OpenClaim := { program := "qxb6630186a", sum := "7ee71c6613bd6bd6587ecb576c01b839ed610e991e2c7099eda918f45078513a", func := "example.com/netstrand/netstrand/zzlaws_pkg_identity_b1.FnNextShiftsCycleByOne", spec := "fnNextShiftsCycleByOne", apart := false }
def FnNextShiftsCycleByOneSaid : Prop := fnNextShiftsCycleByOneRow.holds Try.pinned (OpenSpec.ofChange fnNextShiftsCycleByOneSpec)

/-- ITS FALSE NEIGHBOUR: 'it returns false'. Refute it at one input. -/
def fnNextShiftsCycleByOneWrong : ChangeSpec := { name := "fnNextShiftsCycleByOne", fn := fun _ => fun
  | [d1, d2] => { results := [.lit (.bool false)], args := [d1, d2] }
  | _ => none }
def FnNextShiftsCycleByOneWrongFalsely : Prop := fnNextShiftsCycleByOneRow.holds Try.pinned (OpenSpec.ofChange fnNextShiftsCycleByOneWrong)

end Rows
end Go.Proofs.Qxb6630186a
