/-
  No cell of these rows narrows 'for every input' (looked for: loops, veiled, ifaces, maps, wideKeys, modest, calm, conditions, laid).
  DERIVED. THE GIVEN ROWS OF THIS SEAT. 2 by the template 'for every input the law returns true; each argument reads behind the call as it read before'; 0 by the template 'total and deterministic' (their statements: Qxb6630138aTotals.lean).
  GIVEN WITH THE SEED: the statements are not yours to turn. If you find one false, say at which input.
  Laid BY PROGRAM, IN A SANDBOX (cutbox-rows.mjs): the forced cells as the released guide's own fill.sh prints them over the translation bc09718137bf30ca… (all of the seat's roots in one cut). By AI agents, Wed Nov 11 2026. No macro, syntax, notation, axiom, sorry.
-/
import Derived.Test.Qxb6630138aChecked
import GoSem.Claim
import GoSem.ClaimJoined
import GoSem.ClaimMapViews
import Derived.JoinedTies
import Derived.KernelRfl
namespace Go.Proofs.Qxb6630138a
/- THE CELL 'sum', in the pinned program and in every row, IS THE sha256 OF THE DUMP (.gsa) THAT Qxb6630138aProg.lean LOADS. Nothing in Lean hashes anything: it is a label: what it is worth is what the hold of that sum in a sandbox is worth. -/
noncomputable def Try.pinned : Pinned := { name := "qxb6630138a", sum := "bc09718137bf30ca8184107185c997391c2a0bff20e2488953d0362d7320d11e", checked := Try.checked }
namespace Rows
def none {H : Type} : Left H := { results := [], args := [] }

/-- 'zzlaws_pkg_shortid_b1.FnIsNameMatchesPieceModel': WHATEVER THE INPUT: true; the input reads as it did. -/
def fnIsNameMatchesPieceModelSpec : ChangeSpec := { name := "fnIsNameMatchesPieceModel", fn := fun _ => fun
  | [d] => { results := [.lit (.bool true)], args := [d] }
  | _ => none }
def fnIsNameMatchesPieceModelRow : OpenClaim := { program := "qxb6630138a", sum := "bc09718137bf30ca8184107185c997391c2a0bff20e2488953d0362d7320d11e", func := "example.com/inquiry-to-verdict/inquiry-to-verdict/zzlaws_pkg_shortid_b1.FnIsNameMatchesPieceModel", spec := "fnIsNameMatchesPieceModel", apart := false }
def FnIsNameMatchesPieceModelSaid : Prop := fnIsNameMatchesPieceModelRow.holds Try.pinned (OpenSpec.ofChange fnIsNameMatchesPieceModelSpec)

/-- ITS FALSE NEIGHBOUR: 'it returns false'. Refute it at one input. -/
def fnIsNameMatchesPieceModelWrong : ChangeSpec := { name := "fnIsNameMatchesPieceModel", fn := fun _ => fun
  | [d] => { results := [.lit (.bool false)], args := [d] }
  | _ => none }
def FnIsNameMatchesPieceModelWrongFalsely : Prop := fnIsNameMatchesPieceModelRow.holds Try.pinned (OpenSpec.ofChange fnIsNameMatchesPieceModelWrong)

/-- 'zzlaws_pkg_shortid_b1.FnIsNameCutAtAnyPlace': WHATEVER THE INPUT: true; the input reads as it did. -/
def fnIsNameCutAtAnyPlaceSpec : ChangeSpec := { name := "fnIsNameCutAtAnyPlace", fn := fun _ => fun
  | [d1, d2] => { results := [.lit (.bool true)], args := [d1, d2] }
  | _ => none }
def fnIsNameCutAtAnyPlaceRow : OpenClaim := { program := "qxb6630138a", sum := "bc09718137bf30ca8184107185c997391c2a0bff20e2488953d0362d7320d11e", func := "example.com/inquiry-to-verdict/inquiry-to-verdict/zzlaws_pkg_shortid_b1.FnIsNameCutAtAnyPlace", spec := "fnIsNameCutAtAnyPlace", apart := false }
def FnIsNameCutAtAnyPlaceSaid : Prop := fnIsNameCutAtAnyPlaceRow.holds Try.pinned (OpenSpec.ofChange fnIsNameCutAtAnyPlaceSpec)

/-- ITS FALSE NEIGHBOUR: 'it returns false'. Refute it at one input. -/
def fnIsNameCutAtAnyPlaceWrong : ChangeSpec := { name := "fnIsNameCutAtAnyPlace", fn := fun _ => fun
  | [d1, d2] => { results := [.lit (.bool false)], args := [d1, d2] }
  | _ => none }
def FnIsNameCutAtAnyPlaceWrongFalsely : Prop := fnIsNameCutAtAnyPlaceRow.holds Try.pinned (OpenSpec.ofChange fnIsNameCutAtAnyPlaceWrong)

end Rows
end Go.Proofs.Qxb6630138a
