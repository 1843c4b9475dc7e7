/-
  No cell of these rows narrows 'for every input' (looked for: loops, veiled, ifaces, maps, wideKeys, modest, calm, conditions, laid).
  DERIVED. THE GIVEN ROWS OF THIS SEAT. 2 by the template 'for every input the law returns true; each argument reads behind the call as it read before'; 0 by the template 'total and deterministic' (their statements: Qxb6630217aTotals.lean).
  GIVEN WITH THE SEED: the statements are not yours to turn. If you find one false, say at which input.
  Laid BY PROGRAM, IN A SANDBOX (cutbox-rows.mjs): the forced cells as the released guide's own fill.sh prints them over the translation 8b64b8ab63f048d1… (all of the seat's roots in one cut). By AI agents, Wed Nov 11 2026. No macro, syntax, notation, axiom, sorry.
-/
import Derived.Test.Qxb6630217aChecked
import GoSem.Claim
import GoSem.ClaimJoined
import GoSem.ClaimMapViews
import Derived.JoinedTies
import Derived.KernelRfl
namespace Go.Proofs.Qxb6630217a
/- THE CELL 'sum', in the pinned program and in every row, IS THE sha256 OF THE DUMP (.gsa) THAT Qxb6630217aProg.lean LOADS. Nothing in Lean hashes anything: it is a label: what it is worth is what the hold of that sum in a sandbox is worth. -/
noncomputable def Try.pinned : Pinned := { name := "qxb6630217a", sum := "8b64b8ab63f048d166c9baafd0bcb2b7cd343c4a464ba8086b41bb341f278bde", checked := Try.checked }
namespace Rows
def none {H : Type} : Left H := { results := [], args := [] }

/-- 'zzlaws_internal_gitproto_b1.FnIsObjectIDOneByteAtAnyPlace': WHATEVER THE INPUT: true; the input reads as it did. -/
def fnIsObjectIDOneByteAtAnyPlaceSpec : ChangeSpec := { name := "fnIsObjectIDOneByteAtAnyPlace", fn := fun _ => fun
  | [d1, d2, d3] => { results := [.lit (.bool true)], args := [d1, d2, d3] }
  | _ => none }
def fnIsObjectIDOneByteAtAnyPlaceRow : OpenClaim := { program := "qxb6630217a", sum := "8b64b8ab63f048d166c9baafd0bcb2b7cd343c4a464ba8086b41bb341f278bde", func := "example.com/quorate/quorate/zzlaws_internal_gitproto_b1.FnIsObjectIDOneByteAtAnyPlace", spec := "fnIsObjectIDOneByteAtAnyPlace", apart := false }
def FnIsObjectIDOneByteAtAnyPlaceSaid : Prop := fnIsObjectIDOneByteAtAnyPlaceRow.holds Try.pinned (OpenSpec.ofChange fnIsObjectIDOneByteAtAnyPlaceSpec)

/-- ITS FALSE NEIGHBOUR: 'it returns false'. Refute it at one input. -/
def fnIsObjectIDOneByteAtAnyPlaceWrong : ChangeSpec := { name := "fnIsObjectIDOneByteAtAnyPlace", fn := fun _ => fun
  | [d1, d2, d3] => { results := [.lit (.bool false)], args := [d1, d2, d3] }
  | _ => none }
def FnIsObjectIDOneByteAtAnyPlaceWrongFalsely : Prop := fnIsObjectIDOneByteAtAnyPlaceRow.holds Try.pinned (OpenSpec.ofChange fnIsObjectIDOneByteAtAnyPlaceWrong)

/-- 'zzlaws_internal_gitproto_b1.FnIsObjectIDSplitsAtAnyCut': WHATEVER THE INPUT: true; the input reads as it did. -/
def fnIsObjectIDSplitsAtAnyCutSpec : ChangeSpec := { name := "fnIsObjectIDSplitsAtAnyCut", fn := fun _ => fun
  | [d1, d2] => { results := [.lit (.bool true)], args := [d1, d2] }
  | _ => none }
def fnIsObjectIDSplitsAtAnyCutRow : OpenClaim := { program := "qxb6630217a", sum := "8b64b8ab63f048d166c9baafd0bcb2b7cd343c4a464ba8086b41bb341f278bde", func := "example.com/quorate/quorate/zzlaws_internal_gitproto_b1.FnIsObjectIDSplitsAtAnyCut", spec := "fnIsObjectIDSplitsAtAnyCut", apart := false }
def FnIsObjectIDSplitsAtAnyCutSaid : Prop := fnIsObjectIDSplitsAtAnyCutRow.holds Try.pinned (OpenSpec.ofChange fnIsObjectIDSplitsAtAnyCutSpec)

/-- ITS FALSE NEIGHBOUR: 'it returns false'. Refute it at one input. -/
def fnIsObjectIDSplitsAtAnyCutWrong : ChangeSpec := { name := "fnIsObjectIDSplitsAtAnyCut", fn := fun _ => fun
  | [d1, d2] => { results := [.lit (.bool false)], args := [d1, d2] }
  | _ => none }
def FnIsObjectIDSplitsAtAnyCutWrongFalsely : Prop := fnIsObjectIDSplitsAtAnyCutRow.holds Try.pinned (OpenSpec.ofChange fnIsObjectIDSplitsAtAnyCutWrong)

end Rows
end Go.Proofs.Qxb6630217a
