/-
  No cell of these rows narrows 'for every input' (looked for: loops, veiled, ifaces, maps, wideKeys, modest, calm, conditions, laid).
  DERIVED. THE GIVEN ROWS OF THIS SEAT. 2 by the template 'for every input the law returns true; each argument reads behind the call as it read before'; 0 by the template 'total and deterministic' (their statements: Qxb6604700aTotals.lean).
  GIVEN WITH THE SEED: the statements are not yours to turn. If you find one false, say at which input.
  Laid BY PROGRAM, IN A SANDBOX (cutbox-rows.mjs): the forced cells as the released guide's own fill.sh prints them over the translation 0695bbc800b25f38… (all of the seat's roots in one cut). By AI agents, Wed Nov 11 2026. No macro, syntax, notation, axiom, sorry.
-/
import Derived.Test.Qxb6604700aChecked
import GoSem.Claim
import GoSem.ClaimJoined
import GoSem.ClaimMapViews
import Derived.JoinedTies
import Derived.KernelRfl
namespace Go.Proofs.Qxb6604700a
/- THE CELL 'sum', in the pinned program and in every row, IS THE sha256 OF THE DUMP (.gsa) THAT Qxb6604700aProg.lean LOADS. Nothing in Lean hashes anything: it is a label: what it is worth is what the hold of that sum in a sandbox is worth. -/
noncomputable def Try.pinned : Pinned := { name := "qxb6604700a", sum := "0695bbc800b25f38a30d9e7812ce90f988bb441370031a3dce2e914e7820d0c9", checked := Try.checked }
namespace Rows
def none {H : Type} : Left H := { results := [], args := [] }

/-- 'zzlaws_urlpattern_b1.FnValueIsOnlyForItsOneByte': WHATEVER THE INPUT: true; the input reads as it did. -/
def fnValueIsOnlyForItsOneByteSpec : ChangeSpec := { name := "fnValueIsOnlyForItsOneByte", fn := fun _ => fun
  | [d1, d2, d3, d4, d5] => { results := [.lit (.bool true)], args := [d1, d2, d3, d4, d5] }
  | _ => none }
def fnValueIsOnlyForItsOneByteRow : OpenClaim := { program := "qxb6604700a", sum := "0695bbc800b25f38a30d9e7812ce90f988bb441370031a3dce2e914e7820d0c9", func := "example.com/mopal/mopal/zzlaws_urlpattern_b1.FnValueIsOnlyForItsOneByte", spec := "fnValueIsOnlyForItsOneByte", apart := false }
def FnValueIsOnlyForItsOneByteSaid : Prop := fnValueIsOnlyForItsOneByteRow.holds Try.pinned (OpenSpec.ofChange fnValueIsOnlyForItsOneByteSpec)

/-- ITS FALSE NEIGHBOUR: 'it returns false'. Refute it at one input. -/
def fnValueIsOnlyForItsOneByteWrong : ChangeSpec := { name := "fnValueIsOnlyForItsOneByte", fn := fun _ => fun
  | [d1, d2, d3, d4, d5] => { results := [.lit (.bool false)], args := [d1, d2, d3, d4, d5] }
  | _ => none }
def FnValueIsOnlyForItsOneByteWrongFalsely : Prop := fnValueIsOnlyForItsOneByteRow.holds Try.pinned (OpenSpec.ofChange fnValueIsOnlyForItsOneByteWrong)

/-- 'zzlaws_urlpattern_b1.FnChangeStateExact': WHATEVER THE INPUT: true; the input reads as it did. -/
def fnChangeStateExactSpec : ChangeSpec := { name := "fnChangeStateExact", fn := fun _ => fun
  | [d1, d2, d3] => { results := [.lit (.bool true)], args := [d1, d2, d3] }
  | _ => none }
def fnChangeStateExactRow : OpenClaim := { program := "qxb6604700a", sum := "0695bbc800b25f38a30d9e7812ce90f988bb441370031a3dce2e914e7820d0c9", func := "example.com/mopal/mopal/zzlaws_urlpattern_b1.FnChangeStateExact", spec := "fnChangeStateExact", apart := false }
def FnChangeStateExactSaid : Prop := fnChangeStateExactRow.holds Try.pinned (OpenSpec.ofChange fnChangeStateExactSpec)

/-- ITS FALSE NEIGHBOUR: 'it returns false'. Refute it at one input. -/
def fnChangeStateExactWrong : ChangeSpec := { name := "fnChangeStateExact", fn := fun _ => fun
  | [d1, d2, d3] => { results := [.lit (.bool false)], args := [d1, d2, d3] }
  | _ => none }
def FnChangeStateExactWrongFalsely : Prop := fnChangeStateExactRow.holds Try.pinned (OpenSpec.ofChange fnChangeStateExactWrong)

end Rows
end Go.Proofs.Qxb6604700a
