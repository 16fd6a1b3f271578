/-
  No cell of these rows narrows 'for every input' (looked for: loops, veiled, ifaces, maps, wideKeys, modest, calm, conditions, laid).
  DERIVED. THE GIVEN ROWS OF THIS SEAT. 3 by the template 'for every input the law returns true; each argument reads behind the call as it read before'; 0 by the template 'total and deterministic' (their statements: Qxb6604703aTotals.lean).
  GIVEN WITH THE SEED: the statements are not yours to turn. If you find one false, say at which input.
  Laid BY PROGRAM, IN A SANDBOX (cutbox-rows.mjs): the forced cells as the released guide's own fill.sh prints them over the translation 95eea96fd60f97a5… (all of the seat's roots in one cut). By AI agents, Wed Nov 11 2026. No macro, syntax, notation, axiom, sorry.
-/
import Derived.Test.Qxb6604703aChecked
import GoSem.Claim
import GoSem.ClaimJoined
import GoSem.ClaimMapViews
import Derived.JoinedTies
import Derived.KernelRfl
namespace Go.Proofs.Qxb6604703a
/- THE CELL 'sum', in the pinned program and in every row, IS THE sha256 OF THE DUMP (.gsa) THAT Qxb6604703aProg.lean LOADS. Nothing in Lean hashes anything: it is a label: what it is worth is what the hold of that sum in a sandbox is worth. -/
noncomputable def Try.pinned : Pinned := { name := "qxb6604703a", sum := "95eea96fd60f97a516dec63466597ca3fb27c762ae267d3a74ce9c9de16deb15", checked := Try.checked }
namespace Rows
def none {H : Type} : Left H := { results := [], args := [] }

/-- 'zzlaws_internal_ackvec_b1.FnAppendOptionsMatchesModel': WHATEVER THE INPUT: true; the input reads as it did. -/
def fnAppendOptionsMatchesModelSpec : ChangeSpec := { name := "fnAppendOptionsMatchesModel", fn := fun _ => fun
  | [d1, d2, d3, d4, d5, d6, d7, d8, d9, d10] => { results := [.lit (.bool true)], args := [d1, d2, d3, d4, d5, d6, d7, d8, d9, d10] }
  | _ => none }
def fnAppendOptionsMatchesModelRow : OpenClaim := { program := "qxb6604703a", sum := "95eea96fd60f97a516dec63466597ca3fb27c762ae267d3a74ce9c9de16deb15", func := "example.com/cadencewire/cadencewire/zzlaws_internal_ackvec_b1.FnAppendOptionsMatchesModel", spec := "fnAppendOptionsMatchesModel", apart := false }
def FnAppendOptionsMatchesModelSaid : Prop := fnAppendOptionsMatchesModelRow.holds Try.pinned (OpenSpec.ofChange fnAppendOptionsMatchesModelSpec)

/-- ITS FALSE NEIGHBOUR: 'it returns false'. Refute it at one input. -/
def fnAppendOptionsMatchesModelWrong : ChangeSpec := { name := "fnAppendOptionsMatchesModel", fn := fun _ => fun
  | [d1, d2, d3, d4, d5, d6, d7, d8, d9, d10] => { results := [.lit (.bool false)], args := [d1, d2, d3, d4, d5, d6, d7, d8, d9, d10] }
  | _ => none }
def FnAppendOptionsMatchesModelWrongFalsely : Prop := fnAppendOptionsMatchesModelRow.holds Try.pinned (OpenSpec.ofChange fnAppendOptionsMatchesModelWrong)

/-- 'zzlaws_internal_ackvec_b1.FnAppendOptionsFitsRoomAndIsVectorSortsIt': WHATEVER THE INPUT: true; the input reads as it did. -/
def fnAppendOptionsFitsRoomAndIsVectorSortsItSpec : ChangeSpec := { name := "fnAppendOptionsFitsRoomAndIsVectorSortsIt", fn := fun _ => fun
  | [d1, d2, d3, d4, d5, d6, d7, d8, d9, d10] => { results := [.lit (.bool true)], args := [d1, d2, d3, d4, d5, d6, d7, d8, d9, d10] }
  | _ => none }
def fnAppendOptionsFitsRoomAndIsVectorSortsItRow : OpenClaim := { program := "qxb6604703a", sum := "95eea96fd60f97a516dec63466597ca3fb27c762ae267d3a74ce9c9de16deb15", func := "example.com/cadencewire/cadencewire/zzlaws_internal_ackvec_b1.FnAppendOptionsFitsRoomAndIsVectorSortsIt", spec := "fnAppendOptionsFitsRoomAndIsVectorSortsIt", apart := false }
def FnAppendOptionsFitsRoomAndIsVectorSortsItSaid : Prop := fnAppendOptionsFitsRoomAndIsVectorSortsItRow.holds Try.pinned (OpenSpec.ofChange fnAppendOptionsFitsRoomAndIsVectorSortsItSpec)

/-- ITS FALSE NEIGHBOUR: 'it returns false'. Refute it at one input. -/
def fnAppendOptionsFitsRoomAndIsVectorSortsItWrong : ChangeSpec := { name := "fnAppendOptionsFitsRoomAndIsVectorSortsIt", fn := fun _ => fun
  | [d1, d2, d3, d4, d5, d6, d7, d8, d9, d10] => { results := [.lit (.bool false)], args := [d1, d2, d3, d4, d5, d6, d7, d8, d9, d10] }
  | _ => none }
def FnAppendOptionsFitsRoomAndIsVectorSortsItWrongFalsely : Prop := fnAppendOptionsFitsRoomAndIsVectorSortsItRow.holds Try.pinned (OpenSpec.ofChange fnAppendOptionsFitsRoomAndIsVectorSortsItWrong)

/-- 'zzlaws_internal_ackvec_b1.FnRunReceivedAgreesWithVectorCells': WHATEVER THE INPUT: true; the input reads as it did. -/
def fnRunReceivedAgreesWithVectorCellsSpec : ChangeSpec := { name := "fnRunReceivedAgreesWithVectorCells", fn := fun _ => fun
  | [d1, d2, d3, d4, d5, d6, d7, d8, d9, d10] => { results := [.lit (.bool true)], args := [d1, d2, d3, d4, d5, d6, d7, d8, d9, d10] }
  | _ => none }
def fnRunReceivedAgreesWithVectorCellsRow : OpenClaim := { program := "qxb6604703a", sum := "95eea96fd60f97a516dec63466597ca3fb27c762ae267d3a74ce9c9de16deb15", func := "example.com/cadencewire/cadencewire/zzlaws_internal_ackvec_b1.FnRunReceivedAgreesWithVectorCells", spec := "fnRunReceivedAgreesWithVectorCells", apart := false }
def FnRunReceivedAgreesWithVectorCellsSaid : Prop := fnRunReceivedAgreesWithVectorCellsRow.holds Try.pinned (OpenSpec.ofChange fnRunReceivedAgreesWithVectorCellsSpec)

/-- ITS FALSE NEIGHBOUR: 'it returns false'. Refute it at one input. -/
def fnRunReceivedAgreesWithVectorCellsWrong : ChangeSpec := { name := "fnRunReceivedAgreesWithVectorCells", fn := fun _ => fun
  | [d1, d2, d3, d4, d5, d6, d7, d8, d9, d10] => { results := [.lit (.bool false)], args := [d1, d2, d3, d4, d5, d6, d7, d8, d9, d10] }
  | _ => none }
def FnRunReceivedAgreesWithVectorCellsWrongFalsely : Prop := fnRunReceivedAgreesWithVectorCellsRow.holds Try.pinned (OpenSpec.ofChange fnRunReceivedAgreesWithVectorCellsWrong)

end Rows
end Go.Proofs.Qxb6604703a
