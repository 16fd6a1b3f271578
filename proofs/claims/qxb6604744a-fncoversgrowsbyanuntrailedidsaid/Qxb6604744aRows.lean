/-
  No cell of these rows narrows 'for every input' (looked for: loops, veiled, ifaces, maps, wideKeys, modest, calm, conditions, laid).
  DERIVED. THE GIVEN ROWS OF THIS SEAT. 1 by the template 'for every input the law returns true; each argument reads behind the call as it read before'; 0 by the template 'total and deterministic' (their statements: Qxb6604744aTotals.lean).
  GIVEN WITH THE SEED: the statements are not yours to turn. If you find one false, say at which input.
  Laid BY PROGRAM, IN A SANDBOX (cutbox-rows.mjs): the forced cells as the released guide's own fill.sh prints them over the translation 5045a75b21406294… (all of the seat's roots in one cut). By AI agents, Wed Nov 11 2026. No macro, syntax, notation, axiom, sorry.
-/
import Derived.Test.Qxb6604744aChecked
import GoSem.Claim
import GoSem.ClaimJoined
import GoSem.ClaimMapViews
import Derived.JoinedTies
import Derived.KernelRfl
namespace Go.Proofs.Qxb6604744a
/- THE CELL 'sum', in the pinned program and in every row, IS THE sha256 OF THE DUMP (.gsa) THAT Qxb6604744aProg.lean LOADS. Nothing in Lean hashes anything: it is a label: what it is worth is what the hold of that sum in a sandbox is worth. -/
noncomputable def Try.pinned : Pinned := { name := "qxb6604744a", sum := "5045a75b21406294d782fae9f7960e0155cbe4fdb30e68aba6cbaa047ee577f4", checked := Try.checked }
namespace Rows
def none {H : Type} : Left H := { results := [], args := [] }

/-- 'zzlaws_pkg_httpsig_b1.FnCoversGrowsByAnUntrailedId': WHATEVER THE INPUT: true; the input reads as it did. -/
def fnCoversGrowsByAnUntrailedIdSpec : ChangeSpec := { name := "fnCoversGrowsByAnUntrailedId", fn := fun _ => fun
  | [d1, d2, d3, d4, d5, d6] => { results := [.lit (.bool true)], args := [d1, d2, d3, d4, d5, d6] }
  | _ => none }
def fnCoversGrowsByAnUntrailedIdRow : OpenClaim := { program := "qxb6604744a", sum := "5045a75b21406294d782fae9f7960e0155cbe4fdb30e68aba6cbaa047ee577f4", func := "example.com/reattest/reattest/zzlaws_pkg_httpsig_b1.FnCoversGrowsByAnUntrailedId", spec := "fnCoversGrowsByAnUntrailedId", unfollowed := true, recurses := true, apart := false }
def FnCoversGrowsByAnUntrailedIdSaid : Prop := fnCoversGrowsByAnUntrailedIdRow.holds Try.pinned (OpenSpec.ofChange fnCoversGrowsByAnUntrailedIdSpec)

/-- ITS FALSE NEIGHBOUR: 'it returns false'. Refute it at one input. -/
def fnCoversGrowsByAnUntrailedIdWrong : ChangeSpec := { name := "fnCoversGrowsByAnUntrailedId", fn := fun _ => fun
  | [d1, d2, d3, d4, d5, d6] => { results := [.lit (.bool false)], args := [d1, d2, d3, d4, d5, d6] }
  | _ => none }
def FnCoversGrowsByAnUntrailedIdWrongFalsely : Prop := fnCoversGrowsByAnUntrailedIdRow.holds Try.pinned (OpenSpec.ofChange fnCoversGrowsByAnUntrailedIdWrong)

end Rows
end Go.Proofs.Qxb6604744a
