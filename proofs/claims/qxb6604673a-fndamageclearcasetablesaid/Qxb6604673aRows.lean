/-
  No cell of these rows narrows 'for every input' (looked for: loops, veiled, ifaces, maps, wideKeys, modest, calm, conditions, laid).
  DERIVED. THE GIVEN ROWS OF THIS SEAT. 4 by the template 'for every input the law returns true; each argument reads behind the call as it read before'; 0 by the template 'total and deterministic' (their statements: Qxb6604673aTotals.lean).
  GIVEN WITH THE SEED: the statements are not yours to turn. If you find one false, say at which input.
  Laid BY PROGRAM, IN A SANDBOX (cutbox-rows.mjs): the forced cells as the released guide's own fill.sh prints them over the translation 8d08d3a00a231da1… (all of the seat's roots in one cut). By AI agents, Wed Nov 11 2026. No macro, syntax, notation, axiom, sorry.
-/
import Derived.Test.Qxb6604673aChecked
import GoSem.Claim
import GoSem.ClaimJoined
import GoSem.ClaimMapViews
import Derived.JoinedTies
import Derived.KernelRfl
namespace Go.Proofs.Qxb6604673a
/- THE CELL 'sum', in the pinned program and in every row, IS THE sha256 OF THE DUMP (.gsa) THAT Qxb6604673aProg.lean LOADS. Nothing in Lean hashes anything: it is a label: what it is worth is what the hold of that sum in a sandbox is worth. -/
noncomputable def Try.pinned : Pinned := { name := "qxb6604673a", sum := "8d08d3a00a231da10c974b0742e2fdca366c248ec6193d65aadd9300fd8de4db", checked := Try.checked }
namespace Rows
def none {H : Type} : Left H := { results := [], args := [] }

/-- 'zzlaws_store_b1.FnDamageClearCaseTable': WHATEVER THE INPUT: true; the input reads as it did. -/
def fnDamageClearCaseTableSpec : ChangeSpec := { name := "fnDamageClearCaseTable", fn := fun _ => fun
  | [d1, d2, d3, d4, d5, d6, d7, d8, d9] => { results := [.lit (.bool true)], args := [d1, d2, d3, d4, d5, d6, d7, d8, d9] }
  | _ => none }
def fnDamageClearCaseTableRow : OpenClaim := { program := "qxb6604673a", sum := "8d08d3a00a231da10c974b0742e2fdca366c248ec6193d65aadd9300fd8de4db", func := "example.com/ringvault/ringvault/zzlaws_store_b1.FnDamageClearCaseTable", spec := "fnDamageClearCaseTable", inPlace := ["(*internal/sync.Mutex).Lock", "internal/race.Disable", "sync/atomic.CompareAndSwapInt32", "internal/race.Enable", "internal/race.Acquire", "(*internal/sync.Mutex).lockSlow", "internal/sync.runtime_canSpin", "internal/sync.runtime_doSpin", "internal/sync.throw", "internal/sync.runtime_nanotime", "internal/sync.runtime_SemacquireMutex", "sync/atomic.AddInt32", "(*internal/sync.Mutex).Unlock", "internal/race.ReleaseMerge", "(*internal/sync.Mutex).unlockSlow", "internal/sync.fatal", "internal/sync.runtime_Semrelease"], plainKeys := false, apart := false }
def FnDamageClearCaseTableSaid : Prop := fnDamageClearCaseTableRow.holds Try.pinned (OpenSpec.ofChange fnDamageClearCaseTableSpec)

/-- ITS FALSE NEIGHBOUR: 'it returns false'. Refute it at one input. -/
def fnDamageClearCaseTableWrong : ChangeSpec := { name := "fnDamageClearCaseTable", fn := fun _ => fun
  | [d1, d2, d3, d4, d5, d6, d7, d8, d9] => { results := [.lit (.bool false)], args := [d1, d2, d3, d4, d5, d6, d7, d8, d9] }
  | _ => none }
def FnDamageClearCaseTableWrongFalsely : Prop := fnDamageClearCaseTableRow.holds Try.pinned (OpenSpec.ofChange fnDamageClearCaseTableWrong)

/-- 'zzlaws_store_b1.FnDamageClearScript': WHATEVER THE INPUT: true; the input reads as it did. -/
def fnDamageClearScriptSpec : ChangeSpec := { name := "fnDamageClearScript", fn := fun _ => fun
  | [d1, d2, d3, d4] => { results := [.lit (.bool true)], args := [d1, d2, d3, d4] }
  | _ => none }
def fnDamageClearScriptRow : OpenClaim := { program := "qxb6604673a", sum := "8d08d3a00a231da10c974b0742e2fdca366c248ec6193d65aadd9300fd8de4db", func := "example.com/ringvault/ringvault/zzlaws_store_b1.FnDamageClearScript", spec := "fnDamageClearScript", inPlace := ["(*internal/sync.Mutex).Lock", "internal/race.Disable", "sync/atomic.CompareAndSwapInt32", "internal/race.Enable", "internal/race.Acquire", "(*internal/sync.Mutex).lockSlow", "internal/sync.runtime_canSpin", "internal/sync.runtime_doSpin", "internal/sync.throw", "internal/sync.runtime_nanotime", "internal/sync.runtime_SemacquireMutex", "sync/atomic.AddInt32", "(*internal/sync.Mutex).Unlock", "internal/race.ReleaseMerge", "(*internal/sync.Mutex).unlockSlow", "internal/sync.fatal", "internal/sync.runtime_Semrelease"], plainKeys := false, apart := false }
def FnDamageClearScriptSaid : Prop := fnDamageClearScriptRow.holds Try.pinned (OpenSpec.ofChange fnDamageClearScriptSpec)

/-- ITS FALSE NEIGHBOUR: 'it returns false'. Refute it at one input. -/
def fnDamageClearScriptWrong : ChangeSpec := { name := "fnDamageClearScript", fn := fun _ => fun
  | [d1, d2, d3, d4] => { results := [.lit (.bool false)], args := [d1, d2, d3, d4] }
  | _ => none }
def FnDamageClearScriptWrongFalsely : Prop := fnDamageClearScriptRow.holds Try.pinned (OpenSpec.ofChange fnDamageClearScriptWrong)

/-- 'zzlaws_store_b1.FnManifestKeyPathExact': WHATEVER THE INPUT: true; the input reads as it did. -/
def fnManifestKeyPathExactSpec : ChangeSpec := { name := "fnManifestKeyPathExact", fn := fun _ => fun
  | [d1, d2] => { results := [.lit (.bool true)], args := [d1, d2] }
  | _ => none }
def fnManifestKeyPathExactRow : OpenClaim := { program := "qxb6604673a", sum := "8d08d3a00a231da10c974b0742e2fdca366c248ec6193d65aadd9300fd8de4db", func := "example.com/ringvault/ringvault/zzlaws_store_b1.FnManifestKeyPathExact", spec := "fnManifestKeyPathExact", inPlace := ["internal/abi.NoEscape", "internal/bytealg.MakeNoZero", "internal/bytealg.IndexByteString"], plainKeys := false, apart := false }
def FnManifestKeyPathExactSaid : Prop := fnManifestKeyPathExactRow.holds Try.pinned (OpenSpec.ofChange fnManifestKeyPathExactSpec)

/-- ITS FALSE NEIGHBOUR: 'it returns false'. Refute it at one input. -/
def fnManifestKeyPathExactWrong : ChangeSpec := { name := "fnManifestKeyPathExact", fn := fun _ => fun
  | [d1, d2] => { results := [.lit (.bool false)], args := [d1, d2] }
  | _ => none }
def FnManifestKeyPathExactWrongFalsely : Prop := fnManifestKeyPathExactRow.holds Try.pinned (OpenSpec.ofChange fnManifestKeyPathExactWrong)

/-- 'zzlaws_store_b1.FnManifestKeyPathRoundTrip': WHATEVER THE INPUT: true; the input reads as it did. -/
def fnManifestKeyPathRoundTripSpec : ChangeSpec := { name := "fnManifestKeyPathRoundTrip", fn := fun _ => fun
  | [d1, d2, d3] => { results := [.lit (.bool true)], args := [d1, d2, d3] }
  | _ => none }
def fnManifestKeyPathRoundTripRow : OpenClaim := { program := "qxb6604673a", sum := "8d08d3a00a231da10c974b0742e2fdca366c248ec6193d65aadd9300fd8de4db", func := "example.com/ringvault/ringvault/zzlaws_store_b1.FnManifestKeyPathRoundTrip", spec := "fnManifestKeyPathRoundTrip", inPlace := ["internal/abi.NoEscape", "internal/bytealg.MakeNoZero", "internal/bytealg.IndexByteString"], plainKeys := false, apart := false }
def FnManifestKeyPathRoundTripSaid : Prop := fnManifestKeyPathRoundTripRow.holds Try.pinned (OpenSpec.ofChange fnManifestKeyPathRoundTripSpec)

/-- ITS FALSE NEIGHBOUR: 'it returns false'. Refute it at one input. -/
def fnManifestKeyPathRoundTripWrong : ChangeSpec := { name := "fnManifestKeyPathRoundTrip", fn := fun _ => fun
  | [d1, d2, d3] => { results := [.lit (.bool false)], args := [d1, d2, d3] }
  | _ => none }
def FnManifestKeyPathRoundTripWrongFalsely : Prop := fnManifestKeyPathRoundTripRow.holds Try.pinned (OpenSpec.ofChange fnManifestKeyPathRoundTripWrong)

end Rows
end Go.Proofs.Qxb6604673a
