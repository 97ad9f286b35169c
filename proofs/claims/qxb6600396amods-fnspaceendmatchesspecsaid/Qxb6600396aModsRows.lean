/-
  No cell of these rows narrows 'for every input' (looked for: loops, veiled, ifaces, maps, wideKeys, modest, calm, conditions, laid).
  DERIVED. THE GIVEN ROWS OF THIS SEAT. 6 by the template 'for every input the law returns true; each argument reads behind the call as it read before'; 0 by the template 'total and deterministic' (their statements: Qxb6600396aModsTotals.lean).
  GIVEN WITH THE SEED: the statements are not yours to turn. If you find one false, say at which input.
  Laid BY PROGRAM, IN A SANDBOX (cutbox-rows.mjs): the forced cells as the released guide's own fill.sh prints them over the translation b4b2c30f00da5253… (all of the seat's roots in one cut). By AI agents, Wed Nov 11 2026. No macro, syntax, notation, axiom, sorry.
-/
import Derived.Test.Qxb6600396aModsChecked
import GoSem.Claim
import GoSem.ClaimJoined
import GoSem.ClaimMapViews
import Derived.JoinedTies
import Derived.KernelRfl
namespace Go.Proofs.Qxb6600396aMods
/- THE CELL 'sum', in the pinned program and in every row, IS THE sha256 OF THE DUMP (.gsa) THAT Qxb6600396aModsProg.lean LOADS. Nothing in Lean hashes anything: it is a label: what it is worth is what the hold of that sum in a sandbox is worth. -/
noncomputable def Trym.pinned : Pinned := { name := "qxb6600396amods", sum := "b4b2c30f00da5253f3773b1d4dca1e13721014be181449150a1bda8b48b62d9a", checked := Trym.checked }
namespace Rows
def none {H : Type} : Left H := { results := [], args := [] }

/-- 'zzlaws_internal_cluster_b1.FnPlainStringAgreesWithStringEnd': WHATEVER THE INPUT: true; the input reads as it did. -/
def fnPlainStringAgreesWithStringEndSpec : ChangeSpec := { name := "fnPlainStringAgreesWithStringEnd", fn := fun _ => fun
  | [d] => { results := [.lit (.bool true)], args := [d] }
  | _ => none }
def fnPlainStringAgreesWithStringEndRow : OpenClaim := { program := "qxb6600396amods", sum := "b4b2c30f00da5253f3773b1d4dca1e13721014be181449150a1bda8b48b62d9a", func := "example.com/nearmost/nearmost/zzlaws_internal_cluster_b1.FnPlainStringAgreesWithStringEnd", spec := "fnPlainStringAgreesWithStringEnd", inPlace := ["internal/bytealg.IndexByte"], make := .lifted ["publicsums"], apart := false }
def FnPlainStringAgreesWithStringEndSaid : Prop := fnPlainStringAgreesWithStringEndRow.holds Trym.pinned (OpenSpec.ofChange fnPlainStringAgreesWithStringEndSpec)

/-- ITS FALSE NEIGHBOUR: 'it returns false'. Refute it at one input. -/
def fnPlainStringAgreesWithStringEndWrong : ChangeSpec := { name := "fnPlainStringAgreesWithStringEnd", fn := fun _ => fun
  | [d] => { results := [.lit (.bool false)], args := [d] }
  | _ => none }
def FnPlainStringAgreesWithStringEndWrongFalsely : Prop := fnPlainStringAgreesWithStringEndRow.holds Trym.pinned (OpenSpec.ofChange fnPlainStringAgreesWithStringEndWrong)

/-- 'zzlaws_internal_cluster_b1.FnSpaceEndMatchesSpec': WHATEVER THE INPUT: true; the input reads as it did. -/
def fnSpaceEndMatchesSpecSpec : ChangeSpec := { name := "fnSpaceEndMatchesSpec", fn := fun _ => fun
  | [d1, d2] => { results := [.lit (.bool true)], args := [d1, d2] }
  | _ => none }
def fnSpaceEndMatchesSpecRow : OpenClaim := { program := "qxb6600396amods", sum := "b4b2c30f00da5253f3773b1d4dca1e13721014be181449150a1bda8b48b62d9a", func := "example.com/nearmost/nearmost/zzlaws_internal_cluster_b1.FnSpaceEndMatchesSpec", spec := "fnSpaceEndMatchesSpec", make := .lifted ["publicsums"], apart := false }
def FnSpaceEndMatchesSpecSaid : Prop := fnSpaceEndMatchesSpecRow.holds Trym.pinned (OpenSpec.ofChange fnSpaceEndMatchesSpecSpec)

/-- ITS FALSE NEIGHBOUR: 'it returns false'. Refute it at one input. -/
def fnSpaceEndMatchesSpecWrong : ChangeSpec := { name := "fnSpaceEndMatchesSpec", fn := fun _ => fun
  | [d1, d2] => { results := [.lit (.bool false)], args := [d1, d2] }
  | _ => none }
def FnSpaceEndMatchesSpecWrongFalsely : Prop := fnSpaceEndMatchesSpecRow.holds Trym.pinned (OpenSpec.ofChange fnSpaceEndMatchesSpecWrong)

/-- 'zzlaws_internal_cluster_b1.FnSpaceEndIdempotent': WHATEVER THE INPUT: true; the input reads as it did. -/
def fnSpaceEndIdempotentSpec : ChangeSpec := { name := "fnSpaceEndIdempotent", fn := fun _ => fun
  | [d1, d2] => { results := [.lit (.bool true)], args := [d1, d2] }
  | _ => none }
def fnSpaceEndIdempotentRow : OpenClaim := { program := "qxb6600396amods", sum := "b4b2c30f00da5253f3773b1d4dca1e13721014be181449150a1bda8b48b62d9a", func := "example.com/nearmost/nearmost/zzlaws_internal_cluster_b1.FnSpaceEndIdempotent", spec := "fnSpaceEndIdempotent", make := .lifted ["publicsums"], apart := false }
def FnSpaceEndIdempotentSaid : Prop := fnSpaceEndIdempotentRow.holds Trym.pinned (OpenSpec.ofChange fnSpaceEndIdempotentSpec)

/-- ITS FALSE NEIGHBOUR: 'it returns false'. Refute it at one input. -/
def fnSpaceEndIdempotentWrong : ChangeSpec := { name := "fnSpaceEndIdempotent", fn := fun _ => fun
  | [d1, d2] => { results := [.lit (.bool false)], args := [d1, d2] }
  | _ => none }
def FnSpaceEndIdempotentWrongFalsely : Prop := fnSpaceEndIdempotentRow.holds Trym.pinned (OpenSpec.ofChange fnSpaceEndIdempotentWrong)

/-- 'zzlaws_internal_cluster_b1.FnSpaceEndMonotone': WHATEVER THE INPUT: true; the input reads as it did. -/
def fnSpaceEndMonotoneSpec : ChangeSpec := { name := "fnSpaceEndMonotone", fn := fun _ => fun
  | [d1, d2, d3] => { results := [.lit (.bool true)], args := [d1, d2, d3] }
  | _ => none }
def fnSpaceEndMonotoneRow : OpenClaim := { program := "qxb6600396amods", sum := "b4b2c30f00da5253f3773b1d4dca1e13721014be181449150a1bda8b48b62d9a", func := "example.com/nearmost/nearmost/zzlaws_internal_cluster_b1.FnSpaceEndMonotone", spec := "fnSpaceEndMonotone", make := .lifted ["publicsums"], apart := false }
def FnSpaceEndMonotoneSaid : Prop := fnSpaceEndMonotoneRow.holds Trym.pinned (OpenSpec.ofChange fnSpaceEndMonotoneSpec)

/-- ITS FALSE NEIGHBOUR: 'it returns false'. Refute it at one input. -/
def fnSpaceEndMonotoneWrong : ChangeSpec := { name := "fnSpaceEndMonotone", fn := fun _ => fun
  | [d1, d2, d3] => { results := [.lit (.bool false)], args := [d1, d2, d3] }
  | _ => none }
def FnSpaceEndMonotoneWrongFalsely : Prop := fnSpaceEndMonotoneRow.holds Trym.pinned (OpenSpec.ofChange fnSpaceEndMonotoneWrong)

/-- 'zzlaws_internal_cluster_b1.FnStringEndMatchesScanner': WHATEVER THE INPUT: true; the input reads as it did. -/
def fnStringEndMatchesScannerSpec : ChangeSpec := { name := "fnStringEndMatchesScanner", fn := fun _ => fun
  | [d1, d2] => { results := [.lit (.bool true)], args := [d1, d2] }
  | _ => none }
def fnStringEndMatchesScannerRow : OpenClaim := { program := "qxb6600396amods", sum := "b4b2c30f00da5253f3773b1d4dca1e13721014be181449150a1bda8b48b62d9a", func := "example.com/nearmost/nearmost/zzlaws_internal_cluster_b1.FnStringEndMatchesScanner", spec := "fnStringEndMatchesScanner", inPlace := ["internal/bytealg.IndexByte"], make := .lifted ["publicsums"], apart := false }
def FnStringEndMatchesScannerSaid : Prop := fnStringEndMatchesScannerRow.holds Trym.pinned (OpenSpec.ofChange fnStringEndMatchesScannerSpec)

/-- ITS FALSE NEIGHBOUR: 'it returns false'. Refute it at one input. -/
def fnStringEndMatchesScannerWrong : ChangeSpec := { name := "fnStringEndMatchesScanner", fn := fun _ => fun
  | [d1, d2] => { results := [.lit (.bool false)], args := [d1, d2] }
  | _ => none }
def FnStringEndMatchesScannerWrongFalsely : Prop := fnStringEndMatchesScannerRow.holds Trym.pinned (OpenSpec.ofChange fnStringEndMatchesScannerWrong)

/-- 'zzlaws_internal_cluster_b1.FnStringEndFindsEncodedString': WHATEVER THE INPUT: true; the input reads as it did. -/
def fnStringEndFindsEncodedStringSpec : ChangeSpec := { name := "fnStringEndFindsEncodedString", fn := fun _ => fun
  | [d1, d2, d3] => { results := [.lit (.bool true)], args := [d1, d2, d3] }
  | _ => none }
def fnStringEndFindsEncodedStringRow : OpenClaim := { program := "qxb6600396amods", sum := "b4b2c30f00da5253f3773b1d4dca1e13721014be181449150a1bda8b48b62d9a", func := "example.com/nearmost/nearmost/zzlaws_internal_cluster_b1.FnStringEndFindsEncodedString", spec := "fnStringEndFindsEncodedString", inPlace := ["internal/bytealg.IndexByte"], make := .lifted ["publicsums"], apart := false }
def FnStringEndFindsEncodedStringSaid : Prop := fnStringEndFindsEncodedStringRow.holds Trym.pinned (OpenSpec.ofChange fnStringEndFindsEncodedStringSpec)

/-- ITS FALSE NEIGHBOUR: 'it returns false'. Refute it at one input. -/
def fnStringEndFindsEncodedStringWrong : ChangeSpec := { name := "fnStringEndFindsEncodedString", fn := fun _ => fun
  | [d1, d2, d3] => { results := [.lit (.bool false)], args := [d1, d2, d3] }
  | _ => none }
def FnStringEndFindsEncodedStringWrongFalsely : Prop := fnStringEndFindsEncodedStringRow.holds Trym.pinned (OpenSpec.ofChange fnStringEndFindsEncodedStringWrong)

end Rows
end Go.Proofs.Qxb6600396aMods
