/-
  No cell of these rows narrows 'for every input' (looked for: loops, veiled, ifaces, maps, wideKeys, modest, calm, conditions, laid).
  DERIVED. THE GIVEN ROWS OF THIS SEAT. 3 by the template 'for every input the law returns true; each argument reads behind the call as it read before'; 0 by the template 'total and deterministic' (their statements: Qxb6600292aModsTotals.lean).
  GIVEN WITH THE SEED: the statements are not yours to turn. If you find one false, say at which input.
  Laid BY PROGRAM, IN A SANDBOX (cutbox-rows.mjs): the forced cells as the released guide's own fill.sh prints them over the translation 6dda8d8c1dcfe3fe… (all of the seat's roots in one cut). By AI agents, Wed Nov 11 2026. No macro, syntax, notation, axiom, sorry.
-/
import Derived.Test.Qxb6600292aModsChecked
import GoSem.Claim
import GoSem.ClaimJoined
import GoSem.ClaimMapViews
import Derived.JoinedTies
import Derived.KernelRfl
namespace Go.Proofs.Qxb6600292aMods
/- THE CELL 'sum', in the pinned program and in every row, IS THE sha256 OF THE DUMP (.gsa) THAT Qxb6600292aModsProg.lean LOADS. Nothing in Lean hashes anything: it is a label: what it is worth is what the hold of that sum in a sandbox is worth. -/
noncomputable def Trym.pinned : Pinned := { name := "qxb6600292amods", sum := "6dda8d8c1dcfe3fef2a7e322af1d5e88040bec7f346997ee286da89f394b4386", checked := Trym.checked }
namespace Rows
def none {H : Type} : Left H := { results := [], args := [] }

/-- 'zzlaws_internal_agent_b1.FnSameSettingsMatchesKey': WHATEVER THE INPUT: true; the input reads as it did. -/
def fnSameSettingsMatchesKeySpec : ChangeSpec := { name := "fnSameSettingsMatchesKey", fn := fun _ => fun
  | [d1, d2] => { results := [.lit (.bool true)], args := [d1, d2] }
  | _ => none }
def fnSameSettingsMatchesKeyRow : OpenClaim := { program := "qxb6600292amods", sum := "6dda8d8c1dcfe3fef2a7e322af1d5e88040bec7f346997ee286da89f394b4386", func := "example.com/mayfly/mayfly/zzlaws_internal_agent_b1.FnSameSettingsMatchesKey", spec := "fnSameSettingsMatchesKey", make := .lifted ["publicsums"], apart := false }
def FnSameSettingsMatchesKeySaid : Prop := fnSameSettingsMatchesKeyRow.holds Trym.pinned (OpenSpec.ofChange fnSameSettingsMatchesKeySpec)

/-- ITS FALSE NEIGHBOUR: 'it returns false'. Refute it at one input. -/
def fnSameSettingsMatchesKeyWrong : ChangeSpec := { name := "fnSameSettingsMatchesKey", fn := fun _ => fun
  | [d1, d2] => { results := [.lit (.bool false)], args := [d1, d2] }
  | _ => none }
def FnSameSettingsMatchesKeyWrongFalsely : Prop := fnSameSettingsMatchesKeyRow.holds Trym.pinned (OpenSpec.ofChange fnSameSettingsMatchesKeyWrong)

/-- 'zzlaws_internal_agent_b1.FnSameSettingsEquivalence': WHATEVER THE INPUT: true; the input reads as it did. -/
def fnSameSettingsEquivalenceSpec : ChangeSpec := { name := "fnSameSettingsEquivalence", fn := fun _ => fun
  | [d1, d2, d3] => { results := [.lit (.bool true)], args := [d1, d2, d3] }
  | _ => none }
def fnSameSettingsEquivalenceRow : OpenClaim := { program := "qxb6600292amods", sum := "6dda8d8c1dcfe3fef2a7e322af1d5e88040bec7f346997ee286da89f394b4386", func := "example.com/mayfly/mayfly/zzlaws_internal_agent_b1.FnSameSettingsEquivalence", spec := "fnSameSettingsEquivalence", make := .lifted ["publicsums"], apart := false }
def FnSameSettingsEquivalenceSaid : Prop := fnSameSettingsEquivalenceRow.holds Trym.pinned (OpenSpec.ofChange fnSameSettingsEquivalenceSpec)

/-- ITS FALSE NEIGHBOUR: 'it returns false'. Refute it at one input. -/
def fnSameSettingsEquivalenceWrong : ChangeSpec := { name := "fnSameSettingsEquivalence", fn := fun _ => fun
  | [d1, d2, d3] => { results := [.lit (.bool false)], args := [d1, d2, d3] }
  | _ => none }
def FnSameSettingsEquivalenceWrongFalsely : Prop := fnSameSettingsEquivalenceRow.holds Trym.pinned (OpenSpec.ofChange fnSameSettingsEquivalenceWrong)

/-- 'zzlaws_internal_agent_b1.FnSameSettingsSeesLifetimeNotDir': WHATEVER THE INPUT: true; the input reads as it did. -/
def fnSameSettingsSeesLifetimeNotDirSpec : ChangeSpec := { name := "fnSameSettingsSeesLifetimeNotDir", fn := fun _ => fun
  | [d1, d2, d3] => { results := [.lit (.bool true)], args := [d1, d2, d3] }
  | _ => none }
def fnSameSettingsSeesLifetimeNotDirRow : OpenClaim := { program := "qxb6600292amods", sum := "6dda8d8c1dcfe3fef2a7e322af1d5e88040bec7f346997ee286da89f394b4386", func := "example.com/mayfly/mayfly/zzlaws_internal_agent_b1.FnSameSettingsSeesLifetimeNotDir", spec := "fnSameSettingsSeesLifetimeNotDir", make := .lifted ["publicsums"], apart := false }
def FnSameSettingsSeesLifetimeNotDirSaid : Prop := fnSameSettingsSeesLifetimeNotDirRow.holds Trym.pinned (OpenSpec.ofChange fnSameSettingsSeesLifetimeNotDirSpec)

/-- ITS FALSE NEIGHBOUR: 'it returns false'. Refute it at one input. -/
def fnSameSettingsSeesLifetimeNotDirWrong : ChangeSpec := { name := "fnSameSettingsSeesLifetimeNotDir", fn := fun _ => fun
  | [d1, d2, d3] => { results := [.lit (.bool false)], args := [d1, d2, d3] }
  | _ => none }
def FnSameSettingsSeesLifetimeNotDirWrongFalsely : Prop := fnSameSettingsSeesLifetimeNotDirRow.holds Trym.pinned (OpenSpec.ofChange fnSameSettingsSeesLifetimeNotDirWrong)

end Rows
end Go.Proofs.Qxb6600292aMods
