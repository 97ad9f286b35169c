/-
  No cell of these rows narrows 'for every input' (looked for: loops, veiled, ifaces, maps, wideKeys, modest, calm, conditions, laid).
  DERIVED. THE GIVEN ROWS OF THIS SEAT. 5 by the template 'for every input the law returns true; each argument reads behind the call as it read before'; 0 by the template 'total and deterministic' (their statements: Qxb6600534aModsTotals.lean).
  GIVEN WITH THE SEED: the statements are not yours to turn. If you find one false, say at which input.
  Laid BY PROGRAM, IN A SANDBOX (cutbox-rows.mjs): the forced cells as the released guide's own fill.sh prints them over the translation fa27f8ca5f896f6b… (all of the seat's roots in one cut). By AI agents, Wed Nov 11 2026. No macro, syntax, notation, axiom, sorry.
-/
import Derived.Test.Qxb6600534aModsChecked
import GoSem.Claim
import GoSem.ClaimJoined
import GoSem.ClaimMapViews
import Derived.JoinedTies
import Derived.KernelRfl
namespace Go.Proofs.Qxb6600534aMods
/- THE CELL 'sum', in the pinned program and in every row, IS THE sha256 OF THE DUMP (.gsa) THAT Qxb6600534aModsProg.lean LOADS. Nothing in Lean hashes anything: it is a label: what it is worth is what the hold of that sum in a sandbox is worth. -/
noncomputable def Trym.pinned : Pinned := { name := "qxb6600534amods", sum := "fa27f8ca5f896f6b77915bd55746fecca4ef2033c7f59515dec01a7b3165d823", checked := Trym.checked }
namespace Rows
def none {H : Type} : Left H := { results := [], args := [] }

/-- 'zzlaws_internal_serverlog_b1.FnTrimDropsOneLineEndCRThenKeepsFirstMaxLine': WHATEVER THE INPUT: true; the input reads as it did. -/
def fnTrimDropsOneLineEndCRThenKeepsFirstMaxLineSpec : ChangeSpec := { name := "fnTrimDropsOneLineEndCRThenKeepsFirstMaxLine", fn := fun _ => fun
  | [d1, d2] => { results := [.lit (.bool true)], args := [d1, d2] }
  | _ => none }
def fnTrimDropsOneLineEndCRThenKeepsFirstMaxLineRow : OpenClaim := { program := "qxb6600534amods", sum := "fa27f8ca5f896f6b77915bd55746fecca4ef2033c7f59515dec01a7b3165d823", func := "example.com/helmward/helmward/zzlaws_internal_serverlog_b1.FnTrimDropsOneLineEndCRThenKeepsFirstMaxLine", spec := "fnTrimDropsOneLineEndCRThenKeepsFirstMaxLine", make := .lifted ["publicsums"], apart := false }
def FnTrimDropsOneLineEndCRThenKeepsFirstMaxLineSaid : Prop := fnTrimDropsOneLineEndCRThenKeepsFirstMaxLineRow.holds Trym.pinned (OpenSpec.ofChange fnTrimDropsOneLineEndCRThenKeepsFirstMaxLineSpec)

/-- ITS FALSE NEIGHBOUR: 'it returns false'. Refute it at one input. -/
def fnTrimDropsOneLineEndCRThenKeepsFirstMaxLineWrong : ChangeSpec := { name := "fnTrimDropsOneLineEndCRThenKeepsFirstMaxLine", fn := fun _ => fun
  | [d1, d2] => { results := [.lit (.bool false)], args := [d1, d2] }
  | _ => none }
def FnTrimDropsOneLineEndCRThenKeepsFirstMaxLineWrongFalsely : Prop := fnTrimDropsOneLineEndCRThenKeepsFirstMaxLineRow.holds Trym.pinned (OpenSpec.ofChange fnTrimDropsOneLineEndCRThenKeepsFirstMaxLineWrong)

/-- 'zzlaws_internal_serverlog_b1.FnTrimKeepsThePrefixOrder': WHATEVER THE INPUT: true; the input reads as it did. -/
def fnTrimKeepsThePrefixOrderSpec : ChangeSpec := { name := "fnTrimKeepsThePrefixOrder", fn := fun _ => fun
  | [d1, d2] => { results := [.lit (.bool true)], args := [d1, d2] }
  | _ => none }
def fnTrimKeepsThePrefixOrderRow : OpenClaim := { program := "qxb6600534amods", sum := "fa27f8ca5f896f6b77915bd55746fecca4ef2033c7f59515dec01a7b3165d823", func := "example.com/helmward/helmward/zzlaws_internal_serverlog_b1.FnTrimKeepsThePrefixOrder", spec := "fnTrimKeepsThePrefixOrder", make := .lifted ["publicsums"], apart := false }
def FnTrimKeepsThePrefixOrderSaid : Prop := fnTrimKeepsThePrefixOrderRow.holds Trym.pinned (OpenSpec.ofChange fnTrimKeepsThePrefixOrderSpec)

/-- ITS FALSE NEIGHBOUR: 'it returns false'. Refute it at one input. -/
def fnTrimKeepsThePrefixOrderWrong : ChangeSpec := { name := "fnTrimKeepsThePrefixOrder", fn := fun _ => fun
  | [d1, d2] => { results := [.lit (.bool false)], args := [d1, d2] }
  | _ => none }
def FnTrimKeepsThePrefixOrderWrongFalsely : Prop := fnTrimKeepsThePrefixOrderRow.holds Trym.pinned (OpenSpec.ofChange fnTrimKeepsThePrefixOrderWrong)

/-- 'zzlaws_internal_serverlog_b1.FnAppendHeldIsTheJoinCutToHeldLine': WHATEVER THE INPUT: true; the input reads as it did. -/
def fnAppendHeldIsTheJoinCutToHeldLineSpec : ChangeSpec := { name := "fnAppendHeldIsTheJoinCutToHeldLine", fn := fun _ => fun
  | [d1, d2] => { results := [.lit (.bool true)], args := [d1, d2] }
  | _ => none }
def fnAppendHeldIsTheJoinCutToHeldLineRow : OpenClaim := { program := "qxb6600534amods", sum := "fa27f8ca5f896f6b77915bd55746fecca4ef2033c7f59515dec01a7b3165d823", func := "example.com/helmward/helmward/zzlaws_internal_serverlog_b1.FnAppendHeldIsTheJoinCutToHeldLine", spec := "fnAppendHeldIsTheJoinCutToHeldLine", make := .lifted ["publicsums"], apart := false }
def FnAppendHeldIsTheJoinCutToHeldLineSaid : Prop := fnAppendHeldIsTheJoinCutToHeldLineRow.holds Trym.pinned (OpenSpec.ofChange fnAppendHeldIsTheJoinCutToHeldLineSpec)

/-- ITS FALSE NEIGHBOUR: 'it returns false'. Refute it at one input. -/
def fnAppendHeldIsTheJoinCutToHeldLineWrong : ChangeSpec := { name := "fnAppendHeldIsTheJoinCutToHeldLine", fn := fun _ => fun
  | [d1, d2] => { results := [.lit (.bool false)], args := [d1, d2] }
  | _ => none }
def FnAppendHeldIsTheJoinCutToHeldLineWrongFalsely : Prop := fnAppendHeldIsTheJoinCutToHeldLineRow.holds Trym.pinned (OpenSpec.ofChange fnAppendHeldIsTheJoinCutToHeldLineWrong)

/-- 'zzlaws_internal_serverlog_b1.FnAppendHeldCutsAnywhere': WHATEVER THE INPUT: true; the input reads as it did. -/
def fnAppendHeldCutsAnywhereSpec : ChangeSpec := { name := "fnAppendHeldCutsAnywhere", fn := fun _ => fun
  | [d1, d2, d3] => { results := [.lit (.bool true)], args := [d1, d2, d3] }
  | _ => none }
def fnAppendHeldCutsAnywhereRow : OpenClaim := { program := "qxb6600534amods", sum := "fa27f8ca5f896f6b77915bd55746fecca4ef2033c7f59515dec01a7b3165d823", func := "example.com/helmward/helmward/zzlaws_internal_serverlog_b1.FnAppendHeldCutsAnywhere", spec := "fnAppendHeldCutsAnywhere", make := .lifted ["publicsums"], apart := false }
def FnAppendHeldCutsAnywhereSaid : Prop := fnAppendHeldCutsAnywhereRow.holds Trym.pinned (OpenSpec.ofChange fnAppendHeldCutsAnywhereSpec)

/-- ITS FALSE NEIGHBOUR: 'it returns false'. Refute it at one input. -/
def fnAppendHeldCutsAnywhereWrong : ChangeSpec := { name := "fnAppendHeldCutsAnywhere", fn := fun _ => fun
  | [d1, d2, d3] => { results := [.lit (.bool false)], args := [d1, d2, d3] }
  | _ => none }
def FnAppendHeldCutsAnywhereWrongFalsely : Prop := fnAppendHeldCutsAnywhereRow.holds Trym.pinned (OpenSpec.ofChange fnAppendHeldCutsAnywhereWrong)

/-- 'zzlaws_internal_serverlog_b1.FnHeldPartsThenTrimIsTrimOfTheWholeLine': WHATEVER THE INPUT: true; the input reads as it did. -/
def fnHeldPartsThenTrimIsTrimOfTheWholeLineSpec : ChangeSpec := { name := "fnHeldPartsThenTrimIsTrimOfTheWholeLine", fn := fun _ => fun
  | [d] => { results := [.lit (.bool true)], args := [d] }
  | _ => none }
def fnHeldPartsThenTrimIsTrimOfTheWholeLineRow : OpenClaim := { program := "qxb6600534amods", sum := "fa27f8ca5f896f6b77915bd55746fecca4ef2033c7f59515dec01a7b3165d823", func := "example.com/helmward/helmward/zzlaws_internal_serverlog_b1.FnHeldPartsThenTrimIsTrimOfTheWholeLine", spec := "fnHeldPartsThenTrimIsTrimOfTheWholeLine", make := .lifted ["publicsums"], apart := false }
def FnHeldPartsThenTrimIsTrimOfTheWholeLineSaid : Prop := fnHeldPartsThenTrimIsTrimOfTheWholeLineRow.holds Trym.pinned (OpenSpec.ofChange fnHeldPartsThenTrimIsTrimOfTheWholeLineSpec)

/-- ITS FALSE NEIGHBOUR: 'it returns false'. Refute it at one input. -/
def fnHeldPartsThenTrimIsTrimOfTheWholeLineWrong : ChangeSpec := { name := "fnHeldPartsThenTrimIsTrimOfTheWholeLine", fn := fun _ => fun
  | [d] => { results := [.lit (.bool false)], args := [d] }
  | _ => none }
def FnHeldPartsThenTrimIsTrimOfTheWholeLineWrongFalsely : Prop := fnHeldPartsThenTrimIsTrimOfTheWholeLineRow.holds Trym.pinned (OpenSpec.ofChange fnHeldPartsThenTrimIsTrimOfTheWholeLineWrong)

end Rows
end Go.Proofs.Qxb6600534aMods
