/-
  No cell of these rows narrows 'for every input' (looked for: loops, veiled, ifaces, maps, wideKeys, modest, calm, conditions, laid).
  DERIVED. THE GIVEN ROWS OF THIS SEAT. 6 by the template 'for every input the law returns true; each argument reads behind the call as it read before'; 0 by the template 'total and deterministic' (their statements: Qxb6600480aModsTotals.lean).
  GIVEN WITH THE SEED: the statements are not yours to turn. If you find one false, say at which input.
  Laid BY PROGRAM, IN A SANDBOX (cutbox-rows.mjs): the forced cells as the released guide's own fill.sh prints them over the translation 202cd2876cd29246… (all of the seat's roots in one cut). By AI agents, Wed Nov 11 2026. No macro, syntax, notation, axiom, sorry.
-/
import Derived.Test.Qxb6600480aModsChecked
import GoSem.Claim
import GoSem.ClaimJoined
import GoSem.ClaimMapViews
import Derived.JoinedTies
import Derived.KernelRfl
namespace Go.Proofs.Qxb6600480aMods
/- THE CELL 'sum', in the pinned program and in every row, IS THE sha256 OF THE DUMP (.gsa) THAT Qxb6600480aModsProg.lean LOADS. Nothing in Lean hashes anything: it is a label: what it is worth is what the hold of that sum in a sandbox is worth. -/
noncomputable def Trym.pinned : Pinned := { name := "qxb6600480amods", sum := "202cd2876cd29246e8775caba391b7ef28dbf563545eca52d1f06a5e7367d9a6", checked := Trym.checked }
namespace Rows
def none {H : Type} : Left H := { results := [], args := [] }

/-- 'zzlaws_internal_cluster_b1.FnMixUnmixUndoesMix': WHATEVER THE INPUT: true; the input reads as it did. -/
def fnMixUnmixUndoesMixSpec : ChangeSpec := { name := "fnMixUnmixUndoesMix", fn := fun _ => fun
  | [d] => { results := [.lit (.bool true)], args := [d] }
  | _ => none }
def fnMixUnmixUndoesMixRow : OpenClaim := { program := "qxb6600480amods", sum := "202cd2876cd29246e8775caba391b7ef28dbf563545eca52d1f06a5e7367d9a6", func := "example.com/tidemark/tidemark/zzlaws_internal_cluster_b1.FnMixUnmixUndoesMix", spec := "fnMixUnmixUndoesMix", make := .lifted ["publicsums"], apart := false }
def FnMixUnmixUndoesMixSaid : Prop := fnMixUnmixUndoesMixRow.holds Trym.pinned (OpenSpec.ofChange fnMixUnmixUndoesMixSpec)

/-- ITS FALSE NEIGHBOUR: 'it returns false'. Refute it at one input. -/
def fnMixUnmixUndoesMixWrong : ChangeSpec := { name := "fnMixUnmixUndoesMix", fn := fun _ => fun
  | [d] => { results := [.lit (.bool false)], args := [d] }
  | _ => none }
def FnMixUnmixUndoesMixWrongFalsely : Prop := fnMixUnmixUndoesMixRow.holds Trym.pinned (OpenSpec.ofChange fnMixUnmixUndoesMixWrong)

/-- 'zzlaws_internal_cluster_b1.FnMixReachesEveryValue': WHATEVER THE INPUT: true; the input reads as it did. -/
def fnMixReachesEveryValueSpec : ChangeSpec := { name := "fnMixReachesEveryValue", fn := fun _ => fun
  | [d] => { results := [.lit (.bool true)], args := [d] }
  | _ => none }
def fnMixReachesEveryValueRow : OpenClaim := { program := "qxb6600480amods", sum := "202cd2876cd29246e8775caba391b7ef28dbf563545eca52d1f06a5e7367d9a6", func := "example.com/tidemark/tidemark/zzlaws_internal_cluster_b1.FnMixReachesEveryValue", spec := "fnMixReachesEveryValue", make := .lifted ["publicsums"], apart := false }
def FnMixReachesEveryValueSaid : Prop := fnMixReachesEveryValueRow.holds Trym.pinned (OpenSpec.ofChange fnMixReachesEveryValueSpec)

/-- ITS FALSE NEIGHBOUR: 'it returns false'. Refute it at one input. -/
def fnMixReachesEveryValueWrong : ChangeSpec := { name := "fnMixReachesEveryValue", fn := fun _ => fun
  | [d] => { results := [.lit (.bool false)], args := [d] }
  | _ => none }
def FnMixReachesEveryValueWrongFalsely : Prop := fnMixReachesEveryValueRow.holds Trym.pinned (OpenSpec.ofChange fnMixReachesEveryValueWrong)

/-- 'zzlaws_internal_cluster_b1.FnNodeFirstWithName': WHATEVER THE INPUT: true; the input reads as it did. -/
def fnNodeFirstWithNameSpec : ChangeSpec := { name := "fnNodeFirstWithName", fn := fun _ => fun
  | [d1, d2] => { results := [.lit (.bool true)], args := [d1, d2] }
  | _ => none }
def fnNodeFirstWithNameRow : OpenClaim := { program := "qxb6600480amods", sum := "202cd2876cd29246e8775caba391b7ef28dbf563545eca52d1f06a5e7367d9a6", func := "example.com/tidemark/tidemark/zzlaws_internal_cluster_b1.FnNodeFirstWithName", spec := "fnNodeFirstWithName", make := .lifted ["publicsums"], apart := false }
def FnNodeFirstWithNameSaid : Prop := fnNodeFirstWithNameRow.holds Trym.pinned (OpenSpec.ofChange fnNodeFirstWithNameSpec)

/-- ITS FALSE NEIGHBOUR: 'it returns false'. Refute it at one input. -/
def fnNodeFirstWithNameWrong : ChangeSpec := { name := "fnNodeFirstWithName", fn := fun _ => fun
  | [d1, d2] => { results := [.lit (.bool false)], args := [d1, d2] }
  | _ => none }
def FnNodeFirstWithNameWrongFalsely : Prop := fnNodeFirstWithNameRow.holds Trym.pinned (OpenSpec.ofChange fnNodeFirstWithNameWrong)

/-- 'zzlaws_internal_cluster_b1.FnNodeUnderAppend': WHATEVER THE INPUT: true; the input reads as it did. -/
def fnNodeUnderAppendSpec : ChangeSpec := { name := "fnNodeUnderAppend", fn := fun _ => fun
  | [d1, d2, d3] => { results := [.lit (.bool true)], args := [d1, d2, d3] }
  | _ => none }
def fnNodeUnderAppendRow : OpenClaim := { program := "qxb6600480amods", sum := "202cd2876cd29246e8775caba391b7ef28dbf563545eca52d1f06a5e7367d9a6", func := "example.com/tidemark/tidemark/zzlaws_internal_cluster_b1.FnNodeUnderAppend", spec := "fnNodeUnderAppend", make := .lifted ["publicsums"], apart := false }
def FnNodeUnderAppendSaid : Prop := fnNodeUnderAppendRow.holds Trym.pinned (OpenSpec.ofChange fnNodeUnderAppendSpec)

/-- ITS FALSE NEIGHBOUR: 'it returns false'. Refute it at one input. -/
def fnNodeUnderAppendWrong : ChangeSpec := { name := "fnNodeUnderAppend", fn := fun _ => fun
  | [d1, d2, d3] => { results := [.lit (.bool false)], args := [d1, d2, d3] }
  | _ => none }
def FnNodeUnderAppendWrongFalsely : Prop := fnNodeUnderAppendRow.holds Trym.pinned (OpenSpec.ofChange fnNodeUnderAppendWrong)

/-- 'zzlaws_internal_cluster_b1.FnByRoleOverConcatenation': WHATEVER THE INPUT: true; the input reads as it did. -/
def fnByRoleOverConcatenationSpec : ChangeSpec := { name := "fnByRoleOverConcatenation", fn := fun _ => fun
  | [d1, d2, d3] => { results := [.lit (.bool true)], args := [d1, d2, d3] }
  | _ => none }
def fnByRoleOverConcatenationRow : OpenClaim := { program := "qxb6600480amods", sum := "202cd2876cd29246e8775caba391b7ef28dbf563545eca52d1f06a5e7367d9a6", func := "example.com/tidemark/tidemark/zzlaws_internal_cluster_b1.FnByRoleOverConcatenation", spec := "fnByRoleOverConcatenation", make := .lifted ["publicsums"], apart := false }
def FnByRoleOverConcatenationSaid : Prop := fnByRoleOverConcatenationRow.holds Trym.pinned (OpenSpec.ofChange fnByRoleOverConcatenationSpec)

/-- ITS FALSE NEIGHBOUR: 'it returns false'. Refute it at one input. -/
def fnByRoleOverConcatenationWrong : ChangeSpec := { name := "fnByRoleOverConcatenation", fn := fun _ => fun
  | [d1, d2, d3] => { results := [.lit (.bool false)], args := [d1, d2, d3] }
  | _ => none }
def FnByRoleOverConcatenationWrongFalsely : Prop := fnByRoleOverConcatenationRow.holds Trym.pinned (OpenSpec.ofChange fnByRoleOverConcatenationWrong)

/-- 'zzlaws_internal_cluster_b1.FnByRoleIdempotent': WHATEVER THE INPUT: true; the input reads as it did. -/
def fnByRoleIdempotentSpec : ChangeSpec := { name := "fnByRoleIdempotent", fn := fun _ => fun
  | [d1, d2, d3] => { results := [.lit (.bool true)], args := [d1, d2, d3] }
  | _ => none }
def fnByRoleIdempotentRow : OpenClaim := { program := "qxb6600480amods", sum := "202cd2876cd29246e8775caba391b7ef28dbf563545eca52d1f06a5e7367d9a6", func := "example.com/tidemark/tidemark/zzlaws_internal_cluster_b1.FnByRoleIdempotent", spec := "fnByRoleIdempotent", make := .lifted ["publicsums"], apart := false }
def FnByRoleIdempotentSaid : Prop := fnByRoleIdempotentRow.holds Trym.pinned (OpenSpec.ofChange fnByRoleIdempotentSpec)

/-- ITS FALSE NEIGHBOUR: 'it returns false'. Refute it at one input. -/
def fnByRoleIdempotentWrong : ChangeSpec := { name := "fnByRoleIdempotent", fn := fun _ => fun
  | [d1, d2, d3] => { results := [.lit (.bool false)], args := [d1, d2, d3] }
  | _ => none }
def FnByRoleIdempotentWrongFalsely : Prop := fnByRoleIdempotentRow.holds Trym.pinned (OpenSpec.ofChange fnByRoleIdempotentWrong)

end Rows
end Go.Proofs.Qxb6600480aMods
