/-
  No cell of these rows narrows 'for every input' (looked for: loops, veiled, ifaces, maps, wideKeys, modest, calm, conditions, laid).
  DERIVED. THE GIVEN ROWS OF THIS SEAT. 6 by the template 'for every input the law returns true; each argument reads behind the call as it read before'; 0 by the template 'total and deterministic' (their statements: Qxb6617302aTotals.lean).
  GIVEN WITH THE SEED: the statements are not yours to turn. If you find one false, say at which input.
  Laid BY PROGRAM, IN A SANDBOX (cutbox-rows.mjs): the forced cells as the released guide's own fill.sh prints them over the translation c63f93f2ffd372f9… (all of the seat's roots in one cut). By AI agents, Wed Nov 11 2026. No macro, syntax, notation, axiom, sorry.
-/
import Derived.Test.Qxb6617302aChecked
import GoSem.Claim
import GoSem.ClaimJoined
import GoSem.ClaimMapViews
import Derived.JoinedTies
import Derived.KernelRfl
namespace Go.Proofs.Qxb6617302a
/- THE CELL 'sum', in the pinned program and in every row, IS THE sha256 OF THE DUMP (.gsa) THAT Qxb6617302aProg.lean LOADS. Nothing in Lean hashes anything: it is a label: what it is worth is what the hold of that sum in a sandbox is worth. -/
noncomputable def Try.pinned : Pinned := { name := "qxb6617302a", sum := "c63f93f2ffd372f9d14158a8b477ca471be1942d3c7dce44255e4d192b70e130", checked := Try.checked }
namespace Rows
def none {H : Type} : Left H := { results := [], args := [] }

/-- 'zzlaws_internal_replication_b1.FnVotersInsertAnywhere': WHATEVER THE INPUT: true; the input reads as it did. -/
def fnVotersInsertAnywhereSpec : ChangeSpec := { name := "fnVotersInsertAnywhere", fn := fun _ => fun
  | [d1, d2, d3, d4, d5, d6] => { results := [.lit (.bool true)], args := [d1, d2, d3, d4, d5, d6] }
  | _ => none }
def fnVotersInsertAnywhereRow : OpenClaim := { program := "qxb6617302a", sum := "c63f93f2ffd372f9d14158a8b477ca471be1942d3c7dce44255e4d192b70e130", func := "example.com/lockstep/lockstep/zzlaws_internal_replication_b1.FnVotersInsertAnywhere", spec := "fnVotersInsertAnywhere", apart := false }
def FnVotersInsertAnywhereSaid : Prop := fnVotersInsertAnywhereRow.holds Try.pinned (OpenSpec.ofChange fnVotersInsertAnywhereSpec)

/-- ITS FALSE NEIGHBOUR: 'it returns false'. Refute it at one input. -/
def fnVotersInsertAnywhereWrong : ChangeSpec := { name := "fnVotersInsertAnywhere", fn := fun _ => fun
  | [d1, d2, d3, d4, d5, d6] => { results := [.lit (.bool false)], args := [d1, d2, d3, d4, d5, d6] }
  | _ => none }
def FnVotersInsertAnywhereWrongFalsely : Prop := fnVotersInsertAnywhereRow.holds Try.pinned (OpenSpec.ofChange fnVotersInsertAnywhereWrong)

/-- 'zzlaws_internal_replication_b1.FnVotersLearnerFlipSplitsIDs': WHATEVER THE INPUT: true; the input reads as it did. -/
def fnVotersLearnerFlipSplitsIDsSpec : ChangeSpec := { name := "fnVotersLearnerFlipSplitsIDs", fn := fun _ => fun
  | [d1, d2, d3, d4] => { results := [.lit (.bool true)], args := [d1, d2, d3, d4] }
  | _ => none }
def fnVotersLearnerFlipSplitsIDsRow : OpenClaim := { program := "qxb6617302a", sum := "c63f93f2ffd372f9d14158a8b477ca471be1942d3c7dce44255e4d192b70e130", func := "example.com/lockstep/lockstep/zzlaws_internal_replication_b1.FnVotersLearnerFlipSplitsIDs", spec := "fnVotersLearnerFlipSplitsIDs", apart := false }
def FnVotersLearnerFlipSplitsIDsSaid : Prop := fnVotersLearnerFlipSplitsIDsRow.holds Try.pinned (OpenSpec.ofChange fnVotersLearnerFlipSplitsIDsSpec)

/-- ITS FALSE NEIGHBOUR: 'it returns false'. Refute it at one input. -/
def fnVotersLearnerFlipSplitsIDsWrong : ChangeSpec := { name := "fnVotersLearnerFlipSplitsIDs", fn := fun _ => fun
  | [d1, d2, d3, d4] => { results := [.lit (.bool false)], args := [d1, d2, d3, d4] }
  | _ => none }
def FnVotersLearnerFlipSplitsIDsWrongFalsely : Prop := fnVotersLearnerFlipSplitsIDsRow.holds Try.pinned (OpenSpec.ofChange fnVotersLearnerFlipSplitsIDsWrong)

/-- 'zzlaws_internal_replication_b1.FnTermsAddScriptEncodesLog': WHATEVER THE INPUT: true; the input reads as it did. -/
def fnTermsAddScriptEncodesLogSpec : ChangeSpec := { name := "fnTermsAddScriptEncodesLog", fn := fun _ => fun
  | [d] => { results := [.lit (.bool true)], args := [d] }
  | _ => none }
def fnTermsAddScriptEncodesLogRow : OpenClaim := { program := "qxb6617302a", sum := "c63f93f2ffd372f9d14158a8b477ca471be1942d3c7dce44255e4d192b70e130", func := "example.com/lockstep/lockstep/zzlaws_internal_replication_b1.FnTermsAddScriptEncodesLog", spec := "fnTermsAddScriptEncodesLog", apart := false }
def FnTermsAddScriptEncodesLogSaid : Prop := fnTermsAddScriptEncodesLogRow.holds Try.pinned (OpenSpec.ofChange fnTermsAddScriptEncodesLogSpec)

/-- ITS FALSE NEIGHBOUR: 'it returns false'. Refute it at one input. -/
def fnTermsAddScriptEncodesLogWrong : ChangeSpec := { name := "fnTermsAddScriptEncodesLog", fn := fun _ => fun
  | [d] => { results := [.lit (.bool false)], args := [d] }
  | _ => none }
def FnTermsAddScriptEncodesLogWrongFalsely : Prop := fnTermsAddScriptEncodesLogRow.holds Try.pinned (OpenSpec.ofChange fnTermsAddScriptEncodesLogWrong)

/-- 'zzlaws_internal_replication_b1.FnTermsAddSplits': WHATEVER THE INPUT: true; the input reads as it did. -/
def fnTermsAddSplitsSpec : ChangeSpec := { name := "fnTermsAddSplits", fn := fun _ => fun
  | [d1, d2, d3, d4, d5] => { results := [.lit (.bool true)], args := [d1, d2, d3, d4, d5] }
  | _ => none }
def fnTermsAddSplitsRow : OpenClaim := { program := "qxb6617302a", sum := "c63f93f2ffd372f9d14158a8b477ca471be1942d3c7dce44255e4d192b70e130", func := "example.com/lockstep/lockstep/zzlaws_internal_replication_b1.FnTermsAddSplits", spec := "fnTermsAddSplits", apart := false }
def FnTermsAddSplitsSaid : Prop := fnTermsAddSplitsRow.holds Try.pinned (OpenSpec.ofChange fnTermsAddSplitsSpec)

/-- ITS FALSE NEIGHBOUR: 'it returns false'. Refute it at one input. -/
def fnTermsAddSplitsWrong : ChangeSpec := { name := "fnTermsAddSplits", fn := fun _ => fun
  | [d1, d2, d3, d4, d5] => { results := [.lit (.bool false)], args := [d1, d2, d3, d4, d5] }
  | _ => none }
def FnTermsAddSplitsWrongFalsely : Prop := fnTermsAddSplitsRow.holds Try.pinned (OpenSpec.ofChange fnTermsAddSplitsWrong)

/-- 'zzlaws_internal_replication_b1.FnTermsPrefixOfBuiltLogIsBuiltPrefix': WHATEVER THE INPUT: true; the input reads as it did. -/
def fnTermsPrefixOfBuiltLogIsBuiltPrefixSpec : ChangeSpec := { name := "fnTermsPrefixOfBuiltLogIsBuiltPrefix", fn := fun _ => fun
  | [d1, d2] => { results := [.lit (.bool true)], args := [d1, d2] }
  | _ => none }
def fnTermsPrefixOfBuiltLogIsBuiltPrefixRow : OpenClaim := { program := "qxb6617302a", sum := "c63f93f2ffd372f9d14158a8b477ca471be1942d3c7dce44255e4d192b70e130", func := "example.com/lockstep/lockstep/zzlaws_internal_replication_b1.FnTermsPrefixOfBuiltLogIsBuiltPrefix", spec := "fnTermsPrefixOfBuiltLogIsBuiltPrefix", apart := false }
def FnTermsPrefixOfBuiltLogIsBuiltPrefixSaid : Prop := fnTermsPrefixOfBuiltLogIsBuiltPrefixRow.holds Try.pinned (OpenSpec.ofChange fnTermsPrefixOfBuiltLogIsBuiltPrefixSpec)

/-- ITS FALSE NEIGHBOUR: 'it returns false'. Refute it at one input. -/
def fnTermsPrefixOfBuiltLogIsBuiltPrefixWrong : ChangeSpec := { name := "fnTermsPrefixOfBuiltLogIsBuiltPrefix", fn := fun _ => fun
  | [d1, d2] => { results := [.lit (.bool false)], args := [d1, d2] }
  | _ => none }
def FnTermsPrefixOfBuiltLogIsBuiltPrefixWrongFalsely : Prop := fnTermsPrefixOfBuiltLogIsBuiltPrefixRow.holds Try.pinned (OpenSpec.ofChange fnTermsPrefixOfBuiltLogIsBuiltPrefixWrong)

/-- 'zzlaws_internal_replication_b1.FnTermsPrefixComposes': WHATEVER THE INPUT: true; the input reads as it did. -/
def fnTermsPrefixComposesSpec : ChangeSpec := { name := "fnTermsPrefixComposes", fn := fun _ => fun
  | [d1, d2, d3, d4] => { results := [.lit (.bool true)], args := [d1, d2, d3, d4] }
  | _ => none }
def fnTermsPrefixComposesRow : OpenClaim := { program := "qxb6617302a", sum := "c63f93f2ffd372f9d14158a8b477ca471be1942d3c7dce44255e4d192b70e130", func := "example.com/lockstep/lockstep/zzlaws_internal_replication_b1.FnTermsPrefixComposes", spec := "fnTermsPrefixComposes", apart := false }
def FnTermsPrefixComposesSaid : Prop := fnTermsPrefixComposesRow.holds Try.pinned (OpenSpec.ofChange fnTermsPrefixComposesSpec)

/-- ITS FALSE NEIGHBOUR: 'it returns false'. Refute it at one input. -/
def fnTermsPrefixComposesWrong : ChangeSpec := { name := "fnTermsPrefixComposes", fn := fun _ => fun
  | [d1, d2, d3, d4] => { results := [.lit (.bool false)], args := [d1, d2, d3, d4] }
  | _ => none }
def FnTermsPrefixComposesWrongFalsely : Prop := fnTermsPrefixComposesRow.holds Try.pinned (OpenSpec.ofChange fnTermsPrefixComposesWrong)

end Rows
end Go.Proofs.Qxb6617302a
