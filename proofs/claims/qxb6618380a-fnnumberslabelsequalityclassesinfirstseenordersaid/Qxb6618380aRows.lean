/-
  No cell of these rows narrows 'for every input' (looked for: loops, veiled, ifaces, maps, wideKeys, modest, calm, conditions, laid).
  DERIVED. THE GIVEN ROWS OF THIS SEAT. 1 by the template 'for every input the law returns true; each argument reads behind the call as it read before'; 0 by the template 'total and deterministic' (their statements: Qxb6618380aTotals.lean).
  GIVEN WITH THE SEED: the statements are not yours to turn. If you find one false, say at which input.
  Laid BY PROGRAM, IN A SANDBOX (cutbox-rows.mjs): the forced cells as the released guide's own fill.sh prints them over the translation a8e825b9820c5905… (all of the seat's roots in one cut). By AI agents, Wed Nov 11 2026. No macro, syntax, notation, axiom, sorry.
-/
import Derived.Test.Qxb6618380aChecked
import GoSem.Claim
import GoSem.ClaimJoined
import GoSem.ClaimMapViews
import Derived.JoinedTies
import Derived.KernelRfl
namespace Go.Proofs.Qxb6618380a
/- THE CELL 'sum', in the pinned program and in every row, IS THE sha256 OF THE DUMP (.gsa) THAT Qxb6618380aProg.lean LOADS. Nothing in Lean hashes anything: it is a label: what it is worth is what the hold of that sum in a sandbox is worth. -/
noncomputable def Try.pinned : Pinned := { name := "qxb6618380a", sum := "a8e825b9820c5905092692d76e06cb693a6e76a5e31d204951e8f3c2658b06ca", checked := Try.checked }
namespace Rows
def none {H : Type} : Left H := { results := [], args := [] }

/-- 'zzlaws_internal_diff_b1.FnNumbersLabelsEqualityClassesInFirstSeenOrder': WHATEVER THE INPUT: true; the input reads as it did. -/
def fnNumbersLabelsEqualityClassesInFirstSeenOrderSpec : ChangeSpec := { name := "fnNumbersLabelsEqualityClassesInFirstSeenOrder", fn := fun _ => fun
  | [d1, d2] => { results := [.lit (.bool true)], args := [d1, d2] }
  | _ => none }
def fnNumbersLabelsEqualityClassesInFirstSeenOrderRow : OpenClaim := { program := "qxb6618380a", sum := "a8e825b9820c5905092692d76e06cb693a6e76a5e31d204951e8f3c2658b06ca", func := "example.com/forgiving-json/forgiving-json/zzlaws_internal_diff_b1.FnNumbersLabelsEqualityClassesInFirstSeenOrder", spec := "fnNumbersLabelsEqualityClassesInFirstSeenOrder", unfollowed := true, recurses := true, apart := false }
def FnNumbersLabelsEqualityClassesInFirstSeenOrderSaid : Prop := fnNumbersLabelsEqualityClassesInFirstSeenOrderRow.holds Try.pinned (OpenSpec.ofChange fnNumbersLabelsEqualityClassesInFirstSeenOrderSpec)

/-- ITS FALSE NEIGHBOUR: 'it returns false'. Refute it at one input. -/
def fnNumbersLabelsEqualityClassesInFirstSeenOrderWrong : ChangeSpec := { name := "fnNumbersLabelsEqualityClassesInFirstSeenOrder", fn := fun _ => fun
  | [d1, d2] => { results := [.lit (.bool false)], args := [d1, d2] }
  | _ => none }
def FnNumbersLabelsEqualityClassesInFirstSeenOrderWrongFalsely : Prop := fnNumbersLabelsEqualityClassesInFirstSeenOrderRow.holds Try.pinned (OpenSpec.ofChange fnNumbersLabelsEqualityClassesInFirstSeenOrderWrong)

end Rows
end Go.Proofs.Qxb6618380a
