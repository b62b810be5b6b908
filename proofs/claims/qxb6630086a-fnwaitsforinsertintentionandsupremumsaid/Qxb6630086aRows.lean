/-
  No cell of these rows narrows 'for every input' (looked for: loops, veiled, ifaces, maps, wideKeys, modest, calm, conditions, laid).
  DERIVED. THE GIVEN ROWS OF THIS SEAT. 2 by the template 'for every input the law returns true; each argument reads behind the call as it read before'; 0 by the template 'total and deterministic' (their statements: Qxb6630086aTotals.lean).
  GIVEN WITH THE SEED: the statements are not yours to turn. If you find one false, say at which input.
  Laid BY PROGRAM, IN A SANDBOX (cutbox-rows.mjs): the forced cells as the released guide's own fill.sh prints them over the translation 140d7b4c5717a5e7… (all of the seat's roots in one cut). By AI agents, Wed Nov 11 2026. No macro, syntax, notation, axiom, sorry.
-/
import Derived.Test.Qxb6630086aChecked
import GoSem.Claim
import GoSem.ClaimJoined
import GoSem.ClaimMapViews
import Derived.JoinedTies
import Derived.KernelRfl
namespace Go.Proofs.Qxb6630086a
/- THE CELL 'sum', in the pinned program and in every row, IS THE sha256 OF THE DUMP (.gsa) THAT Qxb6630086aProg.lean LOADS. Nothing in Lean hashes anything: it is a label: what it is worth is what the hold of that sum in a sandbox is worth. -/
noncomputable def Try.pinned : Pinned := { name := "qxb6630086a", sum := "140d7b4c5717a5e7cecf9af657e8043e12aabe64fbc7739763ff4e4c3479d9f6", checked := Try.checked }
namespace Rows
def none {H : Type} : Left H := { results := [], args := [] }

/-- 'zzlaws_internal_lock_b1.FnWaitsForRecordConflictSymmetric': WHATEVER THE INPUT: true; the input reads as it did. -/
def fnWaitsForRecordConflictSymmetricSpec : ChangeSpec := { name := "fnWaitsForRecordConflictSymmetric", fn := fun _ => fun
  | [d1, d2, d3, d4, d5] => { results := [.lit (.bool true)], args := [d1, d2, d3, d4, d5] }
  | _ => none }
def fnWaitsForRecordConflictSymmetricRow : OpenClaim := { program := "qxb6630086a", sum := "140d7b4c5717a5e7cecf9af657e8043e12aabe64fbc7739763ff4e4c3479d9f6", func := "example.com/gapwarden/gapwarden/zzlaws_internal_lock_b1.FnWaitsForRecordConflictSymmetric", spec := "fnWaitsForRecordConflictSymmetric", apart := false }
def FnWaitsForRecordConflictSymmetricSaid : Prop := fnWaitsForRecordConflictSymmetricRow.holds Try.pinned (OpenSpec.ofChange fnWaitsForRecordConflictSymmetricSpec)

/-- ITS FALSE NEIGHBOUR: 'it returns false'. Refute it at one input. -/
def fnWaitsForRecordConflictSymmetricWrong : ChangeSpec := { name := "fnWaitsForRecordConflictSymmetric", fn := fun _ => fun
  | [d1, d2, d3, d4, d5] => { results := [.lit (.bool false)], args := [d1, d2, d3, d4, d5] }
  | _ => none }
def FnWaitsForRecordConflictSymmetricWrongFalsely : Prop := fnWaitsForRecordConflictSymmetricRow.holds Try.pinned (OpenSpec.ofChange fnWaitsForRecordConflictSymmetricWrong)

/-- 'zzlaws_internal_lock_b1.FnWaitsForInsertIntentionAndSupremum': WHATEVER THE INPUT: true; the input reads as it did. -/
def fnWaitsForInsertIntentionAndSupremumSpec : ChangeSpec := { name := "fnWaitsForInsertIntentionAndSupremum", fn := fun _ => fun
  | [d1, d2, d3, d4, d5] => { results := [.lit (.bool true)], args := [d1, d2, d3, d4, d5] }
  | _ => none }
def fnWaitsForInsertIntentionAndSupremumRow : OpenClaim := { program := "qxb6630086a", sum := "140d7b4c5717a5e7cecf9af657e8043e12aabe64fbc7739763ff4e4c3479d9f6", func := "example.com/gapwarden/gapwarden/zzlaws_internal_lock_b1.FnWaitsForInsertIntentionAndSupremum", spec := "fnWaitsForInsertIntentionAndSupremum", apart := false }
def FnWaitsForInsertIntentionAndSupremumSaid : Prop := fnWaitsForInsertIntentionAndSupremumRow.holds Try.pinned (OpenSpec.ofChange fnWaitsForInsertIntentionAndSupremumSpec)

/-- ITS FALSE NEIGHBOUR: 'it returns false'. Refute it at one input. -/
def fnWaitsForInsertIntentionAndSupremumWrong : ChangeSpec := { name := "fnWaitsForInsertIntentionAndSupremum", fn := fun _ => fun
  | [d1, d2, d3, d4, d5] => { results := [.lit (.bool false)], args := [d1, d2, d3, d4, d5] }
  | _ => none }
def FnWaitsForInsertIntentionAndSupremumWrongFalsely : Prop := fnWaitsForInsertIntentionAndSupremumRow.holds Try.pinned (OpenSpec.ofChange fnWaitsForInsertIntentionAndSupremumWrong)

end Rows
end Go.Proofs.Qxb6630086a
