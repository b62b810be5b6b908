/-
  No cell of these rows narrows 'for every input' (looked for: loops, veiled, ifaces, maps, wideKeys, modest, calm, conditions, laid).
  DERIVED. THE GIVEN ROWS OF THIS SEAT. 2 by the template 'for every input the law returns true; each argument reads behind the call as it read before'; 0 by the template 'total and deterministic' (their statements: Qxb6630054aTotals.lean).
  GIVEN WITH THE SEED: the statements are not yours to turn. If you find one false, say at which input.
  Laid BY PROGRAM, IN A SANDBOX (cutbox-rows.mjs): the forced cells as the released guide's own fill.sh prints them over the translation 658576c07c724d0a… (all of the seat's roots in one cut). By AI agents, Wed Nov 11 2026. No macro, syntax, notation, axiom, sorry.
-/
import Derived.Test.Qxb6630054aChecked
import GoSem.Claim
import GoSem.ClaimJoined
import GoSem.ClaimMapViews
import Derived.JoinedTies
import Derived.KernelRfl
namespace Go.Proofs.Qxb6630054a
/- THE CELL 'sum', in the pinned program and in every row, IS THE sha256 OF THE DUMP (.gsa) THAT Qxb6630054aProg.lean LOADS. Nothing in Lean hashes anything: it is a label: what it is worth is what the hold of that sum in a sandbox is worth. -/
noncomputable def Try.pinned : Pinned := { name := "qxb6630054a", sum := "658576c07c724d0ac572ae31552cff4f560939b858269885765ec264892015aa", checked := Try.checked }
namespace Rows
def none {H : Type} : Left H := { results := [], args := [] }

/-- 'zzlaws_internal_manifest_b1.FnScaledOnInsertOneEntry': WHATEVER THE INPUT: true; the input reads as it did. -/
def fnScaledOnInsertOneEntrySpec : ChangeSpec := { name := "fnScaledOnInsertOneEntry", fn := fun _ => fun
  | [d1, d2, d3, d4, d5, d6, d7, d8, d9, d10, d11, d12] => { results := [.lit (.bool true)], args := [d1, d2, d3, d4, d5, d6, d7, d8, d9, d10, d11, d12] }
  | _ => none }
def fnScaledOnInsertOneEntryRow : OpenClaim := { program := "qxb6630054a", sum := "658576c07c724d0ac572ae31552cff4f560939b858269885765ec264892015aa", func := "example.com/lemming/lemming/zzlaws_internal_manifest_b1.FnScaledOnInsertOneEntry", spec := "fnScaledOnInsertOneEntry", apart := false }
def FnScaledOnInsertOneEntrySaid : Prop := fnScaledOnInsertOneEntryRow.holds Try.pinned (OpenSpec.ofChange fnScaledOnInsertOneEntrySpec)

/-- ITS FALSE NEIGHBOUR: 'it returns false'. Refute it at one input. -/
def fnScaledOnInsertOneEntryWrong : ChangeSpec := { name := "fnScaledOnInsertOneEntry", fn := fun _ => fun
  | [d1, d2, d3, d4, d5, d6, d7, d8, d9, d10, d11, d12] => { results := [.lit (.bool false)], args := [d1, d2, d3, d4, d5, d6, d7, d8, d9, d10, d11, d12] }
  | _ => none }
def FnScaledOnInsertOneEntryWrongFalsely : Prop := fnScaledOnInsertOneEntryRow.holds Try.pinned (OpenSpec.ofChange fnScaledOnInsertOneEntryWrong)

/-- 'zzlaws_internal_manifest_b1.FnScaledOnSplitsAtAnyCut': WHATEVER THE INPUT: true; the input reads as it did. -/
def fnScaledOnSplitsAtAnyCutSpec : ChangeSpec := { name := "fnScaledOnSplitsAtAnyCut", fn := fun _ => fun
  | [d1, d2, d3, d4, d5, d6, d7, d8, d9, d10] => { results := [.lit (.bool true)], args := [d1, d2, d3, d4, d5, d6, d7, d8, d9, d10] }
  | _ => none }
def fnScaledOnSplitsAtAnyCutRow : OpenClaim := { program := "qxb6630054a", sum := "658576c07c724d0ac572ae31552cff4f560939b858269885765ec264892015aa", func := "example.com/lemming/lemming/zzlaws_internal_manifest_b1.FnScaledOnSplitsAtAnyCut", spec := "fnScaledOnSplitsAtAnyCut", apart := false }
def FnScaledOnSplitsAtAnyCutSaid : Prop := fnScaledOnSplitsAtAnyCutRow.holds Try.pinned (OpenSpec.ofChange fnScaledOnSplitsAtAnyCutSpec)

/-- ITS FALSE NEIGHBOUR: 'it returns false'. Refute it at one input. -/
def fnScaledOnSplitsAtAnyCutWrong : ChangeSpec := { name := "fnScaledOnSplitsAtAnyCut", fn := fun _ => fun
  | [d1, d2, d3, d4, d5, d6, d7, d8, d9, d10] => { results := [.lit (.bool false)], args := [d1, d2, d3, d4, d5, d6, d7, d8, d9, d10] }
  | _ => none }
def FnScaledOnSplitsAtAnyCutWrongFalsely : Prop := fnScaledOnSplitsAtAnyCutRow.holds Try.pinned (OpenSpec.ofChange fnScaledOnSplitsAtAnyCutWrong)

end Rows
end Go.Proofs.Qxb6630054a
