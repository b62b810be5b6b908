/-
  No cell of these rows narrows 'for every input' (looked for: loops, veiled, ifaces, maps, wideKeys, modest, calm, conditions, laid).
  DERIVED. THE GIVEN ROWS OF THIS SEAT. 2 by the template 'for every input the law returns true; each argument reads behind the call as it read before'; 0 by the template 'total and deterministic' (their statements: Qxb6628958aTotals.lean).
  GIVEN WITH THE SEED: the statements are not yours to turn. If you find one false, say at which input.
  Laid BY PROGRAM, IN A SANDBOX (cutbox-rows.mjs): the forced cells as the released guide's own fill.sh prints them over the translation 3446a85f178123a2… (all of the seat's roots in one cut). By AI agents, Wed Nov 11 2026. No macro, syntax, notation, axiom, sorry.
-/
import Derived.Test.Qxb6628958aChecked
import GoSem.Claim
import GoSem.ClaimJoined
import GoSem.ClaimMapViews
import Derived.JoinedTies
import Derived.KernelRfl
namespace Go.Proofs.Qxb6628958a
/- THE CELL 'sum', in the pinned program and in every row, IS THE sha256 OF THE DUMP (.gsa) THAT Qxb6628958aProg.lean LOADS. Nothing in Lean hashes anything: it is a label: what it is worth is what the hold of that sum in a sandbox is worth. -/
noncomputable def Try.pinned : Pinned := { name := "qxb6628958a", sum := "3446a85f178123a27010aef06c96f514b5d0b1cf837e755071b0802fb4e02014", checked := Try.checked }
namespace Rows
def none {H : Type} : Left H := { results := [], args := [] }

/-- 'zzlaws_internal_nodeid_b1.FnAddPow2IsExactSumAndDoubles': WHATEVER THE INPUT: true; the input reads as it did. -/
def fnAddPow2IsExactSumAndDoublesSpec : ChangeSpec := { name := "fnAddPow2IsExactSumAndDoubles", fn := fun _ => fun
  | [d1, d2] => { results := [.lit (.bool true)], args := [d1, d2] }
  | _ => none }
def fnAddPow2IsExactSumAndDoublesRow : OpenClaim := { program := "qxb6628958a", sum := "3446a85f178123a27010aef06c96f514b5d0b1cf837e755071b0802fb4e02014", func := "example.com/ringtide/ringtide/zzlaws_internal_nodeid_b1.FnAddPow2IsExactSumAndDoubles", spec := "fnAddPow2IsExactSumAndDoubles", apart := false }
def FnAddPow2IsExactSumAndDoublesSaid : Prop := fnAddPow2IsExactSumAndDoublesRow.holds Try.pinned (OpenSpec.ofChange fnAddPow2IsExactSumAndDoublesSpec)

/-- ITS FALSE NEIGHBOUR: 'it returns false'. Refute it at one input. -/
def fnAddPow2IsExactSumAndDoublesWrong : ChangeSpec := { name := "fnAddPow2IsExactSumAndDoubles", fn := fun _ => fun
  | [d1, d2] => { results := [.lit (.bool false)], args := [d1, d2] }
  | _ => none }
def FnAddPow2IsExactSumAndDoublesWrongFalsely : Prop := fnAddPow2IsExactSumAndDoublesRow.holds Try.pinned (OpenSpec.ofChange fnAddPow2IsExactSumAndDoublesWrong)

/-- 'zzlaws_internal_nodeid_b1.FnAddPow2CommutesAndWrapsOnlyAtTheTop': WHATEVER THE INPUT: true; the input reads as it did. -/
def fnAddPow2CommutesAndWrapsOnlyAtTheTopSpec : ChangeSpec := { name := "fnAddPow2CommutesAndWrapsOnlyAtTheTop", fn := fun _ => fun
  | [d1, d2, d3] => { results := [.lit (.bool true)], args := [d1, d2, d3] }
  | _ => none }
def fnAddPow2CommutesAndWrapsOnlyAtTheTopRow : OpenClaim := { program := "qxb6628958a", sum := "3446a85f178123a27010aef06c96f514b5d0b1cf837e755071b0802fb4e02014", func := "example.com/ringtide/ringtide/zzlaws_internal_nodeid_b1.FnAddPow2CommutesAndWrapsOnlyAtTheTop", spec := "fnAddPow2CommutesAndWrapsOnlyAtTheTop", apart := false }
def FnAddPow2CommutesAndWrapsOnlyAtTheTopSaid : Prop := fnAddPow2CommutesAndWrapsOnlyAtTheTopRow.holds Try.pinned (OpenSpec.ofChange fnAddPow2CommutesAndWrapsOnlyAtTheTopSpec)

/-- ITS FALSE NEIGHBOUR: 'it returns false'. Refute it at one input. -/
def fnAddPow2CommutesAndWrapsOnlyAtTheTopWrong : ChangeSpec := { name := "fnAddPow2CommutesAndWrapsOnlyAtTheTop", fn := fun _ => fun
  | [d1, d2, d3] => { results := [.lit (.bool false)], args := [d1, d2, d3] }
  | _ => none }
def FnAddPow2CommutesAndWrapsOnlyAtTheTopWrongFalsely : Prop := fnAddPow2CommutesAndWrapsOnlyAtTheTopRow.holds Try.pinned (OpenSpec.ofChange fnAddPow2CommutesAndWrapsOnlyAtTheTopWrong)

end Rows
end Go.Proofs.Qxb6628958a
