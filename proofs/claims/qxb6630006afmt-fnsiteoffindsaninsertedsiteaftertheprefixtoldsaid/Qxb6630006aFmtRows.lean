/-
  No cell of these rows narrows 'for every input' (looked for: loops, veiled, ifaces, maps, wideKeys, modest, calm, conditions, laid).
  DERIVED. THE GIVEN ROWS OF THIS SEAT. 2 by the template 'for every input the law returns true; each argument reads behind the call as it read before'; 0 by the template 'total and deterministic' (their statements: Qxb6630006aFmtTotals.lean).
  GIVEN WITH THE SEED: the statements are not yours to turn. If you find one false, say at which input.
  Laid BY PROGRAM, IN A SANDBOX (cutbox-rows.mjs): the forced cells as the released guide's own fill.sh prints them over the translation 03675311ae2804eb… (all of the seat's roots in one cut). By AI agents, Wed Nov 11 2026. No macro, syntax, notation, axiom, sorry.
-/
import Derived.Test.Qxb6630006aFmtChecked
import GoSem.Claim
import GoSem.ClaimJoined
import GoSem.ClaimMapViews
import Derived.JoinedTies
import Derived.KernelRfl
namespace Go.Proofs.Qxb6630006aFmt
/- THE CELL 'sum', in the pinned program and in every row, IS THE sha256 OF THE DUMP (.gsa) THAT Qxb6630006aFmtProg.lean LOADS. Nothing in Lean hashes anything: it is a label: what it is worth is what the hold of that sum in a sandbox is worth. -/
noncomputable def Tryf.pinned : Pinned := { name := "qxb6630006afmt", sum := "03675311ae2804eb2916c5165828215f715e7b4674277208e3aab49f3dd73639", checked := Tryf.checked }
namespace Rows
def none {H : Type} : Left H := { results := [], args := [] }

/-- 'zzlaws_internal_cluster_b1.FnSiteOfFindsAnInsertedSiteAfterThePrefix': WHATEVER THE INPUT: true; the input reads as it did. -/
def fnSiteOfFindsAnInsertedSiteAfterThePrefixSpec : ChangeSpec := { name := "fnSiteOfFindsAnInsertedSiteAfterThePrefix", fn := fun _ => fun
  | [d1, d2, d3, d4, d5, d6, d7, d8, d9, d10, d11] => { results := [.lit (.bool true)], args := [d1, d2, d3, d4, d5, d6, d7, d8, d9, d10, d11] }
  | _ => none }
def fnSiteOfFindsAnInsertedSiteAfterThePrefixRow : OpenClaim := { program := "qxb6630006afmt", sum := "03675311ae2804eb2916c5165828215f715e7b4674277208e3aab49f3dd73639", func := "example.com/farquorum/farquorum/zzlaws_internal_cluster_b1.FnSiteOfFindsAnInsertedSiteAfterThePrefix", spec := "fnSiteOfFindsAnInsertedSiteAfterThePrefix", stops := ["fmt.errorf"], inPlace := ["fmt.errorf"], apart := false }
/-- NO THEOREM (fmt's text is open here; it may be false): for the released tool's asking of the row's closed facts alone. THE STATEMENT IS 'FnSiteOfFindsAnInsertedSiteAfterThePrefixToldSaid' (Qxb6630006aFmtCards.lean). -/
def FnSiteOfFindsAnInsertedSiteAfterThePrefixFormAsk : Prop := fnSiteOfFindsAnInsertedSiteAfterThePrefixRow.holds Tryf.pinned (OpenSpec.ofChange fnSiteOfFindsAnInsertedSiteAfterThePrefixSpec)

/-- ITS FALSE NEIGHBOUR: 'it returns false'. Refute it at one input. -/
def fnSiteOfFindsAnInsertedSiteAfterThePrefixWrong : ChangeSpec := { name := "fnSiteOfFindsAnInsertedSiteAfterThePrefix", fn := fun _ => fun
  | [d1, d2, d3, d4, d5, d6, d7, d8, d9, d10, d11] => { results := [.lit (.bool false)], args := [d1, d2, d3, d4, d5, d6, d7, d8, d9, d10, d11] }
  | _ => none }
def FnSiteOfFindsAnInsertedSiteAfterThePrefixWrongFormAsk : Prop := fnSiteOfFindsAnInsertedSiteAfterThePrefixRow.holds Tryf.pinned (OpenSpec.ofChange fnSiteOfFindsAnInsertedSiteAfterThePrefixWrong)

/-- 'zzlaws_internal_cluster_b1.FnSiteOfRefusesARemovedNameAndFindsAPresentOne': WHATEVER THE INPUT: true; the input reads as it did. -/
def fnSiteOfRefusesARemovedNameAndFindsAPresentOneSpec : ChangeSpec := { name := "fnSiteOfRefusesARemovedNameAndFindsAPresentOne", fn := fun _ => fun
  | [d1, d2, d3, d4, d5, d6] => { results := [.lit (.bool true)], args := [d1, d2, d3, d4, d5, d6] }
  | _ => none }
def fnSiteOfRefusesARemovedNameAndFindsAPresentOneRow : OpenClaim := { program := "qxb6630006afmt", sum := "03675311ae2804eb2916c5165828215f715e7b4674277208e3aab49f3dd73639", func := "example.com/farquorum/farquorum/zzlaws_internal_cluster_b1.FnSiteOfRefusesARemovedNameAndFindsAPresentOne", spec := "fnSiteOfRefusesARemovedNameAndFindsAPresentOne", stops := ["fmt.errorf"], inPlace := ["fmt.errorf"], apart := false }
/-- NO THEOREM (fmt's text is open here; it may be false): for the released tool's asking of the row's closed facts alone. THE STATEMENT IS 'FnSiteOfRefusesARemovedNameAndFindsAPresentOneToldSaid' (Qxb6630006aFmtCards.lean). -/
def FnSiteOfRefusesARemovedNameAndFindsAPresentOneFormAsk : Prop := fnSiteOfRefusesARemovedNameAndFindsAPresentOneRow.holds Tryf.pinned (OpenSpec.ofChange fnSiteOfRefusesARemovedNameAndFindsAPresentOneSpec)

/-- ITS FALSE NEIGHBOUR: 'it returns false'. Refute it at one input. -/
def fnSiteOfRefusesARemovedNameAndFindsAPresentOneWrong : ChangeSpec := { name := "fnSiteOfRefusesARemovedNameAndFindsAPresentOne", fn := fun _ => fun
  | [d1, d2, d3, d4, d5, d6] => { results := [.lit (.bool false)], args := [d1, d2, d3, d4, d5, d6] }
  | _ => none }
def FnSiteOfRefusesARemovedNameAndFindsAPresentOneWrongFormAsk : Prop := fnSiteOfRefusesARemovedNameAndFindsAPresentOneRow.holds Tryf.pinned (OpenSpec.ofChange fnSiteOfRefusesARemovedNameAndFindsAPresentOneWrong)

end Rows
end Go.Proofs.Qxb6630006aFmt
