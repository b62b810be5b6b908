/-
  DERIVED. GIVEN WITH THE SEED: THE CARDS: each row of Qxb6630006aFmtRows.lean that lists a variable, with what it lists TIED to the program's text (the seventh form; the later family's looks); each row that meets fmt, with fmt's text TOLD by the authors' own Lean function (tested against real Go, not proved from fmt's source: count such statements apart). THE CARD IS WHAT COUNTS. Prove the row's statement (the work); the ties are given (Qxb6630006aFmtTie.lean); close each card by the builder's one call (the guide's Derived/Test/ToyasCard.lean, 'card_holds'). Laid BY PROGRAM, IN A SANDBOX (cutbox-door.mjs). By AI agents, Wed Nov 11 2026. No macro, syntax, notation, axiom, sorry.
-/
import Derived.Test.Qxb6630006aFmtRows
import GoSem.ClaimSeven
namespace Go.Proofs.Qxb6630006aFmt
namespace Rows

/-- THE TOLD CARD OF 'zzlaws_internal_cluster_b1.FnSiteOfFindsAnInsertedSiteAfterThePrefix'. -/
def fnSiteOfFindsAnInsertedSiteAfterThePrefixCard : Claim7 := { stood := { row := fnSiteOfFindsAnInsertedSiteAfterThePrefixRow, standIns := [], harness := (true, "5bc6351359f9d2f353f9291c69d6e0e48cf3108ae93be0979540b6f09b6893ca"), looks := false }, told := true, goes := false }
def FnSiteOfFindsAnInsertedSiteAfterThePrefixToldSaid : Prop := Claim7.holds Tryf.pinned (.plain (OpenSpec.ofChange fnSiteOfFindsAnInsertedSiteAfterThePrefixSpec)) fnSiteOfFindsAnInsertedSiteAfterThePrefixCard
/-- ITS FALSE NEIGHBOUR. Refute it at one input. -/
def FnSiteOfFindsAnInsertedSiteAfterThePrefixToldWrongFalsely : Prop := Claim7.holds Tryf.pinned (.plain (OpenSpec.ofChange fnSiteOfFindsAnInsertedSiteAfterThePrefixWrong)) fnSiteOfFindsAnInsertedSiteAfterThePrefixCard

/-- THE TOLD CARD OF 'zzlaws_internal_cluster_b1.FnSiteOfRefusesARemovedNameAndFindsAPresentOne'. -/
def fnSiteOfRefusesARemovedNameAndFindsAPresentOneCard : Claim7 := { stood := { row := fnSiteOfRefusesARemovedNameAndFindsAPresentOneRow, standIns := [], harness := (true, "5bc6351359f9d2f353f9291c69d6e0e48cf3108ae93be0979540b6f09b6893ca"), looks := false }, told := true, goes := false }
def FnSiteOfRefusesARemovedNameAndFindsAPresentOneToldSaid : Prop := Claim7.holds Tryf.pinned (.plain (OpenSpec.ofChange fnSiteOfRefusesARemovedNameAndFindsAPresentOneSpec)) fnSiteOfRefusesARemovedNameAndFindsAPresentOneCard
/-- ITS FALSE NEIGHBOUR. Refute it at one input. -/
def FnSiteOfRefusesARemovedNameAndFindsAPresentOneToldWrongFalsely : Prop := Claim7.holds Tryf.pinned (.plain (OpenSpec.ofChange fnSiteOfRefusesARemovedNameAndFindsAPresentOneWrong)) fnSiteOfRefusesARemovedNameAndFindsAPresentOneCard
end Rows
end Go.Proofs.Qxb6630006aFmt
