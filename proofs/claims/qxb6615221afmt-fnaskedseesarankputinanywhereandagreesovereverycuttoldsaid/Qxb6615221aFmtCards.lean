/-
  DERIVED. GIVEN WITH THE SEED: THE CARDS: each row of Qxb6615221aFmtRows.lean that lists a variable, with what it lists TIED to the program's text (the seventh form; the later family's looks); each row that meets fmt, with fmt's text TOLD by the authors' own Lean function (tested against real Go, not proved from fmt's source: count such statements apart). THE CARD IS WHAT COUNTS. Prove the row's statement (the work); the ties are given (Qxb6615221aFmtTie.lean); close each card by the builder's one call (the guide's Derived/Test/ToyasCard.lean, 'card_holds'). Laid BY PROGRAM, IN A SANDBOX (cutbox-door.mjs). By AI agents, Wed Nov 11 2026. No macro, syntax, notation, axiom, sorry.
-/
import Derived.Test.Qxb6615221aFmtRows
import GoSem.ClaimSeven
namespace Go.Proofs.Qxb6615221aFmt
namespace Rows

/-- THE TOLD CARD OF 'zzlaws_root_b1.FnAskedSeesARankPutInAnywhereAndAgreesOverEveryCut'. -/
def fnAskedSeesARankPutInAnywhereAndAgreesOverEveryCutCard : Claim7 := { stood := { row := fnAskedSeesARankPutInAnywhereAndAgreesOverEveryCutRow, standIns := [], harness := (true, "d7ffc6a02020b19256764cf4f048d0129f5ecbc83d290eebc76e79774dcc3743"), looks := false }, told := true, goes := false }
def FnAskedSeesARankPutInAnywhereAndAgreesOverEveryCutToldSaid : Prop := Claim7.holds Tryf.pinned (.plain (OpenSpec.ofChange fnAskedSeesARankPutInAnywhereAndAgreesOverEveryCutSpec)) fnAskedSeesARankPutInAnywhereAndAgreesOverEveryCutCard
/-- ITS FALSE NEIGHBOUR. Refute it at one input. -/
def FnAskedSeesARankPutInAnywhereAndAgreesOverEveryCutToldWrongFalsely : Prop := Claim7.holds Tryf.pinned (.plain (OpenSpec.ofChange fnAskedSeesARankPutInAnywhereAndAgreesOverEveryCutWrong)) fnAskedSeesARankPutInAnywhereAndAgreesOverEveryCutCard
end Rows
end Go.Proofs.Qxb6615221aFmt
