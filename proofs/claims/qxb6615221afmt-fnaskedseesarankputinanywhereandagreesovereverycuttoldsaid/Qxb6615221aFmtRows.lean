/-
  No cell of these rows narrows 'for every input' (looked for: loops, veiled, ifaces, maps, wideKeys, modest, calm, conditions, laid).
  DERIVED. THE GIVEN ROWS OF THIS SEAT. 1 by the template 'for every input the law returns true; each argument reads behind the call as it read before'; 0 by the template 'total and deterministic' (their statements: Qxb6615221aFmtTotals.lean).
  GIVEN WITH THE SEED: the statements are not yours to turn. If you find one false, say at which input.
  Laid BY PROGRAM, IN A SANDBOX (cutbox-rows.mjs): the forced cells as the released guide's own fill.sh prints them over the translation 883d416c76d364e7… (all of the seat's roots in one cut). By AI agents, Wed Nov 11 2026. No macro, syntax, notation, axiom, sorry.
-/
import Derived.Test.Qxb6615221aFmtChecked
import GoSem.Claim
import GoSem.ClaimJoined
import GoSem.ClaimMapViews
import Derived.JoinedTies
import Derived.KernelRfl
namespace Go.Proofs.Qxb6615221aFmt
/- THE CELL 'sum', in the pinned program and in every row, IS THE sha256 OF THE DUMP (.gsa) THAT Qxb6615221aFmtProg.lean LOADS. Nothing in Lean hashes anything: it is a label: what it is worth is what the hold of that sum in a sandbox is worth. -/
noncomputable def Tryf.pinned : Pinned := { name := "qxb6615221afmt", sum := "883d416c76d364e7009023542597aa9cf5b67c52c31f6e9a9e5dacda8ce84193", checked := Tryf.checked }
namespace Rows
def none {H : Type} : Left H := { results := [], args := [] }

/-- 'zzlaws_root_b1.FnAskedSeesARankPutInAnywhereAndAgreesOverEveryCut': WHATEVER THE INPUT: true; the input reads as it did. -/
def fnAskedSeesARankPutInAnywhereAndAgreesOverEveryCutSpec : ChangeSpec := { name := "fnAskedSeesARankPutInAnywhereAndAgreesOverEveryCut", fn := fun _ => fun
  | [d1, d2, d3, d4, d5, d6, d7] => { results := [.lit (.bool true)], args := [d1, d2, d3, d4, d5, d6, d7] }
  | _ => none }
def fnAskedSeesARankPutInAnywhereAndAgreesOverEveryCutRow : OpenClaim := { program := "qxb6615221afmt", sum := "883d416c76d364e7009023542597aa9cf5b67c52c31f6e9a9e5dacda8ce84193", func := "example.com/spanfold/spanfold/zzlaws_root_b1.FnAskedSeesARankPutInAnywhereAndAgreesOverEveryCut", spec := "fnAskedSeesARankPutInAnywhereAndAgreesOverEveryCut", stops := ["fmt.Sprintf"], inPlace := ["fmt.Sprintf"], apart := false }
/-- NO THEOREM (fmt's text is open here; it may be false): for the released tool's asking of the row's closed facts alone. THE STATEMENT IS 'FnAskedSeesARankPutInAnywhereAndAgreesOverEveryCutToldSaid' (Qxb6615221aFmtCards.lean). -/
def FnAskedSeesARankPutInAnywhereAndAgreesOverEveryCutFormAsk : Prop := fnAskedSeesARankPutInAnywhereAndAgreesOverEveryCutRow.holds Tryf.pinned (OpenSpec.ofChange fnAskedSeesARankPutInAnywhereAndAgreesOverEveryCutSpec)

/-- ITS FALSE NEIGHBOUR: 'it returns false'. Refute it at one input. -/
def fnAskedSeesARankPutInAnywhereAndAgreesOverEveryCutWrong : ChangeSpec := { name := "fnAskedSeesARankPutInAnywhereAndAgreesOverEveryCut", fn := fun _ => fun
  | [d1, d2, d3, d4, d5, d6, d7] => { results := [.lit (.bool false)], args := [d1, d2, d3, d4, d5, d6, d7] }
  | _ => none }
def FnAskedSeesARankPutInAnywhereAndAgreesOverEveryCutWrongFormAsk : Prop := fnAskedSeesARankPutInAnywhereAndAgreesOverEveryCutRow.holds Tryf.pinned (OpenSpec.ofChange fnAskedSeesARankPutInAnywhereAndAgreesOverEveryCutWrong)

end Rows
end Go.Proofs.Qxb6615221aFmt
