/-
  No cell of these rows narrows 'for every input' (looked for: loops, veiled, ifaces, maps, wideKeys, modest, calm, conditions, laid).
  DERIVED. THE GIVEN ROWS OF THIS SEAT. 1 by the template 'for every input the law returns true; each argument reads behind the call as it read before'; 0 by the template 'total and deterministic' (their statements: Qxb6617679aTotals.lean).
  GIVEN WITH THE SEED: the statements are not yours to turn. If you find one false, say at which input.
  Laid BY PROGRAM, IN A SANDBOX (cutbox-rows.mjs): the forced cells as the released guide's own fill.sh prints them over the translation b18bf6a5392d80fb… (all of the seat's roots in one cut). By AI agents, Wed Nov 11 2026. No macro, syntax, notation, axiom, sorry.
-/
import Derived.Test.Qxb6617679aChecked
import GoSem.Claim
import GoSem.ClaimJoined
import GoSem.ClaimMapViews
import Derived.JoinedTies
import Derived.KernelRfl
namespace Go.Proofs.Qxb6617679a
/- THE CELL 'sum', in the pinned program and in every row, IS THE sha256 OF THE DUMP (.gsa) THAT Qxb6617679aProg.lean LOADS. Nothing in Lean hashes anything: it is a label: what it is worth is what the hold of that sum in a sandbox is worth. -/
noncomputable def Try.pinned : Pinned := { name := "qxb6617679a", sum := "b18bf6a5392d80fb396652e1c7c3969e7c6be12465bc9fdd55bcf8b5eb894128", checked := Try.checked }
namespace Rows
def none {H : Type} : Left H := { results := [], args := [] }

/-- 'zzlaws_internal_der_b1.FnEncodeUnsignedIntegerIsDERIntegerOfValue': WHATEVER THE INPUT: true; the input reads as it did. -/
def fnEncodeUnsignedIntegerIsDERIntegerOfValueSpec : ChangeSpec := { name := "fnEncodeUnsignedIntegerIsDERIntegerOfValue", fn := fun _ => fun
  | [d] => { results := [.lit (.bool true)], args := [d] }
  | _ => none }
def fnEncodeUnsignedIntegerIsDERIntegerOfValueRow : OpenClaim := { program := "qxb6617679a", sum := "b18bf6a5392d80fb396652e1c7c3969e7c6be12465bc9fdd55bcf8b5eb894128", func := "example.com/saltmask/saltmask/zzlaws_internal_der_b1.FnEncodeUnsignedIntegerIsDERIntegerOfValue", spec := "fnEncodeUnsignedIntegerIsDERIntegerOfValue", apart := false }
def FnEncodeUnsignedIntegerIsDERIntegerOfValueSaid : Prop := fnEncodeUnsignedIntegerIsDERIntegerOfValueRow.holds Try.pinned (OpenSpec.ofChange fnEncodeUnsignedIntegerIsDERIntegerOfValueSpec)

/-- ITS FALSE NEIGHBOUR: 'it returns false'. Refute it at one input. -/
def fnEncodeUnsignedIntegerIsDERIntegerOfValueWrong : ChangeSpec := { name := "fnEncodeUnsignedIntegerIsDERIntegerOfValue", fn := fun _ => fun
  | [d] => { results := [.lit (.bool false)], args := [d] }
  | _ => none }
def FnEncodeUnsignedIntegerIsDERIntegerOfValueWrongFalsely : Prop := fnEncodeUnsignedIntegerIsDERIntegerOfValueRow.holds Try.pinned (OpenSpec.ofChange fnEncodeUnsignedIntegerIsDERIntegerOfValueWrong)

end Rows
end Go.Proofs.Qxb6617679a
