/-
  No cell of these rows narrows 'for every input' (looked for: loops, veiled, ifaces, maps, wideKeys, modest, calm, conditions, laid).
  DERIVED. THE GIVEN ROWS OF THIS SEAT. 2 by the template 'for every input the law returns true; each argument reads behind the call as it read before'; 0 by the template 'total and deterministic' (their statements: Qxb6617666aTotals.lean).
  GIVEN WITH THE SEED: the statements are not yours to turn. If you find one false, say at which input.
  Laid BY PROGRAM, IN A SANDBOX (cutbox-rows.mjs): the forced cells as the released guide's own fill.sh prints them over the translation 2c2e8ae85383c5aa… (all of the seat's roots in one cut). By AI agents, Wed Nov 11 2026. No macro, syntax, notation, axiom, sorry.
-/
import Derived.Test.Qxb6617666aChecked
import GoSem.Claim
import GoSem.ClaimJoined
import GoSem.ClaimMapViews
import Derived.JoinedTies
import Derived.KernelRfl
namespace Go.Proofs.Qxb6617666a
/- THE CELL 'sum', in the pinned program and in every row, IS THE sha256 OF THE DUMP (.gsa) THAT Qxb6617666aProg.lean LOADS. Nothing in Lean hashes anything: it is a label: what it is worth is what the hold of that sum in a sandbox is worth. -/
noncomputable def Try.pinned : Pinned := { name := "qxb6617666a", sum := "2c2e8ae85383c5aaaa743df2a72cf1d5aac12d3ea2499b5a25d661757d15b407", checked := Try.checked }
namespace Rows
def none {H : Type} : Left H := { results := [], args := [] }

/-- 'zzlaws_root_b1.FnSurvivorsMatchesDotJoin': WHATEVER THE INPUT: true; the input reads as it did. -/
def fnSurvivorsMatchesDotJoinSpec : ChangeSpec := { name := "fnSurvivorsMatchesDotJoin", fn := fun _ => fun
  | [d1, d2, d3, d4, d5] => { results := [.lit (.bool true)], args := [d1, d2, d3, d4, d5] }
  | _ => none }
def fnSurvivorsMatchesDotJoinRow : OpenClaim := { program := "qxb6617666a", sum := "2c2e8ae85383c5aaaa743df2a72cf1d5aac12d3ea2499b5a25d661757d15b407", func := "example.com/dotlattice/dotlattice/zzlaws_root_b1.FnSurvivorsMatchesDotJoin", spec := "fnSurvivorsMatchesDotJoin", apart := false }
def FnSurvivorsMatchesDotJoinSaid : Prop := fnSurvivorsMatchesDotJoinRow.holds Try.pinned (OpenSpec.ofChange fnSurvivorsMatchesDotJoinSpec)

/-- ITS FALSE NEIGHBOUR: 'it returns false'. Refute it at one input. -/
def fnSurvivorsMatchesDotJoinWrong : ChangeSpec := { name := "fnSurvivorsMatchesDotJoin", fn := fun _ => fun
  | [d1, d2, d3, d4, d5] => { results := [.lit (.bool false)], args := [d1, d2, d3, d4, d5] }
  | _ => none }
def FnSurvivorsMatchesDotJoinWrongFalsely : Prop := fnSurvivorsMatchesDotJoinRow.holds Try.pinned (OpenSpec.ofChange fnSurvivorsMatchesDotJoinWrong)

/-- 'zzlaws_root_b1.FnSurvivorsSharedHistoryMatchesDotJoin': WHATEVER THE INPUT: true; the input reads as it did. -/
def fnSurvivorsSharedHistoryMatchesDotJoinSpec : ChangeSpec := { name := "fnSurvivorsSharedHistoryMatchesDotJoin", fn := fun _ => fun
  | [d1, d2, d3, d4, d5, d6] => { results := [.lit (.bool true)], args := [d1, d2, d3, d4, d5, d6] }
  | _ => none }
def fnSurvivorsSharedHistoryMatchesDotJoinRow : OpenClaim := { program := "qxb6617666a", sum := "2c2e8ae85383c5aaaa743df2a72cf1d5aac12d3ea2499b5a25d661757d15b407", func := "example.com/dotlattice/dotlattice/zzlaws_root_b1.FnSurvivorsSharedHistoryMatchesDotJoin", spec := "fnSurvivorsSharedHistoryMatchesDotJoin", apart := false }
def FnSurvivorsSharedHistoryMatchesDotJoinSaid : Prop := fnSurvivorsSharedHistoryMatchesDotJoinRow.holds Try.pinned (OpenSpec.ofChange fnSurvivorsSharedHistoryMatchesDotJoinSpec)

/-- ITS FALSE NEIGHBOUR: 'it returns false'. Refute it at one input. -/
def fnSurvivorsSharedHistoryMatchesDotJoinWrong : ChangeSpec := { name := "fnSurvivorsSharedHistoryMatchesDotJoin", fn := fun _ => fun
  | [d1, d2, d3, d4, d5, d6] => { results := [.lit (.bool false)], args := [d1, d2, d3, d4, d5, d6] }
  | _ => none }
def FnSurvivorsSharedHistoryMatchesDotJoinWrongFalsely : Prop := fnSurvivorsSharedHistoryMatchesDotJoinRow.holds Try.pinned (OpenSpec.ofChange fnSurvivorsSharedHistoryMatchesDotJoinWrong)

end Rows
end Go.Proofs.Qxb6617666a
