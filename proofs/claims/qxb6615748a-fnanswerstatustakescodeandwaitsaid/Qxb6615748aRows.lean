/-
  No cell of these rows narrows 'for every input' (looked for: loops, veiled, ifaces, maps, wideKeys, modest, calm, conditions, laid).
  DERIVED. THE GIVEN ROWS OF THIS SEAT. 2 by the template 'for every input the law returns true; each argument reads behind the call as it read before'; 0 by the template 'total and deterministic' (their statements: Qxb6615748aTotals.lean).
  GIVEN WITH THE SEED: the statements are not yours to turn. If you find one false, say at which input.
  Laid BY PROGRAM, IN A SANDBOX (cutbox-rows.mjs): the forced cells as the released guide's own fill.sh prints them over the translation 96c246a052b244de… (all of the seat's roots in one cut). By AI agents, Wed Nov 11 2026. No macro, syntax, notation, axiom, sorry.
-/
import Derived.Test.Qxb6615748aChecked
import GoSem.Claim
import GoSem.ClaimJoined
import GoSem.ClaimMapViews
import Derived.JoinedTies
import Derived.KernelRfl
namespace Go.Proofs.Qxb6615748a
/- THE CELL 'sum', in the pinned program and in every row, IS THE sha256 OF THE DUMP (.gsa) THAT Qxb6615748aProg.lean LOADS. Nothing in Lean hashes anything: it is a label: what it is worth is what the hold of that sum in a sandbox is worth. -/
noncomputable def Try.pinned : Pinned := { name := "qxb6615748a", sum := "96c246a052b244de55462a154e4348a0ee32e3a2ede26a8406904f14935f3fb6", checked := Try.checked }
namespace Rows
def none {H : Type} : Left H := { results := [], args := [] }

/-- 'zzlaws_root_b1.FnAnswerStatusTakesCodeAndWait': WHATEVER THE INPUT: true; the input reads as it did. -/
def fnAnswerStatusTakesCodeAndWaitSpec : ChangeSpec := { name := "fnAnswerStatusTakesCodeAndWait", fn := fun _ => fun
  | [d1, d2, d3, d4] => { results := [.lit (.bool true)], args := [d1, d2, d3, d4] }
  | _ => none }
def fnAnswerStatusTakesCodeAndWaitRow : OpenClaim := { program := "qxb6615748a", sum := "96c246a052b244de55462a154e4348a0ee32e3a2ede26a8406904f14935f3fb6", func := "example.com/retry-on-fault/retry-on-fault/zzlaws_root_b1.FnAnswerStatusTakesCodeAndWait", spec := "fnAnswerStatusTakesCodeAndWait", unfollowed := true, recurses := true, apart := false }
def FnAnswerStatusTakesCodeAndWaitSaid : Prop := fnAnswerStatusTakesCodeAndWaitRow.holds Try.pinned (OpenSpec.ofChange fnAnswerStatusTakesCodeAndWaitSpec)

/-- ITS FALSE NEIGHBOUR: 'it returns false'. Refute it at one input. -/
def fnAnswerStatusTakesCodeAndWaitWrong : ChangeSpec := { name := "fnAnswerStatusTakesCodeAndWait", fn := fun _ => fun
  | [d1, d2, d3, d4] => { results := [.lit (.bool false)], args := [d1, d2, d3, d4] }
  | _ => none }
def FnAnswerStatusTakesCodeAndWaitWrongFalsely : Prop := fnAnswerStatusTakesCodeAndWaitRow.holds Try.pinned (OpenSpec.ofChange fnAnswerStatusTakesCodeAndWaitWrong)

/-- 'zzlaws_root_b1.FnAskedWaitOnlyFromAskers': WHATEVER THE INPUT: true; the input reads as it did. -/
def fnAskedWaitOnlyFromAskersSpec : ChangeSpec := { name := "fnAskedWaitOnlyFromAskers", fn := fun _ => fun
  | [d1, d2, d3] => { results := [.lit (.bool true)], args := [d1, d2, d3] }
  | _ => none }
def fnAskedWaitOnlyFromAskersRow : OpenClaim := { program := "qxb6615748a", sum := "96c246a052b244de55462a154e4348a0ee32e3a2ede26a8406904f14935f3fb6", func := "example.com/retry-on-fault/retry-on-fault/zzlaws_root_b1.FnAskedWaitOnlyFromAskers", spec := "fnAskedWaitOnlyFromAskers", unfollowed := true, recurses := true, apart := false }
def FnAskedWaitOnlyFromAskersSaid : Prop := fnAskedWaitOnlyFromAskersRow.holds Try.pinned (OpenSpec.ofChange fnAskedWaitOnlyFromAskersSpec)

/-- ITS FALSE NEIGHBOUR: 'it returns false'. Refute it at one input. -/
def fnAskedWaitOnlyFromAskersWrong : ChangeSpec := { name := "fnAskedWaitOnlyFromAskers", fn := fun _ => fun
  | [d1, d2, d3] => { results := [.lit (.bool false)], args := [d1, d2, d3] }
  | _ => none }
def FnAskedWaitOnlyFromAskersWrongFalsely : Prop := fnAskedWaitOnlyFromAskersRow.holds Try.pinned (OpenSpec.ofChange fnAskedWaitOnlyFromAskersWrong)

end Rows
end Go.Proofs.Qxb6615748a
