/-
  No cell of these rows narrows 'for every input' (looked for: loops, veiled, ifaces, maps, wideKeys, modest, calm, conditions, laid).
  DERIVED. THE GIVEN ROWS OF THIS SEAT. 6 by the template 'for every input the law returns true; each argument reads behind the call as it read before'; 0 by the template 'total and deterministic' (their statements: Qxb6615667aTotals.lean).
  GIVEN WITH THE SEED: the statements are not yours to turn. If you find one false, say at which input.
  Laid BY PROGRAM, IN A SANDBOX (cutbox-rows.mjs): the forced cells as the released guide's own fill.sh prints them over the translation ee32661f42ce6341… (all of the seat's roots in one cut). By AI agents, Wed Nov 11 2026. No macro, syntax, notation, axiom, sorry.
-/
import Derived.Test.Qxb6615667aChecked
import GoSem.Claim
import GoSem.ClaimJoined
import GoSem.ClaimMapViews
import Derived.JoinedTies
import Derived.KernelRfl
namespace Go.Proofs.Qxb6615667a
/- THE CELL 'sum', in the pinned program and in every row, IS THE sha256 OF THE DUMP (.gsa) THAT Qxb6615667aProg.lean LOADS. Nothing in Lean hashes anything: it is a label: what it is worth is what the hold of that sum in a sandbox is worth. -/
noncomputable def Try.pinned : Pinned := { name := "qxb6615667a", sum := "ee32661f42ce634118c6cc7b7fb949cfa0625ca7ee9e909037058b27d3bec392", checked := Try.checked }
namespace Rows
def none {H : Type} : Left H := { results := [], args := [] }

/-- 'zzlaws_root_b1.FnIsAlphaCaseFlip': WHATEVER THE INPUT: true; the input reads as it did. -/
def fnIsAlphaCaseFlipSpec : ChangeSpec := { name := "fnIsAlphaCaseFlip", fn := fun _ => fun
  | [d] => { results := [.lit (.bool true)], args := [d] }
  | _ => none }
def fnIsAlphaCaseFlipRow : OpenClaim := { program := "qxb6615667a", sum := "ee32661f42ce634118c6cc7b7fb949cfa0625ca7ee9e909037058b27d3bec392", func := "example.com/vitalsign/vitalsign/zzlaws_root_b1.FnIsAlphaCaseFlip", spec := "fnIsAlphaCaseFlip", apart := false }
def FnIsAlphaCaseFlipSaid : Prop := fnIsAlphaCaseFlipRow.holds Try.pinned (OpenSpec.ofChange fnIsAlphaCaseFlipSpec)

/-- ITS FALSE NEIGHBOUR: 'it returns false'. Refute it at one input. -/
def fnIsAlphaCaseFlipWrong : ChangeSpec := { name := "fnIsAlphaCaseFlip", fn := fun _ => fun
  | [d] => { results := [.lit (.bool false)], args := [d] }
  | _ => none }
def FnIsAlphaCaseFlipWrongFalsely : Prop := fnIsAlphaCaseFlipRow.holds Try.pinned (OpenSpec.ofChange fnIsAlphaCaseFlipWrong)

/-- 'zzlaws_root_b1.FnIsAlphaStartsScheme': WHATEVER THE INPUT: true; the input reads as it did. -/
def fnIsAlphaStartsSchemeSpec : ChangeSpec := { name := "fnIsAlphaStartsScheme", fn := fun _ => fun
  | [d] => { results := [.lit (.bool true)], args := [d] }
  | _ => none }
def fnIsAlphaStartsSchemeRow : OpenClaim := { program := "qxb6615667a", sum := "ee32661f42ce634118c6cc7b7fb949cfa0625ca7ee9e909037058b27d3bec392", func := "example.com/vitalsign/vitalsign/zzlaws_root_b1.FnIsAlphaStartsScheme", spec := "fnIsAlphaStartsScheme", inPlace := ["internal/bytealg.IndexByteString"], apart := false }
def FnIsAlphaStartsSchemeSaid : Prop := fnIsAlphaStartsSchemeRow.holds Try.pinned (OpenSpec.ofChange fnIsAlphaStartsSchemeSpec)

/-- ITS FALSE NEIGHBOUR: 'it returns false'. Refute it at one input. -/
def fnIsAlphaStartsSchemeWrong : ChangeSpec := { name := "fnIsAlphaStartsScheme", fn := fun _ => fun
  | [d] => { results := [.lit (.bool false)], args := [d] }
  | _ => none }
def FnIsAlphaStartsSchemeWrongFalsely : Prop := fnIsAlphaStartsSchemeRow.holds Try.pinned (OpenSpec.ofChange fnIsAlphaStartsSchemeWrong)

/-- 'zzlaws_root_b1.FnFirstRunMadeOnceKept': WHATEVER THE INPUT: true; the input reads as it did. -/
def fnFirstRunMadeOnceKeptSpec : ChangeSpec := { name := "fnFirstRunMadeOnceKept", fn := fun _ => fun
  | [d1, d2, d3, d4, d5, d6, d7] => { results := [.lit (.bool true)], args := [d1, d2, d3, d4, d5, d6, d7] }
  | _ => none }
def fnFirstRunMadeOnceKeptRow : OpenClaim := { program := "qxb6615667a", sum := "ee32661f42ce634118c6cc7b7fb949cfa0625ca7ee9e909037058b27d3bec392", func := "example.com/vitalsign/vitalsign/zzlaws_root_b1.FnFirstRunMadeOnceKept", spec := "fnFirstRunMadeOnceKept", apart := false }
def FnFirstRunMadeOnceKeptSaid : Prop := fnFirstRunMadeOnceKeptRow.holds Try.pinned (OpenSpec.ofChange fnFirstRunMadeOnceKeptSpec)

/-- ITS FALSE NEIGHBOUR: 'it returns false'. Refute it at one input. -/
def fnFirstRunMadeOnceKeptWrong : ChangeSpec := { name := "fnFirstRunMadeOnceKept", fn := fun _ => fun
  | [d1, d2, d3, d4, d5, d6, d7] => { results := [.lit (.bool false)], args := [d1, d2, d3, d4, d5, d6, d7] }
  | _ => none }
def FnFirstRunMadeOnceKeptWrongFalsely : Prop := fnFirstRunMadeOnceKeptRow.holds Try.pinned (OpenSpec.ofChange fnFirstRunMadeOnceKeptWrong)

/-- 'zzlaws_root_b1.FnFirstRunOwnPerHealth': WHATEVER THE INPUT: true; the input reads as it did. -/
def fnFirstRunOwnPerHealthSpec : ChangeSpec := { name := "fnFirstRunOwnPerHealth", fn := fun _ => fun
  | [d1, d2, d3, d4, d5, d6, d7] => { results := [.lit (.bool true)], args := [d1, d2, d3, d4, d5, d6, d7] }
  | _ => none }
def fnFirstRunOwnPerHealthRow : OpenClaim := { program := "qxb6615667a", sum := "ee32661f42ce634118c6cc7b7fb949cfa0625ca7ee9e909037058b27d3bec392", func := "example.com/vitalsign/vitalsign/zzlaws_root_b1.FnFirstRunOwnPerHealth", spec := "fnFirstRunOwnPerHealth", apart := false }
def FnFirstRunOwnPerHealthSaid : Prop := fnFirstRunOwnPerHealthRow.holds Try.pinned (OpenSpec.ofChange fnFirstRunOwnPerHealthSpec)

/-- ITS FALSE NEIGHBOUR: 'it returns false'. Refute it at one input. -/
def fnFirstRunOwnPerHealthWrong : ChangeSpec := { name := "fnFirstRunOwnPerHealth", fn := fun _ => fun
  | [d1, d2, d3, d4, d5, d6, d7] => { results := [.lit (.bool false)], args := [d1, d2, d3, d4, d5, d6, d7] }
  | _ => none }
def FnFirstRunOwnPerHealthWrongFalsely : Prop := fnFirstRunOwnPerHealthRow.holds Try.pinned (OpenSpec.ofChange fnFirstRunOwnPerHealthWrong)

/-- 'zzlaws_root_b1.FnSortedMustFirstStable': WHATEVER THE INPUT: true; the input reads as it did. -/
def fnSortedMustFirstStableSpec : ChangeSpec := { name := "fnSortedMustFirstStable", fn := fun _ => fun
  | [d] => { results := [.lit (.bool true)], args := [d] }
  | _ => none }
def fnSortedMustFirstStableRow : OpenClaim := { program := "qxb6615667a", sum := "ee32661f42ce634118c6cc7b7fb949cfa0625ca7ee9e909037058b27d3bec392", func := "example.com/vitalsign/vitalsign/zzlaws_root_b1.FnSortedMustFirstStable", spec := "fnSortedMustFirstStable", inPlace := ["internal/reflectlite.ValueOf", "internal/reflectlite.Swapper", "(internal/reflectlite.Value).Len"], unfollowed := true, recurses := true, apart := false }
def FnSortedMustFirstStableSaid : Prop := fnSortedMustFirstStableRow.holds Try.pinned (OpenSpec.ofChange fnSortedMustFirstStableSpec)

/-- ITS FALSE NEIGHBOUR: 'it returns false'. Refute it at one input. -/
def fnSortedMustFirstStableWrong : ChangeSpec := { name := "fnSortedMustFirstStable", fn := fun _ => fun
  | [d] => { results := [.lit (.bool false)], args := [d] }
  | _ => none }
def FnSortedMustFirstStableWrongFalsely : Prop := fnSortedMustFirstStableRow.holds Try.pinned (OpenSpec.ofChange fnSortedMustFirstStableWrong)

/-- 'zzlaws_root_b1.FnSortedJoinAtAnyCut': WHATEVER THE INPUT: true; the input reads as it did. -/
def fnSortedJoinAtAnyCutSpec : ChangeSpec := { name := "fnSortedJoinAtAnyCut", fn := fun _ => fun
  | [d1, d2] => { results := [.lit (.bool true)], args := [d1, d2] }
  | _ => none }
def fnSortedJoinAtAnyCutRow : OpenClaim := { program := "qxb6615667a", sum := "ee32661f42ce634118c6cc7b7fb949cfa0625ca7ee9e909037058b27d3bec392", func := "example.com/vitalsign/vitalsign/zzlaws_root_b1.FnSortedJoinAtAnyCut", spec := "fnSortedJoinAtAnyCut", inPlace := ["internal/reflectlite.ValueOf", "internal/reflectlite.Swapper", "(internal/reflectlite.Value).Len"], unfollowed := true, recurses := true, apart := false }
def FnSortedJoinAtAnyCutSaid : Prop := fnSortedJoinAtAnyCutRow.holds Try.pinned (OpenSpec.ofChange fnSortedJoinAtAnyCutSpec)

/-- ITS FALSE NEIGHBOUR: 'it returns false'. Refute it at one input. -/
def fnSortedJoinAtAnyCutWrong : ChangeSpec := { name := "fnSortedJoinAtAnyCut", fn := fun _ => fun
  | [d1, d2] => { results := [.lit (.bool false)], args := [d1, d2] }
  | _ => none }
def FnSortedJoinAtAnyCutWrongFalsely : Prop := fnSortedJoinAtAnyCutRow.holds Try.pinned (OpenSpec.ofChange fnSortedJoinAtAnyCutWrong)

end Rows
end Go.Proofs.Qxb6615667a
