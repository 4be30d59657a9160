/-
  No cell of these rows narrows 'for every input' (looked for: loops, veiled, ifaces, maps, wideKeys, modest, calm, conditions, laid).
  DERIVED. THE GIVEN ROWS OF THIS SEAT. 4 by the template 'for every input the law returns true; each argument reads behind the call as it read before'; 0 by the template 'total and deterministic' (their statements: Qxb6614736aTotals.lean).
  GIVEN WITH THE SEED: the statements are not yours to turn. If you find one false, say at which input.
  Laid BY PROGRAM, IN A SANDBOX (cutbox-rows.mjs): the forced cells as the released guide's own fill.sh prints them over the translation aced709ac36f38b7… (all of the seat's roots in one cut). By AI agents, Wed Nov 11 2026. No macro, syntax, notation, axiom, sorry.
-/
import Derived.Test.Qxb6614736aChecked
import GoSem.Claim
import GoSem.ClaimJoined
import GoSem.ClaimMapViews
import Derived.JoinedTies
import Derived.KernelRfl
namespace Go.Proofs.Qxb6614736a
/- THE CELL 'sum', in the pinned program and in every row, IS THE sha256 OF THE DUMP (.gsa) THAT Qxb6614736aProg.lean LOADS. Nothing in Lean hashes anything: it is a label: what it is worth is what the hold of that sum in a sandbox is worth. -/
noncomputable def Try.pinned : Pinned := { name := "qxb6614736a", sum := "aced709ac36f38b736e30a26927ba5b4df9d998d95693a8ec02499cc0e98a17e", checked := Try.checked }
namespace Rows
def none {H : Type} : Left H := { results := [], args := [] }

/-- 'zzlaws_internal_config_b1.FnNeedsSignInSplitsAtAnyCut': WHATEVER THE INPUT: true; the input reads as it did. -/
def fnNeedsSignInSplitsAtAnyCutSpec : ChangeSpec := { name := "fnNeedsSignInSplitsAtAnyCut", fn := fun _ => fun
  | [d1, d2] => { results := [.lit (.bool true)], args := [d1, d2] }
  | _ => none }
def fnNeedsSignInSplitsAtAnyCutRow : OpenClaim := { program := "qxb6614736a", sum := "aced709ac36f38b736e30a26927ba5b4df9d998d95693a8ec02499cc0e98a17e", func := "example.com/aldgate/aldgate/zzlaws_internal_config_b1.FnNeedsSignInSplitsAtAnyCut", spec := "fnNeedsSignInSplitsAtAnyCut", unfollowed := true, recurses := true, apart := false }
def FnNeedsSignInSplitsAtAnyCutSaid : Prop := fnNeedsSignInSplitsAtAnyCutRow.holds Try.pinned (OpenSpec.ofChange fnNeedsSignInSplitsAtAnyCutSpec)

/-- ITS FALSE NEIGHBOUR: 'it returns false'. Refute it at one input. -/
def fnNeedsSignInSplitsAtAnyCutWrong : ChangeSpec := { name := "fnNeedsSignInSplitsAtAnyCut", fn := fun _ => fun
  | [d1, d2] => { results := [.lit (.bool false)], args := [d1, d2] }
  | _ => none }
def FnNeedsSignInSplitsAtAnyCutWrongFalsely : Prop := fnNeedsSignInSplitsAtAnyCutRow.holds Try.pinned (OpenSpec.ofChange fnNeedsSignInSplitsAtAnyCutWrong)

/-- 'zzlaws_internal_config_b1.FnNeedsSignInAgreesWithPassesIdentity': WHATEVER THE INPUT: true; the input reads as it did. -/
def fnNeedsSignInAgreesWithPassesIdentitySpec : ChangeSpec := { name := "fnNeedsSignInAgreesWithPassesIdentity", fn := fun _ => fun
  | [d] => { results := [.lit (.bool true)], args := [d] }
  | _ => none }
def fnNeedsSignInAgreesWithPassesIdentityRow : OpenClaim := { program := "qxb6614736a", sum := "aced709ac36f38b736e30a26927ba5b4df9d998d95693a8ec02499cc0e98a17e", func := "example.com/aldgate/aldgate/zzlaws_internal_config_b1.FnNeedsSignInAgreesWithPassesIdentity", spec := "fnNeedsSignInAgreesWithPassesIdentity", unfollowed := true, recurses := true, apart := false }
def FnNeedsSignInAgreesWithPassesIdentitySaid : Prop := fnNeedsSignInAgreesWithPassesIdentityRow.holds Try.pinned (OpenSpec.ofChange fnNeedsSignInAgreesWithPassesIdentitySpec)

/-- ITS FALSE NEIGHBOUR: 'it returns false'. Refute it at one input. -/
def fnNeedsSignInAgreesWithPassesIdentityWrong : ChangeSpec := { name := "fnNeedsSignInAgreesWithPassesIdentity", fn := fun _ => fun
  | [d] => { results := [.lit (.bool false)], args := [d] }
  | _ => none }
def FnNeedsSignInAgreesWithPassesIdentityWrongFalsely : Prop := fnNeedsSignInAgreesWithPassesIdentityRow.holds Try.pinned (OpenSpec.ofChange fnNeedsSignInAgreesWithPassesIdentityWrong)

/-- 'zzlaws_internal_config_b1.FnFirstSignInRouteSplitsAtAnyCut': WHATEVER THE INPUT: true; the input reads as it did. -/
def fnFirstSignInRouteSplitsAtAnyCutSpec : ChangeSpec := { name := "fnFirstSignInRouteSplitsAtAnyCut", fn := fun _ => fun
  | [d1, d2] => { results := [.lit (.bool true)], args := [d1, d2] }
  | _ => none }
def fnFirstSignInRouteSplitsAtAnyCutRow : OpenClaim := { program := "qxb6614736a", sum := "aced709ac36f38b736e30a26927ba5b4df9d998d95693a8ec02499cc0e98a17e", func := "example.com/aldgate/aldgate/zzlaws_internal_config_b1.FnFirstSignInRouteSplitsAtAnyCut", spec := "fnFirstSignInRouteSplitsAtAnyCut", unfollowed := true, recurses := true, apart := false }
def FnFirstSignInRouteSplitsAtAnyCutSaid : Prop := fnFirstSignInRouteSplitsAtAnyCutRow.holds Try.pinned (OpenSpec.ofChange fnFirstSignInRouteSplitsAtAnyCutSpec)

/-- ITS FALSE NEIGHBOUR: 'it returns false'. Refute it at one input. -/
def fnFirstSignInRouteSplitsAtAnyCutWrong : ChangeSpec := { name := "fnFirstSignInRouteSplitsAtAnyCut", fn := fun _ => fun
  | [d1, d2] => { results := [.lit (.bool false)], args := [d1, d2] }
  | _ => none }
def FnFirstSignInRouteSplitsAtAnyCutWrongFalsely : Prop := fnFirstSignInRouteSplitsAtAnyCutRow.holds Try.pinned (OpenSpec.ofChange fnFirstSignInRouteSplitsAtAnyCutWrong)

/-- 'zzlaws_internal_config_b1.FnFirstSignInRouteAfterInsertAnywhere': WHATEVER THE INPUT: true; the input reads as it did. -/
def fnFirstSignInRouteAfterInsertAnywhereSpec : ChangeSpec := { name := "fnFirstSignInRouteAfterInsertAnywhere", fn := fun _ => fun
  | [d1, d2, d3] => { results := [.lit (.bool true)], args := [d1, d2, d3] }
  | _ => none }
def fnFirstSignInRouteAfterInsertAnywhereRow : OpenClaim := { program := "qxb6614736a", sum := "aced709ac36f38b736e30a26927ba5b4df9d998d95693a8ec02499cc0e98a17e", func := "example.com/aldgate/aldgate/zzlaws_internal_config_b1.FnFirstSignInRouteAfterInsertAnywhere", spec := "fnFirstSignInRouteAfterInsertAnywhere", unfollowed := true, recurses := true, apart := false }
def FnFirstSignInRouteAfterInsertAnywhereSaid : Prop := fnFirstSignInRouteAfterInsertAnywhereRow.holds Try.pinned (OpenSpec.ofChange fnFirstSignInRouteAfterInsertAnywhereSpec)

/-- ITS FALSE NEIGHBOUR: 'it returns false'. Refute it at one input. -/
def fnFirstSignInRouteAfterInsertAnywhereWrong : ChangeSpec := { name := "fnFirstSignInRouteAfterInsertAnywhere", fn := fun _ => fun
  | [d1, d2, d3] => { results := [.lit (.bool false)], args := [d1, d2, d3] }
  | _ => none }
def FnFirstSignInRouteAfterInsertAnywhereWrongFalsely : Prop := fnFirstSignInRouteAfterInsertAnywhereRow.holds Try.pinned (OpenSpec.ofChange fnFirstSignInRouteAfterInsertAnywhereWrong)

end Rows
end Go.Proofs.Qxb6614736a
