/-
  No cell of these rows narrows 'for every input' (looked for: loops, veiled, ifaces, maps, wideKeys, modest, calm, conditions, laid).
  DERIVED. THE GIVEN ROWS OF THIS SEAT. 5 by the template 'for every input the law returns true; each argument reads behind the call as it read before'; 0 by the template 'total and deterministic' (their statements: Qxb6615097aTotals.lean).
  GIVEN WITH THE SEED: the statements are not yours to turn. If you find one false, say at which input.
  Laid BY PROGRAM, IN A SANDBOX (cutbox-rows.mjs): the forced cells as the released guide's own fill.sh prints them over the translation 55deef6c96c1263c… (all of the seat's roots in one cut). By AI agents, Wed Nov 11 2026. No macro, syntax, notation, axiom, sorry.
-/
import Derived.Test.Qxb6615097aChecked
import GoSem.Claim
import GoSem.ClaimJoined
import GoSem.ClaimMapViews
import Derived.JoinedTies
import Derived.KernelRfl
namespace Go.Proofs.Qxb6615097a
/- THE CELL 'sum', in the pinned program and in every row, IS THE sha256 OF THE DUMP (.gsa) THAT Qxb6615097aProg.lean LOADS. Nothing in Lean hashes anything: it is a label: what it is worth is what the hold of that sum in a sandbox is worth. -/
noncomputable def Try.pinned : Pinned := { name := "qxb6615097a", sum := "55deef6c96c1263c6dc566f85f25fc9396fe51646640b10eace7e2a87b475e0b", checked := Try.checked }
namespace Rows
def none {H : Type} : Left H := { results := [], args := [] }

/-- 'zzlaws_internal_keyspace_b1.FnGetRefusesCollectionKeys': WHATEVER THE INPUT: true; the input reads as it did. -/
def fnGetRefusesCollectionKeysSpec : ChangeSpec := { name := "fnGetRefusesCollectionKeys", fn := fun _ => fun
  | [d1, d2, d3, d4, d5] => { results := [.lit (.bool true)], args := [d1, d2, d3, d4, d5] }
  | _ => none }
def fnGetRefusesCollectionKeysRow : OpenClaim := { program := "qxb6615097a", sum := "55deef6c96c1263c6dc566f85f25fc9396fe51646640b10eace7e2a87b475e0b", func := "example.com/stillframe/stillframe/zzlaws_internal_keyspace_b1.FnGetRefusesCollectionKeys", spec := "fnGetRefusesCollectionKeys", unfollowed := true, recurses := true, apart := false }
def FnGetRefusesCollectionKeysSaid : Prop := fnGetRefusesCollectionKeysRow.holds Try.pinned (OpenSpec.ofChange fnGetRefusesCollectionKeysSpec)

/-- ITS FALSE NEIGHBOUR: 'it returns false'. Refute it at one input. -/
def fnGetRefusesCollectionKeysWrong : ChangeSpec := { name := "fnGetRefusesCollectionKeys", fn := fun _ => fun
  | [d1, d2, d3, d4, d5] => { results := [.lit (.bool false)], args := [d1, d2, d3, d4, d5] }
  | _ => none }
def FnGetRefusesCollectionKeysWrongFalsely : Prop := fnGetRefusesCollectionKeysRow.holds Try.pinned (OpenSpec.ofChange fnGetRefusesCollectionKeysWrong)

/-- 'zzlaws_internal_keyspace_b1.FnSetKeepsDeadlineHeap': WHATEVER THE INPUT: true; the input reads as it did. -/
def fnSetKeepsDeadlineHeapSpec : ChangeSpec := { name := "fnSetKeepsDeadlineHeap", fn := fun _ => fun
  | [d] => { results := [.lit (.bool true)], args := [d] }
  | _ => none }
def fnSetKeepsDeadlineHeapRow : OpenClaim := { program := "qxb6615097a", sum := "55deef6c96c1263c6dc566f85f25fc9396fe51646640b10eace7e2a87b475e0b", func := "example.com/stillframe/stillframe/zzlaws_internal_keyspace_b1.FnSetKeepsDeadlineHeap", spec := "fnSetKeepsDeadlineHeap", unfollowed := true, recurses := true, apart := false }
def FnSetKeepsDeadlineHeapSaid : Prop := fnSetKeepsDeadlineHeapRow.holds Try.pinned (OpenSpec.ofChange fnSetKeepsDeadlineHeapSpec)

/-- ITS FALSE NEIGHBOUR: 'it returns false'. Refute it at one input. -/
def fnSetKeepsDeadlineHeapWrong : ChangeSpec := { name := "fnSetKeepsDeadlineHeap", fn := fun _ => fun
  | [d] => { results := [.lit (.bool false)], args := [d] }
  | _ => none }
def FnSetKeepsDeadlineHeapWrongFalsely : Prop := fnSetKeepsDeadlineHeapRow.holds Try.pinned (OpenSpec.ofChange fnSetKeepsDeadlineHeapWrong)

/-- 'zzlaws_internal_keyspace_b1.FnSortedSetAtIsRankthMember': WHATEVER THE INPUT: true; the input reads as it did. -/
def fnSortedSetAtIsRankthMemberSpec : ChangeSpec := { name := "fnSortedSetAtIsRankthMember", fn := fun _ => fun
  | [d1, d2, d3, d4] => { results := [.lit (.bool true)], args := [d1, d2, d3, d4] }
  | _ => none }
def fnSortedSetAtIsRankthMemberRow : OpenClaim := { program := "qxb6615097a", sum := "55deef6c96c1263c6dc566f85f25fc9396fe51646640b10eace7e2a87b475e0b", func := "example.com/stillframe/stillframe/zzlaws_internal_keyspace_b1.FnSortedSetAtIsRankthMember", spec := "fnSortedSetAtIsRankthMember", apart := false }
def FnSortedSetAtIsRankthMemberSaid : Prop := fnSortedSetAtIsRankthMemberRow.holds Try.pinned (OpenSpec.ofChange fnSortedSetAtIsRankthMemberSpec)

/-- ITS FALSE NEIGHBOUR: 'it returns false'. Refute it at one input. -/
def fnSortedSetAtIsRankthMemberWrong : ChangeSpec := { name := "fnSortedSetAtIsRankthMember", fn := fun _ => fun
  | [d1, d2, d3, d4] => { results := [.lit (.bool false)], args := [d1, d2, d3, d4] }
  | _ => none }
def FnSortedSetAtIsRankthMemberWrongFalsely : Prop := fnSortedSetAtIsRankthMemberRow.holds Try.pinned (OpenSpec.ofChange fnSortedSetAtIsRankthMemberWrong)

/-- 'zzlaws_internal_keyspace_b1.FnGetReturnsLastSetValue': WHATEVER THE INPUT: true; the input reads as it did. -/
def fnGetReturnsLastSetValueSpec : ChangeSpec := { name := "fnGetReturnsLastSetValue", fn := fun _ => fun
  | [d1, d2] => { results := [.lit (.bool true)], args := [d1, d2] }
  | _ => none }
def fnGetReturnsLastSetValueRow : OpenClaim := { program := "qxb6615097a", sum := "55deef6c96c1263c6dc566f85f25fc9396fe51646640b10eace7e2a87b475e0b", func := "example.com/stillframe/stillframe/zzlaws_internal_keyspace_b1.FnGetReturnsLastSetValue", spec := "fnGetReturnsLastSetValue", unfollowed := true, recurses := true, apart := false }
def FnGetReturnsLastSetValueSaid : Prop := fnGetReturnsLastSetValueRow.holds Try.pinned (OpenSpec.ofChange fnGetReturnsLastSetValueSpec)

/-- ITS FALSE NEIGHBOUR: 'it returns false'. Refute it at one input. -/
def fnGetReturnsLastSetValueWrong : ChangeSpec := { name := "fnGetReturnsLastSetValue", fn := fun _ => fun
  | [d1, d2] => { results := [.lit (.bool false)], args := [d1, d2] }
  | _ => none }
def FnGetReturnsLastSetValueWrongFalsely : Prop := fnGetReturnsLastSetValueRow.holds Try.pinned (OpenSpec.ofChange fnGetReturnsLastSetValueWrong)

/-- 'zzlaws_internal_keyspace_b1.FnSetOverwritesOnlyItsKey': WHATEVER THE INPUT: true; the input reads as it did. -/
def fnSetOverwritesOnlyItsKeySpec : ChangeSpec := { name := "fnSetOverwritesOnlyItsKey", fn := fun _ => fun
  | [d1, d2, d3, d4, d5] => { results := [.lit (.bool true)], args := [d1, d2, d3, d4, d5] }
  | _ => none }
def fnSetOverwritesOnlyItsKeyRow : OpenClaim := { program := "qxb6615097a", sum := "55deef6c96c1263c6dc566f85f25fc9396fe51646640b10eace7e2a87b475e0b", func := "example.com/stillframe/stillframe/zzlaws_internal_keyspace_b1.FnSetOverwritesOnlyItsKey", spec := "fnSetOverwritesOnlyItsKey", unfollowed := true, recurses := true, apart := false }
def FnSetOverwritesOnlyItsKeySaid : Prop := fnSetOverwritesOnlyItsKeyRow.holds Try.pinned (OpenSpec.ofChange fnSetOverwritesOnlyItsKeySpec)

/-- ITS FALSE NEIGHBOUR: 'it returns false'. Refute it at one input. -/
def fnSetOverwritesOnlyItsKeyWrong : ChangeSpec := { name := "fnSetOverwritesOnlyItsKey", fn := fun _ => fun
  | [d1, d2, d3, d4, d5] => { results := [.lit (.bool false)], args := [d1, d2, d3, d4, d5] }
  | _ => none }
def FnSetOverwritesOnlyItsKeyWrongFalsely : Prop := fnSetOverwritesOnlyItsKeyRow.holds Try.pinned (OpenSpec.ofChange fnSetOverwritesOnlyItsKeyWrong)

end Rows
end Go.Proofs.Qxb6615097a
