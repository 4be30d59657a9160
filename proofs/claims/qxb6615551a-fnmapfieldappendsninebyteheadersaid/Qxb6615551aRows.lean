/-
  No cell of these rows narrows 'for every input' (looked for: loops, veiled, ifaces, maps, wideKeys, modest, calm, conditions, laid).
  DERIVED. THE GIVEN ROWS OF THIS SEAT. 4 by the template 'for every input the law returns true; each argument reads behind the call as it read before'; 0 by the template 'total and deterministic' (their statements: Qxb6615551aTotals.lean).
  GIVEN WITH THE SEED: the statements are not yours to turn. If you find one false, say at which input.
  Laid BY PROGRAM, IN A SANDBOX (cutbox-rows.mjs): the forced cells as the released guide's own fill.sh prints them over the translation b76a3b3b66d32293… (all of the seat's roots in one cut). By AI agents, Wed Nov 11 2026. No macro, syntax, notation, axiom, sorry.
-/
import Derived.Test.Qxb6615551aChecked
import GoSem.Claim
import GoSem.ClaimJoined
import GoSem.ClaimMapViews
import Derived.JoinedTies
import Derived.KernelRfl
namespace Go.Proofs.Qxb6615551a
/- THE CELL 'sum', in the pinned program and in every row, IS THE sha256 OF THE DUMP (.gsa) THAT Qxb6615551aProg.lean LOADS. Nothing in Lean hashes anything: it is a label: what it is worth is what the hold of that sum in a sandbox is worth. -/
noncomputable def Try.pinned : Pinned := { name := "qxb6615551a", sum := "b76a3b3b66d322931d034cd260e2a2d7a9587ad42fae4e7642a126eb0602d7ca", checked := Try.checked }
namespace Rows
def none {H : Type} : Left H := { results := [], args := [] }

/-- 'zzlaws_wire_b1.FnI32AppendsBigEndianWordReadBack': WHATEVER THE INPUT: true; the input reads as it did. -/
def fnI32AppendsBigEndianWordReadBackSpec : ChangeSpec := { name := "fnI32AppendsBigEndianWordReadBack", fn := fun _ => fun
  | [d1, d2] => { results := [.lit (.bool true)], args := [d1, d2] }
  | _ => none }
def fnI32AppendsBigEndianWordReadBackRow : OpenClaim := { program := "qxb6615551a", sum := "b76a3b3b66d322931d034cd260e2a2d7a9587ad42fae4e7642a126eb0602d7ca", func := "example.com/spinehail/spinehail/zzlaws_wire_b1.FnI32AppendsBigEndianWordReadBack", spec := "fnI32AppendsBigEndianWordReadBack", named := ["encoding/binary.BigEndian"], apart := false }
def FnI32AppendsBigEndianWordReadBackSaid : Prop := fnI32AppendsBigEndianWordReadBackRow.holds Try.pinned (OpenSpec.ofChange fnI32AppendsBigEndianWordReadBackSpec)

/-- ITS FALSE NEIGHBOUR: 'it returns false'. Refute it at one input. -/
def fnI32AppendsBigEndianWordReadBackWrong : ChangeSpec := { name := "fnI32AppendsBigEndianWordReadBack", fn := fun _ => fun
  | [d1, d2] => { results := [.lit (.bool false)], args := [d1, d2] }
  | _ => none }
def FnI32AppendsBigEndianWordReadBackWrongFalsely : Prop := fnI32AppendsBigEndianWordReadBackRow.holds Try.pinned (OpenSpec.ofChange fnI32AppendsBigEndianWordReadBackWrong)

/-- 'zzlaws_wire_b1.FnI32OrderAndComplement': WHATEVER THE INPUT: true; the input reads as it did. -/
def fnI32OrderAndComplementSpec : ChangeSpec := { name := "fnI32OrderAndComplement", fn := fun _ => fun
  | [d1, d2] => { results := [.lit (.bool true)], args := [d1, d2] }
  | _ => none }
def fnI32OrderAndComplementRow : OpenClaim := { program := "qxb6615551a", sum := "b76a3b3b66d322931d034cd260e2a2d7a9587ad42fae4e7642a126eb0602d7ca", func := "example.com/spinehail/spinehail/zzlaws_wire_b1.FnI32OrderAndComplement", spec := "fnI32OrderAndComplement", named := ["encoding/binary.BigEndian"], apart := false }
def FnI32OrderAndComplementSaid : Prop := fnI32OrderAndComplementRow.holds Try.pinned (OpenSpec.ofChange fnI32OrderAndComplementSpec)

/-- ITS FALSE NEIGHBOUR: 'it returns false'. Refute it at one input. -/
def fnI32OrderAndComplementWrong : ChangeSpec := { name := "fnI32OrderAndComplement", fn := fun _ => fun
  | [d1, d2] => { results := [.lit (.bool false)], args := [d1, d2] }
  | _ => none }
def FnI32OrderAndComplementWrongFalsely : Prop := fnI32OrderAndComplementRow.holds Try.pinned (OpenSpec.ofChange fnI32OrderAndComplementWrong)

/-- 'zzlaws_wire_b1.FnMapFieldAppendsNineByteHeader': WHATEVER THE INPUT: true; the input reads as it did. -/
def fnMapFieldAppendsNineByteHeaderSpec : ChangeSpec := { name := "fnMapFieldAppendsNineByteHeader", fn := fun _ => fun
  | [d1, d2, d3, d4, d5] => { results := [.lit (.bool true)], args := [d1, d2, d3, d4, d5] }
  | _ => none }
def fnMapFieldAppendsNineByteHeaderRow : OpenClaim := { program := "qxb6615551a", sum := "b76a3b3b66d322931d034cd260e2a2d7a9587ad42fae4e7642a126eb0602d7ca", func := "example.com/spinehail/spinehail/zzlaws_wire_b1.FnMapFieldAppendsNineByteHeader", spec := "fnMapFieldAppendsNineByteHeader", unfollowed := true, recurses := true, named := ["encoding/binary.BigEndian"], apart := false }
def FnMapFieldAppendsNineByteHeaderSaid : Prop := fnMapFieldAppendsNineByteHeaderRow.holds Try.pinned (OpenSpec.ofChange fnMapFieldAppendsNineByteHeaderSpec)

/-- ITS FALSE NEIGHBOUR: 'it returns false'. Refute it at one input. -/
def fnMapFieldAppendsNineByteHeaderWrong : ChangeSpec := { name := "fnMapFieldAppendsNineByteHeader", fn := fun _ => fun
  | [d1, d2, d3, d4, d5] => { results := [.lit (.bool false)], args := [d1, d2, d3, d4, d5] }
  | _ => none }
def FnMapFieldAppendsNineByteHeaderWrongFalsely : Prop := fnMapFieldAppendsNineByteHeaderRow.holds Try.pinned (OpenSpec.ofChange fnMapFieldAppendsNineByteHeaderWrong)

/-- 'zzlaws_wire_b1.FnMapFieldHeaderInjective': WHATEVER THE INPUT: true; the input reads as it did. -/
def fnMapFieldHeaderInjectiveSpec : ChangeSpec := { name := "fnMapFieldHeaderInjective", fn := fun _ => fun
  | [d1, d2, d3, d4, d5, d6, d7, d8] => { results := [.lit (.bool true)], args := [d1, d2, d3, d4, d5, d6, d7, d8] }
  | _ => none }
def fnMapFieldHeaderInjectiveRow : OpenClaim := { program := "qxb6615551a", sum := "b76a3b3b66d322931d034cd260e2a2d7a9587ad42fae4e7642a126eb0602d7ca", func := "example.com/spinehail/spinehail/zzlaws_wire_b1.FnMapFieldHeaderInjective", spec := "fnMapFieldHeaderInjective", unfollowed := true, recurses := true, named := ["encoding/binary.BigEndian"], apart := false }
def FnMapFieldHeaderInjectiveSaid : Prop := fnMapFieldHeaderInjectiveRow.holds Try.pinned (OpenSpec.ofChange fnMapFieldHeaderInjectiveSpec)

/-- ITS FALSE NEIGHBOUR: 'it returns false'. Refute it at one input. -/
def fnMapFieldHeaderInjectiveWrong : ChangeSpec := { name := "fnMapFieldHeaderInjective", fn := fun _ => fun
  | [d1, d2, d3, d4, d5, d6, d7, d8] => { results := [.lit (.bool false)], args := [d1, d2, d3, d4, d5, d6, d7, d8] }
  | _ => none }
def FnMapFieldHeaderInjectiveWrongFalsely : Prop := fnMapFieldHeaderInjectiveRow.holds Try.pinned (OpenSpec.ofChange fnMapFieldHeaderInjectiveWrong)

end Rows
end Go.Proofs.Qxb6615551a
