/-
  No cell of these rows narrows 'for every input' (looked for: loops, veiled, ifaces, maps, wideKeys, modest, calm, conditions, laid).
  DERIVED. THE GIVEN ROWS OF THIS SEAT. 5 by the template 'for every input the law returns true; each argument reads behind the call as it read before'; 0 by the template 'total and deterministic' (their statements: Qxb6603284aTotals.lean).
  GIVEN WITH THE SEED: the statements are not yours to turn. If you find one false, say at which input.
  Laid BY PROGRAM, IN A SANDBOX (cutbox-rows.mjs): the forced cells as the released guide's own fill.sh prints them over the translation 55ee13d7f5901799… (all of the seat's roots in one cut). By AI agents, Wed Nov 11 2026. No macro, syntax, notation, axiom, sorry.
-/
import Derived.Test.Qxb6603284aChecked
import GoSem.Claim
import GoSem.ClaimJoined
import GoSem.ClaimMapViews
import Derived.JoinedTies
import Derived.KernelRfl
namespace Go.Proofs.Qxb6603284a
/- THE CELL 'sum', in the pinned program and in every row, IS THE sha256 OF THE DUMP (.gsa) THAT Qxb6603284aProg.lean LOADS. Nothing in Lean hashes anything: it is a label: what it is worth is what the hold of that sum in a sandbox is worth. -/
noncomputable def Try.pinned : Pinned := { name := "qxb6603284a", sum := "55ee13d7f59017996492f8b7d0cbdbff8c5fd1618336c67fb6d721ea5530c352", checked := Try.checked }
namespace Rows
def none {H : Type} : Left H := { results := [], args := [] }

/-- 'zzlaws_wire_b1.FnSkipSpacesExact': WHATEVER THE INPUT: true; the input reads as it did. -/
def fnSkipSpacesExactSpec : ChangeSpec := { name := "fnSkipSpacesExact", fn := fun _ => fun
  | [d1, d2] => { results := [.lit (.bool true)], args := [d1, d2] }
  | _ => none }
def fnSkipSpacesExactRow : OpenClaim := { program := "qxb6603284a", sum := "55ee13d7f59017996492f8b7d0cbdbff8c5fd1618336c67fb6d721ea5530c352", func := "example.com/onceward/onceward/zzlaws_wire_b1.FnSkipSpacesExact", spec := "fnSkipSpacesExact", apart := false }
def FnSkipSpacesExactSaid : Prop := fnSkipSpacesExactRow.holds Try.pinned (OpenSpec.ofChange fnSkipSpacesExactSpec)

/-- ITS FALSE NEIGHBOUR: 'it returns false'. Refute it at one input. -/
def fnSkipSpacesExactWrong : ChangeSpec := { name := "fnSkipSpacesExact", fn := fun _ => fun
  | [d1, d2] => { results := [.lit (.bool false)], args := [d1, d2] }
  | _ => none }
def FnSkipSpacesExactWrongFalsely : Prop := fnSkipSpacesExactRow.holds Try.pinned (OpenSpec.ofChange fnSkipSpacesExactWrong)

/-- 'zzlaws_wire_b1.FnSkipSpacesIdempotentFromWithinRun': WHATEVER THE INPUT: true; the input reads as it did. -/
def fnSkipSpacesIdempotentFromWithinRunSpec : ChangeSpec := { name := "fnSkipSpacesIdempotentFromWithinRun", fn := fun _ => fun
  | [d1, d2] => { results := [.lit (.bool true)], args := [d1, d2] }
  | _ => none }
def fnSkipSpacesIdempotentFromWithinRunRow : OpenClaim := { program := "qxb6603284a", sum := "55ee13d7f59017996492f8b7d0cbdbff8c5fd1618336c67fb6d721ea5530c352", func := "example.com/onceward/onceward/zzlaws_wire_b1.FnSkipSpacesIdempotentFromWithinRun", spec := "fnSkipSpacesIdempotentFromWithinRun", apart := false }
def FnSkipSpacesIdempotentFromWithinRunSaid : Prop := fnSkipSpacesIdempotentFromWithinRunRow.holds Try.pinned (OpenSpec.ofChange fnSkipSpacesIdempotentFromWithinRunSpec)

/-- ITS FALSE NEIGHBOUR: 'it returns false'. Refute it at one input. -/
def fnSkipSpacesIdempotentFromWithinRunWrong : ChangeSpec := { name := "fnSkipSpacesIdempotentFromWithinRun", fn := fun _ => fun
  | [d1, d2] => { results := [.lit (.bool false)], args := [d1, d2] }
  | _ => none }
def FnSkipSpacesIdempotentFromWithinRunWrongFalsely : Prop := fnSkipSpacesIdempotentFromWithinRunRow.holds Try.pinned (OpenSpec.ofChange fnSkipSpacesIdempotentFromWithinRunWrong)

/-- 'zzlaws_wire_b1.FnTokenExact': WHATEVER THE INPUT: true; the input reads as it did. -/
def fnTokenExactSpec : ChangeSpec := { name := "fnTokenExact", fn := fun _ => fun
  | [d1, d2] => { results := [.lit (.bool true)], args := [d1, d2] }
  | _ => none }
def fnTokenExactRow : OpenClaim := { program := "qxb6603284a", sum := "55ee13d7f59017996492f8b7d0cbdbff8c5fd1618336c67fb6d721ea5530c352", func := "example.com/onceward/onceward/zzlaws_wire_b1.FnTokenExact", spec := "fnTokenExact", inPlace := ["internal/bytealg.IndexByteString"], apart := false }
def FnTokenExactSaid : Prop := fnTokenExactRow.holds Try.pinned (OpenSpec.ofChange fnTokenExactSpec)

/-- ITS FALSE NEIGHBOUR: 'it returns false'. Refute it at one input. -/
def fnTokenExactWrong : ChangeSpec := { name := "fnTokenExact", fn := fun _ => fun
  | [d1, d2] => { results := [.lit (.bool false)], args := [d1, d2] }
  | _ => none }
def FnTokenExactWrongFalsely : Prop := fnTokenExactRow.holds Try.pinned (OpenSpec.ofChange fnTokenExactWrong)

/-- 'zzlaws_wire_b1.FnTokenIdempotentFromWithinRun': WHATEVER THE INPUT: true; the input reads as it did. -/
def fnTokenIdempotentFromWithinRunSpec : ChangeSpec := { name := "fnTokenIdempotentFromWithinRun", fn := fun _ => fun
  | [d1, d2] => { results := [.lit (.bool true)], args := [d1, d2] }
  | _ => none }
def fnTokenIdempotentFromWithinRunRow : OpenClaim := { program := "qxb6603284a", sum := "55ee13d7f59017996492f8b7d0cbdbff8c5fd1618336c67fb6d721ea5530c352", func := "example.com/onceward/onceward/zzlaws_wire_b1.FnTokenIdempotentFromWithinRun", spec := "fnTokenIdempotentFromWithinRun", inPlace := ["internal/bytealg.IndexByteString"], apart := false }
def FnTokenIdempotentFromWithinRunSaid : Prop := fnTokenIdempotentFromWithinRunRow.holds Try.pinned (OpenSpec.ofChange fnTokenIdempotentFromWithinRunSpec)

/-- ITS FALSE NEIGHBOUR: 'it returns false'. Refute it at one input. -/
def fnTokenIdempotentFromWithinRunWrong : ChangeSpec := { name := "fnTokenIdempotentFromWithinRun", fn := fun _ => fun
  | [d1, d2] => { results := [.lit (.bool false)], args := [d1, d2] }
  | _ => none }
def FnTokenIdempotentFromWithinRunWrongFalsely : Prop := fnTokenIdempotentFromWithinRunRow.holds Try.pinned (OpenSpec.ofChange fnTokenIdempotentFromWithinRunWrong)

/-- 'zzlaws_wire_b1.FnSpacesAndTokenNeverBothAdvance': WHATEVER THE INPUT: true; the input reads as it did. -/
def fnSpacesAndTokenNeverBothAdvanceSpec : ChangeSpec := { name := "fnSpacesAndTokenNeverBothAdvance", fn := fun _ => fun
  | [d1, d2] => { results := [.lit (.bool true)], args := [d1, d2] }
  | _ => none }
def fnSpacesAndTokenNeverBothAdvanceRow : OpenClaim := { program := "qxb6603284a", sum := "55ee13d7f59017996492f8b7d0cbdbff8c5fd1618336c67fb6d721ea5530c352", func := "example.com/onceward/onceward/zzlaws_wire_b1.FnSpacesAndTokenNeverBothAdvance", spec := "fnSpacesAndTokenNeverBothAdvance", inPlace := ["internal/bytealg.IndexByteString"], apart := false }
def FnSpacesAndTokenNeverBothAdvanceSaid : Prop := fnSpacesAndTokenNeverBothAdvanceRow.holds Try.pinned (OpenSpec.ofChange fnSpacesAndTokenNeverBothAdvanceSpec)

/-- ITS FALSE NEIGHBOUR: 'it returns false'. Refute it at one input. -/
def fnSpacesAndTokenNeverBothAdvanceWrong : ChangeSpec := { name := "fnSpacesAndTokenNeverBothAdvance", fn := fun _ => fun
  | [d1, d2] => { results := [.lit (.bool false)], args := [d1, d2] }
  | _ => none }
def FnSpacesAndTokenNeverBothAdvanceWrongFalsely : Prop := fnSpacesAndTokenNeverBothAdvanceRow.holds Try.pinned (OpenSpec.ofChange fnSpacesAndTokenNeverBothAdvanceWrong)

end Rows
end Go.Proofs.Qxb6603284a
