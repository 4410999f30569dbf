/-
  No cell of these rows narrows 'for every input' (looked for: loops, veiled, ifaces, maps, wideKeys, modest, calm, conditions, laid).
  DERIVED. THE GIVEN ROWS OF THIS SEAT. 2 by the template 'for every input the law returns true; each argument reads behind the call as it read before'; 0 by the template 'total and deterministic' (their statements: Qxb6614321aTotals.lean).
  GIVEN WITH THE SEED: the statements are not yours to turn. If you find one false, say at which input.
  Laid BY PROGRAM, IN A SANDBOX (cutbox-rows.mjs): the forced cells as the released guide's own fill.sh prints them over the translation 132ec487838aece7… (all of the seat's roots in one cut). By AI agents, Wed Nov 11 2026. No macro, syntax, notation, axiom, sorry.
-/
import Derived.Test.Qxb6614321aChecked
import GoSem.Claim
import GoSem.ClaimJoined
import GoSem.ClaimMapViews
import Derived.JoinedTies
import Derived.KernelRfl
namespace Go.Proofs.Qxb6614321a
/- THE CELL 'sum', in the pinned program and in every row, IS THE sha256 OF THE DUMP (.gsa) THAT Qxb6614321aProg.lean LOADS. Nothing in Lean hashes anything: it is a label: what it is worth is what the hold of that sum in a sandbox is worth. -/
noncomputable def Try.pinned : Pinned := { name := "qxb6614321a", sum := "132ec487838aece7183625decd08827c5c1a6eb695cb1ed347b53074c7cbe0b0", checked := Try.checked }
namespace Rows
def none {H : Type} : Left H := { results := [], args := [] }

/-- 'zzlaws_client_b1.FnBatchBeginInsertedAnywhere': WHATEVER THE INPUT: true; the input reads as it did. -/
def fnBatchBeginInsertedAnywhereSpec : ChangeSpec := { name := "fnBatchBeginInsertedAnywhere", fn := fun _ => fun
  | [d1, d2] => { results := [.lit (.bool true)], args := [d1, d2] }
  | _ => none }
def fnBatchBeginInsertedAnywhereRow : OpenClaim := { program := "qxb6614321a", sum := "132ec487838aece7183625decd08827c5c1a6eb695cb1ed347b53074c7cbe0b0", func := "example.com/serialist/serialist/zzlaws_client_b1.FnBatchBeginInsertedAnywhere", spec := "fnBatchBeginInsertedAnywhere", apart := false }
def FnBatchBeginInsertedAnywhereSaid : Prop := fnBatchBeginInsertedAnywhereRow.holds Try.pinned (OpenSpec.ofChange fnBatchBeginInsertedAnywhereSpec)

/-- ITS FALSE NEIGHBOUR: 'it returns false'. Refute it at one input. -/
def fnBatchBeginInsertedAnywhereWrong : ChangeSpec := { name := "fnBatchBeginInsertedAnywhere", fn := fun _ => fun
  | [d1, d2] => { results := [.lit (.bool false)], args := [d1, d2] }
  | _ => none }
def FnBatchBeginInsertedAnywhereWrongFalsely : Prop := fnBatchBeginInsertedAnywhereRow.holds Try.pinned (OpenSpec.ofChange fnBatchBeginInsertedAnywhereWrong)

/-- 'zzlaws_client_b1.FnBatchReadInsertedAnywhere': WHATEVER THE INPUT: true; the input reads as it did. -/
def fnBatchReadInsertedAnywhereSpec : ChangeSpec := { name := "fnBatchReadInsertedAnywhere", fn := fun _ => fun
  | [d1, d2, d3] => { results := [.lit (.bool true)], args := [d1, d2, d3] }
  | _ => none }
def fnBatchReadInsertedAnywhereRow : OpenClaim := { program := "qxb6614321a", sum := "132ec487838aece7183625decd08827c5c1a6eb695cb1ed347b53074c7cbe0b0", func := "example.com/serialist/serialist/zzlaws_client_b1.FnBatchReadInsertedAnywhere", spec := "fnBatchReadInsertedAnywhere", apart := false }
def FnBatchReadInsertedAnywhereSaid : Prop := fnBatchReadInsertedAnywhereRow.holds Try.pinned (OpenSpec.ofChange fnBatchReadInsertedAnywhereSpec)

/-- ITS FALSE NEIGHBOUR: 'it returns false'. Refute it at one input. -/
def fnBatchReadInsertedAnywhereWrong : ChangeSpec := { name := "fnBatchReadInsertedAnywhere", fn := fun _ => fun
  | [d1, d2, d3] => { results := [.lit (.bool false)], args := [d1, d2, d3] }
  | _ => none }
def FnBatchReadInsertedAnywhereWrongFalsely : Prop := fnBatchReadInsertedAnywhereRow.holds Try.pinned (OpenSpec.ofChange fnBatchReadInsertedAnywhereWrong)

end Rows
end Go.Proofs.Qxb6614321a
