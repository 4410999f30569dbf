/-
  No cell of these rows narrows 'for every input' (looked for: loops, veiled, ifaces, maps, wideKeys, modest, calm, conditions, laid).
  DERIVED. THE GIVEN ROWS OF THIS SEAT. 3 by the template 'for every input the law returns true; each argument reads behind the call as it read before'; 0 by the template 'total and deterministic' (their statements: Qxb6608612aTotals.lean).
  GIVEN WITH THE SEED: the statements are not yours to turn. If you find one false, say at which input.
  Laid BY PROGRAM, IN A SANDBOX (cutbox-rows.mjs): the forced cells as the released guide's own fill.sh prints them over the translation 4253c19c8f3a4eb6… (all of the seat's roots in one cut). By AI agents, Wed Nov 11 2026. No macro, syntax, notation, axiom, sorry.
-/
import Derived.Test.Qxb6608612aChecked
import GoSem.Claim
import GoSem.ClaimJoined
import GoSem.ClaimMapViews
import Derived.JoinedTies
import Derived.KernelRfl
namespace Go.Proofs.Qxb6608612a
/- THE CELL 'sum', in the pinned program and in every row, IS THE sha256 OF THE DUMP (.gsa) THAT Qxb6608612aProg.lean LOADS. Nothing in Lean hashes anything: it is a label: what it is worth is what the hold of that sum in a sandbox is worth. -/
noncomputable def Try.pinned : Pinned := { name := "qxb6608612a", sum := "4253c19c8f3a4eb6caea598f4d9a4358c15fc07db67745e2542648a03885b9af", checked := Try.checked }
namespace Rows
def none {H : Type} : Left H := { results := [], args := [] }

/-- 'zzlaws_toolname_b1.FnDottedInjectiveAndParsable': WHATEVER THE INPUT: true; the input reads as it did. -/
def fnDottedInjectiveAndParsableSpec : ChangeSpec := { name := "fnDottedInjectiveAndParsable", fn := fun _ => fun
  | [d1, d2, d3, d4] => { results := [.lit (.bool true)], args := [d1, d2, d3, d4] }
  | _ => none }
def fnDottedInjectiveAndParsableRow : OpenClaim := { program := "qxb6608612a", sum := "4253c19c8f3a4eb6caea598f4d9a4358c15fc07db67745e2542648a03885b9af", func := "example.com/ferrule/ferrule/zzlaws_toolname_b1.FnDottedInjectiveAndParsable", spec := "fnDottedInjectiveAndParsable", apart := false }
def FnDottedInjectiveAndParsableSaid : Prop := fnDottedInjectiveAndParsableRow.holds Try.pinned (OpenSpec.ofChange fnDottedInjectiveAndParsableSpec)

/-- ITS FALSE NEIGHBOUR: 'it returns false'. Refute it at one input. -/
def fnDottedInjectiveAndParsableWrong : ChangeSpec := { name := "fnDottedInjectiveAndParsable", fn := fun _ => fun
  | [d1, d2, d3, d4] => { results := [.lit (.bool false)], args := [d1, d2, d3, d4] }
  | _ => none }
def FnDottedInjectiveAndParsableWrongFalsely : Prop := fnDottedInjectiveAndParsableRow.holds Try.pinned (OpenSpec.ofChange fnDottedInjectiveAndParsableWrong)

/-- 'zzlaws_toolname_b1.FnDottedPluginNamespace': WHATEVER THE INPUT: true; the input reads as it did. -/
def fnDottedPluginNamespaceSpec : ChangeSpec := { name := "fnDottedPluginNamespace", fn := fun _ => fun
  | [d1, d2, d3, d4] => { results := [.lit (.bool true)], args := [d1, d2, d3, d4] }
  | _ => none }
def fnDottedPluginNamespaceRow : OpenClaim := { program := "qxb6608612a", sum := "4253c19c8f3a4eb6caea598f4d9a4358c15fc07db67745e2542648a03885b9af", func := "example.com/ferrule/ferrule/zzlaws_toolname_b1.FnDottedPluginNamespace", spec := "fnDottedPluginNamespace", apart := false }
def FnDottedPluginNamespaceSaid : Prop := fnDottedPluginNamespaceRow.holds Try.pinned (OpenSpec.ofChange fnDottedPluginNamespaceSpec)

/-- ITS FALSE NEIGHBOUR: 'it returns false'. Refute it at one input. -/
def fnDottedPluginNamespaceWrong : ChangeSpec := { name := "fnDottedPluginNamespace", fn := fun _ => fun
  | [d1, d2, d3, d4] => { results := [.lit (.bool false)], args := [d1, d2, d3, d4] }
  | _ => none }
def FnDottedPluginNamespaceWrongFalsely : Prop := fnDottedPluginNamespaceRow.holds Try.pinned (OpenSpec.ofChange fnDottedPluginNamespaceWrong)

/-- 'zzlaws_toolname_b1.FnAllowsInsertedRune': WHATEVER THE INPUT: true; the input reads as it did. -/
def fnAllowsInsertedRuneSpec : ChangeSpec := { name := "fnAllowsInsertedRune", fn := fun _ => fun
  | [d1, d2, d3, d4, d5] => { results := [.lit (.bool true)], args := [d1, d2, d3, d4, d5] }
  | _ => none }
def fnAllowsInsertedRuneRow : OpenClaim := { program := "qxb6608612a", sum := "4253c19c8f3a4eb6caea598f4d9a4358c15fc07db67745e2542648a03885b9af", func := "example.com/ferrule/ferrule/zzlaws_toolname_b1.FnAllowsInsertedRune", spec := "fnAllowsInsertedRune", inPlace := ["internal/bytealg.IndexByteString", "internal/bytealg.IndexString"], named := ["internal/bytealg.MaxLen"], apart := false }
def FnAllowsInsertedRuneSaid : Prop := fnAllowsInsertedRuneRow.holds Try.pinned (OpenSpec.ofChange fnAllowsInsertedRuneSpec)

/-- ITS FALSE NEIGHBOUR: 'it returns false'. Refute it at one input. -/
def fnAllowsInsertedRuneWrong : ChangeSpec := { name := "fnAllowsInsertedRune", fn := fun _ => fun
  | [d1, d2, d3, d4, d5] => { results := [.lit (.bool false)], args := [d1, d2, d3, d4, d5] }
  | _ => none }
def FnAllowsInsertedRuneWrongFalsely : Prop := fnAllowsInsertedRuneRow.holds Try.pinned (OpenSpec.ofChange fnAllowsInsertedRuneWrong)

end Rows
end Go.Proofs.Qxb6608612a
