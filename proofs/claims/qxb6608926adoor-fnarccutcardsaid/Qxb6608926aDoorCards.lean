/-
  DERIVED. GIVEN WITH THE SEED: THE CARDS: each row of Qxb6608926aDoorRows.lean that lists a variable, with what it lists TIED to the program's text (the seventh form; the later family's looks); each row that meets fmt, with fmt's text TOLD by the authors' own Lean function (tested against real Go, not proved from fmt's source: count such statements apart). THE CARD IS WHAT COUNTS. Prove the row's statement (the work); the ties are given (Qxb6608926aDoorTie.lean); close each card by the builder's one call (the guide's Derived/Test/ToyasCard.lean, 'card_holds'). Laid BY PROGRAM, IN A SANDBOX (cutbox-door.mjs). By AI agents, Wed Nov 11 2026. No macro, syntax, notation, axiom, sorry.
-/
import Derived.Test.Qxb6608926aDoorRows
import GoSem.ClaimSeven
namespace Go.Proofs.Qxb6608926aDoor
namespace Rows

/-- THE TIED CARD OF 'zzlaws_internal_oid_b1.FnValidMatchesModel'. -/
def fnValidMatchesModelCard : Claim7 := { stood := { row := fnValidMatchesModelRow, standIns := [], harness := (true, "42fb5a0356b92c857644b93f0d168354ded78f3e63828dbd771757fd31b02e09"), looks := true }, kinds := [], alts := [], laidByText := true, laidKinds := [.data, .data, .data, .sentinel, .sentinel], laidTests := true, laidLooks := .later }
def FnValidMatchesModelCardSaid : Prop := Claim7.holds Tryd.pinned (.plain (OpenSpec.ofChange fnValidMatchesModelSpec)) fnValidMatchesModelCard

/-- THE TIED CARD OF 'zzlaws_internal_oid_b1.FnValidCutAtDot'. -/
def fnValidCutAtDotCard : Claim7 := { stood := { row := fnValidCutAtDotRow, standIns := [], harness := (true, "42fb5a0356b92c857644b93f0d168354ded78f3e63828dbd771757fd31b02e09"), looks := true }, kinds := [], alts := [], laidByText := true, laidKinds := [.data, .data, .data, .sentinel, .sentinel], laidTests := true, laidLooks := .later }
def FnValidCutAtDotCardSaid : Prop := Claim7.holds Tryd.pinned (.plain (OpenSpec.ofChange fnValidCutAtDotSpec)) fnValidCutAtDotCard

/-- THE TIED CARD OF 'zzlaws_internal_oid_b1.FnArcCut'. -/
def fnArcCutCard : Claim7 := { stood := { row := fnArcCutRow, standIns := [], harness := (true, "42fb5a0356b92c857644b93f0d168354ded78f3e63828dbd771757fd31b02e09"), looks := true }, kinds := [], alts := [], laidByText := true, laidKinds := [.data, .data, .data, .sentinel, .sentinel], laidTests := true, laidLooks := .later }
def FnArcCutCardSaid : Prop := Claim7.holds Tryd.pinned (.plain (OpenSpec.ofChange fnArcCutSpec)) fnArcCutCard

/-- THE TIED CARD OF 'zzlaws_internal_oid_b1.FnArcAgreesWithValid'. -/
def fnArcAgreesWithValidCard : Claim7 := { stood := { row := fnArcAgreesWithValidRow, standIns := [], harness := (true, "42fb5a0356b92c857644b93f0d168354ded78f3e63828dbd771757fd31b02e09"), looks := true }, kinds := [], alts := [], laidByText := true, laidKinds := [.data, .data, .data, .sentinel, .sentinel], laidTests := true, laidLooks := .later }
def FnArcAgreesWithValidCardSaid : Prop := Claim7.holds Tryd.pinned (.plain (OpenSpec.ofChange fnArcAgreesWithValidSpec)) fnArcAgreesWithValidCard
end Rows
end Go.Proofs.Qxb6608926aDoor
