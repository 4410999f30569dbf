/-
  DERIVED. GIVEN WITH THE SEED: THE CARDS: each row of Qxb6614318aFmtRows.lean that lists a variable, with what it lists TIED to the program's text (the seventh form; the later family's looks); each row that meets fmt, with fmt's text TOLD by the authors' own Lean function (tested against real Go, not proved from fmt's source: count such statements apart). THE CARD IS WHAT COUNTS. Prove the row's statement (the work); the ties are given (Qxb6614318aFmtTie.lean); close each card by the builder's one call (the guide's Derived/Test/ToyasCard.lean, 'card_holds'). Laid BY PROGRAM, IN A SANDBOX (cutbox-door.mjs). By AI agents, Wed Nov 11 2026. No macro, syntax, notation, axiom, sorry.
-/
import Derived.Test.Qxb6614318aFmtRows
import GoSem.ClaimSeven
namespace Go.Proofs.Qxb6614318aFmt
namespace Rows

/-- THE TOLD CARD OF 'zzlaws_internal_strictjson_b1.FnCheckMembersRefusesExactlyAnUnknownName'. -/
def fnCheckMembersRefusesExactlyAnUnknownNameCard : Claim7 := { stood := { row := fnCheckMembersRefusesExactlyAnUnknownNameRow, standIns := [], harness := (true, "faaa1ac7114abd4900d2b0d0ad1f084153eae2155d25f5bc458ef1862cebc0c6"), looks := true }, told := true, goes := false }
def FnCheckMembersRefusesExactlyAnUnknownNameToldSaid : Prop := Claim7.holds Tryf.pinned (.plain (OpenSpec.ofChange fnCheckMembersRefusesExactlyAnUnknownNameSpec)) fnCheckMembersRefusesExactlyAnUnknownNameCard
/-- ITS FALSE NEIGHBOUR. Refute it at one input. -/
def FnCheckMembersRefusesExactlyAnUnknownNameToldWrongFalsely : Prop := Claim7.holds Tryf.pinned (.plain (OpenSpec.ofChange fnCheckMembersRefusesExactlyAnUnknownNameWrong)) fnCheckMembersRefusesExactlyAnUnknownNameCard

/-- THE TOLD CARD OF 'zzlaws_internal_strictjson_b1.FnCheckMembersAtAnyCut'. -/
def fnCheckMembersAtAnyCutCard : Claim7 := { stood := { row := fnCheckMembersAtAnyCutRow, standIns := [], harness := (true, "faaa1ac7114abd4900d2b0d0ad1f084153eae2155d25f5bc458ef1862cebc0c6"), looks := true }, told := true, goes := false }
def FnCheckMembersAtAnyCutToldSaid : Prop := Claim7.holds Tryf.pinned (.plain (OpenSpec.ofChange fnCheckMembersAtAnyCutSpec)) fnCheckMembersAtAnyCutCard
/-- ITS FALSE NEIGHBOUR. Refute it at one input. -/
def FnCheckMembersAtAnyCutToldWrongFalsely : Prop := Claim7.holds Tryf.pinned (.plain (OpenSpec.ofChange fnCheckMembersAtAnyCutWrong)) fnCheckMembersAtAnyCutCard

/-- THE TOLD AND TIED CARD OF 'zzlaws_internal_strictjson_b1.FnNumberReadsTheIntegerAndSplitsItsBounds'. -/
def fnNumberReadsTheIntegerAndSplitsItsBoundsCard : Claim7 := { stood := { row := fnNumberReadsTheIntegerAndSplitsItsBoundsRow, standIns := [], harness := (true, "faaa1ac7114abd4900d2b0d0ad1f084153eae2155d25f5bc458ef1862cebc0c6"), looks := true }, told := true, laidByText := true, laidKinds := [.data, .data, .widerDeep, .widerDeep, .data, .data, .data, .data, .data, .sentinel, .sentinel, .pinned, .pinned], laidTests := true, laidLooks := .later, goes := false }
def FnNumberReadsTheIntegerAndSplitsItsBoundsToldSaid : Prop := Claim7.holds Tryf.pinned (.plain (OpenSpec.ofChange fnNumberReadsTheIntegerAndSplitsItsBoundsSpec)) fnNumberReadsTheIntegerAndSplitsItsBoundsCard
/-- ITS FALSE NEIGHBOUR. Refute it at one input. -/
def FnNumberReadsTheIntegerAndSplitsItsBoundsToldWrongFalsely : Prop := Claim7.holds Tryf.pinned (.plain (OpenSpec.ofChange fnNumberReadsTheIntegerAndSplitsItsBoundsWrong)) fnNumberReadsTheIntegerAndSplitsItsBoundsCard

/-- THE TOLD AND TIED CARD OF 'zzlaws_internal_strictjson_b1.FnNumberRefusesWhatIsNoJSONNumber'. -/
def fnNumberRefusesWhatIsNoJSONNumberCard : Claim7 := { stood := { row := fnNumberRefusesWhatIsNoJSONNumberRow, standIns := [], harness := (true, "faaa1ac7114abd4900d2b0d0ad1f084153eae2155d25f5bc458ef1862cebc0c6"), looks := true }, told := true, laidByText := true, laidKinds := [.data, .data, .widerDeep, .widerDeep, .data, .data, .data, .data, .data, .sentinel, .sentinel, .pinned, .pinned], laidTests := true, laidLooks := .later, goes := false }
def FnNumberRefusesWhatIsNoJSONNumberToldSaid : Prop := Claim7.holds Tryf.pinned (.plain (OpenSpec.ofChange fnNumberRefusesWhatIsNoJSONNumberSpec)) fnNumberRefusesWhatIsNoJSONNumberCard
/-- ITS FALSE NEIGHBOUR. Refute it at one input. -/
def FnNumberRefusesWhatIsNoJSONNumberToldWrongFalsely : Prop := Claim7.holds Tryf.pinned (.plain (OpenSpec.ofChange fnNumberRefusesWhatIsNoJSONNumberWrong)) fnNumberRefusesWhatIsNoJSONNumberCard
end Rows
end Go.Proofs.Qxb6614318aFmt
