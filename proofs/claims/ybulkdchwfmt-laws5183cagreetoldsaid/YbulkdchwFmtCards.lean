/-
  DERIVED. GIVEN WITH THE SEED: THE CARDS: each row of YbulkdchwFmtRows.lean that lists a variable, with what it lists TIED to the program's text (the seventh form; the later family's looks); each row that meets fmt, with fmt's text TOLD by the authors' own Lean function (tested against real Go, not proved from fmt's source: count such statements apart). THE CARD IS WHAT COUNTS. Prove the row's statement (the work); the ties are given (YbulkdchwFmtTie.lean); close each card by the builder's one call (the guide's Derived/Test/ToyasCard.lean, 'card_holds'). Laid BY PROGRAM, IN A SANDBOX (cutbox-door.mjs). By AI agents, Wed Nov 11 2026. No macro, syntax, notation, axiom, sorry.
-/
import Derived.Test.YbulkdchwFmtRows
import GoSem.ClaimSeven
namespace Go.Proofs.YbulkdchwFmt
namespace Rows

/-- THE TOLD AND TIED CARD OF 'cases.LawS5183BCase'. -/
def lawS5183BCaseCard : Claim7 := { stood := { row := lawS5183BCaseRow, standIns := [], harness := (true, "e77699896e2e4840b72189589f701687b10f661ae9435faf0a9944361517ade6"), looks := false }, told := true, laidByText := true, laidKinds := [.data, .called, .mapped, .listed, .data, .pinned], laidTests := true, laidLooks := .later, goes := false }
def LawS5183BCaseToldSaid : Prop := Claim7.holds Ybaf.pinned (.plain (OpenSpec.ofChange lawS5183BCaseSpec)) lawS5183BCaseCard
/-- ITS FALSE NEIGHBOUR. Refute it at one input. -/
def LawS5183BCaseToldWrongFalsely : Prop := Claim7.holds Ybaf.pinned (.plain (OpenSpec.ofChange lawS5183BCaseWrong)) lawS5183BCaseCard

/-- THE TOLD AND TIED CARD OF 'cases.LawS5183BTitle'. -/
def lawS5183BTitleCard : Claim7 := { stood := { row := lawS5183BTitleRow, standIns := [], harness := (true, "e77699896e2e4840b72189589f701687b10f661ae9435faf0a9944361517ade6"), looks := false }, told := true, laidByText := true, laidKinds := [.data, .called, .mapped, .listed, .data, .pinned], laidTests := true, laidLooks := .later, goes := false }
def LawS5183BTitleToldSaid : Prop := Claim7.holds Ybaf.pinned (.plain (OpenSpec.ofChange lawS5183BTitleSpec)) lawS5183BTitleCard
/-- ITS FALSE NEIGHBOUR. Refute it at one input. -/
def LawS5183BTitleToldWrongFalsely : Prop := Claim7.holds Ybaf.pinned (.plain (OpenSpec.ofChange lawS5183BTitleWrong)) lawS5183BTitleCard

/-- THE TOLD AND TIED CARD OF 'cases.LawS5183BPurposes'. -/
def lawS5183BPurposesCard : Claim7 := { stood := { row := lawS5183BPurposesRow, standIns := [], harness := (true, "e77699896e2e4840b72189589f701687b10f661ae9435faf0a9944361517ade6"), looks := false }, told := true, laidByText := true, laidKinds := [.data, .data, .data, .data, .called, .mapped, .listed, .data, .pinned], laidTests := true, laidLooks := .later, goes := false }
def LawS5183BPurposesToldSaid : Prop := Claim7.holds Ybaf.pinned (.plain (OpenSpec.ofChange lawS5183BPurposesSpec)) lawS5183BPurposesCard
/-- ITS FALSE NEIGHBOUR. Refute it at one input. -/
def LawS5183BPurposesToldWrongFalsely : Prop := Claim7.holds Ybaf.pinned (.plain (OpenSpec.ofChange lawS5183BPurposesWrong)) lawS5183BPurposesCard

/-- THE TOLD AND TIED CARD OF 'nas.LawS5183CAgree'. -/
def lawS5183CAgreeCard : Claim7 := { stood := { row := lawS5183CAgreeRow, standIns := [], harness := (true, "e77699896e2e4840b72189589f701687b10f661ae9435faf0a9944361517ade6"), looks := false }, told := true, laidByText := true, laidKinds := [.mapped], laidTests := true, laidLooks := .later, goes := false }
def LawS5183CAgreeToldSaid : Prop := Claim7.holds Ybaf.pinned (.plain (OpenSpec.ofChange lawS5183CAgreeSpec)) lawS5183CAgreeCard
/-- ITS FALSE NEIGHBOUR. Refute it at one input. -/
def LawS5183CAgreeToldWrongFalsely : Prop := Claim7.holds Ybaf.pinned (.plain (OpenSpec.ofChange lawS5183CAgreeWrong)) lawS5183CAgreeCard

/-- THE TOLD AND TIED CARD OF 'nas.LawS5183CBuilt'. -/
def lawS5183CBuiltCard : Claim7 := { stood := { row := lawS5183CBuiltRow, standIns := [], harness := (true, "e77699896e2e4840b72189589f701687b10f661ae9435faf0a9944361517ade6"), looks := false }, told := true, laidByText := true, laidKinds := [.mapped], laidTests := true, laidLooks := .later, goes := false }
def LawS5183CBuiltToldSaid : Prop := Claim7.holds Ybaf.pinned (.plain (OpenSpec.ofChange lawS5183CBuiltSpec)) lawS5183CBuiltCard
/-- ITS FALSE NEIGHBOUR. Refute it at one input. -/
def LawS5183CBuiltToldWrongFalsely : Prop := Claim7.holds Ybaf.pinned (.plain (OpenSpec.ofChange lawS5183CBuiltWrong)) lawS5183CBuiltCard
end Rows
end Go.Proofs.YbulkdchwFmt
