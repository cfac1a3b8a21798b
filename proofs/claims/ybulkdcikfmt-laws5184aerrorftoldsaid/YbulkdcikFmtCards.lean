/-
  DERIVED. GIVEN WITH THE SEED: THE CARDS: each row of YbulkdcikFmtRows.lean that lists a variable, with what it lists TIED to the program's text (the seventh form; the later family's looks); each row that meets fmt, with fmt's text TOLD by the authors' own Lean function (tested against real Go, not proved from fmt's source: count such statements apart). THE CARD IS WHAT COUNTS. Prove the row's statement (the work); the ties are given (YbulkdcikFmtTie.lean); close each card by the builder's one call (the guide's Derived/Test/ToyasCard.lean, 'card_holds'). Laid BY PROGRAM, IN A SANDBOX (cutbox-door.mjs). By AI agents, Wed Nov 11 2026. No macro, syntax, notation, axiom, sorry.
-/
import Derived.Test.YbulkdcikFmtRows
import GoSem.ClaimSeven
namespace Go.Proofs.YbulkdcikFmt
namespace Rows

/-- THE TOLD CARD OF 'pathweft.LawS5184AErrorf'. -/
def lawS5184AErrorfCard : Claim7 := { stood := { row := lawS5184AErrorfRow, standIns := [], harness := (true, "be0e7eab80f5cc90ff50278020395450964fdbd80a4d2a2a7f75f9720fa8a33d"), looks := false }, told := true, goes := false }
def LawS5184AErrorfToldSaid : Prop := Claim7.holds Ybaf.pinned (.plain (OpenSpec.ofChange lawS5184AErrorfSpec)) lawS5184AErrorfCard
/-- ITS FALSE NEIGHBOUR. Refute it at one input. -/
def LawS5184AErrorfToldWrongFalsely : Prop := Claim7.holds Ybaf.pinned (.plain (OpenSpec.ofChange lawS5184AErrorfWrong)) lawS5184AErrorfCard

/-- THE TOLD CARD OF 'pathweft.LawS5184AFresh'. -/
def lawS5184AFreshCard : Claim7 := { stood := { row := lawS5184AFreshRow, standIns := [], harness := (true, "be0e7eab80f5cc90ff50278020395450964fdbd80a4d2a2a7f75f9720fa8a33d"), looks := false }, told := true, goes := false }
def LawS5184AFreshToldSaid : Prop := Claim7.holds Ybaf.pinned (.plain (OpenSpec.ofChange lawS5184AFreshSpec)) lawS5184AFreshCard
/-- ITS FALSE NEIGHBOUR. Refute it at one input. -/
def LawS5184AFreshToldWrongFalsely : Prop := Claim7.holds Ybaf.pinned (.plain (OpenSpec.ofChange lawS5184AFreshWrong)) lawS5184AFreshCard
end Rows
end Go.Proofs.YbulkdcikFmt
