/-
  No cell of these rows narrows 'for every input' (looked for: loops, veiled, ifaces, maps, wideKeys, modest, calm, conditions, laid).
  DERIVED. THE GIVEN ROWS OF THIS SEAT. 2 by the template 'for every input the law returns true; each argument reads behind the call as it read before'; 0 by the template 'total and deterministic' (their statements: YbulkdcikFmtTotals.lean).
  GIVEN WITH THE SEED: the statements are not yours to turn. If you find one false, say at which input.
  Laid BY PROGRAM, IN A SANDBOX (cutbox-rows.mjs): the forced cells as the released guide's own fill.sh prints them over the translation 7e43aaeb3c059839… (all of the seat's roots in one cut). By AI agents, Wed Nov 11 2026. No macro, syntax, notation, axiom, sorry.
-/
import Derived.Test.YbulkdcikFmtChecked
import GoSem.Claim
import GoSem.ClaimJoined
import GoSem.ClaimMapViews
import Derived.JoinedTies
import Derived.KernelRfl
namespace Go.Proofs.YbulkdcikFmt
/- THE CELL 'sum', in the pinned program and in every row, IS THE sha256 OF THE DUMP (.gsa) THAT YbulkdcikFmtProg.lean LOADS. Nothing in Lean hashes anything: it is a label: what it is worth is what the hold of that sum in a sandbox is worth. -/
noncomputable def Ybaf.pinned : Pinned := { name := "ybulkdcikfmt", sum := "7e43aaeb3c05983942504cd5b082450ae071d6fc0f647b5da89091928c5d4c7e", checked := Ybaf.checked }
namespace Rows
def none {H : Type} : Left H := { results := [], args := [] }

/-- 'pathweft.LawS5184AErrorf': WHATEVER THE INPUT: true; the input reads as it did. -/
def lawS5184AErrorfSpec : ChangeSpec := { name := "lawS5184AErrorf", fn := fun _ => fun
  | [d1, d2, d3, d4, d5] => { results := [.lit (.bool true)], args := [d1, d2, d3, d4, d5] }
  | _ => none }
def lawS5184AErrorfRow : OpenClaim := { program := "ybulkdcikfmt", sum := "7e43aaeb3c05983942504cd5b082450ae071d6fc0f647b5da89091928c5d4c7e", func := "example.com/pathweft/pathweft.LawS5184AErrorf", spec := "lawS5184AErrorf", stops := ["fmt.Sprintf, its operands' methods called"], inPlace := ["fmt.Sprintf"], unfollowed := true, recurses := true, apart := false }
/-- NO THEOREM (fmt's text is open here; it may be false): for the released tool's asking of the row's closed facts alone. THE STATEMENT IS 'LawS5184AErrorfToldSaid' (YbulkdcikFmtCards.lean). -/
def LawS5184AErrorfFormAsk : Prop := lawS5184AErrorfRow.holds Ybaf.pinned (OpenSpec.ofChange lawS5184AErrorfSpec)

/-- ITS FALSE NEIGHBOUR: 'it returns false'. Refute it at one input. -/
def lawS5184AErrorfWrong : ChangeSpec := { name := "lawS5184AErrorf", fn := fun _ => fun
  | [d1, d2, d3, d4, d5] => { results := [.lit (.bool false)], args := [d1, d2, d3, d4, d5] }
  | _ => none }
def LawS5184AErrorfWrongFormAsk : Prop := lawS5184AErrorfRow.holds Ybaf.pinned (OpenSpec.ofChange lawS5184AErrorfWrong)

/-- 'pathweft.LawS5184AFresh': WHATEVER THE INPUT: true; the input reads as it did. -/
def lawS5184AFreshSpec : ChangeSpec := { name := "lawS5184AFresh", fn := fun _ => fun
  | [d1, d2, d3] => { results := [.lit (.bool true)], args := [d1, d2, d3] }
  | _ => none }
def lawS5184AFreshRow : OpenClaim := { program := "ybulkdcikfmt", sum := "7e43aaeb3c05983942504cd5b082450ae071d6fc0f647b5da89091928c5d4c7e", func := "example.com/pathweft/pathweft.LawS5184AFresh", spec := "lawS5184AFresh", stops := ["fmt.Sprintf, its operands' methods called"], inPlace := ["fmt.Sprintf"], unfollowed := true, recurses := true, apart := false }
/-- NO THEOREM (fmt's text is open here; it may be false): for the released tool's asking of the row's closed facts alone. THE STATEMENT IS 'LawS5184AFreshToldSaid' (YbulkdcikFmtCards.lean). -/
def LawS5184AFreshFormAsk : Prop := lawS5184AFreshRow.holds Ybaf.pinned (OpenSpec.ofChange lawS5184AFreshSpec)

/-- ITS FALSE NEIGHBOUR: 'it returns false'. Refute it at one input. -/
def lawS5184AFreshWrong : ChangeSpec := { name := "lawS5184AFresh", fn := fun _ => fun
  | [d1, d2, d3] => { results := [.lit (.bool false)], args := [d1, d2, d3] }
  | _ => none }
def LawS5184AFreshWrongFormAsk : Prop := lawS5184AFreshRow.holds Ybaf.pinned (OpenSpec.ofChange lawS5184AFreshWrong)

end Rows
end Go.Proofs.YbulkdcikFmt
