/-
  No cell of these rows narrows 'for every input' (looked for: loops, veiled, ifaces, maps, wideKeys, modest, calm, conditions, laid).
  DERIVED. THE GIVEN ROWS OF THIS SEAT. 2 by the template 'for every input the law returns true; each argument reads behind the call as it read before'; 0 by the template 'total and deterministic' (their statements: YbulkdcmsTotals.lean).
  GIVEN WITH THE SEED: the statements are not yours to turn. If you find one false, say at which input.
  Laid BY PROGRAM, IN A SANDBOX (cutbox-rows.mjs): the forced cells as the released guide's own fill.sh prints them over the translation 08a2976f4d0d6f56… (all of the seat's roots in one cut). By AI agents, Wed Nov 11 2026. No macro, syntax, notation, axiom, sorry.
-/
import Derived.Test.YbulkdcmsChecked
import GoSem.Claim
import GoSem.ClaimJoined
import GoSem.ClaimMapViews
import Derived.JoinedTies
import Derived.KernelRfl
namespace Go.Proofs.Ybulkdcms
/- THE CELL 'sum', in the pinned program and in every row, IS THE sha256 OF THE DUMP (.gsa) THAT YbulkdcmsProg.lean LOADS. Nothing in Lean hashes anything: it is a label: what it is worth is what the hold of that sum in a sandbox is worth. -/
noncomputable def Yba.pinned : Pinned := { name := "ybulkdcms", sum := "08a2976f4d0d6f56d8a57292883c6a9c30f3c4aa5e6c170adf6445fb8c2a3ea1", checked := Yba.checked }
namespace Rows
def none {H : Type} : Left H := { results := [], args := [] }

/-- 'decimal.LawS5192BModel': WHATEVER THE INPUT: true; the input reads as it did. -/
def lawS5192BModelSpec : ChangeSpec := { name := "lawS5192BModel", fn := fun _ => fun
  | [d] => { results := [.lit (.bool true)], args := [d] }
  | _ => none }
def lawS5192BModelRow : OpenClaim := { program := "ybulkdcms", sum := "08a2976f4d0d6f56d8a57292883c6a9c30f3c4aa5e6c170adf6445fb8c2a3ea1", func := "example.com/grantbook/grantbook/internal/decimal.LawS5192BModel", spec := "lawS5192BModel", apart := false }
def LawS5192BModelSaid : Prop := lawS5192BModelRow.holds Yba.pinned (OpenSpec.ofChange lawS5192BModelSpec)

/-- ITS FALSE NEIGHBOUR: 'it returns false'. Refute it at one input. -/
def lawS5192BModelWrong : ChangeSpec := { name := "lawS5192BModel", fn := fun _ => fun
  | [d] => { results := [.lit (.bool false)], args := [d] }
  | _ => none }
def LawS5192BModelWrongFalsely : Prop := lawS5192BModelRow.holds Yba.pinned (OpenSpec.ofChange lawS5192BModelWrong)

/-- 'decimal.LawS5192BBuilt': WHATEVER THE INPUT: true; the input reads as it did. -/
def lawS5192BBuiltSpec : ChangeSpec := { name := "lawS5192BBuilt", fn := fun _ => fun
  | [d1, d2, d3] => { results := [.lit (.bool true)], args := [d1, d2, d3] }
  | _ => none }
def lawS5192BBuiltRow : OpenClaim := { program := "ybulkdcms", sum := "08a2976f4d0d6f56d8a57292883c6a9c30f3c4aa5e6c170adf6445fb8c2a3ea1", func := "example.com/grantbook/grantbook/internal/decimal.LawS5192BBuilt", spec := "lawS5192BBuilt", apart := false }
def LawS5192BBuiltSaid : Prop := lawS5192BBuiltRow.holds Yba.pinned (OpenSpec.ofChange lawS5192BBuiltSpec)

/-- ITS FALSE NEIGHBOUR: 'it returns false'. Refute it at one input. -/
def lawS5192BBuiltWrong : ChangeSpec := { name := "lawS5192BBuilt", fn := fun _ => fun
  | [d1, d2, d3] => { results := [.lit (.bool false)], args := [d1, d2, d3] }
  | _ => none }
def LawS5192BBuiltWrongFalsely : Prop := lawS5192BBuiltRow.holds Yba.pinned (OpenSpec.ofChange lawS5192BBuiltWrong)

end Rows
end Go.Proofs.Ybulkdcms
