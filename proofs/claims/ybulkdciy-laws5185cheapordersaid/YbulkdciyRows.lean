/-
  No cell of these rows narrows 'for every input' (looked for: loops, veiled, ifaces, maps, wideKeys, modest, calm, conditions, laid).
  DERIVED. THE GIVEN ROWS OF THIS SEAT. 2 by the template 'for every input the law returns true; each argument reads behind the call as it read before'; 0 by the template 'total and deterministic' (their statements: YbulkdciyTotals.lean).
  GIVEN WITH THE SEED: the statements are not yours to turn. If you find one false, say at which input.
  Laid BY PROGRAM, IN A SANDBOX (cutbox-rows.mjs): the forced cells as the released guide's own fill.sh prints them over the translation a51935d5f3a96ba0… (all of the seat's roots in one cut). By AI agents, Wed Nov 11 2026. No macro, syntax, notation, axiom, sorry.
-/
import Derived.Test.YbulkdciyChecked
import GoSem.Claim
import GoSem.ClaimJoined
import GoSem.ClaimMapViews
import Derived.JoinedTies
import Derived.KernelRfl
namespace Go.Proofs.Ybulkdciy
/- THE CELL 'sum', in the pinned program and in every row, IS THE sha256 OF THE DUMP (.gsa) THAT YbulkdciyProg.lean LOADS. Nothing in Lean hashes anything: it is a label: what it is worth is what the hold of that sum in a sandbox is worth. -/
noncomputable def Yba.pinned : Pinned := { name := "ybulkdciy", sum := "a51935d5f3a96ba07e130253b283cdd4cdfd2e8f3f15416b4dc27111629e3dfe", checked := Yba.checked }
namespace Rows
def none {H : Type} : Left H := { results := [], args := [] }

/-- 'solver.LawS5185CExact': WHATEVER THE INPUT: true; the input reads as it did. -/
def lawS5185CExactSpec : ChangeSpec := { name := "lawS5185CExact", fn := fun _ => fun
  | [d1, d2, d3, d4] => { results := [.lit (.bool true)], args := [d1, d2, d3, d4] }
  | _ => none }
def lawS5185CExactRow : OpenClaim := { program := "ybulkdciy", sum := "a51935d5f3a96ba07e130253b283cdd4cdfd2e8f3f15416b4dc27111629e3dfe", func := "example.com/pieceweave/pieceweave/pkg/solver.LawS5185CExact", spec := "lawS5185CExact", apart := false }
def LawS5185CExactSaid : Prop := lawS5185CExactRow.holds Yba.pinned (OpenSpec.ofChange lawS5185CExactSpec)

/-- ITS FALSE NEIGHBOUR: 'it returns false'. Refute it at one input. -/
def lawS5185CExactWrong : ChangeSpec := { name := "lawS5185CExact", fn := fun _ => fun
  | [d1, d2, d3, d4] => { results := [.lit (.bool false)], args := [d1, d2, d3, d4] }
  | _ => none }
def LawS5185CExactWrongFalsely : Prop := lawS5185CExactRow.holds Yba.pinned (OpenSpec.ofChange lawS5185CExactWrong)

/-- 'solver.LawS5185CHeapOrder': WHATEVER THE INPUT: true; the input reads as it did. -/
def lawS5185CHeapOrderSpec : ChangeSpec := { name := "lawS5185CHeapOrder", fn := fun _ => fun
  | [d1, d2] => { results := [.lit (.bool true)], args := [d1, d2] }
  | _ => none }
def lawS5185CHeapOrderRow : OpenClaim := { program := "ybulkdciy", sum := "a51935d5f3a96ba07e130253b283cdd4cdfd2e8f3f15416b4dc27111629e3dfe", func := "example.com/pieceweave/pieceweave/pkg/solver.LawS5185CHeapOrder", spec := "lawS5185CHeapOrder", unfollowed := true, recurses := true, apart := false }
def LawS5185CHeapOrderSaid : Prop := lawS5185CHeapOrderRow.holds Yba.pinned (OpenSpec.ofChange lawS5185CHeapOrderSpec)

/-- ITS FALSE NEIGHBOUR: 'it returns false'. Refute it at one input. -/
def lawS5185CHeapOrderWrong : ChangeSpec := { name := "lawS5185CHeapOrder", fn := fun _ => fun
  | [d1, d2] => { results := [.lit (.bool false)], args := [d1, d2] }
  | _ => none }
def LawS5185CHeapOrderWrongFalsely : Prop := lawS5185CHeapOrderRow.holds Yba.pinned (OpenSpec.ofChange lawS5185CHeapOrderWrong)

end Rows
end Go.Proofs.Ybulkdciy
