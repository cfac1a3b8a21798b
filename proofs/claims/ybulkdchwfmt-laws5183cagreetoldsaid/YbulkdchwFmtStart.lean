/-
  A START THAT MEETS THE ROWS' LIST: the settled world with one block more, the map; variable 0 holds it.
-/
import Derived.Test.YbulkdchwFmtLaid
import Derived.Stop.JoinedTold
namespace Go.Proofs.YbulkdchwFmt
open Go.ChangeShapes Go.WideShapes Go.ChangeAt Go.RowKit

def mapObj : Obj := .map #[⟨.int .u8 16, .int .i64 8, 0⟩, ⟨.int .u8 17, .int .i64 8, 1⟩, ⟨.int .u8 32, .int .i64 32, 2⟩, ⟨.int .u8 33, .int .i64 17, 3⟩, ⟨.int .u8 35, .int .i64 17, 4⟩,
  ⟨.int .u8 48, .int .i64 1, 5⟩, ⟨.int .u8 64, .int .i64 2, 6⟩, ⟨.int .u8 65, .int .i64 4, 7⟩, ⟨.int .u8 80, .int .i64 2, 8⟩, ⟨.int .u8 81, .int .i64 4, 9⟩, ⟨.int .u8 96, .int .i64 4, 10⟩,
  ⟨.int .u8 112, .int .i64 2, 11⟩, ⟨.int .u8 128, .int .i64 3, 12⟩, ⟨.int .u8 129, .int .i64 6, 13⟩, ⟨.int .u8 130, .int .i64 6, 14⟩, ⟨.int .u8 131, .int .i64 2, 15⟩, ⟨.int .u8 132, .int .i64 2, 16⟩,
  ⟨.int .u8 133, .int .i64 1, 17⟩, ⟨.int .u8 134, .int .i64 1, 18⟩, ⟨.int .u8 135, .int .i64 2, 19⟩] 20

/-- Variable 0 holds the map at block n. -/
def hold0 (n : Nat) (w : World) : World := { w with heap := w.heap.modify 0 fun
  | .cells _ t frozen => .cells #[.map (some n)] t frozen
  | o => o }

set_option maxRecDepth 100000 in
theorem start_met (os : Os) (args : Array Value) :
    laidMet Ybaf.prog Rows.lawS5183CBuiltRow.laid ((hold0 (World.holding Ybaf.prog default ⟨#[], #[], []⟩).heap.size (World.holding Ybaf.prog os ⟨#[mapObj], #[], []⟩)).forCall (fun _ _ => 0) ⟨#[], args, []⟩).memory :=
  laidMet_of_run' 8 (by kernel_rfl) (by kernel_rfl)
end Go.Proofs.YbulkdchwFmt
