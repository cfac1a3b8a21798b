/-
  THE WALK of nas.zzs5183csize (function 14).
-/
import Derived.Test.YbulkdchwFmtProg
import Derived.Test.YbulkdchwFmtPlain
import Derived.WalkKit
import Derived.WalkSpells
namespace Go.Proofs.YbulkdchwFmt
open Go.RowKit Plain

theorem ret_pair {a b : Int} {x y : Bool} (h : a = b) (h' : x = y) : Ending.returned (.tuple #[.int .i64 a, .bool x]) = .returned (.tuple #[.int .i64 b, .bool y]) := by rw [h, h']

set_option maxHeartbeats 400000 in
theorem size_any (t : Int) (w : World) :
    Calls Ybaf.prog 14 #[.int .u8 t] w fun e w' => e = .returned (.tuple #[.int .i64 (szN t), .bool (okT t)]) ∧ w' = w := by
  go_enter Ybaf.func14, Ybaf.ntmps14
  go_wp2
  all_goals (go_ret2; refine ⟨ret_pair ?_ ?_, rfl⟩ <;> simp_all [szN, okT])
end Go.Proofs.YbulkdchwFmt
