/-
  THE WALKS of pathweft.refusal (function 6) and (*scanner).errorf (function 5), FOR EVERY F; fmt.Sprintf (function 7) is the stop that calls its operands' methods: here it has no operand.
-/
import Derived.Test.YbulkdcikFmtProg
import Derived.WalkKit
import Derived.WalkSpells
import Derived.Stop.CallBack
import Derived.Stop.IfaceNil
import GoSem.ClaimData
namespace Go.Proofs.YbulkdcikFmt
open Go.RowKit Go.Extern.Stop Go.Stop Go.Extern

theorem call7 (args : Array Value) (w : World) : (callFunc 7 args).run Ybaf.prog w = (FmtCalls.sprintf #[9, 37] #[9] args).run Ybaf.prog w :=
  run_callFunc_next Ybaf.func7 (by kernel_rfl) (by kernel_rfl) (by kernel_rfl) args w
theorem guard7 (name : String) (w : World) : (FmtStop.guard name).run Ybaf.prog w = .ok () w := by kernel_rfl
theorem nextTurns : Extern.next FmtCalls.turnsRow = some (FmtCalls.begun #[] #[]) := by kernel_rfl
attribute [local go_sem] call7 guard7

set_option maxHeartbeats 400000 in
theorem refusal_any (F : Interp) (file f : ByteArray) (line : Int) (w : World) (hF : F.answers w.tape) (hp : FmtStop.printed? f 0 = some []) :
    Calls Ybaf.prog 6 #[.string file, .int .i64 line, .string f, .slice none 0 0] w fun e w' => e = .returned (.pointer (some ⟨w.heap.size, 0, none⟩)) ∧
      ∃ s, w' = (w.alloc (.cells #[.string file, .int .i64 line, .string s, .nilIface] 26)).drew := by
  have hF' := answers_open hF
  go_enter Ybaf.func6, Ybaf.ntmps6
  go_wp2
  apply rows_value nextTurns
  case hr =>
    go_simp
    exact ⟨rfl, rfl⟩
  case h =>
    go_wp2
    go_ret
    exact ⟨rfl, _, rfl⟩

theorem errorf_has (b : Nat) (f : ByteArray) (line : Int) (p : Addr) (w : World) (hc : w.cell? ⟨b, 10, none⟩ = some (.pointer (some p))) :
    Calls Ybaf.prog 5 #[.pointer (some ⟨b, 0, none⟩), .int .i64 line, .string f, .slice none 0 0] w fun e w' => e = .returned (.pointer (some p)) ∧ w = w' := by
  go_enter Ybaf.func5, Ybaf.ntmps5
  go_wp2
  go_ret
  exact ⟨rfl, rfl⟩

theorem errorf_new (F : Interp) (b : Nat) (file f : ByteArray) (line : Int) (w : World) (hF : F.answers w.tape) (hp : FmtStop.printed? f 0 = some [])
    (hc : w.cell? ⟨b, 10, none⟩ = some (.pointer none)) (hf : w.cell? ⟨b, 0, none⟩ = some (.string file)) :
    Calls Ybaf.prog 5 #[.pointer (some ⟨b, 0, none⟩), .int .i64 line, .string f, .slice none 0 0] w fun e w' => e = .returned (.pointer (some ⟨w.heap.size, 0, none⟩)) ∧
      ∃ s, w' = (w.alloc (.cells #[.string file, .int .i64 line, .string s, .nilIface] 26)).drew := by
  go_enter Ybaf.func5, Ybaf.ntmps5
  go_wp2_with (go_at_call 6; refine (refusal_any F file f line _ (by exact hF) hp).mono ?_; rintro e w' ⟨rfl, s, rfl⟩)
  go_ret
  exact ⟨rfl, _, rfl⟩

theorem fmtR : FmtStop.printed? ⟨#[114, 101, 102, 117, 115, 101, 100]⟩ 0 = some [] := by kernel_rfl
theorem fmtA : FmtStop.printed? ⟨#[111, 110, 101]⟩ 0 = some [] := by kernel_rfl
theorem fmtB : FmtStop.printed? ⟨#[116, 119, 111]⟩ 0 = some [] := by kernel_rfl
end Go.Proofs.YbulkdcikFmt
