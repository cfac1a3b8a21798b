/-
  fmt.Errorf (function 17; fmt.errorf, function 22, is the stop) BY ITS CONTRACT, FOR EVERY F, at the three calls of nas.checkComponents: what comes back is an error that is not nil; nothing that was there has turned.
-/
import Derived.Test.YbulkdchwFmtOk
import Derived.Stop.FmtLaws
import Derived.Laws.Externs
import GoSem.ClaimData
namespace Go.Proofs.YbulkdchwFmt
open Go.RowKit Go.Extern.Stop Go.Stop Go.Extern

theorem call22 (args : Array Value) (w : World) : (callFunc 22 args).run Ybaf.prog w = ((FmtStop.errorf #[9, 64] #[36] args).run Ybaf.prog w).andThen fun v w' => .ok (.value v) w' :=
  run_callFunc_extern Ybaf.func22 (by kernel_rfl) (by kernel_rfl) (by kernel_rfl) (by kernel_rfl) args w
theorem guard22 (name : String) (w : World) : (FmtStop.guard name).run Ybaf.prog w = .ok () w := by kernel_rfl
def shape5 : List UInt8 := [6, 5, 0, 0, 0, 0, 0, 0, 0, 117, 105, 110, 116, 56]
def shape3 : List UInt8 := [5, 3, 0, 0, 0, 0, 0, 0, 0, 105, 110, 116]
theorem op5 (name : String) (x : Int) (w : World) : (FmtStop.operand name true 120 false (.iface 5 (.int .u8 x))).run Ybaf.prog w = .ok (shape5, Go.Extern.Stop.digits 8 (x % 2 ^ 64).toNat) w := by kernel_rfl
theorem op3 (name : String) (x : Int) (w : World) : (FmtStop.operand name true 100 false (.iface 3 (.int .i64 x))).run Ybaf.prog w = .ok (shape3, Go.Extern.Stop.digits 8 (x % 2 ^ 64).toNat) w := by kernel_rfl
theorem ptr61 (w : World) : (FmtStop.ptrTo "errors.errorString").run Ybaf.prog w = .ok 61 w := by kernel_rfl
theorem elem61 (w : World) : (elemOf 61).run Ybaf.prog w = .ok 63 w := by kernel_rfl
theorem fmt1 (w : World) : (FmtDoors.printed ⟨#[114, 101, 115, 101, 114, 118, 101, 100, 32, 99, 111, 109, 112, 111, 110, 101, 110, 116, 32, 116, 121, 112, 101, 32, 48, 120, 37, 48, 50, 120]⟩ 1).run Ybaf.prog w = .ok [(0, 120, false)] w := by kernel_rfl
theorem fmt3 (w : World) : (FmtDoors.printed ⟨#[99, 111, 109, 112, 111, 110, 101, 110, 116, 32, 116, 121, 112, 101, 32, 48, 120, 37, 48, 50, 120, 58, 32, 37, 100, 32, 98, 121, 116, 101, 115, 32, 110, 101, 101, 100, 101, 100, 44, 32, 37, 100, 32, 108, 101, 102, 116]⟩ 3).run Ybaf.prog w = .ok [(0, 120, false), (1, 100, false), (2, 100, false)] w := by kernel_rfl
attribute [local go_sem] call22 guard22 op5 op3 ptr61 elem61 fmt1 fmt3

set_option maxHeartbeats 400000 in
theorem errorf_0 (w : World) :
    Calls Ybaf.prog 17 #[.string ⟨#[110, 111, 32, 99, 111, 109, 112, 111, 110, 101, 110, 116, 115]⟩, .slice none 0 0] w fun e w' => (∃ p, e = .returned (.iface 61 (.pointer (some p)))) ∧ Below w.heap.size w w' := by
  go_enter Ybaf.func17, Ybaf.ntmps17
  go_wp2
  go_ret
  exact ⟨⟨_, rfl⟩, by repeat (first | exact Below.refl _ _ | apply Below.drew | refine Below.alloc ?_ (by simp) _)⟩

set_option maxHeartbeats 400000 in
theorem errorf_1 (F : Interp) (b : Nat) (t : Int) (w : World) (hF : F.answers w.tape) (hc : w.cell? ⟨b, 0, none⟩ = some (.iface 5 (.int .u8 t))) :
    Calls Ybaf.prog 17 #[.string ⟨#[114, 101, 115, 101, 114, 118, 101, 100, 32, 99, 111, 109, 112, 111, 110, 101, 110, 116, 32, 116, 121, 112, 101, 32, 48, 120, 37, 48, 50, 120]⟩, .slice (some ⟨b, 0, none⟩) 1 1] w fun e w' => (∃ p, e = .returned (.iface 61 (.pointer (some p)))) ∧ Below w.heap.size w w' := by
  have hF' := answers_open hF
  go_enter Ybaf.func17, Ybaf.ntmps17
  go_wp2
  go_ret
  exact ⟨⟨_, rfl⟩, by repeat (first | exact Below.refl _ _ | apply Below.drew | refine Below.alloc ?_ (by simp) _)⟩

set_option maxHeartbeats 400000 in
theorem errorf_3 (F : Interp) (b : Nat) (t u v : Int) (w : World) (hF : F.answers w.tape) (hc : w.cell? ⟨b, 0, none⟩ = some (.iface 5 (.int .u8 t)))
    (hc1 : w.cell? ⟨b, 1, none⟩ = some (.iface 3 (.int .i64 u))) (hc2 : w.cell? ⟨b, 2, none⟩ = some (.iface 3 (.int .i64 v))) :
    Calls Ybaf.prog 17 #[.string ⟨#[99, 111, 109, 112, 111, 110, 101, 110, 116, 32, 116, 121, 112, 101, 32, 48, 120, 37, 48, 50, 120, 58, 32, 37, 100, 32, 98, 121, 116, 101, 115, 32, 110, 101, 101, 100, 101, 100, 44, 32, 37, 100, 32, 108, 101, 102, 116]⟩, .slice (some ⟨b, 0, none⟩) 3 3] w fun e w' => (∃ p, e = .returned (.iface 61 (.pointer (some p)))) ∧ Below w.heap.size w w' := by
  have hF' := answers_open hF
  go_enter Ybaf.func17, Ybaf.ntmps17
  go_wp2
  go_ret
  exact ⟨⟨_, rfl⟩, by repeat (first | exact Below.refl _ _ | apply Below.drew | refine Below.alloc ?_ (by simp) _)⟩
end Go.Proofs.YbulkdchwFmt
