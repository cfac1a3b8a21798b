/-
  THE WALK of pathweft.LawS5184AErrorf (function 3), FOR EVERY F.
-/
import Derived.Test.YbulkdcikFmtErrorf
import Derived.LaidEqlPtr
import Derived.Lib.Builder
namespace Go.Proofs.YbulkdcikFmt
open Go.RowKit Go.Extern.Stop Go.Stop Go.Extern

theorem info26 : ∃ j, Ybaf.prog.info? 26 = some j ∧ j.size ≠ 0 := by
  have h : (Ybaf.prog.info? 26).map (·.size) = some 4 := by kernel_rfl
  cases hq : Ybaf.prog.info? 26 with
  | none => simp [hq] at h
  | some j => simp [hq] at h; exact ⟨j, rfl, by omega⟩
theorem eql_same (a : Addr) (w : World) : (binOp .eql 22 (.pointer (some a)) (.pointer (some a))).run Ybaf.prog w = .ok (.bool true) w := by
  obtain ⟨j, hj, _⟩ := info26
  exact run_eql_ptr_same w a Ybaf.underlying22 hj
theorem neq_same (a : Addr) (w : World) : (binOp .neq 22 (.pointer (some a)) (.pointer (some a))).run Ybaf.prog w = .ok (.bool false) w := by
  obtain ⟨j, hj, _⟩ := info26
  exact Lib.run_neq_ptr_same w a Ybaf.underlying22 hj
attribute [local go_sem] eql_same neq_same

set_option maxHeartbeats 1000000 in
theorem law1_has (file efile : ByteArray) (line eline : Int) (w : World) :
    Calls Ybaf.prog 3 #[.string file, .int .i64 line, .bool true, .string efile, .int .i64 eline] w fun e w' => e = .returned (.bool true) ∧ Below w.heap.size w w' := by
  go_enter Ybaf.func3, Ybaf.ntmps3
  go_wp2_with (go_at_call 5; refine (errorf_has _ _ _ ⟨w.heap.size, 0, none⟩ _ (by go_simp)).mono ?_; rintro e w' ⟨rfl, rfl⟩)
  go_ret
  exact ⟨rfl, by repeat (first | exact Below.refl _ _ | apply Below.drew | refine Below.alloc ?_ (by simp) _)⟩

set_option maxHeartbeats 1000000 in
theorem law1_new (F : Interp) (file efile : ByteArray) (line eline : Int) (w : World) (hF : F.answers w.tape) :
    Calls Ybaf.prog 3 #[.string file, .int .i64 line, .bool false, .string efile, .int .i64 eline] w fun e w' => e = .returned (.bool true) ∧ Below w.heap.size w w' := by
  go_enter Ybaf.func3, Ybaf.ntmps3
  go_wp2_with (go_at_call 5; refine (errorf_new F _ file _ line _ (by exact hF) fmtR (by go_simp) (by go_simp)).mono ?_; rintro e w' ⟨rfl, s, rfl⟩)
  go_ret
  exact ⟨rfl, by repeat (first | exact Below.refl _ _ | apply Below.drew | refine Below.alloc ?_ (by simp) _)⟩

end Go.Proofs.YbulkdcikFmt
