/-
  THE WALK of pathweft.LawS5184AFresh (function 4), FOR EVERY F.
-/
import Derived.Test.YbulkdcikFmtLaw1
import Derived.Deep.WholeRow
namespace Go.Proofs.YbulkdcikFmt
open Go.RowKit Go.Extern.Stop Go.Stop Go.Extern

theorem eql_other (w : World) {a b : Nat} {ca cb : Array Value} (hne : a ≠ b) (ha : w.heap[a]? = some (.cells ca 26 (0, 0))) (hb : w.heap[b]? = some (.cells cb 26 (0, 0))) :
    (binOp .eql 22 (.pointer (some ⟨a, 0, none⟩)) (.pointer (some ⟨b, 0, none⟩))).run Ybaf.prog w = .ok (.bool false) w := by
  obtain ⟨j, hj, hz⟩ := info26
  exact run_eql_ptr_other w Ybaf.underlying22 hj hz (by intro h; cases h; exact hne rfl) ha hb

/-- Two errors laid one behind the other behind a block o: what the law reads of them. -/
theorem two_facts (w : World) (o : Obj) (ca cb : Array Value) :
    (((w.alloc o).alloc (.cells ca 26)).alloc (.cells cb 26)).heap[w.heap.size + 1]? = some (.cells ca 26 (0, 0)) ∧
    (((w.alloc o).alloc (.cells ca 26)).alloc (.cells cb 26)).heap[w.heap.size + 2]? = some (.cells cb 26 (0, 0)) := by
  constructor
  · rw [Below.heap_alloc _ _ _ (by simp)]
    have := heap_alloc_last (w.alloc o) (.cells ca 26)
    simpa using this
  · have := heap_alloc_last ((w.alloc o).alloc (.cells ca 26)) (.cells cb 26)
    simpa using this

set_option maxHeartbeats 1000000 in
theorem law2 (F : Interp) (file : ByteArray) (l1 l2 : Int) (w : World) (hF : F.answers w.tape) :
    Calls Ybaf.prog 4 #[.string file, .int .i64 l1, .int .i64 l2] w fun e w' => e = .returned (.bool true) ∧ Below w.heap.size w w' := by
  go_enter Ybaf.func4, Ybaf.ntmps4
  go_wp2_with fail
  refine (errorf_new F _ file _ l1 _ (by exact hF) fmtA (by go_simp) (by go_simp)).mono ?_
  rintro e w1 ⟨rfl, s1, rfl⟩
  go_wp2_with fail
  refine (errorf_new F _ file _ l2 _ (by exact hF) fmtB (by go_simp) (by go_simp)).mono ?_
  rintro e w2 ⟨rfl, s2, hw2⟩
  have c1 : w2.cell? ⟨w.heap.size, 10, none⟩ = some (.pointer none) := by rw [hw2]; go_simp
  have c2 : w2.cell? ⟨w.heap.size + 1, 0, none⟩ = some (.string file) := by rw [hw2]; go_simp
  have c3 : w2.cell? ⟨w.heap.size + 1, 1, none⟩ = some (.int .i64 l1) := by rw [hw2]; go_simp
  have c4 : w2.cell? ⟨w.heap.size + 1 + 1, 0, none⟩ = some (.string file) := by rw [hw2]; go_simp
  have c5 : w2.cell? ⟨w.heap.size + 1 + 1, 1, none⟩ = some (.int .i64 l2) := by rw [hw2]; go_simp
  have he := eql_other w2 (a := w.heap.size + 1) (b := w.heap.size + 1 + 1) (by omega) (by rw [hw2]; exact (two_facts _ _ _ _).1) (by rw [hw2]; exact (two_facts _ _ _ _).2)
  have HB : Hid (Below w.heap.size w w2) := by rw [hw2]; repeat (first | exact Below.refl _ _ | apply Below.drew | refine Below.alloc ?_ (by simp <;> omega) _)
  clear hw2
  go_wp2
  go_ret
  exact ⟨rfl, HB.out⟩
end Go.Proofs.YbulkdcikFmt
