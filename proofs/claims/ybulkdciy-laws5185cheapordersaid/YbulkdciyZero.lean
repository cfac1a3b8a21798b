/-
  HeapOrder with no item: the build, heap.Init and Len of an empty queue, and the law.
-/
import Derived.Test.YbulkdciyBuild
import Derived.Test.YbulkdciyHeap
namespace Go.Proofs.Ybulkdciy
open Go.RowKit Go.Maps
set_option linter.unusedVariables false
attribute [local go_sem] meth_len meth_less meth_swap meth_pop

/-- The world behind the build of an empty queue. -/
def made0 (w : World) : World := (w.alloc (.map #[] 0)).alloc (.cells #[.slice none 0 0, .map (some w.heap.size)] 32)

theorem made0_below (w : World) : Below w.heap.size w (made0 w) := ((Below.refl _ w).alloc (Nat.le_refl _) _).alloc (by simp) _

theorem made0_cell (w : World) : (made0 w).cell? ⟨w.heap.size + 1, 0, none⟩ = some (.slice none 0 0) := by
  have h : ((w.alloc (.map #[] 0)).alloc (.cells #[.slice none 0 0, .map (some w.heap.size)] 32)).heap[w.heap.size + 1]? = some (.cells #[.slice none 0 0, .map (some w.heap.size)] 32) := by
    simpa using heap_alloc_last (w.alloc (.map #[] 0)) (.cells #[.slice none 0 0, .map (some w.heap.size)] 32)
  exact cell_blk h 0

set_option maxHeartbeats 1000000 in
theorem build0 (v0 v1 : Value) (w : World) :
    Calls Yba.prog 5 #[v0, v1, .int .i64 0] w fun e w' => e = .returned (.pointer (some ⟨w.heap.size + 1, 0, none⟩)) ∧ w' = made0 w := by
  have hmm := @run_makeMap Yba.prog
  go_enter Yba.func5, Yba.ntmps5
  go_wp2
  refine wp_loop_rounds 1 ?_
  rw [rounds_succ]
  go_wp2
  go_ret
  exact ⟨rfl, rfl⟩

theorem len0q {w : World} {qb : Nat} (cq : w.cell? ⟨qb, 0, none⟩ = some (.slice none 0 0)) :
    Calls Yba.prog 10 #[.pointer (some ⟨qb, 0, none⟩)] w fun e w' => e = .returned (.int .i64 0) ∧ w = w' := by
  go_enter Yba.func10, Yba.ntmps10
  go_wp2
  go_ret
  exact ⟨rfl, rfl⟩

theorem init0 {w : World} {qb : Nat} (cq : w.cell? ⟨qb, 0, none⟩ = some (.slice none 0 0)) :
    Calls Yba.prog 9 #[.iface 25 (.pointer (some ⟨qb, 0, none⟩))] w fun e w' => e = .returned (.tuple #[]) ∧ w = w' := by
  go_enter Yba.func9, Yba.ntmps9
  go_wp2_with fail
  refine (len0q cq).mono ?_
  rintro e w1 ⟨rfl, rfl⟩
  go_wp2
  refine wp_loop_rounds 1 ?_
  rw [rounds_succ]
  go_wp2
  go_end0
  exact ⟨rfl, rfl⟩

set_option maxHeartbeats 1000000 in
theorem order_zero (a0 : Option Addr) (cap0 len0 : Nat) (a1 : Option Addr) (cap1 len1 : Nat) (w : World) (hl0 : len0 ≤ 1024) (hl1 : len1 ≤ 1024) (hz : len0 = 0 ∨ len1 = 0) :
    Calls Yba.prog 4 #[.slice a0 len0 cap0, .slice a1 len1 cap1] w fun e w' => e = .returned (.bool true) ∧ Below w.heap.size w w' := by
  have hd0 : decide ((1024 : Int) < (len0 : Int)) = false := by simp; omega
  have hd1 : decide ((1024 : Int) < (len1 : Int)) = false := by simp; omega
  by_cases hlt : len1 < len0
  · obtain rfl : len1 = 0 := by omega
    go_enter Yba.func4, Yba.ntmps4
    go_wp2_with fail
    refine (build0 _ _ w).mono ?_
    rintro e w1 ⟨rfl, rfl⟩
    have cq := made0_cell w
    have HB := hide (made0_below w)
    generalize made0 w = w1 at *
    go_wp2_with fail
    refine (init0 cq).mono ?_
    rintro e w2 ⟨rfl, rfl⟩
    go_wp2
    refine wp_loop_rounds 1 ?_
    rw [rounds_succ]
    go_wp2_with fail
    refine (len0q cq).mono ?_
    rintro e w2 ⟨rfl, rfl⟩
    go_wp2
    go_ret
    exact ⟨rfl, HB.out⟩
  · obtain rfl : len0 = 0 := by omega
    go_enter Yba.func4, Yba.ntmps4
    go_wp2_with fail
    refine (build0 _ _ w).mono ?_
    rintro e w1 ⟨rfl, rfl⟩
    have cq := made0_cell w
    have HB := hide (made0_below w)
    generalize made0 w = w1 at *
    go_wp2_with fail
    refine (init0 cq).mono ?_
    rintro e w2 ⟨rfl, rfl⟩
    go_wp2
    refine wp_loop_rounds 1 ?_
    rw [rounds_succ]
    go_wp2_with fail
    refine (len0q cq).mono ?_
    rintro e w2 ⟨rfl, rfl⟩
    go_wp2
    go_ret
    exact ⟨rfl, HB.out⟩
end Go.Proofs.Ybulkdciy
