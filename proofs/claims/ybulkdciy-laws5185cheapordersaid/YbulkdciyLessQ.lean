/-
  THE WALKS of (*pieceQueue).Less (6) and Len (10) over the queue of a heap.
-/
import Derived.Test.YbulkdciyHeapPlain
import Derived.Test.YbulkdciyLess
namespace Go.Proofs.Ybulkdciy
open Go.RowKit Go.Maps
set_option linter.unusedVariables false

theorem len_q {w : World} {base qb mb g cap : Nat} {its : List (Int × Nat × Int)} (h : Que w base qb mb g cap its) :
    Calls Yba.prog 10 #[.pointer (some ⟨qb, 0, none⟩)] w fun e w' => e = .returned (.int .i64 its.length) ∧ w = w' := by
  have cq : w.cell? ⟨qb, 0, none⟩ = some (.slice (some ⟨g, 0, none⟩) its.length cap) := cell_blk h.head 0
  have hr := h.room
  clear h
  generalize its.length = n at *
  go_enter Yba.func10, Yba.ntmps10
  go_wp2
  go_ret
  exact ⟨rfl, rfl⟩

set_option maxHeartbeats 1000000 in
theorem less_q {w : World} {base qb mb g cap : Nat} {its : List (Int × Nat × Int)} (h : Que w base qb mb g cap its) (i j : Nat) (x y : Int × Nat × Int) (hx : its[i]? = some x) (hy : its[j]? = some y) :
    Calls Yba.prog 6 #[.pointer (some ⟨qb, 0, none⟩), .int .i64 i, .int .i64 j] w fun e w' => e = .returned (.bool (lessI x y)) ∧ ∃ n, w' = w.drewN n := by
  have hi : i < its.length := (List.getElem?_eq_some_iff.1 hx).1
  have hj : j < its.length := (List.getElem?_eq_some_iff.1 hy).1
  obtain ⟨hl, hmx, hm⟩ := h.room
  have cq : w.cell? ⟨qb, 0, none⟩ = some (.slice (some ⟨g, 0, none⟩) its.length cap) := cell_blk h.head 0
  obtain ⟨cx0, cx1, _, _⟩ := h.cells hx
  obtain ⟨cy0, cy1, _, _⟩ := h.cells hy
  have BX := hide (h.bigs x (List.mem_of_getElem? hx))
  have BY := hide (h.bigs y (List.mem_of_getElem? hy))
  clear h hx hy
  obtain ⟨px, bx, cx⟩ := x
  obtain ⟨py, by', cy⟩ := y
  simp only at cx0 cx1 cy0 cy1 BX BY ⊢
  generalize its.length = n at *
  have i1 : (0 : Int) ≤ (i : Int) := Int.natCast_nonneg _
  have i2 : (i : Int) < (n : Int) := by omega
  have j1 : (0 : Int) ≤ (j : Int) := Int.natCast_nonneg _
  have j2 : (j : Int) < (n : Int) := by omega
  by_cases hc : cx = cy
  · have HR : Hid (decide (px < py) = lessI (px, bx, cx) (py, by', cy)) := by simp [lessI, hc, Hid]
    have hz : cmpZ cx cy = 0 := cmpZ_eq hc
    clear hc
    go_enter Yba.func6, Yba.ntmps6
    go_wp2_with fail
    go_quiet ((go_at_call 13; exact Calls.quiet_of (cmp_any bx by' cx cy _ (by exact BX.out) (by exact BY.out))))
    go_wp2_with fail
    go_quiet (fail)
    go_wp2
    go_ret
    exact ⟨ret_bool HR.out, by first | exact ⟨_, rfl⟩ | (simp only [World.drewN_drewN]; exact ⟨_, rfl⟩)⟩
  · have HR : Hid (decide (cmpZ cx cy < 0) = lessI (px, bx, cx) (py, by', cy)) := by rw [(cmpZ_ne hc).2]; simp [lessI, hc, Hid]
    have hz := (cmpZ_ne hc).1
    clear hc
    go_enter Yba.func6, Yba.ntmps6
    go_wp2_with fail
    go_quiet ((go_at_call 13; exact Calls.quiet_of (cmp_any bx by' cx cy _ (by exact BX.out) (by exact BY.out))))
    go_wp2
    go_ret
    exact ⟨ret_bool HR.out, by first | exact ⟨_, rfl⟩ | (simp only [World.drewN_drewN]; exact ⟨_, rfl⟩)⟩
end Go.Proofs.Ybulkdciy
