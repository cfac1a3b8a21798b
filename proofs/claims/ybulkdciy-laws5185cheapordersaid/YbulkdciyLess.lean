/-
  THE WALKS of (*pieceQueue).Less (6) and solver.zzs5185cless (7).
-/
import Derived.Test.YbulkdciyQueue
namespace Go.Proofs.Ybulkdciy
open Go.RowKit Go.Maps
set_option linter.unusedVariables false

/-- The order of the queue: by cost, then by piece; pairs are (piece, cost). -/
def lessB (a b : Int × Int) : Bool := if a.2 = b.2 then decide (a.1 < b.1) else decide (a.2 < b.2)

theorem ret_bool {a b : Bool} (h : a = b) : Ending.returned (.bool a) = .returned (.bool b) := by rw [h]

theorem cless_any (ca cb pa pb : Int) (w : World) :
    Calls Yba.prog 7 #[.int .i64 ca, .int .i64 cb, .int .i64 pa, .int .i64 pb] w fun e w' => e = .returned (.bool (lessB (pa, ca) (pb, cb))) ∧ w' = w := by
  by_cases h : ca = cb
  · have hb : (ca != cb) = false := by simp [h]
    have HR : Hid (decide (pa < pb) = lessB (pa, ca) (pb, cb)) := by simp [lessB, h, Hid]
    clear h
    go_enter Yba.func7, Yba.ntmps7
    go_wp2
    go_ret
    exact ⟨ret_bool HR.out, rfl⟩
  · have hb : (ca != cb) = true := by simp [h]
    have HR : Hid (decide (ca < cb) = lessB (pa, ca) (pb, cb)) := by simp [lessB, h, Hid]
    clear h
    go_enter Yba.func7, Yba.ntmps7
    go_wp2
    go_ret
    exact ⟨ret_bool HR.out, rfl⟩

/-- A queue that is not empty, laid open. -/
theorem Queue.form {w : World} {base qb mb M : Nat} {its : List (Int × Nat × Int)} {v : Value} (h : Queue w base qb mb M its v) (hp : 0 < its.length) :
    ∃ g cap cur, v = .slice (some ⟨g, 0, none⟩) its.length cap ∧ base ≤ g ∧ w.heap[g]? = some (.cells cur 35 (0, 0)) ∧ its.length ≤ cap ∧ cap ≤ maxLen ∧ cur.size = cap * 2 ∧
      ∀ i x, its[i]? = some x → w.cell? ⟨g, i * 2, none⟩ = some (.int .i64 x.1) ∧ w.cell? ⟨g, i * 2 + 1, none⟩ = some (.pointer (some ⟨x.2.1, 0, none⟩)) := by
  have hr := h.row
  obtain ⟨_, h0 | ⟨g, cap, cur, rfl, hg, hh, hl, hm, hs, _⟩⟩ := h.row
  · omega
  · refine ⟨g, cap, cur, rfl, hg, hh, hl, hm, hs, fun i x hx => ?_⟩
    have hi : i < its.length := (List.getElem?_eq_some_iff.1 hx).1
    have := cellsI_at its i x hx
    exact ⟨(hr.cellAt (i * 2) (by omega)).trans this.1, (hr.cellAt (i * 2 + 1) (by omega)).trans this.2⟩

theorem cmpZ_ne {a b : Int} (h : a ≠ b) : (cmpZ a b != 0) = true ∧ decide (cmpZ a b < 0) = decide (a < b) := by
  rcases Int.lt_trichotomy a b with h' | h' | h'
  · rw [cmpZ_lt h']; exact ⟨rfl, by simp [h']⟩
  · exact absurd h' h
  · rw [cmpZ_gt h']; exact ⟨rfl, by simp; omega⟩

set_option maxHeartbeats 1000000 in
theorem less_any {w : World} {base qb mb M : Nat} {its : List (Int × Nat × Int)} {v : Value} (h : Queue w base qb mb M its v) (i j : Nat) (x y : Int × Nat × Int) (hx : its[i]? = some x) (hy : its[j]? = some y) (hm : its.length ≤ 1024) :
    Calls Yba.prog 6 #[.pointer (some ⟨qb, 0, none⟩), .int .i64 i, .int .i64 j] w fun e w' => e = .returned (.bool (lessB (x.1, x.2.2) (y.1, y.2.2))) ∧ ∃ n, w' = w.drewN n := by
  have hi : i < its.length := (List.getElem?_eq_some_iff.1 hx).1
  have hj : j < its.length := (List.getElem?_eq_some_iff.1 hy).1
  obtain ⟨g, cap, cur, rfl, _, hh, hl, hmx, _, hcell⟩ := h.form (by omega)
  have cq : w.cell? ⟨qb, 0, none⟩ = some (.slice (some ⟨g, 0, none⟩) its.length cap) := cell_blk h.head 0
  obtain ⟨cx0, cx1⟩ := hcell i x hx
  obtain ⟨cy0, cy1⟩ := hcell j y hy
  have BX := hide (h.bigs x (List.mem_of_getElem? hx))
  have BY := hide (h.bigs y (List.mem_of_getElem? hy))
  clear hcell hh h hx hy
  obtain ⟨px, bx, cx⟩ := x
  obtain ⟨py, by', cy⟩ := y
  simp only at cx0 cx1 cy0 cy1 BX BY ⊢
  generalize its.length = n at *
  have i1 : (0 : Int) ≤ (i : Int) := Int.natCast_nonneg _
  have i2 : (i : Int) < (n : Int) := by omega
  have j1 : (0 : Int) ≤ (j : Int) := Int.natCast_nonneg _
  have j2 : (j : Int) < (n : Int) := by omega
  by_cases hc : cx = cy
  · have HR : Hid (decide (px < py) = lessB (px, cx) (py, cy)) := by simp [lessB, hc, Hid]
    have hz : cmpZ cx cy = 0 := cmpZ_eq hc
    clear hc
    go_enter Yba.func6, Yba.ntmps6
    go_wp2_with fail
    go_quiet ((go_at_call 13; exact Calls.quiet_of (cmp_any bx by' cx cy _ (by exact BX.out) (by exact BY.out))))
    go_wp2_with fail
    go_quiet (fail)
    go_wp2
    go_ret
    exact ⟨ret_bool HR.out, by first | exact ⟨_, rfl⟩ | (simp only [World.drewN_drewN]; exact ⟨_, rfl⟩)⟩
  · have HR : Hid (decide (cmpZ cx cy < 0) = lessB (px, cx) (py, cy)) := by rw [(cmpZ_ne hc).2]; simp [lessB, hc, Hid]
    have hz := (cmpZ_ne hc).1
    clear hc
    go_enter Yba.func6, Yba.ntmps6
    go_wp2_with fail
    go_quiet ((go_at_call 13; exact Calls.quiet_of (cmp_any bx by' cx cy _ (by exact BX.out) (by exact BY.out))))
    go_wp2
    go_ret
    exact ⟨ret_bool HR.out, by first | exact ⟨_, rfl⟩ | (simp only [World.drewN_drewN]; exact ⟨_, rfl⟩)⟩
end Go.Proofs.Ybulkdciy
