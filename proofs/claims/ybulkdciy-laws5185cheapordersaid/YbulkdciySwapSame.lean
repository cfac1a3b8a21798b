/-
  THE WALK of (*pieceQueue).Swap (40) at one place.
-/
import Derived.Test.YbulkdciySwap
namespace Go.Proofs.Ybulkdciy
open Go.RowKit Go.Maps
set_option linter.unusedVariables false

set_option maxRecDepth 100000 in
set_option maxHeartbeats 3200000 in
theorem swap_same {w : World} {base qb mb g cap : Nat} {its : List (Int × Nat × Int)} (h : Que w base qb mb g cap its) {i : Nat} {x : Int × Nat × Int} (hx : its[i]? = some x) :
    Calls Yba.prog 40 #[.pointer (some ⟨qb, 0, none⟩), .int .i64 i, .int .i64 i] w fun e w' => e = .returned (.tuple #[]) ∧ Que w' base qb mb g cap (swapL its i i) ∧ Turn w w' [g, mb] := by
  have hi : i < its.length := (List.getElem?_eq_some_iff.1 hx).1
  obtain ⟨hQ, hT⟩ := exch_que h hx hx
  have HQ := hide hQ
  have HT := hide hT
  have hqj : (swapL its i i)[i]? = some x := by rw [swapL_at its i i i x x hx hx, if_pos rfl]
  obtain ⟨dj0, _, _, _⟩ := hQ.cells hqj
  have dq0 : (exch w g i i x x).cell? ⟨qb, 0, none⟩ = some (.slice (some ⟨g, 0, none⟩) (swapL its i i).length cap) := cell_blk hQ.head 0
  rw [swapL_length] at dq0
  have dq1 : (exch w g i i x x).cell? ⟨qb, 1, none⟩ = some (.map (some mb)) := cell_blk hQ.head 1
  have hmo : MapOK (exch w g i i x x).drew.drew mb := hQ.map
  obtain ⟨v0, s, w1, w2, u0, r, w3, w4, e1, e2, e3, e4, hok, ht⟩ := four hmo (h.wf x (List.mem_of_getElem? hx)).1 (h.wf x (List.mem_of_getElem? hx)).1 (.int .i64 i) (.int .i64 i)
  have HOK := hide hok
  have HTM := hide ht
  obtain ⟨ci0, ci1, fi0, fi1⟩ := h.cells hx
  have cq : w.cell? ⟨qb, 0, none⟩ = some (.slice (some ⟨g, 0, none⟩) its.length cap) := cell_blk h.head 0
  have hqg := h.q_ne_g
  obtain ⟨r1, r2, r3⟩ := h.room
  clear h hQ hT hmo hok ht hqj hx
  obtain ⟨px, bx, cx⟩ := x
  simp only at ci0 ci1 dj0
  have hE : exch w g i i (px, bx, cx) (px, bx, cx) = (((w.setCell ⟨g, i * 2, none⟩ (.int .i64 px)).setCell ⟨g, i * 2 + 1, none⟩ (.pointer (some ⟨bx, 0, none⟩))).setCell ⟨g, i * 2, none⟩ (.int .i64 px)).setCell ⟨g, i * 2 + 1, none⟩ (.pointer (some ⟨bx, 0, none⟩)) := rfl
  have HE := hide hE
  clear hE
  generalize exch w g i i (px, bx, cx) (px, bx, cx) = wq at *
  have HLEN : Hid (its.length = its.length) := rfl
  generalize its.length = n at *
  have i1 : (0 : Int) ≤ (i : Int) := Int.natCast_nonneg _
  have i2 : (i : Int) < (n : Int) := by omega
  go_enter Yba.func40, Yba.ntmps40
  go_wp2_with fail
  go_region
  go_wp2_with fail
  rw [← HE.out]
  go_region
  all_goals
    go_wp2
    go_end0
    exact ⟨rfl, HQ.out.mapTurn ⟨HTM.out.os, HTM.out.tape, HTM.out.output, HTM.out.size, HTM.out.block⟩ HOK.out,
      (HT.out.mono (by simp)).trans (Turn.mono (bs := [mb]) ⟨HTM.out.os, HTM.out.tape, HTM.out.output, HTM.out.size, HTM.out.block⟩ (by simp))⟩
end Go.Proofs.Ybulkdciy
