/-
  THE WALK of (*pieceQueue).Pop (39).
-/
import Derived.Test.YbulkdciySwap
import Derived.Deep.RegionLaw
namespace Go.Proofs.Ybulkdciy
open Go.RowKit Go.Maps
set_option linter.unusedVariables false

/-- 'delete(q.at, k)', as one step of a region that draws its order. -/
theorem step_delete {ops : Array Oper} {o : Oper} {a : Act} {w : World} {K : Act → World → Prop} {Q : Exit → Act → World → Prop} {E : Prop} (hgd : o.guard = none) (m k : Operand)
    (ho : o.op = .call { callee := .builtin .delete, args := #[m, k], argTypes := #[30, 3] }) (mb : Nat) (p : Int) (hm : a.eval m = .map (some mb)) (hk : a.eval k = .int .i64 p)
    (hok : MapOK w mb) (hp : (Lit.int .i64 p).wf = true) (h : ∀ w1, MapOK w1 mb → Turn w w1 [mb] → K (a.put o.dst (.tuple #[])) w1) :
    if Region.wanted o (yielded ops a.tmps) = true then Oper.wp Yba.prog o a w K Q else E := by
  have hw : Region.wanted o (yielded ops a.tmps) = true := by simp [Region.wanted, hgd]
  rw [if_pos hw]
  obtain ⟨w1, hrun, h1, h2⟩ := map_delete hok hp o.type
  unfold Oper.wp
  simp [execOp, ho, resolve, invoke, builtin, hm, hk, hrun, Result.andThen]
  exact h w1 h1 h2

/-- The world behind the cut of the slice and the copy of the last item. -/
def cutW (w : World) (qb g n cap : Nat) (x : Int × Nat × Int) : World :=
  (w.setCell ⟨qb, 0, none⟩ (.slice (some ⟨g, 0, none⟩) n cap)).alloc (.cells #[.int .i64 x.1, .pointer (some ⟨x.2.1, 0, none⟩)] 35)

theorem cut_que {w : World} {base qb mb g cap : Nat} {its : List (Int × Nat × Int)} {x : Int × Nat × Int} (h : Que w base qb mb g cap (its ++ [x])) :
    Que (cutW w qb g its.length cap x) base qb mb g cap its ∧ BigAt (cutW w qb g its.length cap x) x.2.1 x.2.2 ∧ Turn w (cutW w qb g its.length cap x) [qb] := by
  have hT : Turn w (cutW w qb g its.length cap x) [qb] := ((Turn.refl w [qb]).setCell (by simp) _).alloc _
  have hN : ∀ k ∈ [qb], NotBig w k := fun k hk => h.notBig k (by simp at hk; simp [hk])
  have hr := h.room
  rw [List.length_append, List.length_singleton] at hr
  refine ⟨⟨?_, h.low, ⟨by omega, hr.2.1, by omega⟩, ?_, fun y hy => (h.bigs y (List.mem_append_left _ hy)).turn hT hN, fun y hy => h.wf y (List.mem_append_left _ hy), ?_⟩, (h.bigs x (by simp)).turn hT hN, hT⟩
  · have e1 := heap_setCell_same w qb 0 _ 32 (.slice (some ⟨g, 0, none⟩) its.length cap) h.head
    have lt := lt_of_heap e1
    exact (Below.heap_alloc _ _ qb lt).trans e1
  · obtain ⟨cur, hg, hs, hc⟩ := h.row
    refine ⟨cur, (hT.block g (lt_of_heap hg) (by simpa using fun e => h.q_ne_g e.symm)).trans hg, hs, fun i y hy => hc i y ?_⟩
    have hi : i < its.length := (List.getElem?_eq_some_iff.1 hy).1
    rw [List.getElem?_append_left hi]; exact hy
  · obtain ⟨es, cl, hm, hgd⟩ := h.map
    exact ⟨es, cl, (hT.block mb (lt_of_heap hm) (by simpa using fun e => h.q_ne_m e.symm)).trans hm, hgd⟩

set_option maxRecDepth 100000 in
set_option maxHeartbeats 3200000 in
theorem pop_any {w : World} {base qb mb g cap : Nat} {its : List (Int × Nat × Int)} {x : Int × Nat × Int} (h : Que w base qb mb g cap (its ++ [x])) :
    Calls Yba.prog 39 #[.pointer (some ⟨qb, 0, none⟩)] w fun e w' => e = .returned (.iface 35 (.agg #[.int .i64 x.1, .pointer (some ⟨x.2.1, 0, none⟩)])) ∧ Que w' base qb mb g cap its ∧ BigAt w' x.2.1 x.2.2 ∧ Turn w w' [qb, mb] := by
  have hx : (its ++ [x])[its.length]? = some x := by simp
  obtain ⟨c0, c1, _, _⟩ := h.cells hx
  have cq : w.cell? ⟨qb, 0, none⟩ = some (.slice (some ⟨g, 0, none⟩) (its ++ [x]).length cap) := cell_blk h.head 0
  have cm : w.cell? ⟨qb, 1, none⟩ = some (.map (some mb)) := cell_blk h.head 1
  have fq : w.frozen? ⟨qb, 0, none⟩ = false := by simp [World.frozen?, h.head]
  have lq : qb < w.heap.size := lt_of_heap h.head
  have lg : g < w.heap.size := by obtain ⟨cur, hg, _⟩ := h.row; exact lt_of_heap hg
  have hqg := h.q_ne_g
  obtain ⟨r1, r2, r3⟩ := h.room
  rw [List.length_append, List.length_singleton] at cq r1 r3
  obtain ⟨hQ, hB, hT⟩ := cut_que h
  have dm : (cutW w qb g its.length cap x).cell? ⟨qb, 1, none⟩ = some (.map (some mb)) := cell_blk hQ.head 1
  have hbl : (cutW w qb g its.length cap x).heap[w.heap.size]? = some (.cells #[.int .i64 x.1, .pointer (some ⟨x.2.1, 0, none⟩)] 35 (0, 0)) := by
    have := heap_alloc_last (w.setCell ⟨qb, 0, none⟩ (.slice (some ⟨g, 0, none⟩) its.length cap)) (.cells #[.int .i64 x.1, .pointer (some ⟨x.2.1, 0, none⟩)] 35)
    simpa [cutW, World.setCell] using this
  have d0 : (cutW w qb g its.length cap x).cell? ⟨w.heap.size, 0, none⟩ = some (.int .i64 x.1) := cell_blk hbl 0
  have HMO : Hid (MapOK (cutW w qb g its.length cap x) mb) := hQ.map
  have HNB : Hid (w.heap.size ≠ mb) := by rintro rfl; obtain ⟨es, cl, hm, _⟩ := hQ.map; rw [hbl] at hm; simp at hm
  have HBL := hide hbl
  have HWF := hide (h.wf x (by simp)).1
  have HQ := hide hQ
  have HB := hide hB
  have HT := hide hT
  have HC : Hid (cutW w qb g its.length cap x = (w.setCell ⟨qb, 0, none⟩ (.slice (some ⟨g, 0, none⟩) its.length cap)).alloc (.cells #[.int .i64 x.1, .pointer (some ⟨x.2.1, 0, none⟩)] 35)) := rfl
  generalize cutW w qb g its.length cap x = wc at *
  clear h hx hQ hB hT hbl
  obtain ⟨px, bx, cx⟩ := x
  simp only at c0 c1 d0 HBL HWF HB HC ⊢
  generalize its.length = n at *
  go_enter Yba.func39, Yba.ntmps39
  go_wp2_with fail
  go_region
  go_wp2_with fail
  go_region
  go_wp2_with fail
  rw [← HC.out]
  go_region_law (first | (refine step_delete (by rfl) (.tmp 33) (.tmp 35) (by rfl) mb px (by rfl) (by rfl) (by exact HMO.out) HWF.out ?_; intro w1 hok ht; have hbl1 := (ht.block w.heap.size (lt_of_heap HBL.out) (by simpa using HNB.out)).trans HBL.out; have f0 := cell_blk hbl1 0; have f1 := cell_blk hbl1 1))
  all_goals
    simp only [List.getElem?_toArray, List.getElem?_cons_zero, List.getElem?_cons_succ] at f0 f1
    have HTT : Hid (Turn wc w1 [mb]) := ⟨ht.os, ht.tape, ht.output, ht.size, ht.block⟩
    have HOK := hide hok
    clear ht hok
    go_wp2
    go_ret
    exact ⟨rfl, HQ.out.mapTurn HTT.out HOK.out, HB.out.turn HTT.out (fun k hk => HQ.out.notBig k (by simp at hk; simp [hk])), (HT.out.mono (by simp)).trans (HTT.out.mono (by simp))⟩
end Go.Proofs.Ybulkdciy
