/-
  THE WALK of solver.zzs5185cbuild (function 5).
-/
import Derived.Test.YbulkdciyQueue
import Derived.Deep.RegionHeld3
import Derived.Deep.RegionLaw
namespace Go.Proofs.Ybulkdciy
open Go.RowKit Go.Maps
set_option linter.unusedVariables false

theorem info35 : (Yba.prog.info? 35).map (fun i => (i.zero, i.size, i.bytes)) = some (some (.agg #[.int .i64 0, .pointer none]), 2, 16) := by kernel_rfl

/-- What is read of the items: (piece, cost). -/
def keys (its : List (Int × Nat × Int)) : List (Int × Int) := its.map fun x => (x.1, x.2.2)
def keysTo (l0 l1 : List Int) (k : Nat) : List (Int × Int) := (List.range k).map fun i => (l1.getD i 0, l0.getD i 0)
theorem keysTo_succ (l0 l1 : List Int) (k : Nat) : keysTo l0 l1 (k + 1) = keysTo l0 l1 k ++ [(l1.getD k 0, l0.getD k 0)] := by
  simp [keysTo, List.range_succ]
theorem keys_len {its : List (Int × Nat × Int)} {l0 l1 : List Int} {k : Nat} (h : keys its = keysTo l0 l1 k) : its.length = k := by
  have := congrArg List.length h
  simpa [keys, keysTo] using this

theorem frozen_blk {w : World} {b i : Nat} {c : Array Value} {t : TypeId} (h : w.heap[b]? = some (.cells c t (0, 0))) : w.frozen? ⟨b, i, none⟩ = false := by
  simp [World.frozen?, h]

/-- A block below the row's base is not the row's. -/
theorem far_low {w : World} {base e size n : Nat} {v : Value} {xs : List Value} (h : w.ownsRow base e size v n xs) {k : Nat} (hk : k < base) : some k ≠ v.ownBlock := by
  intro e
  have := (h.lt k e.symm).1
  omega
theorem grown_at {w1 w2 : World} {o : Obj} {v u : Value} {b i : Nat} (hg : (w1.alloc o).grownBy w2 v.ownBlock) (hne : v.ownBlock ≠ some b) (hb : b < w1.heap.size) (h : w1.cell? ⟨b, i, none⟩ = some u) : w2.cell? ⟨b, i, none⟩ = some u := by
  rw [hg.cell_far _ (by simp; omega) (Ne.symm hne), World.cell?_alloc_past _ _ _ hb]; exact h
theorem grown_free {w1 w2 : World} {o : Obj} {v : Value} {b i : Nat} (hg : (w1.alloc o).grownBy w2 v.ownBlock) (hne : v.ownBlock ≠ some b) (hb : b < w1.heap.size) (h : w1.frozen? ⟨b, i, none⟩ = false) : w2.frozen? ⟨b, i, none⟩ = false := by
  rw [hg.frozen_far _ (by simp; omega) (Ne.symm hne)]
  have e : (w1.alloc o).heap[b]? = w1.heap[b]? := Below.heap_alloc w1 o b hb
  exact (World.frozen?_of_block (a := ⟨b, i, none⟩) e).trans h

/-- What one round does to the queue. -/
theorem build_step {w wr w1 w2 : World} {qb mb g cap nb k : Nat} {its : List (Int × Nat × Int)} {v : Value} {p c : Int} {o : Obj} {l0 l1 : List Int}
    (HQ : Queue wr w.heap.size qb mb 0 its v ∧ keys its = keysTo l0 l1 k ∧ Below w.heap.size w wr) (hbel1 : Below wr.drew.heap.size wr.drew w1) (hbig : BigAt w1 nb c)
    (hgrow : (w1.alloc o).grownBy w2 v.ownBlock) (hown : w2.ownsRow w.heap.size 35 2 (.slice (some ⟨g, 0, none⟩) (its.length + 1) cap) (its.length + 1) (cellsI its ++ [.int .i64 p, .pointer (some ⟨nb, 0, none⟩)]))
    (HK : keysTo l0 l1 (k + 1) = keysTo l0 l1 k ++ [(p, c)]) :
    Queue (w2.setCell ⟨qb, 0, none⟩ (.slice (some ⟨g, 0, none⟩) (its.length + 1) cap)) w.heap.size qb mb 0 (its ++ [(p, nb, c)]) (.slice (some ⟨g, 0, none⟩) (its.length + 1) cap) ∧
      keys (its ++ [(p, nb, c)]) = keysTo l0 l1 (k + 1) ∧ Below w.heap.size w (w2.setCell ⟨qb, 0, none⟩ (.slice (some ⟨g, 0, none⟩) (its.length + 1) cap)) := by
  obtain ⟨hQ, hk, hb⟩ := HQ
  obtain ⟨h1, h2⟩ := hQ.push (Turn.of_below (w := wr) ⟨hbel1.os, hbel1.tape, hbel1.output, hbel1.size, hbel1.block⟩) hbig hgrow hown
  refine ⟨h1, by rw [HK, ← hk]; simp [keys], hb.trans (h2.below hb.size ?_)⟩
  intro x hx
  rw [List.mem_cons] at hx
  rcases hx with rfl | hx
  · exact hQ.low.1
  · exact (hQ.row.lt x (by simpa using hx)).1

/-- A call of big.NewInt, as one step of a region that draws its order. -/
theorem step_newInt {ops : Array Oper} {o : Oper} {a : Act} {w : World} {K : Act → World → Prop} {Q : Exit → Act → World → Prop} {E : Prop} (hgd : o.guard = none) (x : Operand)
    (ho : o.op = .call { callee := .value (.func 12), args := #[x], argTypes := #[2] }) (c : Int) (hx : a.eval x = .int .i64 c) (h0 : -9223372036854775808 ≤ c) (h1 : c ≤ 9223372036854775807)
    (h : ∀ nb w1, BigAt w1 nb c → Below w.heap.size w w1 → K (a.put o.dst (.pointer (some ⟨nb, 0, none⟩))) w1) :
    if Region.wanted o (yielded ops a.tmps) = true then Oper.wp Yba.prog o a w K Q else E := by
  have hw : Region.wanted o (yielded ops a.tmps) = true := by simp [Region.wanted, hgd]
  rw [if_pos hw]
  have hrun : (execOp a.eval o).run Yba.prog w = .ok (.enter 12 #[.int .i64 c]) w := by
    obtain ⟨dst, op, ty, pos, after, guard⟩ := o
    simp only at ho
    subst ho
    rw [execOp_call_go]
    simp [hx]
  unfold Oper.wp
  rw [hrun, Oper.upon_enter]
  refine (newInt_any c w h0 h1).mono ?_
  rintro e w1 ⟨nb, rfl, _, hbig, hbel⟩
  exact h nb w1 hbig hbel

set_option maxRecDepth 100000 in
set_option maxHeartbeats 3200000 in
theorem build_any (b0 o0 cap0 len0 b1 o1 cap1 len1 n : Nat) (l0 l1 : List Int) (w : World) (hn0 : n ≤ len0) (hn1 : n ≤ len1) (hn : n ≤ 1024)
    (hl0 : len0 ≤ 1024) (hl1 : len1 ≤ 1024)
    (hy0 : ∀ i, i < n → -9223372036854775808 ≤ l0.getD i 0 ∧ l0.getD i 0 ≤ 9223372036854775807)
    (hc0 : ∀ i, i < n → w.cell? ⟨b0, o0 + i, none⟩ = some (.int .i64 (l0.getD i 0)))
    (hc1 : ∀ i, i < n → w.cell? ⟨b1, o1 + i, none⟩ = some (.int .i64 (l1.getD i 0))) :
    Calls Yba.prog 5 #[.slice (some ⟨b0, o0, none⟩) len0 cap0, .slice (some ⟨b1, o1, none⟩) len1 cap1, .int .i64 n] w fun e w' =>
      ∃ its v, e = .returned (.pointer (some ⟨w.heap.size + 1, 0, none⟩)) ∧ Queue w' w.heap.size (w.heap.size + 1) w.heap.size 0 its v ∧ keys its = keysTo l0 l1 n ∧ Below w.heap.size w w' := by
  obtain ⟨i0, hi, hz0, hz1, hz2⟩ := info_parts info35
  have hmm := @run_makeMap Yba.prog
  have HY := hide hy0
  have HC0 := hide hc0
  have HC1 := hide hc1
  clear hy0 hc0 hc1
  go_enter Yba.func5, Yba.ntmps5
  go_wp2
  have H0 : Hid (Queue ((w.alloc (.map #[] 0)).alloc (.cells #[.slice none 0 0, .map (some w.heap.size)] 32)) w.heap.size (w.heap.size + 1) w.heap.size 0 [] (.slice none 0 0) ∧ keys [] = keysTo l0 l1 0 ∧
      Below w.heap.size w ((w.alloc (.map #[] 0)).alloc (.cells #[.slice none 0 0, .map (some w.heap.size)] 32))) :=
    ⟨⟨by simpa using heap_alloc_last (w.alloc (.map #[] 0)) (.cells #[.slice none 0 0, .map (some w.heap.size)] 32), ⟨by omega, by omega⟩, World.ownsRow_nil _ _ _ _, by simp, ⟨_, (World.ownsMap_made w _ _ _).alloc _⟩⟩, rfl, ((Below.refl _ w).alloc (Nat.le_refl _) _).alloc (by simp) _⟩
  go_loopw [8] (fun i wr => ∃ (k : Nat) (its : List (Int × Nat × Int)) (v : Value), k ≤ n ∧ i = .int .i64 k ∧ Hid (Queue wr w.heap.size (w.heap.size + 1) w.heap.size 0 its v ∧ keys its = keysTo l0 l1 k ∧ Below w.heap.size w wr)) (fun i _ => n - (intOf i).toNat)
  case atStart => exact ⟨0, [], _, Nat.zero_le _, rfl, H0⟩
  case round =>
    obtain ⟨k, its, v, hk, rfl, HQ⟩ := hrel
    by_cases hlt : k < n
    · have hb0 : b0 < w.heap.size := World.block_lt_of_cell? w ⟨b0, o0 + k, none⟩ (HC0.out k hlt)
      have hb1 : b1 < w.heap.size := World.block_lt_of_cell? w ⟨b1, o1 + k, none⟩ (HC1.out k hlt)
      have c0 : wr.cell? ⟨b0, o0 + k, none⟩ = some (.int .i64 (l0.getD k 0)) := (HQ.out.2.2.cell (p := ⟨b0, o0 + k, none⟩) hb0).trans (HC0.out k hlt)
      have c1 : wr.cell? ⟨b1, o1 + k, none⟩ = some (.int .i64 (l1.getD k 0)) := (HQ.out.2.2.cell (p := ⟨b1, o1 + k, none⟩) hb1).trans (HC1.out k hlt)
      have cq : wr.cell? ⟨w.heap.size + 1, 0, none⟩ = some v := cell_blk HQ.out.1.head 0
      have hlq : w.heap.size + 1 < wr.heap.size := lt_of_heap HQ.out.1.head
      have hb0w : b0 < wr.heap.size := by omega
      have hb1w : b1 < wr.heap.size := by omega
      obtain ⟨hy0, hy1⟩ := HY.out k hlt
      have HK := hide (keysTo_succ l0 l1 k)
      have HOWN := hide HQ.out.1.row
      have HLEN : Hid (its.length = k) := keys_len HQ.out.2.1
      have h63 : its.length + 1 ≤ maxLen := by rw [HLEN.out]; unfold maxLen; omega
      have h47 : (its.length + 1) * 16 ≤ 140737488355328 := by rw [HLEN.out]; omega
      have HNE := hide HQ.out.1.q_ne_v
      have fq : wr.frozen? ⟨w.heap.size + 1, 0, none⟩ = false := frozen_blk HQ.out.1.head
      generalize l0.getD k 0 = c at *
      generalize l1.getD k 0 = p at *
      have i1 : (0 : Int) ≤ (k : Int) := Int.natCast_nonneg _
      have i2 : (k : Int) < (len0 : Int) := by omega
      have i3 : (k : Int) < (len1 : Int) := by omega
      go_wp2_with fail
      go_region_law
        (first
          | (refine step_append_lies _ (by rfl) _ _ _ (by rfl) w.heap.size 35 i0 _ 2 16 Yba.underlying29 hi hz0 hz1 hz2 rfl (by omega) v its.length (cellsI its) (by rfl) (by exact hown1.alloc _) ⟨w1.heap.size, 0, none⟩ 1 1 [.int .i64 p, .pointer (some ⟨nb, 0, none⟩)] (by rfl) (by rfl) (World.news_of_block (cs := #[.int .i64 p, .pointer (some ⟨nb, 0, none⟩)]) (t := 35) (fr := (0, 0)) (heap_alloc_new w1 _)) (by simp [Value.oneCell']) (by omega) h63 h47 (by simp; omega) (w1.heap.size + 1) (by simp) ?_; intro g cap w2 hown2 hgrow hat hlt2; have cq2 := grown_at hgrow HNE.out hlq1 cq1; have fq2 := grown_free hgrow HNE.out hlq1 fq1; have c12 := grown_at hgrow (Ne.symm (far_low HOWN.out hb1)) (Nat.lt_of_lt_of_le hb1w hs1) c11; have c02 := grown_at hgrow (Ne.symm (far_low HOWN.out hb0)) (Nat.lt_of_lt_of_le hb0w hs1) c01)
          | (refine step_newInt (by rfl) (.tmp 29) (by rfl) c (by rfl) hy0 hy1 ?_; intro nb w1 hbig hbel1; have hs1 : wr.heap.size ≤ w1.heap.size := hbel1.size; have hlq1 : w.heap.size + 1 < w1.heap.size := (by omega); have hown1 := HOWN.out.kept (w' := w1) ⟨hbel1.os, hbel1.tape, hbel1.output, hbel1.size, fun k hk _ => hbel1.block k hk⟩ (Decidable.em _); have cq1 := (hbel1.cell (p := ⟨w.heap.size + 1, 0, none⟩) hlq).trans cq; have c01 := (hbel1.cell (p := ⟨b0, o0 + k, none⟩) hb0w).trans c0; have c11 := (hbel1.cell (p := ⟨b1, o1 + k, none⟩) hb1w).trans c1; have fq1 := (hbel1.frozen (p := ⟨w.heap.size + 1, 0, none⟩) hlq).trans fq))
      all_goals
        have HS := hide (build_step HQ.out hbel1 hbig hgrow hown2 HK.out)
        clear hown1 hown2 hgrow hbig hbel1 cq cq1 cq2 c0 c01 c02 c1 c11 c12 fq fq1 fq2
        go_wp2
        go_roundw
        case rel => exact ⟨k + 1, its ++ [(p, nb, c)], _, by omega, by go_num, HS⟩
        case measure => simp [intOf]; omega
    · obtain rfl : k = n := by omega
      go_wp2
      go_ret
      exact ⟨its, v, rfl, HQ.out⟩
end Go.Proofs.Ybulkdciy
