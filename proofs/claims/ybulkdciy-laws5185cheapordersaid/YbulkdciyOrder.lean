/-
  THE WALK of solver.LawS5185CHeapOrder (function 4).
-/
import Derived.Test.YbulkdciyBuild
import Derived.Test.YbulkdciyHeap
namespace Go.Proofs.Ybulkdciy
open Go.RowKit Go.Maps
set_option linter.unusedVariables false
attribute [local go_sem] meth_len meth_less meth_swap meth_pop

/-- What heap.Pop hands back is an item of the queue. -/
theorem as35 (v : Value) (w : World) : (Instr.typeAssert (.iface 35 v) 20 35 true).run Yba.prog w = .ok (.tuple #[v, .bool true]) w := by kernel_rfl
attribute [local go_sem] as35

theorem Que.turnNil {w w' : World} {base qb mb g cap : Nat} {its : List (Int × Nat × Int)} (h : Que w base qb mb g cap its) (hT : Turn w w' []) : Que w' base qb mb g cap its := by
  obtain ⟨cur, hg, hs, hc⟩ := h.row
  obtain ⟨es, cl, hm, hgd⟩ := h.map
  exact ⟨(hT.block qb (lt_of_heap h.head) (by simp)).trans h.head, h.low, h.room, ⟨cur, (hT.block g (lt_of_heap hg) (by simp)).trans hg, hs, hc⟩, fun x hx => (h.bigs x hx).turn hT (by simp), h.wf, ⟨es, cl, (hT.block mb (lt_of_heap hm) (by simp)).trans hm, hgd⟩⟩

/-- The queue as the build leaves it, taken for the queue of a heap. -/
theorem Queue.que {w : World} {base qb mb M : Nat} {its : List (Int × Nat × Int)} {v : Value} (h : Queue w base qb mb M its v) (hp : 0 < its.length) (hm : its.length ≤ 1024)
    (hwf : ∀ x ∈ its, (Lit.int .i64 x.1).wf = true ∧ -9223372036854775808 ≤ x.2.2 ∧ x.2.2 ≤ 9223372036854775807) : ∃ g cap, Que w base qb mb g cap its := by
  have hr := h.row
  have hh := h.head
  obtain ⟨_, h0 | ⟨g, cap, cur, rfl, hg, hgh, hl, hcm, hs, _⟩⟩ := h.row
  · omega
  · obtain ⟨D, hD⟩ := h.map
    refine ⟨g, cap, hh, ⟨h.low.1, h.low.2, hg⟩, ⟨hl, hcm, hm⟩, ⟨cur, hgh, hs, fun i x hx => ?_⟩, h.bigs, hwf, mapOK_of_own hD⟩
    have hi : i < its.length := (List.getElem?_eq_some_iff.1 hx).1
    have := cellsI_at its i x hx
    exact ⟨((cell_blk hgh (i * 2)).symm.trans (hr.cellAt (i * 2) (by omega))).trans this.1, ((cell_blk hgh (i * 2 + 1)).symm.trans (hr.cellAt (i * 2 + 1) (by omega))).trans this.2⟩

theorem keys_wf {its : List (Int × Nat × Int)} {l0 l1 : List Int} {n : Nat} (h : keys its = keysTo l0 l1 n)
    (hy0 : ∀ i, i < n → -9223372036854775808 ≤ l0.getD i 0 ∧ l0.getD i 0 ≤ 9223372036854775807) (hy1 : ∀ i, i < n → -9223372036854775808 ≤ l1.getD i 0 ∧ l1.getD i 0 ≤ 9223372036854775807) :
    ∀ x ∈ its, (Lit.int .i64 x.1).wf = true ∧ -9223372036854775808 ≤ x.2.2 ∧ x.2.2 ≤ 9223372036854775807 := by
  intro x hx
  have hm : (x.1, x.2.2) ∈ keys its := List.mem_map.2 ⟨x, hx, rfl⟩
  rw [h, keysTo, List.mem_map] at hm
  obtain ⟨i, hi, e⟩ := hm
  rw [List.mem_range] at hi
  simp only [Prod.mk.injEq] at e
  rw [← e.1, ← e.2]
  exact ⟨WalkArith.wf_i64 (hy1 i hi), hy0 i hi⟩

/-- What the law's loop keeps: B is the heap's size when the law began. -/
structure LRel (w : World) (base qb mb g cap n k : Nat) (hv : Bool) (pc pp : Int) (wr : World) (l : List (Int × Nat × Int)) : Prop where
  que : Que wr base qb mb g cap l
  heap : Heap l l.length 0
  len : l.length = n - k
  low : hv = true → ∀ y ∈ l, le (pp, 0, pc) y
  bel : Below base w wr

theorem lrel_step {w wr w4 : World} {base qb mb g cap n k : Nat} {hv : Bool} {pc pp : Int} {l l' : List (Int × Nat × Int)} {o : Obj}
    (h : LRel w base qb mb g cap n k hv pc pp wr l) (hb : base ≤ wr.heap.size) (hk : k < n) (hQ : Que w4 base qb mb g cap l') (hH : Heap l' (n - k - 1) 0) (hP : (l' ++ [atI l 0]).Perm l) (hT : Turn wr w4 [qb, g, mb]) :
    LRel w base qb mb g cap n (k + 1) true (atI l 0).2.2 (atI l 0).1 (w4.alloc o) l' := by
  have hlen := hP.length_eq
  rw [List.length_append, List.length_singleton, h.len] at hlen
  refine ⟨hQ.turnNil ((Turn.refl w4 []).alloc o), ?_, by omega, fun _ y hy => ?_, (h.bel.trans (hT.below hb ?_)).alloc ?_ o⟩
  · rw [show l'.length = n - k - 1 from by omega]; exact hH
  · have hm : y ∈ l := hP.mem_iff.1 (List.mem_append_left _ hy)
    obtain ⟨j, hj⟩ := List.getElem?_of_mem hm
    have hjl : j < l.length := (List.getElem?_eq_some_iff.1 hj).1
    have hr := h.heap.root j j (Nat.le_refl _) hjl
    have e : atI l j = y := getD_of hj
    rw [e] at hr
    rw [le_iff] at hr ⊢
    exact hr
  · intro x hx
    simp only [List.mem_cons, List.not_mem_nil, or_false] at hx
    have := h.que.low
    rcases hx with rfl | rfl | rfl <;> omega
  · exact Nat.le_trans hb hT.size

/-- Against the one before: never less. -/
theorem lrel_low {w wr : World} {base qb mb g cap n k : Nat} {pc pp : Int} {l : List (Int × Nat × Int)} (h : LRel w base qb mb g cap n k true pc pp wr l) (hk : k < n) : lessB ((atI l 0).1, (atI l 0).2.2) (pp, pc) = false := by
  have hl : 0 < l.length := by rw [h.len]; omega
  have := h.low rfl (atI l 0) (List.mem_of_getElem? (at_some hl))
  unfold le lessI at this
  unfold lessB
  exact this

theorem order_great0 (a0 : Option Addr) (len0 cap0 : Nat) (a1 : Option Addr) (len1 cap1 : Nat) (w : World) (h : 1024 < len0) (hm : len0 ≤ maxLen) :
    Calls Yba.prog 4 #[.slice a0 len0 cap0, .slice a1 len1 cap1] w fun e w' => e = .returned (.bool true) ∧ Below w.heap.size w w' := by
  unfold maxLen at hm
  have hd : decide ((1024 : Int) < (len0 : Int)) = true := by simp; omega
  go_enter Yba.func4, Yba.ntmps4
  go_wp2
  go_ret
  exact ⟨rfl, Below.refl _ _⟩

theorem order_great1 (a0 : Option Addr) (len0 cap0 : Nat) (a1 : Option Addr) (len1 cap1 : Nat) (w : World) (h0 : len0 ≤ 1024) (h : 1024 < len1) (hm : len1 ≤ maxLen) :
    Calls Yba.prog 4 #[.slice a0 len0 cap0, .slice a1 len1 cap1] w fun e w' => e = .returned (.bool true) ∧ Below w.heap.size w w' := by
  unfold maxLen at hm
  have hd0 : decide ((1024 : Int) < (len0 : Int)) = false := by simp; omega
  have hd : decide ((1024 : Int) < (len1 : Int)) = true := by simp; omega
  go_enter Yba.func4, Yba.ntmps4
  go_wp2
  go_ret
  exact ⟨rfl, Below.refl _ _⟩

set_option maxRecDepth 100000 in
set_option maxHeartbeats 2000000 in
theorem order_any (b0 o0 cap0 len0 b1 o1 cap1 len1 n : Nat) (l0 l1 : List Int) (w : World) (hn : (len1 < len0 ∧ n = len1) ∨ (len0 ≤ len1 ∧ n = len0)) (hp : 0 < n)
    (hl0 : len0 ≤ 1024) (hl1 : len1 ≤ 1024)
    (hy0 : ∀ i, i < n → -9223372036854775808 ≤ l0.getD i 0 ∧ l0.getD i 0 ≤ 9223372036854775807) (hy1 : ∀ i, i < n → -9223372036854775808 ≤ l1.getD i 0 ∧ l1.getD i 0 ≤ 9223372036854775807)
    (hc0 : ∀ i, i < n → w.cell? ⟨b0, o0 + i, none⟩ = some (.int .i64 (l0.getD i 0)))
    (hc1 : ∀ i, i < n → w.cell? ⟨b1, o1 + i, none⟩ = some (.int .i64 (l1.getD i 0))) :
    Calls Yba.prog 4 #[.slice (some ⟨b0, o0, none⟩) len0 cap0, .slice (some ⟨b1, o1, none⟩) len1 cap1] w fun e w' => e = .returned (.bool true) ∧ Below w.heap.size w w' := by
  have hd0 : decide ((1024 : Int) < (len0 : Int)) = false := by simp; omega
  have hd1 : decide ((1024 : Int) < (len1 : Int)) = false := by simp; omega
  have hn0 : n ≤ len0 := by omega
  have hn1 : n ≤ len1 := by omega
  have HY0 := hide hy0
  have HY1 := hide hy1
  have HC0 := hide hc0
  have HC1 := hide hc1
  clear hy0 hy1 hc0 hc1
  rcases hn with ⟨hlt, rfl⟩ | ⟨hge, rfl⟩
  all_goals
    go_enter Yba.func4, Yba.ntmps4
    go_wp2_with fail
    refine (build_any b0 o0 cap0 _ b1 o1 cap1 _ _ l0 l1 w hn0 hn1 (by omega) hl0 hl1 HY0.out HC0.out HC1.out).mono ?_
    rintro e w1 ⟨its, v, rfl, hQ, hK, hbel⟩
    have hlen := keys_len hK
    obtain ⟨g, cap, hq⟩ := hQ.que (by omega) (by omega) (keys_wf hK HY0.out HY1.out)
    have hB1 : w.heap.size ≤ w1.heap.size := hbel.size
    have HQ := hide hq
    have HBEL := hide hbel
    have HLEN := hide hlen
    clear hQ hK hbel hq hlen
    go_wp2_with fail
    refine (init_any HQ.out).mono ?_
    rintro e w2 ⟨rfl, l, hQ2, hH2, hP2, hT2⟩
    have H0 : Hid (LRel w w.heap.size (w.heap.size + 1) w.heap.size g cap n 0 false 0 0 w2 l) := by
      have hl := hP2.length_eq
      refine ⟨hQ2, by rw [hl]; exact hH2, by rw [hl, HLEN.out]; omega, (fun h => by cases h), HBEL.out.trans (hT2.below hB1 ?_)⟩
      intro x hx
      simp only [List.mem_cons, List.not_mem_nil, or_false] at hx
      have := HQ.out.low
      rcases hx with rfl | rfl <;> omega
    clear hQ2 hH2 hP2 hT2
    go_wp2
    go_loopw [7, 8, 9, 10] (fun s7 s8 s9 s10 wr => ∃ (k : Nat) (l : List (Int × Nat × Int)) (hv : Bool) (pc pp : Int), s7 = .bool hv ∧ s8 = .int .i64 pc ∧ s9 = .int .i64 pp ∧ s10 = .int .i64 k ∧ k ≤ n ∧
        Hid (LRel w w.heap.size (w.heap.size + 1) w.heap.size g cap n k hv pc pp wr l)) (fun _ _ _ s10 _ => n - (intOf s10).toNat)
    case atStart => exact ⟨0, l, false, 0, 0, rfl, rfl, rfl, rfl, Nat.zero_le _, H0⟩
    case round =>
      obtain ⟨k, l, hv, pc, pp, rfl, rfl, rfl, rfl, hk, HR⟩ := hrel
      by_cases hlk : k < n
      · have HLL : Hid (l.length = n - k) := HR.out.len
        have HQL : Hid (Calls Yba.prog 10 #[.pointer (some ⟨w.heap.size + 1, 0, none⟩)] wr fun e w' => e = .returned (.int .i64 ((n : Int) - (k : Int))) ∧ wr = w') := by
          have := len_q HR.out.que
          rw [HLL.out, show ((n - k : Nat) : Int) = (n : Int) - (k : Int) from by omega] at this
          exact this
        have HPP := hide (hpop_any HR.out.que (n - k - 1) (by rw [HLL.out]; omega) (by have := HR.out.heap; rw [HLL.out] at this; rw [show n - k - 1 + 1 = n - k from by omega]; exact this))
        have hl0 : 0 < l.length := by rw [HLL.out]; omega
        have HWF := hide (HR.out.que.wf (atI l 0) (List.mem_of_getElem? (at_some hl0)))
        have hbw : w.heap.size ≤ wr.heap.size := HR.out.bel.size
        have HLOW : Hid (hv = true → lessB ((atI l 0).1, (atI l 0).2.2) (pp, pc) = false) := fun e => by subst e; exact lrel_low HR.out hlk
        go_wp2_with fail
        refine HQL.out.mono ?_
        rintro e w3 ⟨rfl, rfl⟩
        go_wp2_with fail
        refine HPP.out.mono ?_
        rintro e w4 ⟨rfl, l', hQ4, hH4, hP4, hB4, hT4⟩
        have HSTEP : Hid (LRel w w.heap.size (w.heap.size + 1) w.heap.size g cap n (k + 1) true (atI l 0).2.2 (atI l 0).1 (w4.alloc (.cells #[.int .i64 (atI l 0).1, .pointer (some ⟨(atI l 0).2.1, 0, none⟩)] 35)) l') := lrel_step HR.out hbw hlk hQ4 hH4 hP4 hT4
        have HBIG : Hid (BigAt (w4.alloc (.cells #[.int .i64 (atI l 0).1, .pointer (some ⟨(atI l 0).2.1, 0, none⟩)] 35)) (atI l 0).2.1 (atI l 0).2.2) := hB4.turn ((Turn.refl w4 []).alloc _) (by simp)
        clear hQ4 hH4 hP4 hB4 hT4 HPP HQL hl0
        obtain ⟨_, hc0, hc1⟩ := HWF.out
        clear HWF
        generalize atI l 0 = x at *
        obtain ⟨px, bx, cx⟩ := x
        simp only at HSTEP HBIG HLOW hc0 hc1 ⊢
        go_wp2_with fail
        refine (int64_any bx cx _ HBIG.out hc0 hc1).mono ?_
        rintro e w5 ⟨rfl, rfl⟩
        cases hv
        · go_wp2
          go_roundw
          case rel => exact ⟨k + 1, l', true, cx, px, rfl, rfl, rfl, by go_num, by omega, HSTEP⟩
          case measure => simp [intOf]; omega
        · have hlow : lessB (px, cx) (pp, pc) = false := HLOW.out rfl
          go_wp2_with fail
          refine (cless_any cx pc px pp _).mono ?_
          rintro e w6 ⟨rfl, rfl⟩
          rw [hlow]
          go_wp2
          go_roundw
          case rel => exact ⟨k + 1, l', true, cx, px, rfl, rfl, rfl, by go_num, by omega, HSTEP⟩
          case measure => simp [intOf]; omega
      · obtain rfl : k = n := by omega
        have HQL : Hid (Calls Yba.prog 10 #[.pointer (some ⟨w.heap.size + 1, 0, none⟩)] wr fun e w' => e = .returned (.int .i64 0) ∧ wr = w') := by
          have := len_q HR.out.que
          rw [HR.out.len, show ((k - k : Nat) : Int) = 0 from by omega] at this
          exact this
        go_wp2_with fail
        refine HQL.out.mono ?_
        rintro e w3 ⟨rfl, rfl⟩
        go_wp2
        go_ret
        exact ⟨rfl, HR.out.bel⟩
end Go.Proofs.Ybulkdciy
