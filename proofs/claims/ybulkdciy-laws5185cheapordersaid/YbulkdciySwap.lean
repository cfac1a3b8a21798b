/-
  THE QUEUE OF A HEAP ('Que') AND THE WALK of (*pieceQueue).Swap (40).
-/
import Derived.Test.YbulkdciyMapOK
import Derived.BigRegion
namespace Go.Proofs.Ybulkdciy
open Go.RowKit Go.Maps
set_option linter.unusedVariables false

structure Que (w : World) (base qb mb g cap : Nat) (its : List (Int × Nat × Int)) : Prop where
  head : w.heap[qb]? = some (.cells #[.slice (some ⟨g, 0, none⟩) its.length cap, .map (some mb)] 32 (0, 0))
  low : base ≤ qb ∧ base ≤ mb ∧ base ≤ g
  room : its.length ≤ cap ∧ cap ≤ maxLen ∧ its.length ≤ 1024
  row : ∃ cur, w.heap[g]? = some (.cells cur 35 (0, 0)) ∧ cur.size = cap * 2 ∧
    ∀ i x, its[i]? = some x → cur[i * 2]? = some (.int .i64 x.1) ∧ cur[i * 2 + 1]? = some (.pointer (some ⟨x.2.1, 0, none⟩))
  bigs : ∀ x ∈ its, BigAt w x.2.1 x.2.2
  wf : ∀ x ∈ its, (Lit.int .i64 x.1).wf = true ∧ -9223372036854775808 ≤ x.2.2 ∧ x.2.2 ≤ 9223372036854775807
  map : MapOK w mb

theorem Que.q_ne_g {w : World} {base qb mb g cap : Nat} {its : List (Int × Nat × Int)} (h : Que w base qb mb g cap its) : qb ≠ g := by
  rintro rfl
  obtain ⟨cur, hg, _⟩ := h.row
  rw [h.head] at hg
  simp at hg
theorem Que.q_ne_m {w : World} {base qb mb g cap : Nat} {its : List (Int × Nat × Int)} (h : Que w base qb mb g cap its) : qb ≠ mb := by
  rintro rfl
  obtain ⟨es, cl, hm, _⟩ := h.map
  rw [h.head] at hm
  simp at hm
theorem Que.g_ne_m {w : World} {base qb mb g cap : Nat} {its : List (Int × Nat × Int)} (h : Que w base qb mb g cap its) : g ≠ mb := by
  rintro rfl
  obtain ⟨cur, hg, _⟩ := h.row
  obtain ⟨es, cl, hm, _⟩ := h.map
  rw [hg] at hm
  simp at hm
theorem Que.notBig {w : World} {base qb mb g cap : Nat} {its : List (Int × Nat × Int)} (h : Que w base qb mb g cap its) : ∀ k ∈ [qb, g, mb], NotBig w k := by
  intro k hk cs t e
  obtain ⟨cur, hg, _⟩ := h.row
  obtain ⟨es, cl, hm, _⟩ := h.map
  simp only [List.mem_cons, List.not_mem_nil, or_false] at hk
  rcases hk with rfl | rfl | rfl
  · rw [h.head] at e
    simp only [Option.some.injEq, Obj.cells.injEq] at e
    obtain ⟨_, rfl, _⟩ := e
    decide
  · rw [hg] at e
    simp only [Option.some.injEq, Obj.cells.injEq] at e
    obtain ⟨_, rfl, _⟩ := e
    decide
  · rw [hm] at e
    simp at e

/-- The items i and j exchanged. -/
def swapL (l : List (Int × Nat × Int)) (i j : Nat) : List (Int × Nat × Int) := (l.set i (l.getD j (0, 0, 0))).set j (l.getD i (0, 0, 0))

theorem swapL_length (l : List (Int × Nat × Int)) (i j : Nat) : (swapL l i j).length = l.length := by simp [swapL]

theorem getD_of {l : List (Int × Nat × Int)} {i : Nat} {x : Int × Nat × Int} (h : l[i]? = some x) : l.getD i (0, 0, 0) = x := by
  rw [List.getD_eq_getElem?_getD, h]; rfl

theorem swapL_perm (l : List (Int × Nat × Int)) (i j : Nat) (hi : i < l.length) (hj : j < l.length) : (swapL l i j).Perm l := by
  have := List.set_set_perm hi hj
  rw [swapL, List.getD_eq_getElem?_getD, List.getD_eq_getElem?_getD, List.getElem?_eq_getElem hi, List.getElem?_eq_getElem hj]
  exact this

theorem swapL_at (l : List (Int × Nat × Int)) (i j k : Nat) (x y : Int × Nat × Int) (hx : l[i]? = some x) (hy : l[j]? = some y) :
    (swapL l i j)[k]? = if k = j then some x else if k = i then some y else l[k]? := by
  have hi : i < l.length := (List.getElem?_eq_some_iff.1 hx).1
  have hj : j < l.length := (List.getElem?_eq_some_iff.1 hy).1
  rw [swapL, getD_of hx, getD_of hy, List.getElem?_set, List.getElem?_set]
  by_cases h1 : k = j
  · subst h1; simp [hj]
  · have h1' : ¬ j = k := fun e => h1 e.symm
    rw [if_neg h1', if_neg h1]
    by_cases h2 : k = i
    · subst h2; simp [hi]
    · have h2' : ¬ i = k := fun e => h2 e.symm
      rw [if_neg h2', if_neg h2]

/-- The world behind the exchange of the cells. -/
def exch (w : World) (g i j : Nat) (x y : Int × Nat × Int) : World :=
  (((w.setCell ⟨g, i * 2, none⟩ (.int .i64 y.1)).setCell ⟨g, i * 2 + 1, none⟩ (.pointer (some ⟨y.2.1, 0, none⟩))).setCell ⟨g, j * 2, none⟩ (.int .i64 x.1)).setCell ⟨g, j * 2 + 1, none⟩ (.pointer (some ⟨x.2.1, 0, none⟩))

theorem exch_que {w : World} {base qb mb g cap : Nat} {its : List (Int × Nat × Int)} (h : Que w base qb mb g cap its) {i j : Nat} {x y : Int × Nat × Int} (hx : its[i]? = some x) (hy : its[j]? = some y) :
    Que (exch w g i j x y) base qb mb g cap (swapL its i j) ∧ Turn w (exch w g i j x y) [g] := by
  have hT : Turn w (exch w g i j x y) [g] := ((((Turn.refl w [g]).setCell (by simp) _).setCell (by simp) _).setCell (by simp) _).setCell (by simp) _
  have hi : i < its.length := (List.getElem?_eq_some_iff.1 hx).1
  have hj : j < its.length := (List.getElem?_eq_some_iff.1 hy).1
  have hp := swapL_perm its i j hi hj
  have hN : ∀ k ∈ [g], NotBig w k := fun k hk => h.notBig k (by simp at hk; simp [hk])
  refine ⟨⟨?_, h.low, by rw [swapL_length]; exact h.room, ?_, ?_, ?_, ?_⟩, hT⟩
  · rw [swapL_length]
    exact (hT.block qb (lt_of_heap h.head) (by simpa using h.q_ne_g)).trans h.head
  · obtain ⟨cur, hg, hs, hc⟩ := h.row
    have hr := h.room
    have e1 := heap_setCell_same w g (i * 2) cur 35 (.int .i64 y.1) hg
    have e2 := heap_setCell_same _ g (i * 2 + 1) _ 35 (.pointer (some ⟨y.2.1, 0, none⟩)) e1
    have e3 := heap_setCell_same _ g (j * 2) _ 35 (.int .i64 x.1) e2
    have e4 := heap_setCell_same _ g (j * 2 + 1) _ 35 (.pointer (some ⟨x.2.1, 0, none⟩)) e3
    refine ⟨_, e4, by simpa using hs, fun k z hz => ?_⟩
    rw [swapL_at its i j k x y hx hy] at hz
    have hk : k < its.length := by
      by_cases h1 : k = j
      · omega
      · by_cases h2 : k = i
        · omega
        · rw [if_neg h1, if_neg h2] at hz
          exact (List.getElem?_eq_some_iff.1 hz).1
    have hck : ∀ m, m < cap * 2 → m < cur.size := fun m hm => by omega
    simp only [Array.getElem?_setIfInBounds, Array.size_setIfInBounds]
    by_cases h1 : k = j
    · subst h1
      rw [if_pos rfl] at hz
      cases hz
      constructor
      · rw [if_neg (by omega), if_pos rfl, if_pos (by omega)]
      · rw [if_pos rfl, if_pos (by omega)]
    · rw [if_neg h1] at hz
      by_cases h2 : k = i
      · subst h2
        rw [if_pos rfl] at hz
        cases hz
        constructor
        · rw [if_neg (by omega), if_neg (by omega), if_neg (by omega), if_pos rfl, if_pos (by omega)]
        · rw [if_neg (by omega), if_neg (by omega), if_pos rfl, if_pos (by omega)]
      · rw [if_neg h2] at hz
        have := hc k z hz
        constructor
        · rw [if_neg (by omega), if_neg (by omega), if_neg (by omega), if_neg (by omega)]; exact this.1
        · rw [if_neg (by omega), if_neg (by omega), if_neg (by omega), if_neg (by omega)]; exact this.2
  · intro z hz
    exact (h.bigs z (hp.mem_iff.1 hz)).turn hT hN
  · intro z hz
    exact h.wf z (hp.mem_iff.1 hz)
  · obtain ⟨es, cl, hm, hg⟩ := h.map
    exact ⟨es, cl, (hT.block mb (lt_of_heap hm) (by simpa using fun e => h.g_ne_m e.symm)).trans hm, hg⟩

/-- Behind writes to the map alone. -/
theorem Que.mapTurn {w w' : World} {base qb mb g cap : Nat} {its : List (Int × Nat × Int)} (h : Que w base qb mb g cap its) (hT : Turn w w' [mb]) (hm : MapOK w' mb) : Que w' base qb mb g cap its := by
  obtain ⟨cur, hg, hs, hc⟩ := h.row
  exact ⟨(hT.block qb (lt_of_heap h.head) (by simpa using h.q_ne_m)).trans h.head, h.low, h.room, ⟨cur, (hT.block g (lt_of_heap hg) (by simpa using h.g_ne_m)).trans hg, hs, hc⟩,
    fun x hx => (h.bigs x hx).turn hT (fun k hk => h.notBig k (by simp at hk; simp [hk])), h.wf, hm⟩

theorem Que.cells {w : World} {base qb mb g cap : Nat} {its : List (Int × Nat × Int)} (h : Que w base qb mb g cap its) {i : Nat} {x : Int × Nat × Int} (hx : its[i]? = some x) :
    w.cell? ⟨g, i * 2, none⟩ = some (.int .i64 x.1) ∧ w.cell? ⟨g, i * 2 + 1, none⟩ = some (.pointer (some ⟨x.2.1, 0, none⟩)) ∧ w.frozen? ⟨g, i * 2, none⟩ = false ∧ w.frozen? ⟨g, i * 2 + 1, none⟩ = false := by
  obtain ⟨cur, hg, hs, hc⟩ := h.row
  exact ⟨(cell_blk hg _).trans (hc i x hx).1, (cell_blk hg _).trans (hc i x hx).2, by simp [World.frozen?, hg], by simp [World.frozen?, hg]⟩

/-- The four operations on the map, one behind the other. -/
theorem four {w : World} {mb : Nat} (h : MapOK w mb) {p q : Int} (hp : (Lit.int .i64 p).wf = true) (hq : (Lit.int .i64 q).wf = true) (a b : Value) :
    ∃ (v0 : Value) (s : Nat) (w1 w2 : World) (u0 : Value) (r : Nat) (w3 w4 : World),
      (Instr.mapEntry 30 (.map (some mb)) (.int .i64 p)).run Yba.prog w = .ok (.tuple #[v0, .int .i64 s]) w1 ∧
      (Instr.entryStore 30 (.map (some mb)) (.int .i64 s) a).run Yba.prog w1 = .ok () w2 ∧
      (Instr.mapEntry 30 (.map (some mb)) (.int .i64 q)).run Yba.prog w2 = .ok (.tuple #[u0, .int .i64 r]) w3 ∧
      (Instr.entryStore 30 (.map (some mb)) (.int .i64 r) b).run Yba.prog w3 = .ok () w4 ∧ MapOK w4 mb ∧ Turn w w4 [mb] := by
  obtain ⟨v0, s, w1, e1, h1, t1⟩ := map_entry h hp
  obtain ⟨w2, e2, h2, t2⟩ := entry_store h1 a
  obtain ⟨u0, r, w3, e3, h3, t3⟩ := map_entry h2 hq
  obtain ⟨w4, e4, h4, t4⟩ := entry_store h3 b
  exact ⟨v0, s, w1, w2, u0, r, w3, w4, e1, e2, e3, e4, h4, ((t1.trans t2).trans t3).trans t4⟩

set_option maxRecDepth 100000 in
set_option maxHeartbeats 3200000 in
theorem swap_any {w : World} {base qb mb g cap : Nat} {its : List (Int × Nat × Int)} (h : Que w base qb mb g cap its) {i j : Nat} {x y : Int × Nat × Int} (hx : its[i]? = some x) (hy : its[j]? = some y) (hij : i ≠ j) :
    Calls Yba.prog 40 #[.pointer (some ⟨qb, 0, none⟩), .int .i64 i, .int .i64 j] w fun e w' => e = .returned (.tuple #[]) ∧ Que w' base qb mb g cap (swapL its i j) ∧ Turn w w' [g, mb] := by
  have hi : i < its.length := (List.getElem?_eq_some_iff.1 hx).1
  have hj : j < its.length := (List.getElem?_eq_some_iff.1 hy).1
  obtain ⟨hQ, hT⟩ := exch_que h hx hy
  have HQ := hide hQ
  have HT := hide hT
  have hqi : (swapL its i j)[i]? = some y := by rw [swapL_at its i j i x y hx hy, if_neg hij, if_pos rfl]
  have hqj : (swapL its i j)[j]? = some x := by rw [swapL_at its i j j x y hx hy, if_pos rfl]
  obtain ⟨di0, _, _, _⟩ := hQ.cells hqi
  obtain ⟨dj0, _, _, _⟩ := hQ.cells hqj
  have dq0 : (exch w g i j x y).cell? ⟨qb, 0, none⟩ = some (.slice (some ⟨g, 0, none⟩) (swapL its i j).length cap) := cell_blk hQ.head 0
  rw [swapL_length] at dq0
  have dq1 : (exch w g i j x y).cell? ⟨qb, 1, none⟩ = some (.map (some mb)) := cell_blk hQ.head 1
  have hmo : MapOK (exch w g i j x y).drew.drew mb := hQ.map
  obtain ⟨v0, s, w1, w2, u0, r, w3, w4, e1, e2, e3, e4, hok, ht⟩ := four hmo (h.wf y (List.mem_of_getElem? hy)).1 (h.wf x (List.mem_of_getElem? hx)).1 (.int .i64 i) (.int .i64 j)
  have HOK := hide hok
  have HTM := hide ht
  obtain ⟨ci0, ci1, fi0, fi1⟩ := h.cells hx
  obtain ⟨cj0, cj1, fj0, fj1⟩ := h.cells hy
  have cq : w.cell? ⟨qb, 0, none⟩ = some (.slice (some ⟨g, 0, none⟩) its.length cap) := cell_blk h.head 0
  have hqg := h.q_ne_g
  obtain ⟨r1, r2, r3⟩ := h.room
  clear h hQ hT hmo hok ht hqi hqj hx hy
  obtain ⟨px, bx, cx⟩ := x
  obtain ⟨py, by', cy⟩ := y
  simp only at ci0 ci1 cj0 cj1 di0 dj0
  have hE : exch w g i j (px, bx, cx) (py, by', cy) = (((w.setCell ⟨g, i * 2, none⟩ (.int .i64 py)).setCell ⟨g, i * 2 + 1, none⟩ (.pointer (some ⟨by', 0, none⟩))).setCell ⟨g, j * 2, none⟩ (.int .i64 px)).setCell ⟨g, j * 2 + 1, none⟩ (.pointer (some ⟨bx, 0, none⟩)) := rfl
  have HE := hide hE
  clear hE
  generalize exch w g i j (px, bx, cx) (py, by', cy) = wq at *
  have HLEN : Hid (its.length = its.length) := rfl
  generalize its.length = n at *
  have i1 : (0 : Int) ≤ (i : Int) := Int.natCast_nonneg _
  have i2 : (i : Int) < (n : Int) := by omega
  have j1 : (0 : Int) ≤ (j : Int) := Int.natCast_nonneg _
  have j2 : (j : Int) < (n : Int) := by omega
  go_enter Yba.func40, Yba.ntmps40
  go_wp2_with fail
  go_region
  go_wp2_with fail
  rw [← HE.out]
  go_region
  all_goals
    go_wp2
    go_end0
    exact ⟨rfl, HQ.out.mapTurn ⟨HTM.out.os, HTM.out.tape, HTM.out.output, HTM.out.size, HTM.out.block⟩ HOK.out,
      (HT.out.mono (by simp)).trans (Turn.mono (bs := [mb]) ⟨HTM.out.os, HTM.out.tape, HTM.out.output, HTM.out.size, HTM.out.block⟩ (by simp))⟩
end Go.Proofs.Ybulkdciy
