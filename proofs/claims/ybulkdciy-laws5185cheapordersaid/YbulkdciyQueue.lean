/-
  THE QUEUE IN MEMORY: no walk here. 'Turn w w' bs': w' is w with new blocks and with writes to the blocks bs alone. 'Queue': the struct at qb holds a slice v of items and a map at mb.
-/
import Derived.Test.YbulkdciyBig
import Derived.Maps.Own
import Derived.Deep.AppendLies
namespace Go.Proofs.Ybulkdciy
open Go.RowKit Go.Maps
set_option linter.unusedVariables false

structure Turn (w w' : World) (bs : List Nat) : Prop where
  os : w'.os = w.os
  tape : w'.tape = w.tape
  output : w'.output = w.output
  size : w.heap.size ≤ w'.heap.size
  block : ∀ k, k < w.heap.size → k ∉ bs → w'.heap[k]? = w.heap[k]?

theorem Turn.refl (w : World) (bs : List Nat) : Turn w w bs := ⟨rfl, rfl, rfl, Nat.le_refl _, fun _ _ _ => rfl⟩
theorem Turn.trans {a b c : World} {bs : List Nat} (h : Turn a b bs) (k : Turn b c bs) : Turn a c bs :=
  ⟨k.os.trans h.os, k.tape.trans h.tape, k.output.trans h.output, Nat.le_trans h.size k.size, fun j hj hn => (k.block j (Nat.lt_of_lt_of_le hj h.size) hn).trans (h.block j hj hn)⟩
theorem Turn.mono {w w' : World} {bs cs : List Nat} (h : Turn w w' bs) (hs : ∀ x ∈ bs, x ∈ cs) : Turn w w' cs :=
  ⟨h.os, h.tape, h.output, h.size, fun k hk hn => h.block k hk (fun hm => hn (hs k hm))⟩
theorem Turn.drewN {w w' : World} {bs : List Nat} (h : Turn w w' bs) (n : Nat) : Turn w (w'.drewN n) bs := ⟨h.os, h.tape, h.output, h.size, h.block⟩
theorem Turn.of_grown {w w' : World} {row : Option Nat} (h : w.grownBy w' row) : Turn w w' row.toList :=
  ⟨h.os, h.tape, h.output, h.size, fun k hk hn => h.block k hk (by rintro rfl; exact hn (by simp))⟩
theorem Turn.of_below {w w' : World} (h : Below w.heap.size w w') : Turn w w' [] := ⟨h.os, h.tape, h.output, h.size, fun k hk _ => h.block k hk⟩
theorem Turn.alloc {w w' : World} {bs : List Nat} (h : Turn w w' bs) (o : Obj) : Turn w (w'.alloc o) bs :=
  h.trans ⟨rfl, rfl, rfl, by simp, fun k hk _ => Below.heap_alloc w' o k hk⟩
theorem Turn.setCell {w w' : World} {bs : List Nat} (h : Turn w w' bs) {a : Addr} (ha : a.block ∈ bs) (v : Value) : Turn w (w'.setCell a v) bs :=
  h.trans ⟨rfl, rfl, rfl, by simp [World.setCell], fun k hk hn => Below.heap_setCell w' a v k (fun e => hn (e ▸ ha))⟩
/-- What the caller asks: nothing below B has turned, if all that turned lies at B or above. -/
theorem Turn.below {w w' : World} {bs : List Nat} {B : Nat} (h : Turn w w' bs) (hB : B ≤ w.heap.size) (hb : ∀ x ∈ bs, B ≤ x) : Below B w w' :=
  ⟨h.os, h.tape, h.output, h.size, fun k hk => h.block k (Nat.lt_of_lt_of_le hk hB) (fun hm => by have := hb k hm; omega)⟩

/-- The block k holds no part of a big.Int. -/
def NotBig (w : World) (k : Nat) : Prop := ∀ cs t, w.heap[k]? = some (.cells cs t (0, 0)) → t ≠ 50 ∧ t ≠ 57

theorem lt_of_heap {w : World} {k : Nat} {o : Obj} (h : w.heap[k]? = some o) : k < w.heap.size := (Array.getElem?_eq_some_iff.1 h).1

theorem BigAt.turn {w w' : World} {bs : List Nat} {b : Nat} {c : Int} (h : BigAt w b c) (ht : Turn w w' bs) (hn : ∀ k ∈ bs, NotBig w k) : BigAt w' b c := by
  obtain ⟨v, hb, hv⟩ := h
  have kb : b ∉ bs := fun hm => (hn b hm _ _ hb).1 rfl
  refine ⟨v, (ht.block b (lt_of_heap hb) kb).trans hb, ?_⟩
  rcases hv with hv | ⟨hne, d, rfl, hd⟩
  · exact .inl hv
  · have kd : d ∉ bs := fun hm => (hn d hm _ _ hd).2 rfl
    exact .inr ⟨hne, d, rfl, (ht.block d (lt_of_heap hd) kd).trans hd⟩

/-- An item: the piece, the block of its cost, the cost. -/
def cellsI (its : List (Int × Nat × Int)) : List Value := its.flatMap fun x => [.int .i64 x.1, .pointer (some ⟨x.2.1, 0, none⟩)]

theorem cellsI_length (its : List (Int × Nat × Int)) : (cellsI its).length = its.length * 2 := by
  induction its with
  | nil => rfl
  | cons x r ih => rw [cellsI, List.flatMap_cons, List.length_append]; rw [cellsI] at ih; rw [ih]; simp; omega

theorem cellsI_append (a b : List (Int × Nat × Int)) : cellsI (a ++ b) = cellsI a ++ cellsI b := by simp [cellsI]

theorem cellsI_at (its : List (Int × Nat × Int)) (i : Nat) (x : Int × Nat × Int) (h : its[i]? = some x) : (cellsI its)[i * 2]? = some (.int .i64 x.1) ∧ (cellsI its)[i * 2 + 1]? = some (.pointer (some ⟨x.2.1, 0, none⟩)) := by
  induction its generalizing i with
  | nil => simp at h
  | cons y r ih =>
    have e : cellsI (y :: r) = .int .i64 y.1 :: .pointer (some ⟨y.2.1, 0, none⟩) :: cellsI r := rfl
    rw [e]
    cases i with
    | zero => simp at h; subst h; simp
    | succ j =>
      simp only [List.getElem?_cons_succ] at h
      have := ih j h
      rw [show (j + 1) * 2 = j * 2 + 1 + 1 from by omega]
      simpa using this

structure Queue (w : World) (base qb mb M : Nat) (its : List (Int × Nat × Int)) (v : Value) : Prop where
  head : w.heap[qb]? = some (.cells #[v, .map (some mb)] 32 (0, 0))
  low : base ≤ qb ∧ base ≤ mb
  row : w.ownsRow base 35 2 v its.length (cellsI its)
  bigs : ∀ x ∈ its, BigAt w x.2.1 x.2.2
  map : ∃ D : DataW Unit, w.ownsMap Yba.prog 3 (plainElem Yba.prog 3) mb M D

theorem Queue.notBig_q {w : World} {base qb mb M : Nat} {its : List (Int × Nat × Int)} {v : Value} (h : Queue w base qb mb M its v) : NotBig w qb := by
  intro cs t e
  rw [h.head] at e
  simp only [Option.some.injEq, Obj.cells.injEq] at e
  obtain ⟨_, rfl, _⟩ := e
  decide
theorem Queue.notBig_m {w : World} {base qb mb M : Nat} {its : List (Int × Nat × Int)} {v : Value} (h : Queue w base qb mb M its v) : NotBig w mb := by
  intro cs t e
  obtain ⟨_, es, cl, hm, _⟩ := h.map
  rw [hm] at e
  simp at e
theorem Queue.notBig_v {w : World} {base qb mb M : Nat} {its : List (Int × Nat × Int)} {v : Value} (h : Queue w base qb mb M its v) (g : Nat) (hg : v.ownBlock = some g) : NotBig w g := by
  intro cs t e
  obtain ⟨_, h0 | ⟨g', cap, cur, rfl, _, hh, _⟩⟩ := h.row
  · rw [h0.1] at hg; simp [Value.ownBlock] at hg
  · simp only [Value.ownBlock, Option.some.injEq] at hg
    subst hg
    rw [hh] at e
    simp only [Option.some.injEq, Obj.cells.injEq] at e
    obtain ⟨_, rfl, _⟩ := e
    decide
theorem Queue.q_ne_v {w : World} {base qb mb M : Nat} {its : List (Int × Nat × Int)} {v : Value} (h : Queue w base qb mb M its v) : v.ownBlock ≠ some qb := by
  intro hg
  obtain ⟨_, h0 | ⟨g', cap, cur, rfl, _, hh, _⟩⟩ := h.row
  · rw [h0.1] at hg; simp [Value.ownBlock] at hg
  · simp only [Value.ownBlock, Option.some.injEq] at hg
    subst hg
    rw [h.head] at hh
    simp at hh
theorem Queue.m_ne_v {w : World} {base qb mb M : Nat} {its : List (Int × Nat × Int)} {v : Value} (h : Queue w base qb mb M its v) : v.ownBlock ≠ some mb := by
  intro hg
  obtain ⟨_, es, cl, hm, _⟩ := h.map
  obtain ⟨_, h0 | ⟨g', cap, cur, rfl, _, hh, _⟩⟩ := h.row
  · rw [h0.1] at hg; simp [Value.ownBlock] at hg
  · simp only [Value.ownBlock, Option.some.injEq] at hg
    subst hg
    rw [hm] at hh
    simp at hh
theorem Queue.q_ne_m {w : World} {base qb mb M : Nat} {its : List (Int × Nat × Int)} {v : Value} (h : Queue w base qb mb M its v) : qb ≠ mb := by
  rintro rfl
  obtain ⟨_, es, cl, hm, _⟩ := h.map
  rw [h.head] at hm
  simp at hm

/-- Behind new blocks and draws a queue is what it was. -/
theorem Queue.turn {w w' : World} {base qb mb M : Nat} {its : List (Int × Nat × Int)} {v : Value} (h : Queue w base qb mb M its v) (ht : Turn w w' []) : Queue w' base qb mb M its v := by
  have hg : w.grownBy w' none := ⟨ht.os, ht.tape, ht.output, ht.size, fun k hk _ => ht.block k hk (by simp)⟩
  have hne : v.ownBlock = none ∨ v.ownBlock ≠ none := Decidable.em _
  refine ⟨(ht.block qb (lt_of_heap h.head) (by simp)).trans h.head, h.low, h.row.kept hg hne, fun x hx => (h.bigs x hx).turn ht (by simp), ?_⟩
  obtain ⟨D, hD⟩ := h.map
  exact ⟨D, hD.kept hg (by simp)⟩

/-- 'q.items = append(q.items, queued{p, big.NewInt(c)})': NewInt has laid its blocks (W to w1), the element lies in a block of its own, append has given (g, cap) in w2, and the store is made. -/
theorem Queue.push {W w1 w2 : World} {base qb mb M g cap nb : Nat} {its : List (Int × Nat × Int)} {v : Value} {p c : Int} {o : Obj}
    (h : Queue W base qb mb M its v) (hb1 : Turn W w1 []) (hbig : BigAt w1 nb c) (hgrow : (w1.alloc o).grownBy w2 v.ownBlock)
    (hown : w2.ownsRow base 35 2 (.slice (some ⟨g, 0, none⟩) (its.length + 1) cap) (its.length + 1) (cellsI its ++ [.int .i64 p, .pointer (some ⟨nb, 0, none⟩)])) :
    Queue (w2.setCell ⟨qb, 0, none⟩ (.slice (some ⟨g, 0, none⟩) (its.length + 1) cap)) base qb mb M (its ++ [(p, nb, c)]) (.slice (some ⟨g, 0, none⟩) (its.length + 1) cap) ∧
      Turn W (w2.setCell ⟨qb, 0, none⟩ (.slice (some ⟨g, 0, none⟩) (its.length + 1) cap)) (qb :: v.ownBlock.toList) := by
  have h1 : Queue (w1.alloc o) base qb mb M its v := h.turn (hb1.alloc o)
  have hbig1 : BigAt (w1.alloc o) nb c := hbig.turn ((Turn.refl w1 []).alloc o) (by simp)
  have hT := Turn.of_grown hgrow
  have hN : ∀ k ∈ v.ownBlock.toList, NotBig (w1.alloc o) k := fun k hk => h1.notBig_v k (by simpa using hk)
  have hq2 : w2.heap[qb]? = some (.cells #[v, .map (some mb)] 32 (0, 0)) := (hT.block qb (lt_of_heap h1.head) (fun hm => h1.q_ne_v (by simpa using hm))).trans h1.head
  have hgq : g ≠ qb := by
    rintro rfl
    obtain ⟨_, h0 | ⟨g', cap', cur, hv', _, hh, _⟩⟩ := hown
    · simp at h0
    · simp only [Value.slice.injEq, Option.some.injEq, Addr.mk.injEq] at hv'
      obtain ⟨⟨rfl, _⟩, _⟩ := hv'
      rw [hq2] at hh
      simp at hh
  have hT3 : Turn w2 (w2.setCell ⟨qb, 0, none⟩ (.slice (some ⟨g, 0, none⟩) (its.length + 1) cap)) [qb] := (Turn.refl w2 [qb]).setCell (by simp) _
  have hN3 : ∀ k ∈ [qb], NotBig w2 k := by
    intro k hk cs t e
    simp only [List.mem_singleton] at hk
    subst hk
    rw [hq2] at e
    simp only [Option.some.injEq, Obj.cells.injEq] at e
    obtain ⟨_, rfl, _⟩ := e
    decide
  refine ⟨⟨?_, h.low, ?_, ?_, ?_⟩, ?_⟩
  · rw [heap_setCell_same w2 qb 0 _ 32 _ hq2]; rfl
  · have := ownsRow_setCell_other hown (a := ⟨qb, 0, none⟩) (by simp [Value.ownBlock, hgq]) (.slice (some ⟨g, 0, none⟩) (its.length + 1) cap)
    rw [cellsI_append, List.length_append]
    exact this
  · intro x hx
    rw [List.mem_append, List.mem_singleton] at hx
    rcases hx with hx | rfl
    · exact ((h1.bigs x hx).turn hT hN).turn hT3 hN3
    · exact (hbig1.turn hT hN).turn hT3 hN3
  · obtain ⟨D, hD⟩ := h1.map
    have hD2 := hD.kept hgrow (fun e => h1.m_ne_v e.symm)
    obtain ⟨es, cl, hm, hF, hsz, hd⟩ := hD2
    exact ⟨D, es, cl, (hT3.block mb (lt_of_heap hm) (by simpa using fun e => h1.q_ne_m e.symm)).trans hm, hF, hsz, hd⟩
  · have := ((hb1.alloc o).mono (cs := qb :: v.ownBlock.toList) (by simp)).trans (hT.mono (fun x hx => List.mem_cons_of_mem _ hx))
    exact this.trans (hT3.mono (by simp))
end Go.Proofs.Ybulkdciy
