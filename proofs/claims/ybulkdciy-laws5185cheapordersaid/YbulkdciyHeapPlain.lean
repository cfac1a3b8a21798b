/-
  THE PLAIN THEORY OF A BINARY HEAP IN A LIST, no Go in sight. Items are (piece, block, cost); 'le x y': y is not less than x.
-/
import Derived.Test.YbulkdciySwap
namespace Go.Proofs.Ybulkdciy

def lessI (x y : Int × Nat × Int) : Bool := if x.2.2 = y.2.2 then decide (x.1 < y.1) else decide (x.2.2 < y.2.2)
def le (x y : Int × Nat × Int) : Prop := lessI y x = false

theorem le_iff (x y : Int × Nat × Int) : le x y ↔ x.2.2 < y.2.2 ∨ (x.2.2 = y.2.2 ∧ x.1 ≤ y.1) := by
  unfold le lessI
  by_cases h : y.2.2 = x.2.2
  · rw [if_pos h]; simp; omega
  · rw [if_neg h]; simp; omega
theorem le_refl (x : Int × Nat × Int) : le x x := (le_iff x x).2 (.inr ⟨rfl, Int.le_refl _⟩)
theorem le_trans {x y z : Int × Nat × Int} (h : le x y) (k : le y z) : le x z := by
  rw [le_iff] at *; omega
theorem le_of_less {x y : Int × Nat × Int} (h : lessI x y = true) : le x y := by
  rw [le_iff]
  unfold lessI at h
  by_cases e : x.2.2 = y.2.2
  · rw [if_pos e] at h; simp at h; omega
  · rw [if_neg e] at h; simp at h; omega

abbrev atI (l : List (Int × Nat × Int)) (i : Nat) : Int × Nat × Int := l.getD i (0, 0, 0)

/-- Below node s all is in order, among the first n. -/
def Heap (l : List (Int × Nat × Int)) (n s : Nat) : Prop := ∀ k c, s ≤ k → (c = 2 * k + 1 ∨ c = 2 * k + 2) → c < n → le (atI l k) (atI l c)

/-- In order but at node i, which may sink. -/
def Sink (l : List (Int × Nat × Int)) (n s i : Nat) : Prop :=
  (∀ k c, s ≤ k → k ≠ i → (c = 2 * k + 1 ∨ c = 2 * k + 2) → c < n → le (atI l k) (atI l c)) ∧
  (∀ p c, s ≤ p → (i = 2 * p + 1 ∨ i = 2 * p + 2) → (c = 2 * i + 1 ∨ c = 2 * i + 2) → c < n → le (atI l p) (atI l c))

theorem Sink.start {l : List (Int × Nat × Int)} {n i : Nat} (h : Heap l n (i + 1)) : Sink l n i i :=
  ⟨fun k c hk hne hc hn => h k c (by omega) hc hn, fun p c hp hi _ _ => by omega⟩

theorem atI_swap (l : List (Int × Nat × Int)) (i j k : Nat) (hi : i < l.length) (hj : j < l.length) :
    atI (swapL l i j) k = if k = j then atI l i else if k = i then atI l j else atI l k := by
  have hx : l[i]? = some (atI l i) := by simp [atI, List.getD_eq_getElem?_getD, List.getElem?_eq_getElem hi]
  have hy : l[j]? = some (atI l j) := by simp [atI, List.getD_eq_getElem?_getD, List.getElem?_eq_getElem hj]
  have := swapL_at l i j k _ _ hx hy
  unfold atI
  rw [List.getD_eq_getElem?_getD, this]
  by_cases h1 : k = j
  · rw [if_pos h1, if_pos h1]; rfl
  · rw [if_neg h1, if_neg h1]
    by_cases h2 : k = i
    · rw [if_pos h2, if_pos h2]; rfl
    · rw [if_neg h2, if_neg h2, List.getD_eq_getElem?_getD]

/-- No child: the sinking ends. -/
theorem Sink.leaf {l : List (Int × Nat × Int)} {n s i : Nat} (h : Sink l n s i) (hl : n ≤ 2 * i + 1) : Heap l n s := by
  intro k c hk hc hn
  by_cases e : k = i
  · subst e; omega
  · exact h.1 k c hk e hc hn

/-- j is the least child of i. -/
def Least (l : List (Int × Nat × Int)) (n i j : Nat) : Prop := (j = 2 * i + 1 ∨ j = 2 * i + 2) ∧ j < n ∧ ∀ c, (c = 2 * i + 1 ∨ c = 2 * i + 2) → c < n → le (atI l j) (atI l c)

theorem Sink.stop {l : List (Int × Nat × Int)} {n s i j : Nat} (h : Sink l n s i) (hj : Least l n i j) (hle : le (atI l i) (atI l j)) : Heap l n s := by
  intro k c hk hc hn
  by_cases e : k = i
  · subst e; exact le_trans hle (hj.2.2 c hc hn)
  · exact h.1 k c hk e hc hn

theorem Sink.step {l : List (Int × Nat × Int)} {n s i j : Nat} (h : Sink l n s i) (hs : s ≤ i) (hn : n ≤ l.length) (hj : Least l n i j) (hless : lessI (atI l j) (atI l i) = true) : Sink (swapL l i j) n s j := by
  have hij : i < j := by have := hj.1; omega
  have hjn := hj.2.1
  have hle := le_of_less hless
  have A := fun k => atI_swap l i j k (by omega) (by omega)
  constructor
  · intro k c hk hne hc hcn
    rw [A k, A c, if_neg hne]
    by_cases hki : k = i
    · subst hki
      rw [if_pos rfl]
      by_cases hcj : c = j
      · rw [if_pos hcj]; exact hle
      · rw [if_neg hcj, if_neg (by omega)]
        exact hj.2.2 c hc hcn
    · rw [if_neg hki]
      by_cases hcj : c = j
      · have := hj.1; omega
      · rw [if_neg hcj]
        by_cases hci : c = i
        · rw [if_pos hci]
          subst hci
          exact h.2 k j hk hc hj.1 hjn
        · rw [if_neg hci]
          exact h.1 k c hk hki hc hcn
  · intro p c hp hpj hc hcn
    have hpi : p = i := by have := hj.1; omega
    subst hpi
    rw [A p, A c, if_neg (by omega), if_pos rfl, if_neg (by omega), if_neg (by omega)]
    exact h.1 j c (by omega) (by omega) hc hcn

/-- The root is the least. -/
theorem Heap.root {l : List (Int × Nat × Int)} {n : Nat} (h : Heap l n 0) : ∀ m k, k ≤ m → k < n → le (atI l 0) (atI l k) := by
  intro m
  induction m with
  | zero => intro k hk _; obtain rfl : k = 0 := by omega
            exact le_refl _
  | succ m ih =>
    intro k hk hn
    by_cases h0 : k = 0
    · subst h0; exact le_refl _
    · have hp := ih ((k - 1) / 2) (by omega) (by omega)
      have hc := h ((k - 1) / 2) k (Nat.zero_le _) (by omega) hn
      exact le_trans hp hc

/-- What Pop's first exchange leaves. -/
theorem Heap.popped {l : List (Int × Nat × Int)} {n : Nat} (h : Heap l (n + 1) 0) (hl : l.length = n + 1) : Heap (swapL l 0 n) n 1 := by
  intro k c hk hc hn
  rw [atI_swap l 0 n k (by omega) (by omega), atI_swap l 0 n c (by omega) (by omega)]
  rw [if_neg (by omega), if_neg (by omega), if_neg (by omega), if_neg (by omega)]
  exact h k c (by omega) hc (by omega)

theorem Heap.congr {l l' : List (Int × Nat × Int)} {n s : Nat} (h : Heap l n s) (e : ∀ k, k < n → atI l' k = atI l k) : Heap l' n s := by
  intro k c hk hc hn
  rw [e k (by omega), e c hn]
  exact h k c hk hc hn
end Go.Proofs.Ybulkdciy
