/-
  THE PLAIN LAWS OF SEAT b5183aF: what a sequence of components is, no Go in sight. 'szN t': how long the value of a component of type t is (0: no such type). 'scan n l': l begins with n bytes of a value and goes on in whole components.
-/
namespace Go.Proofs.YbulkdchwFmt.Plain

def szN (t : Int) : Nat :=
  if t = 16 ∨ t = 17 then 8 else if t = 32 then 32 else if t = 33 ∨ t = 35 then 17 else
  if t = 48 ∨ t = 133 ∨ t = 134 then 1 else
  if t = 64 ∨ t = 80 ∨ t = 112 ∨ t = 131 ∨ t = 132 ∨ t = 135 then 2 else
  if t = 65 ∨ t = 81 ∨ t = 96 then 4 else if t = 128 then 3 else if t = 129 ∨ t = 130 then 6 else 0

def okT (t : Int) : Bool := szN t != 0

theorem szN_le (t : Int) : szN t ≤ 32 := by
  unfold szN
  repeat (first | omega | split)

def scan : Nat → List Int → Bool
  | 0, [] => true
  | _ + 1, [] => false
  | 0, t :: r => if szN t = 0 then false else scan (szN t) r
  | n + 1, _ :: r => scan n r

def okAll (l : List Int) : Bool := !l.isEmpty && scan 0 l

theorem scan_skip : ∀ (l : List Int) (n : Nat), scan n l = if n ≤ l.length then scan 0 (l.drop n) else false
  | [], 0 => by simp [scan]
  | [], n + 1 => by simp [scan]
  | t :: r, 0 => by simp
  | t :: r, n + 1 => by
    rw [scan, scan_skip r n]
    simp

theorem scan_at (l : List Int) (k : Nat) (h : k < l.length) : scan 0 (l.drop k) = if szN (l.getD k 0) = 0 then false else scan (szN (l.getD k 0)) (l.drop (k + 1)) := by
  rw [List.drop_eq_getElem_cons h, scan]
  simp [List.getD_eq_getElem?_getD, List.getElem?_eq_getElem h]

theorem scan_end (l : List Int) (k : Nat) (h : l.length ≤ k) : scan 0 (l.drop k) = true := by
  rw [List.drop_eq_nil_of_le h, scan]

theorem scan_no (l : List Int) (k : Nat) (h : k < l.length) (h0 : okT (l.getD k 0) = false) : scan 0 (l.drop k) = false := by
  rw [scan_at l k h, if_pos (by simpa [okT] using h0)]

theorem scan_short (l : List Int) (k : Nat) (h : k < l.length) (h0 : l.length < k + 1 + szN (l.getD k 0)) : scan 0 (l.drop k) = false := by
  rw [scan_at l k h]
  split
  · rfl
  · rw [scan_skip, if_neg (by rw [List.length_drop]; omega)]

theorem scan_next (l : List Int) (k : Nat) (h : k < l.length) (h0 : okT (l.getD k 0) = true) (h1 : k + 1 + szN (l.getD k 0) ≤ l.length) : scan 0 (l.drop k) = scan 0 (l.drop (k + 1 + szN (l.getD k 0))) := by
  rw [scan_at l k h, if_neg (by simpa [okT] using h0), scan_skip, if_pos (by rw [List.length_drop]; omega), List.drop_drop]

/-- One whole component. -/
def blk (fill t : Int) : List Int := t :: List.replicate (szN t) fill
def built (fill : Int) (ts : List Int) : List Int := (ts.map (blk fill)).flatten

theorem scan_repl (fill : Int) : ∀ (n m : Nat) (r : List Int), scan (n + m) (List.replicate n fill ++ r) = scan m r
  | 0, m, r => by simp
  | n + 1, m, r => by
    rw [show n + 1 + m = (n + m) + 1 from by omega, List.replicate_succ, List.cons_append, scan]
    exact scan_repl fill n m r

theorem scan_blk (fill t : Int) (r : List Int) (h : szN t ≠ 0) : scan 0 (blk fill t ++ r) = scan 0 r := by
  rw [blk, List.cons_append, scan, if_neg h]
  simpa using scan_repl fill (szN t) 0 r

theorem scan_built (fill : Int) : ∀ ts : List Int, (∀ t ∈ ts, szN t ≠ 0) → scan 0 (built fill ts) = true
  | [], _ => rfl
  | t :: ts, h => by
    have ht : szN t ≠ 0 := h t (by simp)
    show scan 0 (blk fill t ++ built fill ts) = true
    rw [scan_blk fill t _ ht]
    exact scan_built fill ts fun u hu => h u (List.mem_cons_of_mem _ hu)

theorem built_cons (fill t : Int) (ts : List Int) : built fill (t :: ts) = blk fill t ++ built fill ts := rfl
theorem built_snoc (fill t : Int) (ts : List Int) : built fill (ts ++ [t]) = built fill ts ++ blk fill t := by
  simp [built]

theorem blk_length (fill t : Int) : (blk fill t).length = 1 + szN t := by simp [blk]; omega

theorem built_ne_nil (fill t : Int) (ts : List Int) : built fill (t :: ts) ≠ [] := by
  rw [built_cons]; simp [blk]

theorem scan_cut (fill : Int) : ∀ ts : List Int, ts ≠ [] → (∀ t ∈ ts, szN t ≠ 0) → scan 0 (built fill ts).dropLast = false
  | [], h, _ => absurd rfl h
  | [t], _, h => by
    have ht : szN t ≠ 0 := h t (by simp)
    have e : (built fill [t]).dropLast = t :: List.replicate (szN t - 1) fill := by
      obtain ⟨n, hn⟩ : ∃ n, szN t = n + 1 := ⟨szN t - 1, by omega⟩
      simp [built, blk, hn, List.replicate_succ', List.dropLast_cons_of_ne_nil]
    rw [e, scan, if_neg ht]
    rw [scan_skip, if_neg (by first | (rw [List.length_drop]; omega) | (simp; omega))]
  | t :: u :: ts, _, h => by
    have ht : szN t ≠ 0 := h t (by simp)
    rw [built_cons, List.dropLast_append_of_ne_nil (built_ne_nil fill u ts), scan_blk fill t _ ht]
    exact scan_cut fill (u :: ts) (by simp) fun v hv => h v (List.mem_cons_of_mem _ hv)

theorem built_length_le (fill : Int) : ∀ ts : List Int, (built fill ts).length ≤ 33 * ts.length
  | [] => by simp [built]
  | t :: ts => by
    have := built_length_le fill ts
    have := szN_le t
    rw [built_cons, List.length_append, blk_length]
    simp
    omega

/-- The table of LawS5183CBuilt. -/
def tys : List Int := [16, 17, 32, 33, 35, 48, 64, 65, 80, 81, 96, 112, 128, 129, 130, 131, 132, 133, 134, 135]
def typ (p : Int) : Int := tys.getD (p % 20).toNat 0

theorem typ_ok (p : Int) : szN (typ p) ≠ 0 := by
  have h0 : 0 ≤ p % 20 := Int.emod_nonneg _ (by decide)
  have h1 : p % 20 < 20 := Int.emod_lt_of_pos _ (by decide)
  have key : ∀ n : Nat, n < 20 → szN (tys.getD n 0) ≠ 0 := by decide
  exact key _ (by omega)

theorem typ_byte (p : Int) : 0 ≤ typ p ∧ typ p ≤ 255 := by
  have h0 : 0 ≤ p % 20 := Int.emod_nonneg _ (by decide)
  have h1 : p % 20 < 20 := Int.emod_lt_of_pos _ (by decide)
  have key : ∀ n : Nat, n < 20 → 0 ≤ tys.getD n 0 ∧ tys.getD n 0 ≤ 255 := by decide
  exact key _ (by omega)


theorem built_mem (fill : Int) : ∀ (ts : List Int) (x : Int), x ∈ built fill ts → x = fill ∨ x ∈ ts
  | [], x, h => by simp [built] at h
  | t :: ts, x, h => by
    rw [built_cons, List.mem_append] at h
    rcases h with h | h
    · rw [blk, List.mem_cons] at h
      rcases h with h | h
      · exact .inr (by simp [h])
      · exact .inl (List.eq_of_mem_replicate h)
    · rcases built_mem fill ts x h with h | h
      · exact .inl h
      · exact .inr (List.mem_cons_of_mem _ h)

theorem built_bytes (fill : Int) (l : List Int) (h0 : 0 ≤ fill) (h1 : fill ≤ 255) (x : Int) (h : x ∈ built fill (l.map typ)) : 0 ≤ x ∧ x ≤ 255 := by
  rcases built_mem fill _ x h with h | h
  · subst h; exact ⟨h0, h1⟩
  · obtain ⟨p, _, rfl⟩ := List.mem_map.1 h; exact typ_byte p

theorem getD_mem (l : List Int) (i : Nat) (h : i < l.length) : l.getD i 0 ∈ l := by
  rw [List.getD_eq_getElem?_getD, List.getElem?_eq_getElem h]; exact List.getElem_mem h

theorem built_step (fill : Int) (l : List Int) (k : Nat) (h : k < l.length) (xs : List Int) (hx : xs = built fill ((l.take k).map typ)) : xs ++ blk fill (typ (l.getD k 0)) = built fill ((l.take (k + 1)).map typ) := by
  rw [hx, ← built_snoc, List.take_succ_eq_append_getElem h, List.map_append]
  simp [List.getD_eq_getElem?_getD, List.getElem?_eq_getElem h]

theorem built_ok (fill : Int) (l : List Int) (h : 0 < l.length) : okAll (built fill (l.map typ)) = true := by
  unfold okAll
  rw [scan_built fill _ (fun t ht => by obtain ⟨p, _, rfl⟩ := List.mem_map.1 ht; exact typ_ok p)]
  cases l with
  | nil => simp at h
  | cons x r => simp [built, blk]

theorem built_cut (fill : Int) (l : List Int) (h : 0 < l.length) : okAll (built fill (l.map typ)).dropLast = false := by
  unfold okAll
  rw [scan_cut fill _ (by cases l with | nil => simp at h | cons x r => simp) (fun t ht => by obtain ⟨p, _, rfl⟩ := List.mem_map.1 ht; exact typ_ok p)]
  simp

theorem built_two (fill : Int) (l : List Int) (h : 0 < l.length) : 2 ≤ (built fill (l.map typ)).length := by
  cases l with
  | nil => simp at h
  | cons x r =>
    have := typ_ok x
    rw [List.map_cons, built_cons, List.length_append, blk_length]
    omega

end Go.Proofs.YbulkdchwFmt.Plain
