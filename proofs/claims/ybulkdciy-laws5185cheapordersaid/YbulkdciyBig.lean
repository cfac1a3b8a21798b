/-
  THE WALKS of math/big.NewInt (12), low64 (20), (*Int).Int64 (8), (nat).cmp (22), (*Int).Cmp (13), at numbers of one word.
-/
import Derived.Test.YbulkdciyProg
import Derived.WalkKit
import Derived.WalkSpells
import Derived.WalkSmall
import Derived.Deep.QuietTactic
import Derived.BigQuiet
import Derived.LaidEqlPtr
import Derived.Deep.WholeRow
namespace Go.Proofs.Ybulkdciy
open Go.RowKit
set_option linter.unusedVariables false

theorem hide {p : Prop} (h : p) : Hid p := h

/-- Block b is a big.Int of the value c, as NewInt lays it. -/
def BigAt (w : World) (b : Nat) (c : Int) : Prop :=
  ∃ v, w.heap[b]? = some (.cells #[.bool (decide (c < 0)), v] 50 (0, 0)) ∧
    ((c = 0 ∧ v = .slice none 0 0) ∨ (c ≠ 0 ∧ ∃ d, v = .slice (some ⟨d, 0, none⟩) 1 1 ∧ w.heap[d]? = some (.cells #[.int .u64 c.natAbs] 57 (0, 0))))

set_option maxHeartbeats 400000 in
theorem newInt_zero (w : World) :
    Calls Yba.prog 12 #[.int .i64 0] w fun e w' => e = .returned (.pointer (some ⟨w.heap.size, 0, none⟩)) ∧ w' = w.alloc (.cells #[.bool false, .slice none 0 0] 50) := by
  go_enter Yba.func12, Yba.ntmps12
  go_wp2
  go_ret
  exact ⟨rfl, rfl⟩

theorem wrap_neg (c : Int) (h0 : c < 0) (h1 : -9223372036854775808 ≤ c) : IntKind.u64.wrap (-IntKind.u64.wrap c) = -c := by
  simp [IntKind.wrap, IntKind.signed, IntKind.bits]
  omega
theorem back_neg (c : Int) (h0 : c < 0) (h1 : -9223372036854775808 ≤ c) : wrap64 (-wrap64 (-c)) = c := by
  simp only [wrap64]
  omega

set_option maxHeartbeats 400000 in
theorem newInt_pos (c : Int) (w : World) (h0 : 0 < c) (h1 : c ≤ 9223372036854775807) :
    Calls Yba.prog 12 #[.int .i64 c] w fun e w' => e = .returned (.pointer (some ⟨w.heap.size + 1, 0, none⟩)) ∧ w' = (w.alloc (.cells #[.int .u64 c] 57)).alloc (.cells #[.bool (decide (c < 0)), .slice (some ⟨w.heap.size, 0, none⟩) 1 1] 50) := by
  go_enter Yba.func12, Yba.ntmps12
  go_wp2
  go_ret
  exact ⟨rfl, rfl⟩

set_option maxHeartbeats 400000 in
theorem newInt_neg (c : Int) (w : World) (h0 : c < 0) (h1 : -9223372036854775808 ≤ c) :
    Calls Yba.prog 12 #[.int .i64 c] w fun e w' => e = .returned (.pointer (some ⟨w.heap.size + 1, 0, none⟩)) ∧ w' = (w.alloc (.cells #[.int .u64 (-c)] 57)).alloc (.cells #[.bool true, .slice (some ⟨w.heap.size, 0, none⟩) 1 1] 50) := by
  go_enter Yba.func12, Yba.ntmps12
  go_wp2
  rw [wrap_neg c h0 h1]
  go_ret
  exact ⟨rfl, rfl⟩

theorem newInt_any (c : Int) (w : World) (h0 : -9223372036854775808 ≤ c) (h1 : c ≤ 9223372036854775807) :
    Calls Yba.prog 12 #[.int .i64 c] w fun e w' => ∃ b, e = .returned (.pointer (some ⟨b, 0, none⟩)) ∧ w.heap.size ≤ b ∧ BigAt w' b c ∧ Below w.heap.size w w' := by
  rcases Int.lt_trichotomy c 0 with h | h | h
  · refine (newInt_neg c w h h0).mono ?_
    rintro e w' ⟨rfl, rfl⟩
    refine ⟨_, rfl, by omega, ⟨_, by rw [decide_eq_true h]; simpa using heap_alloc_last (w.alloc (.cells #[.int .u64 (-c)] 57)) _, .inr ⟨by omega, _, rfl, ?_⟩⟩, ((Below.refl _ w).alloc (Nat.le_refl _) _).alloc (by simp) _⟩
    rw [Below.heap_alloc _ _ _ (by simp), heap_alloc_last, show ((c.natAbs : Nat) : Int) = -c from by omega]
  · subst h
    refine (newInt_zero w).mono ?_
    rintro e w' ⟨rfl, rfl⟩
    exact ⟨_, rfl, Nat.le_refl _, ⟨_, heap_alloc_last w _, .inl ⟨rfl, rfl⟩⟩, (Below.refl _ w).alloc (Nat.le_refl _) _⟩
  · refine (newInt_pos c w h h1).mono ?_
    rintro e w' ⟨rfl, rfl⟩
    refine ⟨_, rfl, by omega, ⟨_, by simpa using heap_alloc_last (w.alloc (.cells #[.int .u64 c] 57)) _, .inr ⟨by omega, _, rfl, ?_⟩⟩, ((Below.refl _ w).alloc (Nat.le_refl _) _).alloc (by simp) _⟩
    rw [Below.heap_alloc _ _ _ (by simp), heap_alloc_last, show ((c.natAbs : Nat) : Int) = c from by omega]

/-- The one cell, the two cells of a block that is known. -/
theorem cell_blk {w : World} {b : Nat} {c : Array Value} {t : TypeId} (h : w.heap[b]? = some (.cells c t (0, 0))) (i : Nat) : w.cell? ⟨b, i, none⟩ = c[i]? :=
  cell_of_row w b i c t (0, 0) h

theorem low_zero (w : World) : Calls Yba.prog 20 #[.slice none 0 0] w fun e w' => e = .returned (.int .u64 0) ∧ w = w' := by
  go_enter Yba.func20, Yba.ntmps20
  go_wp2
  go_ret
  exact ⟨rfl, rfl⟩
theorem low_one (d : Nat) (u : Int) (w : World) (hc : w.cell? ⟨d, 0, none⟩ = some (.int .u64 u)) : Calls Yba.prog 20 #[.slice (some ⟨d, 0, none⟩) 1 1] w fun e w' => e = .returned (.int .u64 u) ∧ w = w' := by
  go_enter Yba.func20, Yba.ntmps20
  go_wp2
  go_ret
  exact ⟨rfl, rfl⟩

theorem ret_int {k : IntKind} {a b : Int} (h : a = b) : Ending.returned (.int k a) = .returned (.int k b) := by rw [h]

set_option maxHeartbeats 400000 in
theorem int64_any (b : Nat) (c : Int) (w : World) (h : BigAt w b c) (h0 : -9223372036854775808 ≤ c) (h1 : c ≤ 9223372036854775807) :
    Calls Yba.prog 8 #[.pointer (some ⟨b, 0, none⟩)] w fun e w' => e = .returned (.int .i64 c) ∧ w = w' := by
  obtain ⟨v, hb, hv⟩ := h
  have c0 : w.cell? ⟨b, 0, none⟩ = some (.bool (decide (c < 0))) := cell_blk hb 0
  have c1 : w.cell? ⟨b, 1, none⟩ = some v := cell_blk hb 1
  clear hb
  rcases hv with ⟨rfl, rfl⟩ | ⟨hne, d, rfl, hd⟩
  · simp only [Int.lt_irrefl, decide_false] at c0
    go_enter Yba.func8, Yba.ntmps8
    go_wp2_with (go_at_call 20; refine (low_zero _).mono ?_; rintro e w' ⟨rfl, rfl⟩)
    go_ret
    exact ⟨rfl, rfl⟩
  · have c2 : w.cell? ⟨d, 0, none⟩ = some (.int .u64 c.natAbs) := cell_blk hd 0
    clear hd
    by_cases hn : c < 0
    · rw [decide_eq_true hn] at c0
      rw [show ((c.natAbs : Nat) : Int) = -c from by omega] at c2
      go_enter Yba.func8, Yba.ntmps8
      go_wp2_with (go_at_call 20; refine (low_one d (-c) _ (by exact c2)).mono ?_; rintro e w' ⟨rfl, rfl⟩)
      go_ret
      exact ⟨ret_int (back_neg c hn h0), rfl⟩
    · rw [decide_eq_false hn] at c0
      rw [show ((c.natAbs : Nat) : Int) = c from by omega] at c2
      go_enter Yba.func8, Yba.ntmps8
      go_wp2_with (go_at_call 20; refine (low_one d c _ (by exact c2)).mono ?_; rintro e w' ⟨rfl, rfl⟩)
      go_ret
      exact ⟨rfl, rfl⟩

/-- 'Calls.quiet_of' behind draws that were made before. -/
theorem quiet_more {P : Program} {f : FuncId} {args : Array Value} {w : World} {k n : Nat} {v : Value}
    (h : Calls P f args (w.drewN (k + n)) fun e w' => e = .returned v ∧ ∃ m, w' = (w.drewN (k + n)).drewN m) : Calls P f args (w.drewN (k + n)) fun e w'' => e = .returned v ∧ ∃ m, w'' = w.drewN (k + m) :=
  h.mono fun _ _ ⟨he, m, hm⟩ => ⟨he, n + m, by rw [hm, World.drewN_drewN, Nat.add_assoc]⟩

/-- Go's three-way comparison. -/
def cmpZ (a b : Int) : Int := if a < b then -1 else if b < a then 1 else 0

theorem cmpZ_lt {a b : Int} (h : a < b) : cmpZ a b = -1 := by simp [cmpZ, h]
theorem cmpZ_gt {a b : Int} (h : b < a) : cmpZ a b = 1 := by rw [cmpZ, if_neg (by omega), if_pos h]
theorem cmpZ_eq {a b : Int} (h : a = b) : cmpZ a b = 0 := by rw [cmpZ, if_neg (by omega), if_neg (by omega)]

theorem nat_zz (w : World) : Calls Yba.prog 22 #[.slice none 0 0, .slice none 0 0] w fun e w' => e = .returned (.int .i64 0) ∧ w = w' := by
  go_enter Yba.func22, Yba.ntmps22
  go_wp2
  go_ret
  exact ⟨rfl, rfl⟩
theorem nat_zo (d : Nat) (w : World) : Calls Yba.prog 22 #[.slice none 0 0, .slice (some ⟨d, 0, none⟩) 1 1] w fun e w' => e = .returned (.int .i64 (-1)) ∧ w = w' := by
  go_enter Yba.func22, Yba.ntmps22
  go_wp2
  go_ret
  exact ⟨rfl, rfl⟩
theorem nat_oz (d : Nat) (w : World) : Calls Yba.prog 22 #[.slice (some ⟨d, 0, none⟩) 1 1, .slice none 0 0] w fun e w' => e = .returned (.int .i64 1) ∧ w = w' := by
  go_enter Yba.func22, Yba.ntmps22
  go_wp2
  go_ret
  exact ⟨rfl, rfl⟩

set_option maxHeartbeats 1000000 in
theorem nat_oo (d f : Nat) (u v : Int) (w : World) (hd : w.cell? ⟨d, 0, none⟩ = some (.int .u64 u)) (hf : w.cell? ⟨f, 0, none⟩ = some (.int .u64 v)) :
    Calls Yba.prog 22 #[.slice (some ⟨d, 0, none⟩) 1 1, .slice (some ⟨f, 0, none⟩) 1 1] w fun e w' => e = .returned (.int .i64 (cmpZ u v)) ∧ ∃ n, w' = w.drewN n := by
  rcases Int.lt_trichotomy u v with h | h | h
  · have hr := hide (cmpZ_lt h)
    go_enter Yba.func22, Yba.ntmps22
    go_wp2
    refine wp_loop_rounds 1 ?_
    rw [rounds_succ]
    go_wp2_with fail
    go_quiet (fail)
    go_wp2_with fail
    go_quiet (fail)
    go_wp2
    go_ret
    exact ⟨ret_int hr.out.symm, by first | exact ⟨_, rfl⟩ | (simp only [World.drewN_drewN]; exact ⟨_, rfl⟩)⟩
  · subst h
    have hr := hide (cmpZ_eq (a := u) rfl)
    have hlt : decide (u < u) = false := by simp
    go_enter Yba.func22, Yba.ntmps22
    go_wp2
    refine wp_loop_rounds 1 ?_
    rw [rounds_succ]
    go_wp2_with fail
    go_quiet (fail)
    go_wp2_with fail
    go_quiet (fail)
    go_wp2_with fail
    go_quiet (fail)
    go_wp2
    go_ret
    exact ⟨ret_int hr.out.symm, by first | exact ⟨_, rfl⟩ | (simp only [World.drewN_drewN]; exact ⟨_, rfl⟩)⟩
  · have hr := hide (cmpZ_gt h)
    have hlt : decide (u < v) = false := by simp; omega
    go_enter Yba.func22, Yba.ntmps22
    go_wp2
    refine wp_loop_rounds 1 ?_
    rw [rounds_succ]
    go_wp2_with fail
    go_quiet (fail)
    go_wp2_with fail
    go_quiet (fail)
    go_wp2_with fail
    go_quiet (fail)
    go_wp2
    go_ret
    exact ⟨ret_int hr.out.symm, by first | exact ⟨_, rfl⟩ | (simp only [World.drewN_drewN]; exact ⟨_, rfl⟩)⟩

/-- A natural number of at most one word, as a slice of words. -/
def WordAt (w : World) (v : Value) (u : Nat) : Prop :=
  (u = 0 ∧ v = .slice none 0 0) ∨ (u ≠ 0 ∧ ∃ d, v = .slice (some ⟨d, 0, none⟩) 1 1 ∧ w.cell? ⟨d, 0, none⟩ = some (.int .u64 u))

theorem nat_any (v1 v2 : Value) (a b : Nat) (w : World) (h1 : WordAt w v1 a) (h2 : WordAt w v2 b) :
    Calls Yba.prog 22 #[v1, v2] w fun e w' => e = .returned (.int .i64 (cmpZ a b)) ∧ ∃ n, w' = w.drewN n := by
  rcases h1 with ⟨rfl, rfl⟩ | ⟨ha, d, rfl, hd⟩ <;> rcases h2 with ⟨rfl, rfl⟩ | ⟨hb, f, rfl, hf⟩
  · exact (nat_zz w).mono fun e w' h => ⟨h.1.trans (ret_int (by rfl)), 0, h.2.symm⟩
  · exact (nat_zo f w).mono fun e w' h => ⟨h.1.trans (ret_int (cmpZ_lt (by omega)).symm), 0, h.2.symm⟩
  · exact (nat_oz d w).mono fun e w' h => ⟨h.1.trans (ret_int (cmpZ_gt (by omega)).symm), 0, h.2.symm⟩
  · exact nat_oo d f a b w hd hf

theorem BigAt.parts {w : World} {b : Nat} {c : Int} (h : BigAt w b c) :
    ∃ v, w.heap[b]? = some (.cells #[.bool (decide (c < 0)), v] 50 (0, 0)) ∧ WordAt w v c.natAbs := by
  obtain ⟨v, hb, hv⟩ := h
  refine ⟨v, hb, ?_⟩
  rcases hv with ⟨rfl, rfl⟩ | ⟨hne, d, rfl, hd⟩
  · exact .inl ⟨rfl, rfl⟩
  · exact .inr ⟨by omega, d, rfl, cell_blk hd 0⟩

/-- One block is one number. -/
theorem BigAt.inj {w : World} {b : Nat} {c c' : Int} (h : BigAt w b c) (h' : BigAt w b c') : c = c' := by
  obtain ⟨v, hb, hv⟩ := h
  obtain ⟨v', hb', hv'⟩ := h'
  rw [hb] at hb'
  simp only [Option.some.injEq, Obj.cells.injEq, Array.mk.injEq, List.cons.injEq, Value.bool.injEq, and_true] at hb'
  obtain ⟨hs, rfl⟩ := hb'
  rcases hv with ⟨rfl, rfl⟩ | ⟨hne, d, rfl, hd⟩
  · rcases hv' with ⟨rfl, _⟩ | ⟨_, d', h, _⟩
    · rfl
    · simp at h
  · rcases hv' with ⟨_, h⟩ | ⟨hne', d', h, hd'⟩
    · simp at h
    · simp only [Value.slice.injEq, Option.some.injEq, Addr.mk.injEq, and_true] at h
      subst h
      rw [hd] at hd'
      simp only [Option.some.injEq, Obj.cells.injEq, Array.mk.injEq, List.cons.injEq, Value.int.injEq, and_true, true_and] at hd'
      have e : decide (c < 0) = decide (c' < 0) := hs
      by_cases hc : c < 0
      · rw [decide_eq_true hc] at e
        have := of_decide_eq_true e.symm
        omega
      · rw [decide_eq_false hc] at e
        have := of_decide_eq_false e.symm
        omega

theorem info50 : ∃ j, Yba.prog.info? 50 = some j ∧ j.size ≠ 0 := by
  have h : (Yba.prog.info? 50).map (·.size) = some 2 := by kernel_rfl
  cases hq : Yba.prog.info? 50 with
  | none => simp [hq] at h
  | some j => simp [hq] at h; exact ⟨j, rfl, by omega⟩

set_option maxHeartbeats 400000 in
theorem cmp_same (x : Nat) (w : World) : Calls Yba.prog 13 #[.pointer (some ⟨x, 0, none⟩), .pointer (some ⟨x, 0, none⟩)] w fun e w' => e = .returned (.int .i64 0) ∧ w = w' := by
  obtain ⟨j, hj, hz⟩ := info50
  have he := run_eql_ptr_same (P := Yba.prog) w (tp := 33) ⟨x, 0, none⟩ Yba.underlying33 hj
  go_enter Yba.func13, Yba.ntmps13
  go_wp2
  go_ret
  exact ⟨rfl, rfl⟩

theorem cmpZ_abs_pos {a b : Int} (ha : ¬ a < 0) (hb : ¬ b < 0) : cmpZ (a.natAbs : Int) (b.natAbs : Int) = cmpZ a b := by
  rw [show ((a.natAbs : Nat) : Int) = a from by omega, show ((b.natAbs : Nat) : Int) = b from by omega]
theorem cmpZ_abs_neg {a b : Int} (ha : a < 0) (hb : b < 0) : cmpZ (a.natAbs : Int) (b.natAbs : Int) = -cmpZ a b := by
  rw [show ((a.natAbs : Nat) : Int) = -a from by omega, show ((b.natAbs : Nat) : Int) = -b from by omega]
  unfold cmpZ
  repeat (first | omega | split)
theorem cmpZ_bd (a b : Int) : -1 ≤ cmpZ a b ∧ cmpZ a b ≤ 1 := by
  unfold cmpZ
  repeat (first | omega | split)

set_option maxHeartbeats 1000000 in
theorem cmp_other (x y : Nat) (a b : Int) (w : World) (hxy : x ≠ y) (h1 : BigAt w x a) (h2 : BigAt w y b) :
    Calls Yba.prog 13 #[.pointer (some ⟨x, 0, none⟩), .pointer (some ⟨y, 0, none⟩)] w fun e w' => e = .returned (.int .i64 (cmpZ a b)) ∧ ∃ n, w' = w.drewN n := by
  obtain ⟨j, hj, hz⟩ := info50
  obtain ⟨v1, hb1, W1⟩ := h1.parts
  obtain ⟨v2, hb2, W2⟩ := h2.parts
  have he := run_eql_ptr_other (P := Yba.prog) w (tp := 33) (a := ⟨x, 0, none⟩) (b := ⟨y, 0, none⟩) Yba.underlying33 hj hz (by intro h; cases h; exact hxy rfl) hb1 hb2
  have c10 : w.cell? ⟨x, 0, none⟩ = some (.bool (decide (a < 0))) := cell_blk hb1 0
  have c11 : w.cell? ⟨x, 1, none⟩ = some v1 := cell_blk hb1 1
  have c20 : w.cell? ⟨y, 0, none⟩ = some (.bool (decide (b < 0))) := cell_blk hb2 0
  have c21 : w.cell? ⟨y, 1, none⟩ = some v2 := cell_blk hb2 1
  clear hb1 hb2 h1 h2
  have HN : Hid (∀ w' : World, (∀ p, w'.cell? p = w.cell? p) → Calls Yba.prog 22 #[v1, v2] w' fun e w'' => e = .returned (.int .i64 (cmpZ (a.natAbs : Int) (b.natAbs : Int))) ∧ ∃ n, w'' = w'.drewN n) := by
    intro w' hw'
    refine nat_any v1 v2 _ _ w' ?_ ?_
    · unfold WordAt at *; simp only [hw']; exact W1
    · unfold WordAt at *; simp only [hw']; exact W2
  have hr := cmpZ_bd (a.natAbs : Int) (b.natAbs : Int)
  have HA := hide (fun ha hb => cmpZ_abs_neg (a := a) (b := b) ha hb)
  have HB := hide (fun ha hb => cmpZ_abs_pos (a := a) (b := b) ha hb)
  clear W1 W2
  generalize cmpZ (a.natAbs : Int) (b.natAbs : Int) = r at *
  obtain ⟨hr0, hr1⟩ := hr
  by_cases ha : a < 0 <;> by_cases hb : b < 0
  · rw [decide_eq_true ha] at c10
    rw [decide_eq_true hb] at c20
    have HE : Hid (-r = cmpZ a b) := by have := HA.out ha hb; unfold Hid; omega
    go_enter Yba.func13, Yba.ntmps13
    go_wp2_with fail
    go_quiet (fail)
    go_wp2_with fail
    go_quiet ((go_at_call 22; exact quiet_more (HN.out _ (fun _ => rfl))))
    go_wp2
    go_ret
    exact ⟨ret_int HE.out, by first | exact ⟨_, rfl⟩ | (simp only [World.drewN_drewN]; exact ⟨_, rfl⟩)⟩
  · rw [decide_eq_true ha] at c10
    rw [decide_eq_false hb] at c20
    have HE := hide (cmpZ_lt (a := a) (b := b) (by omega))
    go_enter Yba.func13, Yba.ntmps13
    go_wp2_with fail
    go_quiet (fail)
    go_wp2
    go_ret
    exact ⟨ret_int HE.out.symm, by first | exact ⟨_, rfl⟩ | (simp only [World.drewN_drewN]; exact ⟨_, rfl⟩)⟩
  · rw [decide_eq_false ha] at c10
    rw [decide_eq_true hb] at c20
    have HE := hide (cmpZ_gt (a := a) (b := b) (by omega))
    go_enter Yba.func13, Yba.ntmps13
    go_wp2_with fail
    go_quiet (fail)
    go_wp2
    go_ret
    exact ⟨ret_int HE.out.symm, by first | exact ⟨_, rfl⟩ | (simp only [World.drewN_drewN]; exact ⟨_, rfl⟩)⟩
  · rw [decide_eq_false ha] at c10
    rw [decide_eq_false hb] at c20
    have HE := hide (HB.out ha hb)
    go_enter Yba.func13, Yba.ntmps13
    go_wp2_with fail
    go_quiet (fail)
    go_wp2_with fail
    go_quiet ((go_at_call 22; exact quiet_more (HN.out _ (fun _ => rfl))))
    go_wp2
    go_ret
    exact ⟨ret_int HE.out, by first | exact ⟨_, rfl⟩ | (simp only [World.drewN_drewN]; exact ⟨_, rfl⟩)⟩

theorem cmp_any (x y : Nat) (a b : Int) (w : World) (h1 : BigAt w x a) (h2 : BigAt w y b) :
    Calls Yba.prog 13 #[.pointer (some ⟨x, 0, none⟩), .pointer (some ⟨y, 0, none⟩)] w fun e w' => e = .returned (.int .i64 (cmpZ a b)) ∧ ∃ n, w' = w.drewN n := by
  by_cases h : x = y
  · subst h
    refine (cmp_same x w).mono ?_
    rintro e w' ⟨rfl, rfl⟩
    exact ⟨ret_int (cmpZ_eq (h1.inj h2)).symm, 0, rfl⟩
  · exact cmp_other x y a b w h h1 h2
end Go.Proofs.Ybulkdciy
