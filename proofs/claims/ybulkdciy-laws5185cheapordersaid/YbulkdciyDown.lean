/-
  THE WALK of container/heap.down (21) over the queue.
-/
import Derived.Test.YbulkdciyLessQ
import Derived.Test.YbulkdciySwapSame
namespace Go.Proofs.Ybulkdciy
open Go.RowKit Go.Maps
set_option linter.unusedVariables false

theorem meth_len (a : Addr) (w : World) : (method 180 25 (.pointer (some a)) "Len").run Yba.prog w = .ok (10, .pointer (some a)) w := by kernel_rfl
theorem meth_less (a : Addr) (w : World) : (method 180 25 (.pointer (some a)) "Less").run Yba.prog w = .ok (6, .pointer (some a)) w := by kernel_rfl
theorem meth_swap (a : Addr) (w : World) : (method 180 25 (.pointer (some a)) "Swap").run Yba.prog w = .ok (40, .pointer (some a)) w := by kernel_rfl
theorem meth_pop (a : Addr) (w : World) : (method 180 25 (.pointer (some a)) "Pop").run Yba.prog w = .ok (39, .pointer (some a)) w := by kernel_rfl
attribute [local go_sem] meth_len meth_less meth_swap meth_pop

theorem Que.drewN {w : World} {base qb mb g cap : Nat} {its : List (Int × Nat × Int)} (h : Que w base qb mb g cap its) (q : Nat) : Que (w.drewN q) base qb mb g cap its :=
  ⟨h.head, h.low, h.room, h.row, h.bigs, h.wf, h.map⟩

/-- What the loop of 'down' keeps. -/
structure DRel (w : World) (base qb mb g cap : Nat) (its : List (Int × Nat × Int)) (n s : Nat) (wr : World) (l : List (Int × Nat × Int)) (i : Nat) : Prop where
  que : Que wr base qb mb g cap l
  sink : Sink l n s i
  perm : l.Perm its
  far : ∀ k, n ≤ k → atI l k = atI its k
  turn : Turn w wr [g, mb]
/-- What 'down' leaves. -/
structure DEnd (w : World) (base qb mb g cap : Nat) (its : List (Int × Nat × Int)) (n s : Nat) (wr : World) (l : List (Int × Nat × Int)) : Prop where
  que : Que wr base qb mb g cap l
  heap : Heap l n s
  perm : l.Perm its
  far : ∀ k, n ≤ k → atI l k = atI its k
  turn : Turn w wr [g, mb]

section
variable {w wr : World} {base qb mb g cap n s i : Nat} {its l : List (Int × Nat × Int)}
theorem DRel.drewN (h : DRel w base qb mb g cap its n s wr l i) (q : Nat) : DRel w base qb mb g cap its n s (wr.drewN q) l i := ⟨h.que.drewN q, h.sink, h.perm, h.far, h.turn.drewN q⟩
theorem DRel.leaf (h : DRel w base qb mb g cap its n s wr l i) (hl : n ≤ 2 * i + 1) : DEnd w base qb mb g cap its n s wr l := ⟨h.que, h.sink.leaf hl, h.perm, h.far, h.turn⟩
theorem DRel.stop {j : Nat} (h : DRel w base qb mb g cap its n s wr l i) (hj : Least l n i j) (hle : lessI (atI l j) (atI l i) = false) : DEnd w base qb mb g cap its n s wr l := ⟨h.que, h.sink.stop hj hle, h.perm, h.far, h.turn⟩
theorem DRel.swap {j : Nat} {w' : World} (h : DRel w base qb mb g cap its n s wr l i) (hs : s ≤ i) (hn : n ≤ its.length) (hj : Least l n i j) (hless : lessI (atI l j) (atI l i) = true) (hQ : Que w' base qb mb g cap (swapL l i j)) (hT : Turn wr w' [g, mb]) :
    DRel w base qb mb g cap its n s w' (swapL l i j) j := by
  have hl : l.length = its.length := h.perm.length_eq
  have hjn := hj.2.1
  have hij : i < j := by have := hj.1; omega
  refine ⟨hQ, h.sink.step hs (by omega) hj hless, (swapL_perm l i j (by omega) (by omega)).trans h.perm, fun k hk => ?_, h.turn.trans hT⟩
  rw [atI_swap l i j k (by omega) (by omega), if_neg (by omega), if_neg (by omega)]
  exact h.far k hk
end

theorem at_some {l : List (Int × Nat × Int)} {i : Nat} (h : i < l.length) : l[i]? = some (atI l i) := by
  simp [atI, List.getD_eq_getElem?_getD, List.getElem?_eq_getElem h]

theorem least2 {l : List (Int × Nat × Int)} {n i : Nat} (h : 2 * i + 2 < n) (hl : lessI (atI l (2 * i + 2)) (atI l (2 * i + 1)) = true) : Least l n i (2 * i + 2) :=
  ⟨.inr rfl, h, fun c hc _ => by rcases hc with rfl | rfl; exact le_of_less hl; exact le_refl _⟩
theorem least1 {l : List (Int × Nat × Int)} {n i : Nat} (h : 2 * i + 1 < n) (hl : lessI (atI l (2 * i + 2)) (atI l (2 * i + 1)) = false) : Least l n i (2 * i + 1) :=
  ⟨.inl rfl, h, fun c hc _ => by rcases hc with rfl | rfl; exact le_refl _; exact hl⟩
theorem least0 {l : List (Int × Nat × Int)} {n i : Nat} (h : 2 * i + 1 < n) (h2 : n ≤ 2 * i + 2) : Least l n i (2 * i + 1) :=
  ⟨.inl rfl, h, fun c hc hn => by rcases hc with rfl | rfl; exact le_refl _; omega⟩

/-- The two methods, their indices as the walk spells them. -/
theorem less_z {w : World} {base qb mb g cap : Nat} {l : List (Int × Nat × Int)} (h : Que w base qb mb g cap l) (i j : Nat) (zi zj : Int) (hzi : zi = i) (hzj : zj = j) (hi : i < l.length) (hj : j < l.length) :
    Calls Yba.prog 6 #[.pointer (some ⟨qb, 0, none⟩), .int .i64 zi, .int .i64 zj] w fun e w' => e = .returned (.bool (lessI (atI l i) (atI l j))) ∧ ∃ n, w' = w.drewN n := by
  subst hzi; subst hzj
  exact less_q h i j _ _ (at_some hi) (at_some hj)
theorem swap_z {w : World} {base qb mb g cap : Nat} {l : List (Int × Nat × Int)} (h : Que w base qb mb g cap l) (i j : Nat) (zi zj : Int) (hzi : zi = i) (hzj : zj = j) (hi : i < l.length) (hj : j < l.length) :
    Calls Yba.prog 40 #[.pointer (some ⟨qb, 0, none⟩), .int .i64 zi, .int .i64 zj] w fun e w' => e = .returned (.tuple #[]) ∧ Que w' base qb mb g cap (swapL l i j) ∧ Turn w w' [g, mb] := by
  subst hzi; subst hzj
  by_cases e : i = j
  · subst e; exact swap_same h (at_some hi)
  · exact swap_any h (at_some hi) (at_some hj) e

set_option maxHeartbeats 2000000 in
theorem down_any {w : World} {base qb mb g cap : Nat} {its : List (Int × Nat × Int)} (h : Que w base qb mb g cap its) (s n : Nat) (hn : n ≤ its.length) (hs : s ≤ 1024) (hS : Heap its n (s + 1)) :
    Calls Yba.prog 21 #[.iface 25 (.pointer (some ⟨qb, 0, none⟩)), .int .i64 s, .int .i64 n] w fun e w' => ∃ b l, e = .returned (.bool b) ∧ DEnd w base qb mb g cap its n s w' l := by
  obtain ⟨r1, r2, r3⟩ := h.room
  have HR0 : Hid (DRel w base qb mb g cap its n s w its s) := ⟨h, Sink.start hS, List.Perm.refl _, fun _ _ => rfl, Turn.refl _ _⟩
  clear h hS
  go_enter Yba.func21, Yba.ntmps21
  go_wp2
  go_loopw [7] (fun si wr => ∃ (i : Nat) (l : List (Int × Nat × Int)), si = .int .i64 i ∧ s ≤ i ∧ i ≤ 1024 ∧ Hid (DRel w base qb mb g cap its n s wr l i)) (fun si _ => n - (intOf si).toNat)
  case atStart => exact ⟨s, its, rfl, Nat.le_refl _, hs, HR0⟩
  case round =>
    obtain ⟨i, l, rfl, hsi, him, HR⟩ := hrel
    have hll : l.length = its.length := HR.out.perm.length_eq
    by_cases c1 : 2 * i + 1 < n
    · by_cases c2 : 2 * i + 2 < n
      · go_wp2_with fail
        refine (less_z HR.out.que (2 * i + 2) (2 * i + 1) _ _ (by omega) (by omega) (by omega) (by omega)).mono ?_
        rintro e w1 ⟨rfl, m, rfl⟩
        have HR2 := hide (fun q => HR.out.drewN q)
        cases hb2 : lessI (atI l (2 * i + 2)) (atI l (2 * i + 1))
        · have HLE := hide (least1 c1 hb2)
          go_wp2_with fail
          refine (less_z (HR.out.drewN m).que (2 * i + 1) i _ _ (by omega) rfl (by omega) (by omega)).mono ?_
          rintro e w2 ⟨rfl, m2, rfl⟩
          cases hbj : lessI (atI l (2 * i + 1)) (atI l i)
          · go_wp2
            go_ret
            exact ⟨_, l, rfl, (HR2.out (m + m2)).stop HLE.out hbj⟩
          · go_wp2_with fail
            refine (swap_z (HR2.out (m + m2)).que i (2 * i + 1) _ _ rfl (by omega) (by omega) (by omega)).mono ?_
            rintro e w3 ⟨rfl, hQ3, hT3⟩
            have HS := hide ((HR2.out (m + m2)).swap hsi hn HLE.out hbj hQ3 hT3)
            clear hQ3 hT3
            go_wp2
            go_roundw
            case rel => exact ⟨2 * i + 1, swapL l i (2 * i + 1), by go_num, by omega, by omega, HS⟩
            case measure => simp [intOf]; omega
        · have HLE := hide (least2 c2 hb2)
          go_wp2_with fail
          refine (less_z (HR.out.drewN m).que (2 * i + 2) i _ _ (by omega) rfl (by omega) (by omega)).mono ?_
          rintro e w2 ⟨rfl, m2, rfl⟩
          cases hbj : lessI (atI l (2 * i + 2)) (atI l i)
          · go_wp2
            go_ret
            exact ⟨_, l, rfl, (HR2.out (m + m2)).stop HLE.out hbj⟩
          · go_wp2_with fail
            refine (swap_z (HR2.out (m + m2)).que i (2 * i + 2) _ _ rfl (by omega) (by omega) (by omega)).mono ?_
            rintro e w3 ⟨rfl, hQ3, hT3⟩
            have HS := hide ((HR2.out (m + m2)).swap hsi hn HLE.out hbj hQ3 hT3)
            clear hQ3 hT3
            go_wp2
            go_roundw
            case rel => exact ⟨2 * i + 2, swapL l i (2 * i + 2), by go_num, by omega, by omega, HS⟩
            case measure => simp [intOf]; omega
      · have HLE := hide (least0 (l := l) c1 (by omega))
        have HR2 := hide (fun q => HR.out.drewN q)
        go_wp2_with fail
        refine (less_z HR.out.que (2 * i + 1) i _ _ (by omega) rfl (by omega) (by omega)).mono ?_
        rintro e w2 ⟨rfl, m2, rfl⟩
        cases hbj : lessI (atI l (2 * i + 1)) (atI l i)
        · go_wp2
          go_ret
          exact ⟨_, l, rfl, (HR2.out m2).stop HLE.out hbj⟩
        · go_wp2_with fail
          refine (swap_z (HR2.out m2).que i (2 * i + 1) _ _ rfl (by omega) (by omega) (by omega)).mono ?_
          rintro e w3 ⟨rfl, hQ3, hT3⟩
          have HS := hide ((HR2.out m2).swap hsi hn HLE.out hbj hQ3 hT3)
          clear hQ3 hT3
          go_wp2
          go_roundw
          case rel => exact ⟨2 * i + 1, swapL l i (2 * i + 1), by go_num, by omega, by omega, HS⟩
          case measure => simp [intOf]; omega
    · have hg : decide ((n : Int) ≤ 2 * (i : Int) + 1) = true := by simp; omega
      go_wp2
      go_ret
      exact ⟨_, l, rfl, HR.out.leaf (by omega)⟩
end Go.Proofs.Ybulkdciy
