/-
  THE WALKS of container/heap.Init (9) and Pop (11) over the queue.
-/
import Derived.Test.YbulkdciyDown
import Derived.Test.YbulkdciyPop
namespace Go.Proofs.Ybulkdciy
open Go.RowKit Go.Maps
set_option linter.unusedVariables false
attribute [local go_sem] meth_len meth_less meth_swap meth_pop

theorem down_z {w : World} {base qb mb g cap : Nat} {its : List (Int × Nat × Int)} (h : Que w base qb mb g cap its) (s n : Nat) (zs zn : Int) (hzs : zs = s) (hzn : zn = n) (hn : n ≤ its.length) (hs : s ≤ 1024) (hS : Heap its n (s + 1)) :
    Calls Yba.prog 21 #[.iface 25 (.pointer (some ⟨qb, 0, none⟩)), .int .i64 zs, .int .i64 zn] w fun e w' => ∃ b l, e = .returned (.bool b) ∧ DEnd w base qb mb g cap its n s w' l := by
  subst hzs; subst hzn
  exact down_any h s n hn hs hS

set_option maxHeartbeats 1000000 in
theorem init_any {w : World} {base qb mb g cap : Nat} {its : List (Int × Nat × Int)} (h : Que w base qb mb g cap its) :
    Calls Yba.prog 9 #[.iface 25 (.pointer (some ⟨qb, 0, none⟩))] w fun e w' => e = .returned (.tuple #[]) ∧ ∃ l, Que w' base qb mb g cap l ∧ Heap l its.length 0 ∧ l.Perm its ∧ Turn w w' [g, mb] := by
  obtain ⟨r1, r2, r3⟩ := h.room
  have HQ := hide h
  have HLEN := hide (len_q h)
  have H0 : Hid (Que w base qb mb g cap its ∧ Heap its its.length (its.length / 2) ∧ its.Perm its ∧ Turn w w [g, mb]) :=
    ⟨h, fun k c hk hc hn => by omega, List.Perm.refl _, Turn.refl _ _⟩
  clear h
  generalize hnn : its.length = n at *
  have HN := hide hnn
  clear hnn
  go_enter Yba.func9, Yba.ntmps9
  go_wp2_with fail
  refine HLEN.out.mono ?_
  rintro e w1 ⟨rfl, rfl⟩
  go_wp2
  go_loopw [3] (fun si wr => ∃ (k : Nat) (l : List (Int × Nat × Int)), si = .int .i64 ((k : Int) - 1) ∧ k ≤ 1024 ∧ Hid (Que wr base qb mb g cap l ∧ Heap l n k ∧ l.Perm its ∧ Turn w wr [g, mb])) (fun si _ => (intOf si + 1).toNat)
  case atStart => exact ⟨n / 2, its, by go_num, by omega, H0⟩
  case round =>
    obtain ⟨k, l, rfl, hk, HR⟩ := hrel
    cases k with
    | zero =>
      go_wp2
      go_end0
      exact ⟨rfl, l, HR.out⟩
    | succ j =>
      have hll : l.length = n := HR.out.2.2.1.length_eq.trans HN.out
      rw [show (((j + 1 : Nat) : Int) - 1) = (j : Int) from by omega]
      go_wp2_with fail
      refine (down_z HR.out.1 j n _ _ rfl rfl (by omega) (by omega) HR.out.2.1).mono ?_
      rintro e w2 ⟨b, l2, rfl, hE⟩
      have HS : Hid (Que w2 base qb mb g cap l2 ∧ Heap l2 n j ∧ l2.Perm its ∧ Turn w w2 [g, mb]) := ⟨hE.que, hE.heap, hE.perm.trans HR.out.2.2.1, HR.out.2.2.2.trans hE.turn⟩
      clear hE
      go_wp2
      go_roundw
      case rel => exact ⟨j, l2, by go_num, by omega, HS⟩
      case measure => simp [intOf]

/-- The last item apart. -/
theorem split_last (l : List (Int × Nat × Int)) (n : Nat) (h : l.length = n + 1) : l = l.dropLast ++ [atI l n] := by
  have hne : l ≠ [] := by intro e; simp [e] at h
  have := (List.dropLast_concat_getLast hne).symm
  rw [List.getLast_eq_getElem] at this
  have e : l[l.length - 1] = atI l n := by
    have hn : n < l.length := by omega
    have := at_some (l := l) hn
    rw [List.getElem?_eq_getElem hn] at this
    simp only [Option.some.injEq] at this
    rw [← this]
    congr 1
    omega
  rw [e] at this
  exact this

set_option maxHeartbeats 1000000 in
theorem hpop_any {w : World} {base qb mb g cap : Nat} {its : List (Int × Nat × Int)} (h : Que w base qb mb g cap its) (n : Nat) (hl : its.length = n + 1) (hH : Heap its (n + 1) 0) :
    Calls Yba.prog 11 #[.iface 25 (.pointer (some ⟨qb, 0, none⟩))] w fun e w' => e = .returned (.iface 35 (.agg #[.int .i64 (atI its 0).1, .pointer (some ⟨(atI its 0).2.1, 0, none⟩)])) ∧
      ∃ l, Que w' base qb mb g cap l ∧ Heap l n 0 ∧ (l ++ [atI its 0]).Perm its ∧ BigAt w' (atI its 0).2.1 (atI its 0).2.2 ∧ Turn w w' [qb, g, mb] := by
  obtain ⟨r1, r2, r3⟩ := h.room
  have HLEN := hide (len_q h)
  have HSW := hide (swap_z h 0 n 0 n rfl rfl (by omega) (by omega))
  have HPH := hide (hH.popped hl)
  have HL := hide hl
  rw [hl] at r1 r3 HLEN
  have HAT : Hid (atI (swapL its 0 n) n = atI its 0) := by unfold Hid; rw [atI_swap its 0 n n (by omega) (by omega), if_pos rfl]
  have HPM := hide (swapL_perm its 0 n (by omega) (by omega))
  clear h hl hH
  go_enter Yba.func11, Yba.ntmps11
  go_wp2_with fail
  refine HLEN.out.mono ?_
  rintro e w1 ⟨rfl, rfl⟩
  go_wp2_with fail
  refine HSW.out.mono ?_
  rintro e w2 ⟨rfl, hQ2, hT2⟩
  have HQ2 := hide hQ2
  have HT2 := hide hT2
  clear hQ2 hT2
  go_wp2_with fail
  refine (down_z HQ2.out 0 n _ _ rfl rfl (by rw [swapL_length, HL.out]; omega) (by omega) HPH.out).mono ?_
  rintro e w3 ⟨b, l2, rfl, hE⟩
  have hl2 : l2.length = n + 1 := hE.perm.length_eq.trans (by rw [swapL_length]; exact HL.out)
  have hsp := split_last l2 n hl2
  rw [(hE.far n (Nat.le_refl _)).trans HAT.out] at hsp
  have HQ3 : Hid (Que w3 base qb mb g cap (l2.dropLast ++ [atI its 0])) := by have := hE.que; rw [hsp] at this; exact this
  have HP3 : Hid ((l2.dropLast ++ [atI its 0]).Perm its) := by have := hE.perm.trans HPM.out; rw [hsp] at this; exact this
  have HT3 := hide hE.turn
  have HH3 : Hid (Heap l2.dropLast n 0) := hE.heap.congr fun k hk => by
    show l2.dropLast.getD k (0, 0, 0) = l2.getD k (0, 0, 0)
    rw [List.getD_eq_getElem?_getD, List.getD_eq_getElem?_getD, List.getElem?_dropLast, if_pos (by omega)]
  clear hE hsp hl2
  go_wp2_with fail
  refine (pop_any HQ3.out).mono ?_
  rintro e w4 ⟨rfl, hQ4, hB4, hT4⟩
  have HF : Hid (∃ l, Que w4 base qb mb g cap l ∧ Heap l n 0 ∧ (l ++ [atI its 0]).Perm its ∧ BigAt w4 (atI its 0).2.1 (atI its 0).2.2 ∧ Turn w w4 [qb, g, mb]) :=
    ⟨l2.dropLast, hQ4, HH3.out, HP3.out, hB4, ((HT2.out.trans HT3.out).mono (by simp)).trans (hT4.mono (by simp))⟩
  clear hQ4 hB4 hT4
  go_wp2
  go_ret
  exact ⟨rfl, HF.out⟩
end Go.Proofs.Ybulkdciy
