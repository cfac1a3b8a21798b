/-
  THE WALK of nas.LawS5183CAgree (function 6), FOR EVERY F.
-/
import Derived.Test.YbulkdchwFmtComp
import Derived.Laws.CopyOwn
namespace Go.Proofs.YbulkdchwFmt
open Go.RowKit Go.Extern.Stop Go.Stop Go.Extern Plain

theorem info5a : (Ybaf.prog.info? 5).map (fun i => (i.zero, i.size, i.bytes)) = some (some (.int .u8 0), 1, 1) := by kernel_rfl
theorem size5a : (Ybaf.prog.info? 5).map (·.size) = some 1 := by kernel_rfl

theorem ok_at (b off cap len : Nat) (l : List Int) (w : World) (hl : l.length = len) (hm : len ≤ 1000000)
    (hc : ∀ i, i < len → w.cell? ⟨b, off + i, none⟩ = some (.int .u8 (l.getD i 0))) :
    Calls Ybaf.prog 13 #[.slice (some ⟨b, off, none⟩) len cap] w fun e w' => e = .returned (.bool (okAll l)) ∧ w' = w := by
  subst hl
  cases l with
  | nil => exact ok_nil _ _ _
  | cons x r => exact ok_any b off cap (x :: r) w hm (by simp) hc

theorem agree_great (a : Option Addr) (cap len : Nat) (w : World) (h : 4096 < len) (hm : len ≤ maxLen) :
    Calls Ybaf.prog 6 #[.slice a len cap] w fun e w' => e = .returned (.bool true) ∧ Below w.heap.size w w' := by
  unfold maxLen at hm
  go_enter Ybaf.func6, Ybaf.ntmps6
  go_wp2
  go_ret
  exact ⟨rfl, Below.refl _ _⟩

/-- What 'make' has laid, as 'copy' asks for it. -/
theorem made_facts {w0 w : World} {g n : Nat} {zs : List Value} (h : w.ownsRow g 5 1 (.slice (some ⟨g, 0, none⟩) n n) n zs) (_ : w0.grownBy w none) : ∃ cur : List Value, Hid (w.heap[g]? = some (.cells cur.toArray 5 (0, 0))) ∧ Hid (cur.length = n) := by
  obtain ⟨_, h | ⟨g', cap, cur, hv, _, hh, _, _, hs, _⟩⟩ := h
  · exact absurd h.1 (by simp)
  · simp only [Value.slice.injEq, Option.some.injEq, Addr.mk.injEq, and_true, true_and] at hv
    obtain ⟨rfl, rfl⟩ := hv
    refine ⟨cur.toList, ?_, ?_⟩
    · unfold Hid; simpa using hh
    · unfold Hid; simpa using hs

theorem cell_lt {w : World} {b o : Nat} {v : Value} (h : w.cell? ⟨b, o, none⟩ = some v) : b < w.heap.size := by
  rcases Nat.lt_or_ge b w.heap.size with h' | h'
  · exact h'
  · simp [World.cell?, Array.getElem?_eq_none h'] at h

theorem grown_cell {w w0 : World} {b off : Nat} (hg : w.grownBy w0 none) (hb : b < w.heap.size) (j : Nat) : w0.cell? ((⟨b, off, none⟩ : Addr).add j) = w.cell? ((⟨b, off, none⟩ : Addr).add j) := by
  have hB : Below w.heap.size w w0 := (Below.refl _ w).grown hg (Nat.le_refl _) (fun k h => by cases h)
  rw [WideShapes.add_plain]
  exact hB.cell (p := ⟨b, off + j, none⟩) hb

theorem splice_all (cur cs : List Value) (h : cs.length = cur.length) : splice cur 0 cs = cs := by
  simp [splice, h]

set_option maxHeartbeats 400000 in
set_option maxRecDepth 20000 in
theorem agree_any (F : Interp) (bm b off cap len : Nat) (l : List Int) (w : World) (hF : F.answers w.tape) (hT : Tab bm w) (hp : 0 < len) (hm : len ≤ 4096) (hl : l.length = len)
    (hy : ∀ i, i < len → 0 ≤ l.getD i 0 ∧ l.getD i 0 ≤ 255)
    (hc : ∀ i, i < len → w.cell? ⟨b, off + i, none⟩ = some (.int .u8 (l.getD i 0))) :
    Calls Ybaf.prog 6 #[.slice (some ⟨b, off, none⟩) len cap] w fun e w' => e = .returned (.bool true) ∧ Below w.heap.size w w' := by
  obtain ⟨i0, hi, hz0, hz1, hz2⟩ := info_parts info5a
  have hd : decide ((4096 : Int) < (len : Int)) = false := by simp; omega
  have HT := hide hT
  have HC := hide hc
  have HY := hide hy
  have HL := hide hl
  clear hT hc hy hl
  have HS : Hid (∀ j v, (l.map (Value.int .u8))[j]? = some v → w.cell? ((⟨b, off, none⟩ : Addr).add j) = some v) := by
    intro j v hj
    have hjl : j < len := by
      have := (List.getElem?_eq_some_iff.1 hj).1
      rw [List.length_map, HL.out] at this
      exact this
    rw [List.getElem?_map, List.getElem?_eq_getElem (by rw [HL.out]; exact hjl)] at hj
    have e := HC.out j hjl
    rw [List.getD_eq_getElem?_getD, List.getElem?_eq_getElem (by rw [HL.out]; exact hjl)] at e
    rw [WideShapes.add_plain, e]
    exact hj
  have HLM : Hid ((l.map (Value.int .u8)).length = len) := by rw [List.length_map]; exact HL.out
  have hbB : b < w.heap.size := cell_lt (HC.out 0 hp)
  go_enter Ybaf.func6, Ybaf.ntmps6
  go_wp2_with (first
    | (at_make; refine wpList_make_full _ rfl _ _ 41 rfl w.heap.size 5 i0 (.int .u8 0) 1 Ybaf.underlying41 hi hz0 hz1 _ _ _ _ len rfl rfl (by rfl) (by rfl) (by rw [hz2]; omega) (by unfold maxLen; omega) (Nat.le_refl _) ?_; intro w0 hown0 hgrow0; obtain ⟨cur, HCUR, HCL⟩ := made_facts hown0 hgrow0; clear hown0)
    | (refine wpList_copy_splice rfl (.tmp 12) (.tmp 13) 41 41 rfl 5 Ybaf.underlying41 size5a _ _ _ _ _ _ rfl rfl w.heap.size 0 cur 5 HCUR.out (l.map (Value.int .u8)) (by rw [HLM.out]; exact (Nat.min_self len).symm) (fun _ => ⟨rfl, _, rfl, fun j v hj => (grown_cell hgrow0 hbB j).trans (HS.out j v hj)⟩) (by rw [HLM.out, HCL.out]; omega) (ints_oneCell _ _) w.heap.size w ((Below.refl _ w).grown hgrow0 (Nat.le_refl _) (fun k h => by cases h)) (Nat.le_refl _) ?_; intro w1 HW1 hbel))
  have HCP : Hid (∀ i, i < len → w1.cell? ⟨w.heap.size, 0 + i, none⟩ = some (.int .u8 (l.getD i 0))) := by
    intro i hi
    have h1 := HW1.out
    rw [splice_all cur _ (by rw [HLM.out, HCL.out])] at h1
    rw [Nat.zero_add, cell_of_row _ _ i _ 5 (0, 0) h1, List.getElem?_toArray, List.getElem?_map, List.getD_eq_getElem?_getD, List.getElem?_eq_getElem (by rw [HL.out]; exact hi)]
    rfl
  have HCC : Hid (∀ i, i < len → w1.cell? ⟨b, off + i, none⟩ = some (.int .u8 (l.getD i 0))) := fun i hi => (hbel.cell (p := ⟨b, off + i, none⟩) hbB).trans (HC.out i hi)
  have HB1 := hide hbel
  clear hbel hgrow0
  refine (comp_at F bm w.heap.size 0 len len l w1 HL.out (answers_below hF HB1.out) (HT.out.below HB1.out) (by omega) HY.out HCP.out).mono ?_
  rintro e w2 ⟨hE, hb2⟩
  have hB1 : w.heap.size < w1.heap.size := cell_lt (HCP.out 0 hp)
  have HP2 : Hid (∀ i, i < len → w2.cell? ⟨w.heap.size, i, none⟩ = some (.int .u8 (l.getD i 0))) := fun i hi => (hb2.cell (p := ⟨w.heap.size, i, none⟩) hB1).trans (by have := HCP.out i hi; rw [Nat.zero_add] at this; exact this)
  have HC2 : Hid (∀ i, i < len → w2.cell? ⟨b, off + i, none⟩ = some (.int .u8 (l.getD i 0))) := fun i hi => (hb2.cell (p := ⟨b, off + i, none⟩) (by show b < _; omega)).trans (HCC.out i hi)
  have HB2 : Hid (Below w.heap.size w w2) := HB1.out.trans (hb2.mono (by omega))
  clear hb2 HW1 HCUR HCL HS HLM HCP HCC
  rcases hE with ⟨hok, rfl⟩ | ⟨hok, p, rfl⟩
  all_goals
    go_wp2_with fail
    go_quiet ((go_at_call 13; exact Calls.quiet_of_same (ok_at b off cap len l _ HL.out (by omega) (by exact HC2.out))))
    go_wp2
    go_loopw [5] (fun i wr => ∃ k n : Nat, k ≤ len ∧ i = .int .i64 k ∧ wr = w2.drewN n) (fun i _ => len - (intOf i).toNat)
    case atStart => exact ⟨0, _, Nat.zero_le _, rfl, rfl⟩
    case round =>
      obtain ⟨k, n, hk, rfl, rfl⟩ := hrel
      by_cases hlt : k < len
      · have c1 := HP2.out k hlt
        have c2 := HC2.out k hlt
        generalize l.getD k 0 = t at *
        go_wp2_with fail
        go_quiet (fail)
        go_wp2
        go_roundw
        case rel => exact ⟨k + 1, n + nq, by omega, by go_num, rfl⟩
        case measure => simp [intOf]; omega
      · go_wp2
        go_ret
        exact ⟨rfl, below_drewN HB2.out _⟩

set_option maxHeartbeats 400000 in
set_option maxRecDepth 20000 in
theorem agree_zero (a : Option Addr) (cap : Nat) (w : World) :
    Calls Ybaf.prog 6 #[.slice a 0 cap] w fun e w' => e = .returned (.bool true) ∧ Below w.heap.size w w' := by
  obtain ⟨i0, hi, hz0, hz1, hz2⟩ := info_parts info5a
  go_enter Ybaf.func6, Ybaf.ntmps6
  go_wp2_with (first
    | (at_make; refine wpList_make_full _ rfl _ _ 41 rfl w.heap.size 5 i0 (.int .u8 0) 1 Ybaf.underlying41 hi hz0 hz1 _ _ _ _ 0 rfl rfl (by rfl) (by rfl) (by rw [hz2]; omega) (by unfold maxLen; omega) (Nat.le_refl _) ?_; intro w0 hown0 hgrow0; clear hown0)
    | (refine wpList_copy_nothing rfl (.tmp 12) (.tmp 13) 41 41 rfl 5 Ybaf.underlying41 size5a _ _ _ _ _ _ rfl rfl rfl ?_))
  have HB : Hid (Below w.heap.size w w0) := (Below.refl _ w).grown hgrow0 (Nat.le_refl _) (fun k h => by cases h)
  clear hgrow0
  refine (comp_nil _ _ _).mono ?_
  rintro e w2 ⟨⟨hyes, _⟩ | ⟨_, p, rfl⟩, hb2⟩
  · exact absurd hyes (by decide)
  · have HB2 : Hid (Below w.heap.size w w2) := HB.out.trans (hb2.mono HB.out.size)
    clear hb2
    go_wp2_with fail
    go_quiet ((go_at_call 13; exact Calls.quiet_of_same (ok_nil _ _ _)))
    go_wp2
    refine wp_loop_rounds 1 ?_
    rw [rounds_succ]
    go_wp2
    go_ret
    exact ⟨rfl, below_drewN HB2.out _⟩
end Go.Proofs.YbulkdchwFmt
