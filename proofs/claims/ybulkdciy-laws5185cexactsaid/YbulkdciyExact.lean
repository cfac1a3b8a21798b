/-
  THE WALK of solver.LawS5185CExact (function 3).
-/
import Derived.Test.YbulkdciyBuild
import Derived.Test.YbulkdciyLess
namespace Go.Proofs.Ybulkdciy
open Go.RowKit Go.Maps
set_option linter.unusedVariables false

theorem lessB_irr (a : Int × Int) : lessB a a = false := by simp [lessB]

theorem int64_at (b : Nat) (c : Int) (w : World) (h : BigAt w b c) (h0 : -9223372036854775808 ≤ c) (h1 : c ≤ 9223372036854775807) :
    Calls Yba.prog 8 #[.pointer (some ⟨b, 0, none⟩)] w fun e w' => e = .returned (.int .i64 c) ∧ w' = w :=
  (int64_any b c w h h0 h1).mono fun _ _ h => ⟨h.1, h.2.symm⟩

/-- 'Calls.quiet_of_same' behind draws that were made before. -/
theorem quiet_same {P : Program} {f : FuncId} {args : Array Value} {w : World} {k n : Nat} {v : Value}
    (h : Calls P f args (w.drewN (k + n)) fun e w' => e = .returned v ∧ w' = w.drewN (k + n)) : Calls P f args (w.drewN (k + n)) fun e w'' => e = .returned v ∧ ∃ m, w'' = w.drewN (k + m) :=
  h.mono fun _ _ ⟨he, hm⟩ => ⟨he, n, hm⟩

/-- The item at place i, out of what is read of the items. -/
theorem item_at {its : List (Int × Nat × Int)} {l0 l1 : List Int} {n i : Nat} (h : keys its = keysTo l0 l1 n) (hi : i < n) : ∃ b, its[i]? = some (l1.getD i 0, b, l0.getD i 0) := by
  have hl := keys_len h
  have e : (keys its)[i]? = (keysTo l0 l1 n)[i]? := by rw [h]
  rw [keys, keysTo, List.getElem?_map, List.getElem?_map, List.getElem?_range hi, List.getElem?_eq_getElem (by omega)] at e
  simp only [Option.map_some, Option.some.injEq, Prod.mk.injEq] at e
  refine ⟨its[i].2.1, ?_⟩
  rw [List.getElem?_eq_getElem (by omega), ← e.1, ← e.2]

theorem exact_great0 (a0 : Option Addr) (len0 cap0 : Nat) (a1 : Option Addr) (len1 cap1 : Nat) (i j : Int) (w : World) (h : 1024 < len0) (hm : len0 ≤ maxLen) :
    Calls Yba.prog 3 #[.slice a0 len0 cap0, .slice a1 len1 cap1, .int .u16 i, .int .u16 j] w fun e w' => e = .returned (.bool true) ∧ Below w.heap.size w w' := by
  unfold maxLen at hm
  have hd : decide ((1024 : Int) < (len0 : Int)) = true := by simp; omega
  go_enter Yba.func3, Yba.ntmps3
  go_wp2
  go_ret
  exact ⟨rfl, Below.refl _ _⟩

theorem exact_great1 (a0 : Option Addr) (len0 cap0 : Nat) (a1 : Option Addr) (len1 cap1 : Nat) (i j : Int) (w : World) (h0 : len0 ≤ 1024) (h : 1024 < len1) (hm : len1 ≤ maxLen) :
    Calls Yba.prog 3 #[.slice a0 len0 cap0, .slice a1 len1 cap1, .int .u16 i, .int .u16 j] w fun e w' => e = .returned (.bool true) ∧ Below w.heap.size w w' := by
  unfold maxLen at hm
  have hd0 : decide ((1024 : Int) < (len0 : Int)) = false := by simp; omega
  have hd : decide ((1024 : Int) < (len1 : Int)) = true := by simp; omega
  go_enter Yba.func3, Yba.ntmps3
  go_wp2
  go_ret
  exact ⟨rfl, Below.refl _ _⟩

theorem exact_zero (a0 : Option Addr) (len0 cap0 : Nat) (a1 : Option Addr) (len1 cap1 : Nat) (i j : Int) (w : World) (h0 : len0 ≤ 1024) (h1 : len1 ≤ 1024) (hz : len0 = 0 ∨ len1 = 0) :
    Calls Yba.prog 3 #[.slice a0 len0 cap0, .slice a1 len1 cap1, .int .u16 i, .int .u16 j] w fun e w' => e = .returned (.bool true) ∧ Below w.heap.size w w' := by
  have hd0 : decide ((1024 : Int) < (len0 : Int)) = false := by simp; omega
  have hd1 : decide ((1024 : Int) < (len1 : Int)) = false := by simp; omega
  by_cases hl : len1 < len0
  · obtain rfl : len1 = 0 := by omega
    clear hz
    go_enter Yba.func3, Yba.ntmps3
    go_wp2
    go_ret
    exact ⟨rfl, Below.refl _ _⟩
  · obtain rfl : len0 = 0 := by omega
    clear hz
    go_enter Yba.func3, Yba.ntmps3
    go_wp2
    go_ret
    exact ⟨rfl, Below.refl _ _⟩

set_option maxRecDepth 100000 in
set_option maxHeartbeats 1000000 in
theorem exact_any (b0 o0 cap0 len0 b1 o1 cap1 len1 n : Nat) (l0 l1 : List Int) (i j : Nat) (w : World) (hn : (len1 < len0 ∧ n = len1) ∨ (len0 ≤ len1 ∧ n = len0)) (hp : 0 < n)
    (hl0 : len0 ≤ 1024) (hl1 : len1 ≤ 1024) (hi : i ≤ 65535) (hj : j ≤ 65535)
    (hy0 : ∀ i, i < n → -9223372036854775808 ≤ l0.getD i 0 ∧ l0.getD i 0 ≤ 9223372036854775807)
    (hc0 : ∀ i, i < n → w.cell? ⟨b0, o0 + i, none⟩ = some (.int .i64 (l0.getD i 0)))
    (hc1 : ∀ i, i < n → w.cell? ⟨b1, o1 + i, none⟩ = some (.int .i64 (l1.getD i 0))) :
    Calls Yba.prog 3 #[.slice (some ⟨b0, o0, none⟩) len0 cap0, .slice (some ⟨b1, o1, none⟩) len1 cap1, .int .u16 i, .int .u16 j] w fun e w' => e = .returned (.bool true) ∧ Below w.heap.size w w' := by
  have hd0 : decide ((1024 : Int) < (len0 : Int)) = false := by simp; omega
  have hd1 : decide ((1024 : Int) < (len1 : Int)) = false := by simp; omega
  have hn0 : n ≤ len0 := by omega
  have hn1 : n ≤ len1 := by omega
  have hz : ((n : Int) == 0) = false := beq_eq_false_iff_ne.2 (by omega)
  have HY := hide hy0
  have HC0 := hide hc0
  have HC1 := hide hc1
  have ha : i % n < n := Nat.mod_lt _ hp
  have hb : j % n < n := Nat.mod_lt _ hp
  have HA : Hid (((i : Int) % (n : Int)) = ((i % n : Nat) : Int)) := by unfold Hid; omega
  have HB : Hid (((j : Int) % (n : Int)) = ((j % n : Nat) : Int)) := by unfold Hid; omega
  clear hy0 hc0 hc1
  generalize i % n = a at *
  generalize j % n = b at *
  rcases hn with ⟨hlt, rfl⟩ | ⟨hge, rfl⟩
  all_goals
    go_enter Yba.func3, Yba.ntmps3
    go_wp2_with fail
    refine (build_any b0 o0 cap0 _ b1 o1 cap1 _ _ l0 l1 w hn0 hn1 (by omega) hl0 hl1 HY.out HC0.out HC1.out).mono ?_
    rintro e w1 ⟨its, v, rfl, hQ, hK, hbel⟩
    have HQ := hide hQ
    have HK := hide hK
    have HBEL := hide hbel
    clear hQ hK hbel
    go_wp2_with fail
    rw [HA.out, HB.out]
    have HLEN := hide (keys_len HK.out)
    obtain ⟨ba, hia⟩ := item_at HK.out ha
    obtain ⟨bb, hib⟩ := item_at HK.out hb
    have hbb0 : b0 < w.heap.size := World.block_lt_of_cell? w ⟨b0, o0 + a, none⟩ (HC0.out a ha)
    have hbb1 : b1 < w.heap.size := World.block_lt_of_cell? w ⟨b1, o1 + a, none⟩ (HC1.out a ha)
    have HD0 : Hid (∀ k, k < _ → w1.cell? ⟨b0, o0 + k, none⟩ = some (.int .i64 (l0.getD k 0))) := fun k hk => (HBEL.out.cell (p := ⟨b0, o0 + k, none⟩) hbb0).trans (HC0.out k hk)
    have HD1 : Hid (∀ k, k < _ → w1.cell? ⟨b1, o1 + k, none⟩ = some (.int .i64 (l1.getD k 0))) := fun k hk => (HBEL.out.cell (p := ⟨b1, o1 + k, none⟩) hbb1).trans (HC1.out k hk)
    have HLS := hide (fun q => less_any (HQ.out.turn ((Turn.refl w1 []).drewN q)) a a _ _ hia hia (by rw [HLEN.out]; omega))
    have hLE := less_any HQ.out a b _ _ hia hib (by rw [HLEN.out]; omega)
    simp only [lessB_irr] at hLE HLS
    clear hia hib
    have ca0 := HD0.out a ha
    have cb0 := HD0.out b hb
    have ca1 := HD1.out a ha
    have cb1 := HD1.out b hb
    have ia1 : (0 : Int) ≤ (a : Int) := Int.natCast_nonneg _
    have ib1 : (0 : Int) ≤ (b : Int) := Int.natCast_nonneg _
    refine hLE.mono ?_
    clear hLE
    rintro e w2 ⟨rfl, m, rfl⟩
    generalize l0.getD a 0 = xa at *
    generalize l0.getD b 0 = xb at *
    generalize l1.getD a 0 = ya at *
    generalize l1.getD b 0 = yb at *
    go_wp2_with fail
    go_quiet ((go_at_call 7; exact quiet_same (cless_any xa xb ya yb _)))
    go_wp2_with fail
    refine (HLS.out _).mono ?_
    rintro e w3 ⟨rfl, m2, rfl⟩
    obtain ⟨g, cap, cur, rfl, _, _, hcap, hmx, _, hcell⟩ := HQ.out.form (by rw [HLEN.out]; omega)
    have cq : w1.cell? ⟨w.heap.size + 1, 0, none⟩ = some (.slice (some ⟨g, 0, none⟩) its.length cap) := cell_blk HQ.out.head 0
    have hcp := hcap
    rw [HLEN.out] at cq hcp
    have HCELL := hide hcell
    clear hcell hcap
    have hne : ∀ q : Int, (q != q) = false := fun q => by simp
    go_wp2
    clear ca0 cb0 ca1 cb1 HLS
    go_loopw [14] (fun i wr => ∃ k q : Nat, k ≤ n ∧ i = .int .i64 k ∧ wr = w1.drewN q) (fun i _ => n - (intOf i).toNat)
    case atStart => exact ⟨0, _, Nat.zero_le _, rfl, by first | rfl | exact World.drewN_drewN⟩
    case round =>
      obtain ⟨k, q, hk, rfl, rfl⟩ := hrel
      by_cases hlk : k < n
      · obtain ⟨bk, hik⟩ := item_at HK.out hlk
        have BK := hide (HQ.out.bigs _ (List.mem_of_getElem? hik))
        obtain ⟨ck0, ck1⟩ := HCELL.out k _ hik
        have d0 := HD0.out k hlk
        have d1 := HD1.out k hlk
        obtain ⟨y0, y1⟩ := HY.out k hlk
        simp only at ck0 ck1 BK
        clear hik
        generalize l0.getD k 0 = c at *
        generalize l1.getD k 0 = p at *
        have k1 : (0 : Int) ≤ (k : Int) := Int.natCast_nonneg _
        have k2 : (k : Int) < (n : Int) := by omega
        go_wp2_with fail
        go_quiet ((go_at_call 8; exact quiet_same (int64_at bk c _ (by exact BK.out) y0 y1)))
        go_wp2
        go_roundw
        case rel => exact ⟨k + 1, _, by omega, by go_num, by first | rfl | exact World.drewN_drewN⟩
        case measure => simp [intOf]; omega
      · go_wp2
        go_ret
        exact ⟨rfl, below_drewN HBEL.out _⟩
end Go.Proofs.Ybulkdciy
