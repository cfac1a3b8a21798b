/-
  THE WALK of decimal.LawS5192BBuilt (4).
-/
import Derived.Test.YbulkdcmsDigits
import Derived.OwnWalk
namespace Go.Proofs.Ybulkdcms
open Go.RowKit
set_option linter.unusedVariables false

/-- Block B is a row of n bytes, the numbers ys. -/
structure Row (w : World) (B n : Nat) (ys : List Int) : Prop where
  len : ys.length = n
  cell : ∀ j, j < n → w.cell? ⟨B, j, none⟩ = some (.int .u8 (ys.getD j 0))
  free : ∀ j, w.frozen? ⟨B, j, none⟩ = false

theorem getD_set (ys : List Int) (k j : Nat) (y : Int) (hk : k < ys.length) : (ys.set k y).getD j 0 = if k = j then y else ys.getD j 0 := by
  rw [List.getD_eq_getElem?_getD, List.getD_eq_getElem?_getD, List.getElem?_set]
  by_cases h : k = j
  · subst h; simp [hk]
  · simp [h]

theorem Row.set {w : World} {B n : Nat} {ys : List Int} (h : Row w B n ys) {k : Nat} (hk : k < n) (y : Int) : Row (w.setCell ⟨B, k, none⟩ (.int .u8 y)) B n (ys.set k y) := by
  refine ⟨by simpa using h.len, fun j hj => ?_, fun j => by rw [World.frozen?_setCell]; exact h.free j⟩
  rw [getD_set ys k j y (by rw [h.len]; exact hk)]
  by_cases e : k = j
  · subst e
    rw [if_pos rfl]
    exact World.cell?_setCell_same w _ _ (h.cell k hk)
  · rw [if_neg e, World.cell?_setCell_other w ⟨B, k, none⟩ ⟨B, j, none⟩ _ (fun h => e (by cases h; rfl))]
    exact h.cell j hj

theorem Row.below {w w' : World} {B n : Nat} {ys : List Int} (h : Row w B n ys) (hB : B < w.heap.size) (hb : Below w.heap.size w w') : Row w' B n ys :=
  ⟨h.len, fun j hj => (hb.cell (p := ⟨B, j, none⟩) hB).trans (h.cell j hj), fun j => (hb.frozen (p := ⟨B, j, none⟩) hB).trans (h.free j)⟩

/-- 'string(buf)'. -/
theorem Row.str {w : World} {B n : Nat} {ys : List Int} (h : Row w B n ys) : (convert 23 9 (.slice (some ⟨B, 0, none⟩) n n)).run Yba.prog w = .ok (.string (strOfNums ys)) w :=
  run_convert_bytes_arg w 23 5 Yba.underlying23 Yba.underlying5 B 0 n n ys h.len (fun i hi => by rw [Nat.zero_add]; exact h.cell i hi) 9 Yba.underlying9

theorem byte_str (ys : List Int) (j : Nat) (hj : j < ys.length) (h0 : 0 ≤ ys.getD j 0) (h1 : ys.getD j 0 ≤ 255) : byteAt (strOfNums ys) j = ys.getD j 0 := by
  unfold byteAt
  rw [strOfNums_data]
  rw [List.getD_eq_getElem?_getD] at h0 h1 ⊢
  rw [List.getD_eq_getElem?_getD, List.getElem?_map]
  rw [List.getElem?_eq_getElem hj] at h0 h1 ⊢
  simp only [Option.map_some, Option.getD_some] at h0 h1 ⊢
  rw [UInt8.toNat_ofNat']
  omega

theorem digB_row {n : Nat} {ys : List Int} (hl : ys.length = n) (h : ∀ j, j < n → 48 ≤ ys.getD j 0 ∧ ys.getD j 0 ≤ 57) (hp : 0 < n) : digB (strOfNums ys) = true := by
  refine (digB_yes (by rw [strOfNums_size]; omega) fun j hj => ?_).symm
  rw [strOfNums_size] at hj
  have := h j (by omega)
  rw [byte_str ys j hj (by omega) (by omega)]
  exact this
theorem digB_bad {ys : List Int} {k : Nat} (hk : k < ys.length) (h0 : 0 ≤ ys.getD k 0) (h1 : ys.getD k 0 ≤ 255) (h : ys.getD k 0 < 48 ∨ 57 < ys.getD k 0) : digB (strOfNums ys) = false :=
  (digB_no (j := k) (by rw [strOfNums_size]; exact hk) (by rw [byte_str ys k hk h0 h1]; exact h)).symm

/-- The bytes that are no digits. -/
theorem bad_at (m : Nat) (h : m < 9) : ∃ b : Int, 0 ≤ b ∧ b ≤ 255 ∧ (b < 48 ∨ 57 < b) ∧
    ∀ w, (Instr.index 9 (.string ⟨#[47, 58, 97, 32, 46, 45, 43, 0, 255, 57]⟩) (.int .i64 (m : Int))).run Yba.prog w = .ok (.int .u8 b) w := by
  have : m = 0 ∨ m = 1 ∨ m = 2 ∨ m = 3 ∨ m = 4 ∨ m = 5 ∨ m = 6 ∨ m = 7 ∨ m = 8 := by omega
  rcases this with rfl | rfl | rfl | rfl | rfl | rfl | rfl | rfl | rfl
  · exact ⟨47, by omega, by omega, by omega, fun w => by rw [run_index_string w 9 _ .i64 _ Yba.underlying9]; rfl⟩
  · exact ⟨58, by omega, by omega, by omega, fun w => by rw [run_index_string w 9 _ .i64 _ Yba.underlying9]; rfl⟩
  · exact ⟨97, by omega, by omega, by omega, fun w => by rw [run_index_string w 9 _ .i64 _ Yba.underlying9]; rfl⟩
  · exact ⟨32, by omega, by omega, by omega, fun w => by rw [run_index_string w 9 _ .i64 _ Yba.underlying9]; rfl⟩
  · exact ⟨46, by omega, by omega, by omega, fun w => by rw [run_index_string w 9 _ .i64 _ Yba.underlying9]; rfl⟩
  · exact ⟨45, by omega, by omega, by omega, fun w => by rw [run_index_string w 9 _ .i64 _ Yba.underlying9]; rfl⟩
  · exact ⟨43, by omega, by omega, by omega, fun w => by rw [run_index_string w 9 _ .i64 _ Yba.underlying9]; rfl⟩
  · exact ⟨0, by omega, by omega, by omega, fun w => by rw [run_index_string w 9 _ .i64 _ Yba.underlying9]; rfl⟩
  · exact ⟨255, by omega, by omega, by omega, fun w => by rw [run_index_string w 9 _ .i64 _ Yba.underlying9]; rfl⟩

theorem info5 : (Yba.prog.info? 5).map (fun i => (i.zero, i.size, i.bytes)) = some (some (.int .u8 0), 1, 1) := by kernel_rfl

/-- 'make([]byte, n)'. -/
theorem make_row (n : Nat) (w : World) (h : n ≤ 4096) : ∃ w1, (Instr.makeSlice 23 (.int .i64 (n : Int)) (.int .i64 (n : Int))).run Yba.prog w = .ok (.slice (some ⟨w.heap.size, 0, none⟩) n n) w1 ∧
    Row w1 w.heap.size n (List.replicate n 0) ∧ Below w.heap.size w w1 := by
  obtain ⟨i, hi, hz, hs, hb⟩ := info_parts info5
  obtain ⟨w1, hr, ho, hg⟩ := run_make_full (P := Yba.prog) w w.heap.size 23 5 i (.int .u8 0) 1 Yba.underlying23 hi hz hs .i64 .i64 n (by rw [hb]; omega) (by unfold maxLen; omega) (Nat.le_refl _)
  refine ⟨w1, hr, ⟨by simp, fun j hj => ?_, fun j => ho.frozenAt j⟩, (Below.refl _ w).grown hg (Nat.le_refl _) (fun k hk => by cases hk)⟩
  rw [ho.cellAt j (by omega)]
  simp [madeCells, Value.cells, hj, Nat.mod_one]

theorem great_any (a0 : Option Addr) (len0 cap0 : Nat) (p q : Int) (w : World) (h : 4096 < len0) (hm : len0 ≤ maxLen) :
    Calls Yba.prog 4 #[.slice a0 len0 cap0, .int .u16 p, .int .u8 q] w fun e w' => e = .returned (.bool true) ∧ Below w.heap.size w w' := by
  unfold maxLen at hm
  have hd : decide ((4096 : Int) < (len0 : Int)) = true := by simp; omega
  go_enter Yba.func4, Yba.ntmps4
  go_wp2
  go_ret
  exact ⟨rfl, Below.refl _ _⟩

set_option maxHeartbeats 1000000 in
theorem built_any (b0 o0 cap0 n p q : Nat) (zs : List Int) (w : World) (hn : n ≤ 4096) (hp : p ≤ 65535) (hq : q ≤ 255)
    (hz : ∀ i, i < n → 0 ≤ zs.getD i 0 ∧ zs.getD i 0 ≤ 255) (hc : ∀ i, i < n → w.cell? ⟨b0, o0 + i, none⟩ = some (.int .u8 (zs.getD i 0))) (hpos : 0 < n) :
    Calls Yba.prog 4 #[.slice (some ⟨b0, o0, none⟩) n cap0, .int .u16 p, .int .u8 q] w fun e w' => e = .returned (.bool true) ∧ Below w.heap.size w w' := by
  have hd : decide ((4096 : Int) < (n : Int)) = false := by simp; omega
  obtain ⟨w1, hmk, hrow, hbel⟩ := make_row n w hn
  have H0 : Hid (Row w1 w.heap.size n (List.replicate n 0) ∧ (∀ j, j < 0 → 48 ≤ (List.replicate n (0 : Int)).getD j 0 ∧ (List.replicate n (0 : Int)).getD j 0 ≤ 57) ∧ Below w.heap.size w w1) := ⟨hrow, fun j hj => by omega, hbel⟩
  have HC := hide hc
  have HZ := hide hz
  clear hrow hbel hc hz
  go_enter Yba.func4, Yba.ntmps4
  go_wp2
  clear hmk
  go_loopw [9] (fun i wr => ∃ (k : Nat) (ys : List Int), k ≤ n ∧ i = .int .i64 k ∧ Hid (Row wr w.heap.size n ys ∧ (∀ j, j < k → 48 ≤ ys.getD j 0 ∧ ys.getD j 0 ≤ 57) ∧ Below w.heap.size w wr)) (fun i _ => n - (intOf i).toNat)
  case atStart => exact ⟨0, _, Nat.zero_le _, rfl, H0⟩
  case round =>
    obtain ⟨k, ys, hk, rfl, HR⟩ := hrel
    by_cases hlt : k < n
    · have hb0 : b0 < w.heap.size := World.block_lt_of_cell? w ⟨b0, o0 + k, none⟩ (HC.out k hlt)
      have c0 : wr.cell? ⟨b0, o0 + k, none⟩ = some (.int .u8 (zs.getD k 0)) := (HR.out.2.2.cell (p := ⟨b0, o0 + k, none⟩) hb0).trans (HC.out k hlt)
      have c1 := HR.out.1.cell k hlt
      have f1 := HR.out.1.free k
      obtain ⟨z0, z1⟩ := HZ.out k hlt
      generalize zs.getD k 0 = z at *
      generalize ys.getD k 0 = y at *
      have HS : Hid (Row (wr.setCell ⟨w.heap.size, k, none⟩ (.int .u8 (48 + z % 10))) w.heap.size n (ys.set k (48 + z % 10)) ∧ (∀ j, j < k + 1 → 48 ≤ (ys.set k (48 + z % 10)).getD j 0 ∧ (ys.set k (48 + z % 10)).getD j 0 ≤ 57) ∧
          Below w.heap.size w (wr.setCell ⟨w.heap.size, k, none⟩ (.int .u8 (48 + z % 10)))) := by
        refine ⟨HR.out.1.set hlt _, fun j hj => ?_, HR.out.2.2.setCell (Nat.le_refl _) _⟩
        rw [getD_set ys k j _ (by rw [HR.out.1.len]; exact hlt)]
        by_cases e : k = j
        · rw [if_pos e]; omega
        · rw [if_neg e]; exact HR.out.2.1 j (by omega)
      go_wp2
      go_roundw
      case rel => exact ⟨k + 1, _, by omega, by go_num, HS⟩
      case measure => simp [intOf]; omega
    · obtain rfl : k = n := by omega
      have hlen := HR.out.1.len
      have hstr := HR.out.1.str
      have hB : w.heap.size < wr.heap.size := World.block_lt_of_cell? wr ⟨w.heap.size, 0, none⟩ (HR.out.1.cell 0 hpos)
      have hdy := digB_row hlen HR.out.2.1 hpos
      go_wp2_with fail
      refine (digits_any (strOfNums ys) wr (by rw [strOfNums_size, hlen]; unfold maxLen; omega)).mono ?_
      rintro e w2 ⟨rfl, hb2⟩
      rw [hdy]
      have hR2 := HR.out.1.below hB hb2
      have HB2 : Hid (Below w.heap.size w w2) := HR.out.2.2.trans (hb2.mono (Nat.le_of_lt hB))
      have HR2 := hide hR2
      clear hR2 hb2 hstr
      have hml : p % k < k := Nat.mod_lt _ hpos
      obtain ⟨b, hb0, hb1, hbb, hix0⟩ := bad_at (q % 9) (Nat.mod_lt _ (by omega))
      have hix : ∀ w, (Instr.index 9 (.string ⟨#[47, 58, 97, 32, 46, 45, 43, 0, 255, 57]⟩) (.int .i64 ((q : Int) % 9))).run Yba.prog w = .ok (.int .u8 b) w := hix0
      clear hix0
      have c1 := HR2.out.cell (p % k) hml
      have f1 := HR2.out.free (p % k)
      have hR3 := HR2.out.set hml b
      have HB3 : Hid (Below w.heap.size w (w2.setCell ⟨w.heap.size, p % k, none⟩ (.int .u8 b))) := HB2.out.setCell (Nat.le_refl _) _
      have hs3 := hR3.str
      have hsz : (ys.set (p % k) b).length = k := hR3.len
      have hgd : (ys.set (p % k) b).getD (p % k) 0 = b := by rw [getD_set ys (p % k) (p % k) b (by rw [hlen]; exact hml), if_pos rfl]
      have hdn : digB (strOfNums (ys.set (p % k) b)) = false := digB_bad (k := p % k) (by rw [hsz]; exact hml) (by rw [hgd]; exact hb0) (by rw [hgd]; exact hb1) (by rw [hgd]; exact hbb)
      have HS3 := hide hs3
      have HD := hide (digits_any (strOfNums (ys.set (p % k) b)) (w2.setCell ⟨w.heap.size, p % k, none⟩ (.int .u8 b)) (by rw [strOfNums_size, hsz]; unfold maxLen; omega))
      have hB3 : w.heap.size ≤ (w2.setCell ⟨w.heap.size, p % k, none⟩ (.int .u8 b)).heap.size := HB3.out.size
      rw [hdn] at HD
      clear hdn hgd hsz hR3 hbb hlen hdy
      generalize ys.set (p % k) b = ys3 at *
      go_wp2_with fail
      refine HD.out.mono ?_
      rintro e w4 ⟨rfl, hb4⟩
      have HB4 : Hid (Below w.heap.size w w4) := HB3.out.trans (hb4.mono hB3)
      clear hb4
      go_wp2
      go_ret
      exact ⟨rfl, HB4.out⟩

set_option maxHeartbeats 1000000 in
theorem built_nil (a0 : Option Addr) (cap0 p q : Nat) (w : World) :
    Calls Yba.prog 4 #[.slice a0 0 cap0, .int .u16 p, .int .u8 q] w fun e w' => e = .returned (.bool true) ∧ Below w.heap.size w w' := by
  obtain ⟨w1, hmk0, hrow, hbel⟩ := make_row 0 w (by omega)
  have hmk : (Instr.makeSlice 23 (.int .i64 0) (.int .i64 0)).run Yba.prog w = .ok (.slice (some ⟨w.heap.size, 0, none⟩) 0 0) w1 := hmk0
  clear hmk0
  have hstr := hrow.str
  have HB := hide hbel
  clear hrow hbel
  go_enter Yba.func4, Yba.ntmps4
  go_wp2
  clear hmk
  refine wp_loop_rounds 1 ?_
  rw [rounds_succ]
  go_wp2_with fail
  refine (digits_any _ w1 (by rw [strOfNums_size]; simp)).mono ?_
  rintro e w2 ⟨rfl, hb2⟩
  rw [← digB_nil (by rw [strOfNums_size]; simp)]
  have HB2 : Hid (Below w.heap.size w w2) := HB.out.trans (hb2.mono HB.out.size)
  clear hb2
  go_wp2
  go_ret
  exact ⟨rfl, HB2.out⟩
end Go.Proofs.Ybulkdcms
