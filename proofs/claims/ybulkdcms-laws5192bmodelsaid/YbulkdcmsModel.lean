/-
  THE WALK of decimal.zzs5192bmodel (6), and of the law LawS5192BModel (3).
-/
import Derived.Test.YbulkdcmsDigits
namespace Go.Proofs.Ybulkdcms
open Go.RowKit
set_option linter.unusedVariables false

theorem index_at (s : ByteArray) (k : Nat) (h : k < s.size) (w : World) : (Instr.index 9 (.string s) (.int .i64 k)).run Yba.prog w = .ok (.int .u8 (byteAt s k)) w := by
  rw [run_index_string w 9 s .i64 k Yba.underlying9, dif_pos ⟨Int.natCast_nonneg _, by omega⟩]
  have hl : k < s.data.toList.length := by simpa using h
  simp only [byteAt, List.getD_eq_getElem?_getD, List.getElem?_eq_getElem hl, Option.getD_some, Array.getElem_toList, Int.toNat_natCast]
  rfl

theorem sub_low {b : Int} (h0 : 0 ≤ b) (h : b < 48) : IntKind.u8.wrap (b - 48) = b + 208 := by
  simp [IntKind.wrap, IntKind.signed, IntKind.bits]; omega
theorem sub_high {b : Int} (h0 : 48 ≤ b) (h : b ≤ 255) : IntKind.u8.wrap (b - 48) = b - 48 := by
  simp [IntKind.wrap, IntKind.signed, IntKind.bits]; omega

set_option maxHeartbeats 400000 in
theorem model_any (s : ByteArray) (w : World) (hs : s.size ≤ maxLen) :
    Calls Yba.prog 6 #[.string s] w fun e w' => e = .returned (.bool (digB s)) ∧ w = w' := by
  unfold maxLen at hs
  by_cases h0 : s.size = 0
  · go_enter Yba.func6, Yba.ntmps6
    go_wp2
    go_ret
    exact ⟨ret_bool (digB_nil h0), rfl⟩
  · have hp : ((s.size : Int) == 0) = false := beq_eq_false_iff_ne.2 (by omega)
    go_enter Yba.func6, Yba.ntmps6
    go_wp2
    go_loop [3] (fun i => ∃ k : Nat, k ≤ s.size ∧ i = .int .i64 k ∧ Hid (∀ j, j < k → 48 ≤ byteAt s j ∧ byteAt s j ≤ 57)) (fun i => s.size - (intOf i).toNat)
    case atStart => exact ⟨0, Nat.zero_le _, rfl, fun j hj => by omega⟩
    case round =>
      obtain ⟨k, hk, rfl, HD⟩ := hrel
      by_cases hlt : k < s.size
      · have c := index_at s k hlt
        have hb := byte_bounds s k
        by_cases h1 : byteAt s k < 48
        · have HN := hide (digB_no hlt (Or.inl h1))
          have hsub := sub_low hb.1 h1
          have hgt : decide (9 < byteAt s k + 208) = true := by simp; omega
          generalize byteAt s k = b at *
          go_wp2
          go_ret
          exact ⟨ret_bool HN.out, rfl⟩
        · have hsub := sub_high (by omega) hb.2
          by_cases h2 : 57 < byteAt s k
          · have HN := hide (digB_no hlt (Or.inr h2))
            have hgt : decide (9 < byteAt s k - 48) = true := by simp; omega
            generalize byteAt s k = b at *
            go_wp2
            go_ret
            exact ⟨ret_bool HN.out, rfl⟩
          · have HS : Hid (∀ j, j < k + 1 → 48 ≤ byteAt s j ∧ byteAt s j ≤ 57) := fun j hj => by
              rcases Nat.lt_or_ge j k with h | h
              · exact HD.out j h
              · obtain rfl : j = k := by omega
                omega
            have hgt : decide (9 < byteAt s k - 48) = false := by simp; omega
            generalize byteAt s k = b at *
            go_wp2
            go_round
            case rel => exact ⟨k + 1, by omega, by go_num, HS⟩
            case measure => simp [intOf]; omega
      · have HY := hide (digB_yes (s := s) (by omega) (fun j hj => HD.out j (by omega)))
        go_wp2
        go_ret
        exact ⟨ret_bool HY.out, rfl⟩

theorem law_model (s : ByteArray) (w : World) (hs : s.size ≤ maxLen) :
    Calls Yba.prog 3 #[.string s] w fun e w' => e = .returned (.bool true) ∧ Below w.heap.size w w' := by
  go_enter Yba.func3, Yba.ntmps3
  go_wp2_with fail
  refine (digits_any s w hs).mono ?_
  rintro e w1 ⟨rfl, hb⟩
  have HB := hide hb
  clear hb
  go_wp2_with fail
  refine (model_any s _ hs).mono ?_
  rintro e w2 ⟨rfl, rfl⟩
  generalize digB s = b
  go_wp2
  go_ret
  exact ⟨by simp, HB.out⟩
end Go.Proofs.Ybulkdcms
