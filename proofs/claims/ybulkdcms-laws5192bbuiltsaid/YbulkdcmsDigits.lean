/-
  THE WALKS of decimal.digits (5) and decimal.zzs5192bmodel (6): each computes 'digB'.
-/
import Derived.Test.YbulkdcmsProg
import Derived.WalkKit
import Derived.WalkSpells
import Derived.WalkSmall
import Derived.Laws.IdiomStrings
import Derived.Laws.BytesArg
namespace Go.Proofs.Ybulkdcms
open Go.RowKit
set_option linter.unusedVariables false

theorem hide {p : Prop} (h : p) : Hid p := h

/-- The byte at place j, a number. -/
def byteAt (s : ByteArray) (j : Nat) : Int := ((s.data.toList.getD j 0).toNat : Int)

theorem byte_bounds (s : ByteArray) (j : Nat) : 0 ≤ byteAt s j ∧ byteAt s j ≤ 255 := by
  unfold byteAt
  have := (s.data.toList.getD j 0).toNat_lt
  omega

/-- Not empty, and each byte is a digit. -/
def digB (s : ByteArray) : Bool := decide (0 < s.size ∧ ∀ j, j < s.size → 48 ≤ byteAt s j ∧ byteAt s j ≤ 57)

theorem digB_yes {s : ByteArray} (h0 : 0 < s.size) (h : ∀ j, j < s.size → 48 ≤ byteAt s j ∧ byteAt s j ≤ 57) : true = digB s := (decide_eq_true ⟨h0, h⟩).symm
theorem digB_no {s : ByteArray} {j : Nat} (hj : j < s.size) (h : byteAt s j < 48 ∨ 57 < byteAt s j) : false = digB s :=
  (decide_eq_false (fun ⟨_, k⟩ => by have := k j hj; omega)).symm
theorem digB_nil {s : ByteArray} (h : s.size = 0) : false = digB s := (decide_eq_false (fun ⟨k, _⟩ => by omega)).symm

theorem ret_bool {a b : Bool} (h : a = b) : Ending.returned (.bool a) = .returned (.bool b) := by rw [h]

/-- '[]byte(s)': a new row that holds the bytes. -/
theorem bytes_of (s : ByteArray) (w : World) : ∃ cap w1, (convert 9 23 (.string s)).run Yba.prog w = .ok (.slice (some ⟨w.heap.size, 0, none⟩) s.size cap) w1 ∧
    (∀ j, j < s.size → w1.cell? ⟨w.heap.size, j, none⟩ = some (.int .u8 (byteAt s j))) ∧ Below w.heap.size w w1 := by
  refine ⟨_, _, run_bytes_of_string (P := Yba.prog) w 9 23 5 s Yba.underlying9 Yba.underlying23 Yba.underlying5, fun j hj => ?_, (Below.refl _ w).drew.alloc (by simp) _⟩
  have e : w.heap.size = w.drew.heap.size := rfl
  rw [e, World.cell?_alloc_mark, bytesRow_at s _ j hj]
  have hl : j < s.data.toList.length := by simpa using hj
  simp only [byteAt, List.getD_eq_getElem?_getD, List.getElem?_eq_getElem hl, Option.getD_some, Array.getElem_toList]

theorem empty_of {s : ByteArray} (h : s.size = 0) : s.toList.isEmpty = true := by
  rw [ByteArray.toList_eq]
  have : s.data.toList.length = 0 := by simpa using h
  rw [List.length_eq_zero_iff.1 this]
  rfl
theorem empty_not {s : ByteArray} (h : 0 < s.size) : s.toList.isEmpty = false := by
  rw [ByteArray.toList_eq]
  have : 0 < s.data.toList.length := by simpa using h
  cases hs : s.data.toList with
  | nil => rw [hs] at this; simp at this
  | cons a l => rfl

set_option maxHeartbeats 400000 in
theorem digits_any (s : ByteArray) (w : World) (hs : s.size ≤ maxLen) :
    Calls Yba.prog 5 #[.string s] w fun e w' => e = .returned (.bool (digB s)) ∧ Below w.heap.size w w' := by
  unfold maxLen at hs
  by_cases h0 : s.size = 0
  · have he := empty_of h0
    go_enter Yba.func5, Yba.ntmps5
    go_wp2
    go_ret
    exact ⟨ret_bool (digB_nil h0), Below.refl _ _⟩
  · have he := empty_not (s := s) (by omega)
    obtain ⟨cap, w1, hcv, hcell, hbel⟩ := bytes_of s w
    have HC := hide hcell
    have HB := hide hbel
    clear hcell hbel
    go_enter Yba.func5, Yba.ntmps5
    go_wp2
    go_loop [10] (fun i => ∃ k : Nat, k ≤ s.size ∧ i = .int .i64 k ∧ Hid (∀ j, j < k → 48 ≤ byteAt s j ∧ byteAt s j ≤ 57)) (fun i => s.size - (intOf i).toNat)
    case atStart => exact ⟨0, Nat.zero_le _, rfl, fun j hj => by omega⟩
    case round =>
      obtain ⟨k, hk, rfl, HD⟩ := hrel
      by_cases hlt : k < s.size
      · have c := HC.out k hlt
        have hb := byte_bounds s k
        by_cases h1 : byteAt s k < 48
        · have HN := hide (digB_no hlt (Or.inl h1))
          generalize byteAt s k = b at *
          clear hcv
          go_wp2
          go_ret
          exact ⟨ret_bool HN.out, HB.out⟩
        · by_cases h2 : 57 < byteAt s k
          · have HN := hide (digB_no hlt (Or.inr h2))
            generalize byteAt s k = b at *
            clear hcv
            go_wp2
            go_ret
            exact ⟨ret_bool HN.out, HB.out⟩
          · have HS : Hid (∀ j, j < k + 1 → 48 ≤ byteAt s j ∧ byteAt s j ≤ 57) := fun j hj => by
              rcases Nat.lt_or_ge j k with h | h
              · exact HD.out j h
              · obtain rfl : j = k := by omega
                omega
            generalize byteAt s k = b at *
            clear hcv
            go_wp2
            go_round
            case rel => exact ⟨k + 1, by omega, by go_num, HS⟩
            case measure => simp [intOf]; omega
      · have HY := hide (digB_yes (s := s) (by omega) (fun j hj => HD.out j (by omega)))
        go_wp2
        go_ret
        exact ⟨ret_bool HY.out, HB.out⟩
end Go.Proofs.Ybulkdcms
