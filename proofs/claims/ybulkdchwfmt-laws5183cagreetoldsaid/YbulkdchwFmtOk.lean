/-
  THE WALK of nas.zzs5183cok (function 13).
-/
import Derived.Test.YbulkdchwFmtSize
namespace Go.Proofs.YbulkdchwFmt
open Go.RowKit Plain

theorem ret_bool {a b : Bool} (h : a = b) : Ending.returned (.bool a) = .returned (.bool b) := by rw [h]

theorem hide {p : Prop} (h : p) : Hid p := h

theorem ok_nil (a : Option Addr) (cap : Nat) (w : World) :
    Calls Ybaf.prog 13 #[.slice a 0 cap] w fun e w' => e = .returned (.bool (okAll [])) ∧ w' = w := by
  go_enter Ybaf.func13, Ybaf.ntmps13
  go_wp2
  go_ret
  exact ⟨rfl, rfl⟩

set_option maxHeartbeats 400000 in
theorem ok_any (b off cap : Nat) (l : List Int) (w : World) (hm : l.length ≤ 1000000) (hp : 0 < l.length)
    (hc : ∀ i, i < l.length → w.cell? ⟨b, off + i, none⟩ = some (.int .u8 (l.getD i 0))) :
    Calls Ybaf.prog 13 #[.slice (some ⟨b, off, none⟩) l.length cap] w fun e w' => e = .returned (.bool (okAll l)) ∧ w' = w := by
  have hall : okAll l = scan 0 (l.drop 0) := by cases l with | nil => simp at hp | cons x r => simp [okAll]
  obtain ⟨res, H0⟩ : ∃ r, Hid (scan 0 (l.drop 0) = r) := ⟨_, rfl⟩
  rw [hall, H0.out]
  clear hall
  have hne : ((l.length : Int) == 0) = false := beq_eq_false_iff_ne.2 (by omega)
  go_enter Ybaf.func13, Ybaf.ntmps13
  go_wp2
  go_loop [3] (fun i => ∃ k : Nat, k ≤ l.length ∧ i = .int .i64 k ∧ Hid (scan 0 (l.drop k) = res)) (fun i => l.length - (intOf i).toNat)
  case atStart => exact ⟨0, Nat.zero_le _, rfl, H0⟩
  case round =>
    obtain ⟨k, hk, rfl, HR⟩ := hrel
    by_cases hlt : k < l.length
    · have hcell := hc k hlt
      have HN := fun h => scan_no l k hlt h
      have HS := fun h => scan_short l k hlt h
      have HX := fun h h' => scan_next l k hlt h h'
      clear hc
      generalize l.getD k 0 = t at *
      have HN' := hide HN
      have HS' := hide HS
      have HX' := hide HX
      clear HN HS HX
      have hsz := szN_le t
      cases ho : okT t
      · go_wp2_with (go_at_call 14; refine (size_any _ _).mono ?_; rintro e w' ⟨rfl, rfl⟩)
        go_ret
        exact ⟨ret_bool (by rw [← HR.out, HN'.out ho]), rfl⟩
      · by_cases hs : l.length < k + 1 + szN t
        · go_wp2_with (go_at_call 14; refine (size_any _ _).mono ?_; rintro e w' ⟨rfl, rfl⟩)
          go_ret
          exact ⟨ret_bool (by rw [← HR.out, HS'.out hs]), rfl⟩
        · go_wp2_with (go_at_call 14; refine (size_any _ _).mono ?_; rintro e w' ⟨rfl, rfl⟩)
          go_round
          case rel => exact ⟨k + 1 + szN t, by omega, by go_num, (HX'.out ho (by omega)).symm.trans HR.out⟩
          case measure => simp [intOf]; omega
    · go_wp2
      go_ret
      exact ⟨ret_bool (by rw [← HR.out, scan_end l k (by omega)]), rfl⟩
end Go.Proofs.YbulkdchwFmt
