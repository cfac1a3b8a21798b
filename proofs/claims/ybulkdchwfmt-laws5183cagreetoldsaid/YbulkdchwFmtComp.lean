/-
  THE WALK of nas.checkComponents (function 12), FOR EVERY F: nil just if the slice is a sequence of whole components; nothing that was there has turned.
-/
import Derived.Test.YbulkdchwFmtErrorf
import Derived.Deep.QuietTactic
import Derived.BigQuiet
import Derived.WalkSmall
namespace Go.Proofs.YbulkdchwFmt
open Go.RowKit Go.Extern.Stop Go.Stop Go.Extern Plain

/-- WHAT THE LISTED MAP GIVES: variable 0 holds a map at block bm, and wherever that block stands as it stands in w a look-up answers as 'szN', 'okT' say. -/
def Tab (bm : Nat) (w : World) : Prop :=
  w.cell? ⟨0, 0, none⟩ = some (.map (some bm)) ∧ bm < w.heap.size ∧ 0 < w.heap.size ∧
  ∀ w' : World, w'.heap[bm]? = w.heap[bm]? → ∀ t : Int, 0 ≤ t → t ≤ 255 →
    (Instr.lookup 60 (.map (some bm)) (.int .u8 t) true).run Ybaf.prog w' = .ok (.tuple #[.int .i64 (szN t), .bool (okT t)]) w'

theorem Tab.below {bm : Nat} {w w' : World} (h : Tab bm w) (hb : Below w.heap.size w w') : Tab bm w' := by
  obtain ⟨h1, h2, h3, h4⟩ := h
  refine ⟨(hb.cell (p := ⟨0, 0, none⟩) h3).trans h1, Nat.lt_of_lt_of_le h2 hb.size, Nat.lt_of_lt_of_le h3 hb.size, fun w2 e => h4 w2 (e.trans (hb.block bm h2))⟩

theorem answers_below {F : Interp} {B : Nat} {w w' : World} (h : F.answers w.tape) (hb : Below B w w') : F.answers w'.tape := by
  rw [hb.tape]; exact h

theorem Tab.look {bm : Nat} {w : World} (h : Tab bm w) (w' : World) (e : w'.heap[bm]? = w.heap[bm]?) (t : Int) (h0 : 0 ≤ t) (h1 : t ≤ 255) :
    (Instr.lookup 60 (.map (some bm)) (.int .u8 t) true).run Ybaf.prog w' = .ok (.tuple #[.int .i64 (szN t), .bool (okT t)]) w' := h.2.2.2 w' e t h0 h1

def Ends (l : List Int) (w : World) (e : Ending) (w' : World) : Prop :=
  ((okAll l = true ∧ e = .returned .nilIface) ∨ (okAll l = false ∧ ∃ p, e = .returned (.iface 61 (.pointer (some p))))) ∧ Below w.heap.size w w'

theorem cell_newN (w : World) (m : Nat) (c : Array Value) (t : TypeId) (i : Nat) : ((w.drewN m).alloc (.cells c t)).cell? ⟨w.heap.size, i, none⟩ = c[i]? :=
  World.cell?_alloc_at _ _ _ _ rfl

theorem comp_nil (a : Option Addr) (cap : Nat) (w : World) :
    Calls Ybaf.prog 12 #[.slice a 0 cap] w (Ends [] w) := by
  go_enter Ybaf.func12, Ybaf.ntmps12
  go_wp2_with fail
  refine (errorf_0 _).mono ?_
  rintro e w' ⟨⟨p, rfl⟩, hb⟩
  go_wp2
  go_ret
  exact ⟨.inr ⟨rfl, p, rfl⟩, hb⟩

set_option maxHeartbeats 400000 in
theorem comp_any (F : Interp) (bm b off cap : Nat) (l : List Int) (w : World) (hF : F.answers w.tape) (hT : Tab bm w) (hm : l.length ≤ 1000000) (hp : 0 < l.length)
    (hy : ∀ i, i < l.length → 0 ≤ l.getD i 0 ∧ l.getD i 0 ≤ 255)
    (hc : ∀ i, i < l.length → w.cell? ⟨b, off + i, none⟩ = some (.int .u8 (l.getD i 0))) :
    Calls Ybaf.prog 12 #[.slice (some ⟨b, off, none⟩) l.length cap] w (Ends l w) := by
  have hall : okAll l = scan 0 (l.drop 0) := by cases l with | nil => simp at hp | cons x r => simp [okAll]
  obtain ⟨res, H0⟩ : ∃ r, Hid (scan 0 (l.drop 0) = r) := ⟨_, rfl⟩
  have hE : ∀ e w', (((res = true ∧ e = Ending.returned .nilIface) ∨ (res = false ∧ ∃ p, e = Ending.returned (.iface 61 (.pointer (some p))))) ∧ Below w.heap.size w w') → Ends l w e w' := by
    intro e w' h; unfold Ends; rw [hall, H0.out]; exact h
  have HE := hide hE
  clear hE hall
  have hne : ((l.length : Int) == 0) = false := beq_eq_false_iff_ne.2 (by omega)
  have hg := hT.1
  have HT := hide hT
  clear hT
  go_enter Ybaf.func12, Ybaf.ntmps12
  go_wp2
  go_loopw [3] (fun i wr => ∃ k n : Nat, k ≤ l.length ∧ i = .int .i64 k ∧ wr = w.drewN n ∧ Hid (scan 0 (l.drop k) = res)) (fun i _ => l.length - (intOf i).toNat)
  case atStart => exact ⟨0, 0, Nat.zero_le _, rfl, rfl, H0⟩
  case round =>
    obtain ⟨k, n, hk, rfl, rfl, HR⟩ := hrel
    by_cases hlt : k < l.length
    · have hcell := hc k hlt
      have hyk := hy k hlt
      have HN := fun h => scan_no l k hlt h
      have HS := fun h => scan_short l k hlt h
      have HX := fun h h' => scan_next l k hlt h h'
      clear hc hy
      generalize l.getD k 0 = t at *
      have HN' := hide HN
      have HS' := hide HS
      have HX' := hide HX
      clear HN HS HX
      obtain ⟨hy0, hy1⟩ := hyk
      have hsz := szN_le t
      have hrun : ∀ nq, (Instr.lookup 60 (.map (some bm)) (.int .u8 t) true).run Ybaf.prog (w.drewN nq) = .ok (.tuple #[.int .i64 (szN t), .bool (okT t)]) (w.drewN nq) := fun nq => Tab.look HT.out (w.drewN nq) (by rw [World.heap_drewN]) t hy0 hy1
      cases ho : okT t
      · go_wp2_with fail
        go_quiet (fail)
        go_wp2_with fail
        refine (errorf_1 F w.heap.size t _ (by exact hF) (by exact cell_newN _ _ _ _ _)).mono ?_
        rintro e w1 ⟨⟨p, rfl⟩, hb⟩
        go_wp2
        go_ret
        exact HE.out _ _ ⟨.inr ⟨by rw [← HR.out, HN'.out ho], p, rfl⟩, ((below_drewN (Below.refl _ w) (n + nq)).alloc (Nat.le_refl _) _).trans (hb.mono (by simp))⟩
      · by_cases hs : l.length < k + 1 + szN t
        · go_wp2_with fail
          go_quiet (fail)
          go_wp2_with fail
          refine (errorf_3 F w.heap.size t _ _ _ (by exact hF) (by exact cell_newN _ _ _ _ _) (by exact cell_newN _ _ _ _ _) (by exact cell_newN _ _ _ _ _)).mono ?_
          rintro e w1 ⟨⟨p, rfl⟩, hb⟩
          go_wp2
          go_ret
          exact HE.out _ _ ⟨.inr ⟨by rw [← HR.out, HS'.out hs], p, rfl⟩, ((below_drewN (Below.refl _ w) (n + nq)).alloc (Nat.le_refl _) _).trans (hb.mono (by simp))⟩
        · go_wp2_with fail
          go_quiet (fail)
          go_wp2
          go_roundw
          case rel => exact ⟨k + 1 + szN t, n + nq, by omega, by go_num, rfl, (HX'.out ho (by omega)).symm.trans HR.out⟩
          case measure => simp [intOf]; omega
    · go_wp2
      go_ret
      exact HE.out _ _ ⟨.inl ⟨by rw [← HR.out, scan_end l k (by omega)], rfl⟩, below_drewN (Below.refl _ _) _⟩

/-- THE SAME, the length under a name of its own; an empty slice too. -/
theorem comp_at (F : Interp) (bm b off cap len : Nat) (l : List Int) (w : World) (hl : l.length = len) (hF : F.answers w.tape) (hT : Tab bm w) (hm : len ≤ 1000000)
    (hy : ∀ i, i < len → 0 ≤ l.getD i 0 ∧ l.getD i 0 ≤ 255)
    (hc : ∀ i, i < len → w.cell? ⟨b, off + i, none⟩ = some (.int .u8 (l.getD i 0))) :
    Calls Ybaf.prog 12 #[.slice (some ⟨b, off, none⟩) len cap] w (Ends l w) := by
  subst hl
  cases l with
  | nil => exact comp_nil _ _ _
  | cons x r => exact comp_any F bm b off cap (x :: r) w hF hT hm (by simp) hy hc
end Go.Proofs.YbulkdchwFmt
