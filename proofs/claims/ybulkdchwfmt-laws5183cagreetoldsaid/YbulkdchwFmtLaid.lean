/-
  WHAT THE ROWS' LIST GIVES THE WALKS: nas.componentSizes holds a map whose look-ups answer as 'szN', 'okT' say ('Tab').
-/
import Derived.Test.YbulkdchwFmtComp
import Derived.Test.YbulkdchwFmtRows
import Derived.ProofKit
import Derived.LaidMore
import Derived.Maps.Keyed
import Derived.MakeChecks
namespace Go.Proofs.YbulkdchwFmt
open Go.ChangeShapes Go.WideShapes Go.ChangeAt Go.WideMaps Go.WideElems Go.RowKit Go.Maps Plain

theorem own : ownKnob Ybaf.prog.godebug = none := by kernel_rfl
theorem laidOut : laidOutB Ybaf.prog = true := by kernel_rfl
/-- The listed variable, by the name that the rows bear. -/
def nm : String := Rows.lawS5183CBuiltSpec.vars.headD ""
theorem gSizes : Ybaf.prog.globalNamed nm = some 0 := by kernel_rfl
theorem tSizes : (Ybaf.prog.globals[0]?).map (·.type) = some 60 := by kernel_rfl
theorem zero3 (w : World) : (zeroValue 3).run Ybaf.prog w = .ok (.int .i64 0) w := by kernel_rfl
theorem law5 : Keyed Ybaf.prog 5 := int_keyed Ybaf.underlying5

theorem at_key (t : Int) (z : DataW Unit) : (Rows.laid_example_com_bearerbench_bearerbench_nas_componentSizes : DataW Unit).atKey (.int .u8 t) z = if szN t = 0 then z else .lit (.int .i64 (szN t)) := by
  by_cases h1 : t = 16; · subst h1; rfl
  by_cases h2 : t = 17; · subst h2; rfl
  by_cases h3 : t = 32; · subst h3; rfl
  by_cases h4 : t = 33; · subst h4; rfl
  by_cases h5 : t = 35; · subst h5; rfl
  by_cases h6 : t = 48; · subst h6; rfl
  by_cases h7 : t = 64; · subst h7; rfl
  by_cases h8 : t = 65; · subst h8; rfl
  by_cases h9 : t = 80; · subst h9; rfl
  by_cases h10 : t = 81; · subst h10; rfl
  by_cases h11 : t = 96; · subst h11; rfl
  by_cases h12 : t = 112; · subst h12; rfl
  by_cases h13 : t = 128; · subst h13; rfl
  by_cases h14 : t = 129; · subst h14; rfl
  by_cases h15 : t = 130; · subst h15; rfl
  by_cases h16 : t = 131; · subst h16; rfl
  by_cases h17 : t = 132; · subst h17; rfl
  by_cases h18 : t = 133; · subst h18; rfl
  by_cases h19 : t = 134; · subst h19; rfl
  by_cases h20 : t = 135; · subst h20; rfl
  have hz : szN t = 0 := by simp [szN, *]
  rw [if_pos hz]
  unfold DataW.atKey Rows.laid_example_com_bearerbench_bearerbench_nas_componentSizes
  simp only
  rw [List.find?_eq_none.2]
  intro p hp
  simp only [List.mem_cons, List.not_mem_nil, or_false] at hp
  rcases hp with rfl | rfl | rfl | rfl | rfl | rfl | rfl | rfl | rfl | rfl | rfl | rfl | rfl | rfl | rfl | rfl | rfl | rfl | rfl | rfl <;> simp [Lit.sameKey] <;> omega


set_option maxRecDepth 100000 in
theorem of_laid {W : World} (h : laidMetH Ybaf.prog Rows.lawS5183CBuiltRow.laid W) : ∃ bm, Tab bm W := by
  rw [MakeChecks.laidMetH_plain _ _ _ (by kernel_rfl)] at h
  obtain ⟨ps, ⟨g0, t0, cs0, f0, p0, q0, hg0, ht0, hv0, hd0, _, _⟩, _, _⟩ := h
  obtain rfl := Option.some.inj (gSizes.symm.trans hg0)
  obtain rfl := Option.some.inj (tSizes.symm.trans ht0)
  rcases open_map Ybaf.underlying60 hd0 with ⟨_, hx⟩ | ⟨bm, es, clock, m, rfl, hcs, hb, _, F, hx⟩
  · simp [Rows.laid_example_com_bearerbench_bearerbench_nas_componentSizes] at hx
  simp only [Prod.mk.injEq] at hx
  have hcell : W.cell? ⟨0, 0, none⟩ = some (.map (some bm)) := by
    have := World.var?_cell hg0 hv0 0
    rw [Array.eq_one_of_toList hcs] at this
    simpa using this
  refine ⟨bm, hcell, ?_, ?_, fun w' e t h0 h1 => ?_⟩
  · rcases Nat.lt_or_ge bm W.heap.size with h | h
    · exact h
    · simp [Array.getElem?_eq_none h] at hb
  · rcases Nat.lt_or_ge 0 W.heap.size with h | h
    · exact h
    · simp [World.cell?, Array.getElem?_eq_none h] at hcell
  · have hb' := e.trans hb
    have hk := keyOf_int_mk (P := Ybaf.prog) (k := 5) Ybaf.underlying5 (a := t) (q := .u8) (WalkArith.wf_u8 (by omega))
    rcases fit_look true law5 Ybaf.underlying60 (zero3 w') hb' F hk with ⟨hrun, _, hat⟩ | ⟨e0, y, _, _, hrun, hRv, hat, _⟩
    · have := hat .nil
      rw [← hx.1, at_key] at this
      have hz : szN t = 0 := by
        by_cases hz : szN t = 0
        · exact hz
        · rw [if_neg hz] at this; cases this
      rw [hrun]
      simp [okT, hz]
    · obtain ⟨r, hr, rfl, _⟩ := elemAt_int Ybaf.underlying3 hRv
      have := hat .nil
      rw [← hx.1, at_key] at this
      have hz : szN t ≠ 0 := by
        intro hz
        rw [if_pos hz] at this; cases this
      rw [if_neg hz] at this
      simp only [DataW.lit.injEq, Lit.int.injEq, true_and] at this
      rw [hrun, hr]
      simp [okT, hz, this]
end Go.Proofs.YbulkdchwFmt
