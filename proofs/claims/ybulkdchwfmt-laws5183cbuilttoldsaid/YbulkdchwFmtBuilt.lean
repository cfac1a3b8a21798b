/-
  THE WALK of nas.LawS5183CBuilt (function 7), FOR EVERY F.
-/
import Derived.Test.YbulkdchwFmtComp
import Derived.Deep.WholeRow
namespace Go.Proofs.YbulkdchwFmt
open Go.RowKit Go.Extern.Stop Go.Stop Go.Extern Plain

theorem info5 : (Ybaf.prog.info? 5).map (fun i => (i.zero, i.size, i.bytes)) = some (some (.int .u8 0), 1, 1) := by kernel_rfl

def tysV : Array Value := #[.int .u8 16, .int .u8 17, .int .u8 32, .int .u8 33, .int .u8 35, .int .u8 48, .int .u8 64, .int .u8 65, .int .u8 80, .int .u8 81, .int .u8 96, .int .u8 112, .int .u8 128, .int .u8 129, .int .u8 130, .int .u8 131, .int .u8 132, .int .u8 133, .int .u8 134, .int .u8 135]
theorem tysV_size : (Ybaf.prog.info? 50).map (·.size) = some tysV.size := by kernel_rfl
theorem tysV_one : tysV.all (·.oneCell') = true := by kernel_rfl

theorem tysV_at (i : Nat) (h : i < 20) : tysV[i]? = some (.int .u8 (tys.getD i 0)) := by
  have e : tysV = (tys.map (Value.int .u8)).toArray := rfl
  have hl : tys.length = 20 := rfl
  rw [e, List.getElem?_toArray, List.getElem?_map, List.getD_eq_getElem?_getD, List.getElem?_eq_getElem (by omega)]
  rfl

/-- WHAT IS KNOWN WHEN THE LOOP BEGINS. -/
theorem start_facts {w w0 : World} (hg : (w.alloc (.cells tysV 50)).grownBy w0 none) :
    Below w.heap.size w w0 ∧ w.heap.size + 1 ≤ w0.heap.size ∧ ∀ p : Int, w0.cell? ⟨w.heap.size, (p % 20).toNat, none⟩ = some (.int .u8 (typ p)) := by
  have hb : Below (w.heap.size + 1) (w.alloc (.cells tysV 50)) w0 := (Below.refl _ _).grown hg (by simp) (fun k h => by cases h)
  refine ⟨((Below.refl _ w).alloc (Nat.le_refl _) _).trans (hb.mono (by omega)), by have := hb.size; simpa using this, fun p => ?_⟩
  have h0 : 0 ≤ p % 20 := Int.emod_nonneg _ (by decide)
  have h1 : p % 20 < 20 := Int.emod_lt_of_pos _ (by decide)
  rw [hb.cell (p := ⟨w.heap.size, (p % 20).toNat, none⟩) (by simp), World.cell?_alloc_at _ _ _ _ rfl, tysV_at _ (by omega)]
  rfl

theorem size_at (t : Int) (w : World) :
    Calls Ybaf.prog 14 #[.int .u8 t] w fun e w' => e = .returned (.tuple #[.int .i64 (szN t), .bool (okT t)]) ∧ w = w' :=
  (size_any t w).mono fun _ _ h => ⟨h.1, h.2.symm⟩

theorem cell_lt {w : World} {b o : Nat} {v : Value} (h : w.cell? ⟨b, o, none⟩ = some v) : b < w.heap.size := by
  rcases Nat.lt_or_ge b w.heap.size with h' | h'
  · exact h'
  · simp [World.cell?, Array.getElem?_eq_none h'] at h

/-- An append of one byte, behind the block that is laid for it: what stays as it was. -/
theorem below_app {B : Nat} {w0 wr w1 : World} {o : Obj} (h : Below (B + 1) w0 wr) (h0 : B + 1 ≤ w0.heap.size) (hg : (wr.alloc o).grownBy w1 (some (B + 1))) : Below (B + 1) w0 w1 := by
  have hs : B + 1 ≤ wr.heap.size := Nat.le_trans h0 h.size
  exact (h.alloc hs o).grown hg (by simp; omega) (fun k hk => by cases hk; exact Nat.le_refl _)

theorem row_snoc (xs : List Int) (t fill : Int) (j : Nat) : (xs ++ t :: List.replicate j fill).map (Value.int .u8) ++ [Value.int .u8 fill] = (xs ++ t :: List.replicate (j + 1) fill).map (Value.int .u8) := by
  simp [List.replicate_succ']

theorem dropLast_getD (xs : List Int) (i : Nat) (h : i < xs.length - 1) : xs.dropLast.getD i 0 = xs.getD i 0 := by
  rw [List.getD_eq_getElem?_getD, List.getD_eq_getElem?_getD, List.getElem?_dropLast, if_pos h]

theorem built_great (a : Option Addr) (cap len : Nat) (fill : Int) (w : World) (h : 1024 < len) (hm : len ≤ maxLen) :
    Calls Ybaf.prog 7 #[.slice a len cap, .int .u8 fill] w fun e w' => e = .returned (.bool true) ∧ Below w.heap.size w w' := by
  unfold maxLen at hm
  go_enter Ybaf.func7, Ybaf.ntmps7
  go_wp2
  go_ret
  exact ⟨rfl, Below.refl _ _⟩

set_option maxHeartbeats 400000 in
set_option maxRecDepth 100000 in
theorem built_any (F : Interp) (bm b off cap len : Nat) (l : List Int) (fill : Int) (w : World) (hF : F.answers w.tape) (hT : Tab bm w) (hp : 0 < len) (hm : len ≤ 1024) (hl : l.length = len)
    (hy : ∀ i, i < len → 0 ≤ l.getD i 0 ∧ l.getD i 0 ≤ 255) (hf0 : 0 ≤ fill) (hf1 : fill ≤ 255)
    (hc : ∀ i, i < len → w.cell? ⟨b, off + i, none⟩ = some (.int .u8 (l.getD i 0))) :
    Calls Ybaf.prog 7 #[.slice (some ⟨b, off, none⟩) len cap, .int .u8 fill] w fun e w' => e = .returned (.bool true) ∧ Below w.heap.size w w' := by
  obtain ⟨i0, hi, hz0, hz1, hz2⟩ := info_parts info5
  have hd : decide ((1024 : Int) < (len : Int)) = false := by simp; omega
  have HT := hide hT
  have HC := hide hc
  have HY := hide hy
  have HL := hide hl
  clear hT hc hy hl
  go_enter Ybaf.func7, Ybaf.ntmps7
  go_wp2_with (first
    | (refine wpList_store_row rfl 50 (.tmp 5) (.tmp 17) rfl w.heap.size tysV rfl rfl 50 _ (heap_alloc_last w _) tysV_size rfl tysV_one ?_; rw [World.setRow_alloc_new])
    | (at_make; refine wpList_make_own _ rfl _ _ 41 rfl (w.heap.size + 1) 5 i0 (.int .u8 0) 1 Ybaf.underlying41 hi hz0 hz1 _ _ _ (33 * len) rfl rfl (by omega) (by rw [hz2]; omega) (by unfold maxLen; omega) (by simp) ?_; intro w0 hown0 hgrow0))
  obtain ⟨hB, hB1, hty⟩ := start_facts hgrow0
  clear hgrow0
  have HTY := hide hty
  have HB := hide hB
  clear hty hB
  have hown1 : w0.ownsRow (w.heap.size + 1) 5 1 (.slice (some ⟨w.heap.size + 1, 0, none⟩) 0 (33 * len)) 0 (([] : List Int).map (Value.int .u8)) := by simpa using hown0
  clear hown0
  go_loopw [6, 24] (fun c i wr => ∃ (k n : Nat) (xs : List Int), k ≤ len ∧ i = .int .i64 k ∧ c = .slice (some ⟨w.heap.size + 1, 0, none⟩) n (33 * len) ∧ n ≤ 33 * k ∧ Hid (xs = built fill ((l.take k).map typ) ∧ xs.length = n) ∧
      wr.ownsRow (w.heap.size + 1) 5 1 (.slice (some ⟨w.heap.size + 1, 0, none⟩) n (33 * len)) n (xs.map (Value.int .u8)) ∧ Below (w.heap.size + 1) w0 wr) (fun _ i _ => len - (intOf i).toNat)
  case atStart => exact ⟨0, 0, [], Nat.zero_le _, rfl, rfl, Nat.le_refl _, ⟨by simp [built], rfl⟩, hown1, Below.refl _ _⟩
  case round =>
    obtain ⟨k, n, xs, hk, rfl, rfl, hn, HX, hown, hbel⟩ := hrel
    by_cases hlt : k < len
    · have hcell : wr.cell? ⟨b, off + k, none⟩ = some (.int .u8 (l.getD k 0)) := by
        have hbB := cell_lt (HC.out k hlt)
        exact (hbel.cell (p := ⟨b, off + k, none⟩) (by show b < _; omega)).trans ((HB.out.cell (p := ⟨b, off + k, none⟩) hbB).trans (HC.out k hlt))
      obtain ⟨hp0, hp1⟩ := HY.out k hlt
      have hcell2 : wr.cell? ⟨w.heap.size, (l.getD k 0 % 20).toNat, none⟩ = some (.int .u8 (typ (l.getD k 0))) := (hbel.cell (p := ⟨w.heap.size, (l.getD k 0 % 20).toNat, none⟩) (by show w.heap.size < _; omega)).trans (HTY.out _)
      have HST := hide (fun h => built_step fill l k (by rw [HL.out]; exact hlt) xs h)
      generalize l.getD k 0 = p at *
      have ht := typ_byte p
      have HO := hide (typ_ok p)
      generalize typ p = t at *
      obtain ⟨ht0, ht1⟩ := ht
      have hs := szN_le t
      go_wp2_with (first
        | (go_at_call 14; refine (size_at _ _).mono ?_; rintro e w' ⟨rfl, rfl⟩)
        | (at_builtin; refine wpList_append_fits _ rfl (.tmp 38) (.tmp 40) 41 rfl (w.heap.size + 1) 5 i0 1 Ybaf.underlying41 hi hz1 (w.heap.size + 1) n (33 * len) _ rfl (hown.alloc _) ⟨wr.heap.size, 0, none⟩ 1 1 [.int .u8 t] rfl rfl (cell_one_new _ _ _) (by intro u hu; simp at hu; subst hu; rfl) (by omega) ?_; intro w1 hown2 hgrow1))
      have hbel1 := below_app hbel hB1 hgrow1
      have hown3 : w1.ownsRow (w.heap.size + 1) 5 1 (.slice (some ⟨w.heap.size + 1, 0, none⟩) (n + 1 + 0) (33 * len)) (n + 1 + 0) ((xs ++ t :: List.replicate 0 fill).map (Value.int .u8)) := by simpa using hown2
      clear hown hown2 hgrow1 hbel hcell hcell2
      go_loopw [6, 12] (fun c i wi => ∃ j : Nat, j ≤ szN t ∧ i = .int .i64 j ∧ c = .slice (some ⟨w.heap.size + 1, 0, none⟩) (n + 1 + j) (33 * len) ∧
          wi.ownsRow (w.heap.size + 1) 5 1 (.slice (some ⟨w.heap.size + 1, 0, none⟩) (n + 1 + j) (33 * len)) (n + 1 + j) ((xs ++ t :: List.replicate j fill).map (Value.int .u8)) ∧ Below (w.heap.size + 1) w0 wi) (fun _ i _ => szN t - (intOf i).toNat)
      case atStart => exact ⟨0, Nat.zero_le _, rfl, rfl, hown3, hbel1⟩
      case round =>
        obtain ⟨j, hj, rfl, rfl, hown, hbel⟩ := hrel
        by_cases hjt : j < szN t
        · go_wp2_with (at_builtin; refine wpList_append_fits _ rfl (.tmp 47) (.tmp 49) 41 rfl (w.heap.size + 1) 5 i0 1 Ybaf.underlying41 hi hz1 (w.heap.size + 1) (n + 1 + j) (33 * len) _ rfl (hown.alloc _) ⟨wr.heap.size, 0, none⟩ 1 1 [.int .u8 fill] rfl rfl (cell_one_new _ _ _) (by intro u hu; simp at hu; subst hu; rfl) (by omega) ?_; intro w2 hown2 hgrow2)
          have hbel2 := below_app hbel hB1 hgrow2
          rw [row_snoc] at hown2
          clear hown hgrow2 hbel
          go_roundw
          case rel => exact ⟨j + 1, by omega, by go_num, rfl, hown2, hbel2⟩
          case measure => simp [intOf]; omega
        · obtain rfl : j = szN t := by omega
          go_wp2
          go_roundw
          case rel => exact ⟨k + 1, n + 1 + szN t, xs ++ blk fill t, by omega, by go_num, rfl, by omega, ⟨HST.out HX.out.1, by rw [List.length_append, blk_length, HX.out.2]; omega⟩, hown, hbel⟩
          case measure => simp [intOf]; omega
    · have HXS : Hid (xs = built fill (l.map typ)) := by
        have := HX.out.1
        rw [List.take_of_length_le (by have := HL.out; omega)] at this
        exact this
      have hl0 : 0 < l.length := by rw [HL.out]; exact hp
      have HOK : Hid (okAll xs = true) := by rw [HXS.out]; exact built_ok fill l hl0
      have HCUT : Hid (okAll xs.dropLast = false) := by rw [HXS.out]; exact built_cut fill l hl0
      have hn2 : 2 ≤ n := by have := built_two fill l hl0; rw [← HXS.out, HX.out.2] at this; exact this
      have hne : ((len : Int) == 0) = false := beq_eq_false_iff_ne.2 (by omega)
      have HYX : Hid (∀ x ∈ xs, 0 ≤ x ∧ x ≤ 255) := fun x hx => built_bytes fill l hf0 hf1 x (by rw [← HXS.out]; exact hx)
      have HCX : Hid (∀ i, i < n → wr.cell? ⟨w.heap.size + 1, 0 + i, none⟩ = some (.int .u8 (xs.getD i 0))) := by
        intro i hi
        rw [Nat.zero_add, hown.cellAt i (by omega), List.getElem?_map, List.getD_eq_getElem?_getD, List.getElem?_eq_getElem (by rw [HX.out.2]; exact hi)]
        rfl
      have HBW : Hid (Below w.heap.size w wr) := HB.out.trans (hbel.mono (by omega))
      clear hown hown1
      go_wp2_with fail
      refine (comp_at F bm (w.heap.size + 1) 0 (33 * len) n xs wr HX.out.2 (answers_below hF HBW.out) (HT.out.below HBW.out) (by omega) (fun i hi => HYX.out _ (getD_mem xs i (by rw [HX.out.2]; exact hi))) HCX.out).mono ?_
      rintro e w2 ⟨⟨_, rfl⟩ | ⟨hno, _⟩, hb2⟩
      · have HB2 := hide hb2
        clear hb2
        have hlt1 : w.heap.size + 1 < wr.heap.size := cell_lt (HCX.out 0 (by omega))
        have HBW2 : Hid (Below w.heap.size w w2) := HBW.out.trans (HB2.out.mono (by omega))
        go_wp2_with fail
        refine (comp_at F bm (w.heap.size + 1) 0 (33 * len) (n - 1) xs.dropLast w2 (by rw [List.length_dropLast, HX.out.2]) (answers_below hF HBW2.out) (HT.out.below HBW2.out) (by omega)
          (fun i hi => by rw [dropLast_getD xs i (by rw [HX.out.2]; omega)]; exact HYX.out _ (getD_mem xs i (by rw [HX.out.2]; omega)))
          (fun i hi => by rw [dropLast_getD xs i (by rw [HX.out.2]; omega)]; exact (HB2.out.cell (p := ⟨w.heap.size + 1, 0 + i, none⟩) hlt1).trans (HCX.out i (by omega)))).mono ?_
        rintro e w3 ⟨⟨hyes, _⟩ | ⟨_, p, rfl⟩, hb3⟩
        · exact absurd (hyes.symm.trans HCUT.out) (by decide)
        · have HB3 := hide hb3
          clear hb3
          go_wp2
          go_ret
          exact ⟨rfl, HBW2.out.trans (HB3.out.mono HBW2.out.size)⟩
      · exact absurd (HOK.out.symm.trans hno) (by decide)

set_option maxHeartbeats 400000 in
set_option maxRecDepth 100000 in
theorem built_zero (a : Option Addr) (cap : Nat) (fill : Int) (w : World) :
    Calls Ybaf.prog 7 #[.slice a 0 cap, .int .u8 fill] w fun e w' => e = .returned (.bool true) ∧ Below w.heap.size w w' := by
  obtain ⟨i0, hi, hz0, hz1, hz2⟩ := info_parts info5
  go_enter Ybaf.func7, Ybaf.ntmps7
  go_wp2_with (first
    | (refine wpList_store_row rfl 50 (.tmp 5) (.tmp 17) rfl w.heap.size tysV rfl rfl 50 _ (heap_alloc_last w _) tysV_size rfl tysV_one ?_; rw [World.setRow_alloc_new])
    | (at_make; refine wpList_make_own _ rfl _ _ 41 rfl (w.heap.size + 1) 5 i0 (.int .u8 0) 1 Ybaf.underlying41 hi hz0 hz1 _ _ _ 0 rfl rfl (by rfl) (by rw [hz2]; omega) (by unfold maxLen; omega) (by simp) ?_; intro w0 hown0 hgrow0))
  obtain ⟨hB, hB1, hty⟩ := start_facts hgrow0
  clear hgrow0 hty hown0
  have HB := hide hB
  clear hB
  refine wp_loop_rounds 1 ?_
  rw [rounds_succ]
  go_wp2_with fail
  refine (comp_nil _ _ _).mono ?_
  rintro e w2 ⟨⟨hyes, _⟩ | ⟨_, p, rfl⟩, hb2⟩
  · exact absurd hyes (by decide)
  · have HB2 := hide hb2
    clear hb2
    go_wp2
    go_ret
    exact ⟨rfl, HB.out.trans (HB2.out.mono HB.out.size)⟩
end Go.Proofs.YbulkdchwFmt
