/-
  THE QUEUE's MAP: what it holds is never asked; that it stays a map whose keys are ints and whose stamps are in order is: no operation on it then fails.
-/
import Derived.Test.YbulkdciyQueue
import Derived.ChangeMaps5
import Derived.WideKeyEntry
namespace Go.Proofs.Ybulkdciy
open Go.RowKit Go.Maps
open Go.ChangeMaps (setBlock heap_setBlock_same heap_setBlock_other)
set_option linter.unusedVariables false

def Good (es : Array MapEntry) (clock : Nat) : Prop :=
  (∀ e ∈ es.toList, ∃ l, keyOf Yba.prog 3 e.key = some l) ∧ (∀ e ∈ es.toList, e.born < clock) ∧ (es.toList.map (·.born)).Nodup
def MapOK (w : World) (mb : Nat) : Prop := ∃ es clock, w.heap[mb]? = some (.map es clock) ∧ Good es clock

theorem law3 : Keyed Yba.prog 3 := int_keyed Yba.underlying3

theorem Turn.setBlock {w : World} {b : Nat} {es : Array MapEntry} {clock : Nat} (hb : w.heap[b]? = some (.map es clock)) (o : Obj) : Turn w (setBlock w b o) [b] :=
  ⟨rfl, rfl, rfl, by simp [ChangeMaps.setBlock], fun k _ hn => heap_setBlock_other hb o (by simpa using hn)⟩

/-- An entry of that stamp is there. -/
def Stamp (w : World) (mb st : Nat) : Prop := ∃ es clock, w.heap[mb]? = some (.map es clock) ∧ Good es clock ∧ ∃ e ∈ es.toList, e.born = st

theorem map_entry {w : World} {mb : Nat} (h : MapOK w mb) {p : Int} (hp : (Lit.int .i64 p).wf = true) :
    ∃ (v0 : Value) (st : Nat) (w1 : World), (Instr.mapEntry 30 (.map (some mb)) (.int .i64 p)).run Yba.prog w = .ok (.tuple #[v0, goInt st]) w1 ∧ Stamp w1 mb st ∧ Turn w w1 [mb] := by
  obtain ⟨es, clock, hb, hk, hs, hn⟩ := h
  have hkey := keyOf_int_mk (P := Yba.prog) (k := 3) Yba.underlying3 hp
  rcases law3.find w hkey es.toList hk with ⟨h1, h2⟩ | ⟨j, e0, h1, h2, h3⟩
  · refine ⟨.int .i64 0, clock, setBlock w mb (.map (es.push ⟨.int .i64 p, .int .i64 0, clock⟩) (clock + 1)), ?_, ⟨_, _, heap_setBlock_same hb _, ⟨?_, ?_, ?_⟩, ⟨⟨.int .i64 p, .int .i64 0, clock⟩, by simp, rfl⟩⟩, Turn.setBlock hb _⟩
    · simp [Instr.mapEntry, run_underlying Yba.underlying30, MapKept.run_getObj_map hb, law3.check w false hkey, h1, MapKept.run_setObj_map _ hb, Result.andThen, ChangeMaps.setBlock]
    · intro e he
      simp only [Array.toList_push, List.mem_append, List.mem_singleton] at he
      rcases he with he | rfl
      · exact hk e he
      · exact ⟨_, hkey⟩
    · intro e he
      simp only [Array.toList_push, List.mem_append, List.mem_singleton] at he
      rcases he with he | rfl
      · exact Nat.lt_succ_of_lt (hs e he)
      · exact Nat.lt_succ_self _
    · simp only [Array.toList_push, List.map_append, List.map_cons, List.map_nil]
      refine List.nodup_append.2 ⟨hn, by simp, fun a ha c hc e1 => ?_⟩
      simp only [List.mem_singleton] at hc
      obtain ⟨x, hx, rfl⟩ := List.mem_map.1 ha
      have := hs x hx
      omega
  · have hj : es[j]? = some e0 := by simpa using h2
    have hsame : es.modify j (fun e => { e with key := .int .i64 p }) = es := by
      apply Array.ext'
      rw [Array.toList_modify]
      apply List.ext_getElem?
      intro i
      rw [List.getElem?_modify]
      by_cases hij : j = i
      · subst hij
        rw [h2]
        simp [← h3]
      · simp [hij]
    refine ⟨e0.val, e0.born, setBlock w mb (.map es clock), ?_, ⟨_, _, heap_setBlock_same hb _, ⟨hk, hs, hn⟩, e0, List.mem_of_getElem? h2, rfl⟩, Turn.setBlock hb _⟩
    simp [Instr.mapEntry, run_underlying Yba.underlying30, MapKept.run_getObj_map hb, law3.check w false hkey, h1, hj, h3, law3.stays w hkey, hsame, MapKept.run_setObj_map _ hb, Result.andThen, ChangeMaps.setBlock]

theorem entry_store {w : World} {mb st : Nat} (h : Stamp w mb st) (val : Value) :
    ∃ w1, (Instr.entryStore 30 (.map (some mb)) (goInt st) val).run Yba.prog w = .ok () w1 ∧ MapOK w1 mb ∧ Turn w w1 [mb] := by
  obtain ⟨es, clock, hb, ⟨hk, hs, hn⟩, e0, he0, rfl⟩ := h
  obtain ⟨j, hj⟩ := List.getElem?_of_mem he0
  have hidx : es.findIdx? (fun e => ((e.born : Nat) : Int) == ((e0.born : Nat) : Int)) = some j := by
    rw [WideElems.findIdx_arr]
    exact WideElems.findIdx_born hn hj
  have hkb : ∀ i : Nat, ((es.modify j fun e : MapEntry => { e with val := val }).toList[i]?).map (fun e : MapEntry => (e.key, e.born)) = (es.toList[i]?).map (fun e : MapEntry => (e.key, e.born)) := by
    intro i
    rw [Array.toList_modify, List.getElem?_modify]
    cases es.toList[i]? with
    | none => simp
    | some x => by_cases hij : j = i <;> simp [hij]
  have hmem : ∀ e ∈ (es.modify j fun e : MapEntry => { e with val := val }).toList, ∃ e' ∈ es.toList, e.key = e'.key ∧ e.born = e'.born := by
    intro e he
    obtain ⟨i, hi⟩ := List.getElem?_of_mem he
    have := hkb i
    rw [hi] at this
    cases hx : es.toList[i]? with
    | none => rw [hx] at this; simp at this
    | some e' =>
      rw [hx] at this
      simp only [Option.map_some, Option.some.injEq, Prod.mk.injEq] at this
      exact ⟨e', List.mem_of_getElem? hx, this.1, this.2⟩
  refine ⟨setBlock w mb (.map (es.modify j fun e : MapEntry => { e with val := val }) clock), ?_, ⟨_, _, heap_setBlock_same hb _, ?_, ?_, ?_⟩, Turn.setBlock hb _⟩
  · simp [Instr.entryStore, MapKept.run_getObj_map hb, asInt, asIntOf, goInt, hidx, MapKept.run_setObj_map _ hb, Result.andThen, ChangeMaps.setBlock]
  · intro e he
    obtain ⟨e', he', h1, _⟩ := hmem e he
    rw [h1]; exact hk e' he'
  · intro e he
    obtain ⟨e', he', _, h2⟩ := hmem e he
    rw [h2]; exact hs e' he'
  · have : (es.modify j fun e : MapEntry => { e with val := val }).toList.map (·.born) = es.toList.map (·.born) := by
      apply List.ext_getElem?
      intro i
      have := hkb i
      rw [List.getElem?_map, List.getElem?_map]
      have h2 := congrArg (Option.map Prod.snd) this
      simpa [Option.map_map, Function.comp_def] using h2
    rw [this]; exact hn

theorem map_delete {w : World} {mb : Nat} (h : MapOK w mb) {p : Int} (hp : (Lit.int .i64 p).wf = true) (ty : TypeId) :
    ∃ w1, (Builtin.delete_ #[30, 3] ty #[.map (some mb), .int .i64 p]).run Yba.prog w = .ok (.tuple #[]) w1 ∧ MapOK w1 mb ∧ Turn w w1 [mb] := by
  obtain ⟨es, clock, hb, hk, hs, hn⟩ := h
  have hkey := keyOf_int_mk (P := Yba.prog) (k := 3) Yba.underlying3 hp
  rcases law3.find w hkey es.toList hk with ⟨h1, h2⟩ | ⟨j, e0, h1, h2, h3⟩
  · refine ⟨setBlock w mb (.map es clock), ?_, ⟨_, _, heap_setBlock_same hb _, hk, hs, hn⟩, Turn.setBlock hb _⟩
    simp [Builtin.delete_, run_underlying Yba.underlying30, MapKept.run_getObj_map hb, law3.check w _ hkey, h1, MapKept.run_setObj_map _ hb, Result.andThen, ChangeMaps.setBlock]
  · have hsub : (es.eraseIdxIfInBounds j).toList = es.toList.eraseIdx j := by simp
    refine ⟨setBlock w mb (.map (es.eraseIdxIfInBounds j) clock), ?_, ⟨_, _, heap_setBlock_same hb _, ?_, ?_, ?_⟩, Turn.setBlock hb _⟩
    · simp [Builtin.delete_, run_underlying Yba.underlying30, MapKept.run_getObj_map hb, law3.check w _ hkey, h1, MapKept.run_setObj_map _ hb, Result.andThen, ChangeMaps.setBlock]
    · intro e he
      rw [hsub] at he
      exact hk e ((List.eraseIdx_sublist _ _).subset he)
    · intro e he
      rw [hsub] at he
      exact hs e ((List.eraseIdx_sublist _ _).subset he)
    · rw [hsub]
      exact hn.sublist ((List.eraseIdx_sublist _ _).map _)

/-- A map as the build leaves it. -/
theorem mapOK_of_own {w : World} {mb M : Nat} {D : DataW Unit} (h : w.ownsMap Yba.prog 3 (plainElem Yba.prog 3) mb M D) : MapOK w mb := by
  obtain ⟨es, clock, hb, F, _, _⟩ := h
  obtain ⟨s1, s2, _⟩ := F.stamped
  refine ⟨es, clock, hb, fun e he => ?_, s1, s2⟩
  obtain ⟨y, hy⟩ := F.reads e he
  exact ⟨_, WideElems.rd_key hy⟩
end Go.Proofs.Ybulkdciy
