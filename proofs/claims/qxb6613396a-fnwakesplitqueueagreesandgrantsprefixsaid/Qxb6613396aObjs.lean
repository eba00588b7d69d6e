/- the map of objects, keyed by a struct -/
import Derived.Test.Qxb6613396aMaps
import Derived.Laws.StructEq
namespace Go.Proofs.Qxb6613396a
open Go.RowKit
open Go.ChangeMaps (setBlock)
set_option linter.unusedVariables false

/-- the object's key -/
def Ky (sp : Int) (id : ByteArray) : Value := .agg #[.int .i64 sp, .string id]

theorem run_checkKey28 (w : World) (b : Bool) (sp : Int) (id : ByteArray) : (Instr.checkKey b 10000 28 (Ky sp id)).run Try.prog w = .ok () w := by kernel_rfl

theorem Try.fields28 : Try.prog.underlying 28 = some (.struct (Try.prog.fieldsOf 28)) := by kernel_rfl
theorem Try.stood28 : Try.prog.stoodInHeld 28 = false := by kernel_rfl

theorem run_equal28 (w : World) (sp : Int) (id : ByteArray) : (Op.equal 28 (Ky sp id) (Ky sp id)).run Try.prog w = .ok true w := by
  show (Op.equalIn 10000 28 (.agg #[.int .i64 sp, .string id]) (.agg #[.int .i64 sp, .string id])).run Try.prog w = _
  rw [run_equalIn_struct w 9999 28 _ _ Try.fields28 Try.stood28]
  simp [go_sem, Try.underlying28]

/-- the map of objects holds the key (at object x), or nothing -/
def ObAt (w : World) (r : Nat) (sp : Int) (id : ByteArray) (x : Option Nat) : Prop :=
  ∃ clk, (x = none ∧ w.heap[r]? = some (.map #[] clk)) ∨ (∃ O b, x = some O ∧ w.heap[r]? = some (.map #[{ key := Ky sp id, val := .pointer (some ⟨O, 0, none⟩), born := b }] clk))

theorem Try.kind28 (w : World) (sp : Int) (id : ByteArray) (e : MapEntry) : Instr.findNow (.struct (Try.prog.fieldsOf 28)) (Ky sp id) [e] 0 = none := rfl

theorem run_findKey28_nil (w : World) (k : Value) : (Instr.findKey 28 k []).run Try.prog w = .ok none w := by
  simp [Instr.findKey, run_underlying Try.fields28, Instr.findNow]
theorem run_findKey28_one (w : World) (sp : Int) (id : ByteArray) (v : Value) (b : Nat) : (Instr.findKey 28 (Ky sp id) [{ key := Ky sp id, val := v, born := b }]).run Try.prog w = .ok (some (0, v)) w := by
  simp only [Instr.findKey, Sem.run_bind, run_underlying Try.fields28, Result.andThen_ok, Try.kind28 w sp id]
  simp only [Instr.findAsking, Sem.run_bind, run_equal28, Result.andThen_ok, if_true]
  rfl

section
variable {w : World} {r O : Nat} {sp : Int} {id : ByteArray}

theorem ob_look_none (hz : (zeroValue 32).run Try.prog w = .ok (.pointer none) w) (h : ObAt w r sp id none) :
    (Instr.lookup 44 (.map (some r)) (Ky sp id) false).run Try.prog w = .ok (.pointer none) w := by
  obtain ⟨clk, ⟨_, h⟩ | ⟨_, _, h, _⟩⟩ := h
  · simp only [Instr.lookup, Sem.run_bind, run_underlying Try.underlying44, Result.andThen_ok, MapKept.run_getObj_map h, Sem.run_pure, run_checkKey28, run_findKey28_nil, hz, Bool.false_eq_true, if_false]
  · cases h
theorem ob_look_some (h : ObAt w r sp id (some O)) :
    (Instr.lookup 44 (.map (some r)) (Ky sp id) false).run Try.prog w = .ok (.pointer (some ⟨O, 0, none⟩)) w := by
  obtain ⟨clk, ⟨h, _⟩ | ⟨O', b, h, hh⟩⟩ := h
  · cases h
  · cases h
    simp only [Instr.lookup, Sem.run_bind, run_underlying Try.underlying44, Result.andThen_ok, MapKept.run_getObj_map hh, Sem.run_pure, run_checkKey28, run_findKey28_one, Bool.false_eq_true, if_false]

theorem sameBits_ky (sp : Int) (id : ByteArray) : Instr.sameBits 10000 (Ky sp id) (Ky sp id) = true := by
  have h : ∀ n, Instr.sameBits (n + 1) (Ky sp id) (Ky sp id) = true := fun n => by simp [Instr.sameBits, Ky, beq_toListBytes]
  exact h 9999

theorem ob_upd {x : Option Nat} (h : ObAt w r sp id x) (hx : x = none ∨ x = some O) : ∃ o, (Instr.mapUpdate 44 (.map (some r)) (Ky sp id) (.pointer (some ⟨O, 0, none⟩))).run Try.prog w = .ok () (setBlock w r o) ∧ ObAt (setBlock w r o) r sp id (some O) := by
  obtain ⟨clk, ⟨rfl, h⟩ | ⟨O', b, rfl, hh⟩⟩ := h
  · refine ⟨.map #[{ key := Ky sp id, val := .pointer (some ⟨O, 0, none⟩), born := clk }] (clk + 1), ?_, clk + 1, .inr ⟨O, clk, rfl, heap_setBlock_at h⟩⟩
    simp only [Instr.mapUpdate, Sem.run_bind, run_underlying Try.underlying44, Result.andThen_ok, MapKept.run_getObj_map h, run_checkKey28, run_findKey28_nil, MapKept.run_setObj_map _ h]
    rfl
  · have : O' = O := by
      rcases hx with hx | hx
      · cases hx
      · injection hx
    subst this
    refine ⟨.map #[{ key := Ky sp id, val := .pointer (some ⟨O', 0, none⟩), born := b }] clk, ?_, clk, .inr ⟨O', b, rfl, heap_setBlock_at hh⟩⟩
    simp only [Instr.mapUpdate, Sem.run_bind, run_underlying Try.underlying44, Result.andThen_ok, MapKept.run_getObj_map hh, run_checkKey28, run_findKey28_one, Instr.keyThatStays, List.getElem?_toArray, List.getElem?_cons_zero, Option.map_some, Option.getD_some, sameBits_ky, if_true, Sem.run_pure, MapKept.run_setObj_map _ hh]
    rfl

theorem ob_del {x : Option Nat} (h : ObAt w r sp id x) (kt ty : TypeId) : ∃ o, (Builtin.delete_ #[44, kt] ty #[.map (some r), Ky sp id]).run Try.prog w = .ok (.tuple #[]) (setBlock w r o) ∧ ObAt (setBlock w r o) r sp id none := by
  obtain ⟨clk, ⟨rfl, h⟩ | ⟨O', b, rfl, hh⟩⟩ := h
  · refine ⟨.map #[] clk, ?_, clk, .inl ⟨rfl, heap_setBlock_at h⟩⟩
    simp only [Builtin.delete_, Sem.run_bind, List.getElem?_toArray, List.getElem?_cons_zero, List.getElem?_cons_succ, run_underlying Try.underlying44, Result.andThen_ok, MapKept.run_getObj_map h, run_checkKey28, run_findKey28_nil, MapKept.run_setObj_map _ h]
    rfl
  · refine ⟨.map #[] clk, ?_, clk, .inl ⟨rfl, heap_setBlock_at hh⟩⟩
    simp only [Builtin.delete_, Sem.run_bind, List.getElem?_toArray, List.getElem?_cons_zero, List.getElem?_cons_succ, run_underlying Try.underlying44, Result.andThen_ok, MapKept.run_getObj_map hh, run_checkKey28, run_findKey28_one, MapKept.run_setObj_map _ hh]
    have e : (#[({ key := Ky sp id, val := .pointer (some ⟨O', 0, none⟩), born := b } : MapEntry)]).eraseIdxIfInBounds 0 = #[] := by simp [Array.eraseIdxIfInBounds]
    rw [e]
    rfl
end

theorem ObAt.heap_eq {w w' : World} {r : Nat} {sp : Int} {id : ByteArray} {x : Option Nat} (h : ObAt w r sp id x) (e : w'.heap[r]? = w.heap[r]?) : ObAt w' r sp id x := by unfold ObAt; rw [e]; exact h
theorem ObAt.lt {w : World} {r : Nat} {sp : Int} {id : ByteArray} {x : Option Nat} (h : ObAt w r sp id x) : r < w.heap.size := by
  obtain ⟨clk, ⟨_, h⟩ | ⟨_, _, _, h⟩⟩ := h <;> exact (Array.getElem?_eq_some_iff.1 h).1
theorem ObAt.isMap {w : World} {r : Nat} {sp : Int} {id : ByteArray} {x : Option Nat} (h : ObAt w r sp id x) : ∃ es c, w.heap[r]? = some (.map es c) := by
  obtain ⟨clk, ⟨_, h⟩ | ⟨_, _, _, h⟩⟩ := h <;> exact ⟨_, _, h⟩

end Go.Proofs.Qxb6613396a
