/- the makers -/
import Derived.Test.Qxb6613396aState
import Derived.WalkLawsBesides
import Derived.WalkSpells
import Derived.Deep.QuietTactic
import Derived.BigQuiet
import Derived.Conc.SmallLaws
import Derived.Deep.RegionHeld3
namespace Go.Proofs.Qxb6613396a
open Go.RowKit
open Go.ChangeMaps (setBlock)
set_option linter.unusedVariables false

theorem newTable_calls (w : World) : Calls Try.prog 9 #[] w fun e w' => e = .returned (.pointer (some ⟨w.heap.size + 3, 0, none⟩)) ∧
    w' = (((w.alloc (.map #[] 0)).alloc (.map #[] 0)).alloc (.map #[] 0)).alloc (.cells (ltCells w.heap.size (w.heap.size + 1) (w.heap.size + 2)) 59) := by
  have hmm := @run_makeMap Try.prog
  go_enter Try.func9, Try.ntmps9
  go_wp2
  go_ret
  exact ⟨rfl, rfl⟩

theorem newLock_calls (w : World) : Calls Try.prog 10 #[] w fun e w' => e = .returned (.pointer (some ⟨w.heap.size + 1, 0, none⟩)) ∧
    w' = (w.alloc (.map #[] 0)).alloc (.cells #[.map (some w.heap.size), .slice none 0 0] 62) := by
  have hmm := @run_makeMap Try.prog
  go_enter Try.func10, Try.ntmps10
  go_wp2
  go_ret
  exact ⟨rfl, rfl⟩

theorem newTx_calls (s : Int) (w : World) : Calls Try.prog 20 #[.int .u64 s] w fun e w' => e = .returned (.pointer (some ⟨w.heap.size + 1, 0, none⟩)) ∧ TxAt w' (w.heap.size + 1) ∧ Below w.heap.size w w' ∧ w'.heap.size = w.heap.size + 2 := by
  go_enter Try.func20, Try.ntmps20
  go_wp2
  go_ret
  refine ⟨rfl, ⟨#[Value.pointer none, Value.pointer none, Value.int IntKind.i64 1, Value.int IntKind.u64 s, Value.pointer (some { block := w.heap.size, off := 0 }), Value.map none, Value.map none, Value.int IntKind.i64 1, Value.nilIface, Value.slice none 0 0, Value.int IntKind.i64 1000000000, Value.pointer none, Value.string { data := #[] }, Value.pointer none, Value.bool false], ?_, rfl⟩, ((Below.refl _ _).alloc (Nat.le_refl _) _).alloc (by simp) _, by simp⟩
  have := heap_alloc_new (w.alloc (Obj.cells #[Value.int IntKind.i32 0, Value.int IntKind.u32 0] 57)) (Obj.cells #[Value.pointer none, Value.pointer none, Value.int IntKind.i64 1, Value.int IntKind.u64 s, Value.pointer (some { block := w.heap.size, off := 0 }), Value.map none, Value.map none, Value.int IntKind.i64 1, Value.nilIface, Value.slice none 0 0, Value.int IntKind.i64 1000000000, Value.pointer none, Value.string { data := #[] }, Value.pointer none, Value.bool false] 88)
  simpa using this

theorem newKey_calls (sp : Int) (id : ByteArray) (w : World) : Calls Try.prog 8 #[.int .i64 sp, .string id] w fun e w' => e = .returned (Ky sp id) ∧ Below w.heap.size w w' := by
  go_enter Try.func8, Try.ntmps8
  go_wp2
  exact bodyPost_ret (v := Ky sp id) (by simp [results, Try.results8, go_sem, Ky]) rfl ⟨rfl, (Below.refl _ _).alloc (Nat.le_refl _) _⟩

theorem bytes47 : ∃ i, Try.prog.info? 47 = some i ∧ i.bytes = 0 := by
  have h : (Try.prog.info? 47).map (·.bytes) = some 0 := by kernel_rfl
  obtain ⟨i, hi, hb⟩ := Option.map_eq_some_iff.1 h
  exact ⟨i, hi, hb⟩
theorem mk0 (w : World) : (Instr.makeChan 91 (.int .i64 0)).run Try.prog w = .ok (.chan (some w.heap.size)) (w.alloc (.chan 0 #[] false 0 0 false)) := by
  obtain ⟨i, hi, hb⟩ := bytes47
  simpa using Conc.run_makeChan (P := Try.prog) (w := w) Try.underlying91 hi .i64 0 (by omega) (by rw [hb]; omega)

theorem newReq_calls (T : Nat) (sp : Int) (id : ByteArray) (m : Int) (w : World) (hT : TxAt w T) :
    Calls Try.prog 22 #[.pointer (some ⟨T, 0, none⟩), Ky sp id, .int .u8 m] w fun e w' => ∃ R c, e = .returned (.pointer (some ⟨R, 0, none⟩)) ∧ w.heap.size ≤ R ∧ w.heap.size ≤ c ∧ ReqC w' ⟨R, T, m, c⟩ sp id ∧
      w'.heap[c]? = some (.chan 0 #[] false 0 0 false) ∧ Below w.heap.size w w' := by
  have hmc := mk0
  unfold Ky
  go_enter Try.func22, Try.ntmps22
  go_wp2
  go_region
  all_goals go_wp2
  all_goals go_ret
  have hlt := hT.cl.lt
  have e2 := heap_alloc_new ((w.alloc (.cells #[.int .i64 sp, .string id] 28)).alloc (.chan 0 #[] false 0 0 false)) (.cells (reqCells ⟨w.heap.size + 1 + 1, T, m, w.heap.size + 1⟩ sp id) 93)
  have e1 := heap_alloc_new (w.alloc (.cells #[.int .i64 sp, .string id] 28)) (.chan 0 #[] false 0 0 false)
  simp only [World.size_alloc] at e1 e2
  have hb : Below w.heap.size w (((w.alloc (.cells #[.int .i64 sp, .string id] 28)).alloc (.chan 0 #[] false 0 0 false)).alloc (.cells (reqCells ⟨w.heap.size + 1 + 1, T, m, w.heap.size + 1⟩ sp id) 93)) :=
    (((Below.refl _ _).alloc (Nat.le_refl _) _).alloc (by simp) _).alloc (by simp; omega) _
  all_goals
    refine ⟨w.heap.size + 1 + 1, w.heap.size + 1, rfl, by omega, by omega, ⟨e2, hT.heap_eq (hb.block T hlt)⟩, ?_, hb.drew⟩
    exact (Below.heap_alloc _ _ _ (by simp)).trans e1

end Go.Proofs.Qxb6613396a
