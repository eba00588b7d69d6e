/- maps keyed by pointers, at the level of their entries -/
import Derived.Test.Qxb6613396aRows
import Derived.WalkKit
import Derived.LaidEqlPtr
import Derived.Maps.RangeRun
namespace Go.Proofs.Qxb6613396a
open Go.RowKit
open Go.ChangeMaps (setBlock)
set_option linter.unusedVariables false

/-- block b is a plain block of cells -/
def Cl (w : World) (b : Nat) : Prop := ∃ c t, w.heap[b]? = some (Obj.cells c t (0, 0))

def mkEnt (x : Nat × Value) (b : Nat) : MapEntry := { key := .pointer (some ⟨x.1, 0, none⟩), val := x.2, born := b }
def ents : List (Nat × Value) → Nat → List MapEntry
  | [], _ => []
  | x :: r, b => mkEnt x b :: ents r (b + 1)

def lookI (T : Nat) : List (Nat × Value) → Nat → Option (Nat × Value)
  | [], _ => none
  | x :: r, i => if x.1 = T then some (i, x.2) else lookI T r (i + 1)

theorem size_of' {P : Program} {e : TypeId} {n : Nat} (h : (P.info? e).map (·.size) = some n) : ∃ j, P.info? e = some j ∧ j.size = n := by
  obtain ⟨i, hi, hz⟩ := Option.map_eq_some_iff.1 h
  exact ⟨i, hi, hz⟩
theorem Try.sz88 : ∃ j, Try.prog.info? 88 = some j ∧ j.size = 15 := size_of' (by kernel_rfl)

theorem run_equal63 (w : World) (T h : Nat) (hT : Cl w T) (hh : Cl w h) : (Op.equal 63 (.pointer (some ⟨T, 0, none⟩)) (.pointer (some ⟨h, 0, none⟩))).run Try.prog w = .ok (decide (T = h)) w := by
  obtain ⟨j, hj, hs⟩ := Try.sz88
  obtain ⟨cT, tT, hT⟩ := hT
  obtain ⟨ch, th, hh⟩ := hh
  have hs0 : j.size ≠ 0 := by omega
  by_cases e : T = h
  · subst e
    have h : ∀ d : Nat, (Op.equalIn (d + 1) 63 (.pointer (some ⟨T, 0, none⟩)) (.pointer (some ⟨T, 0, none⟩))).run Try.prog w = .ok true w := fun d => by
      simp [Op.equalIn, run_underlying Try.underlying63, sizeOf, typeInfo, hj, run_sameAddr_same]
    rw [decide_eq_true rfl]
    exact h 9999
  · have hne := run_sameAddr_other (P := Try.prog) w (a := ⟨T, 0, none⟩) (b := ⟨h, 0, none⟩) (fun x => e (by injection x)) hT hh
    have h : ∀ d : Nat, (Op.equalIn (d + 1) 63 (.pointer (some ⟨T, 0, none⟩)) (.pointer (some ⟨h, 0, none⟩))).run Try.prog w = .ok false w := fun d => by
      simp [Op.equalIn, run_underlying Try.underlying63, sizeOf, typeInfo, hj, hs0, hne]
    rw [decide_eq_false e]
    exact h 9999

theorem run_findAsking (w : World) (T : Nat) (hT : Cl w T) : ∀ (l : List (Nat × Value)) (b i : Nat), (∀ x ∈ l, Cl w x.1) →
    (Instr.findAsking 63 (.pointer (some ⟨T, 0, none⟩)) (ents l b) i).run Try.prog w = .ok (lookI T l i) w
  | [], b, i, _ => by simp [ents, Instr.findAsking, lookI]
  | x :: r, b, i, h => by
    have ih := run_findAsking w T hT r (b + 1) (i + 1) (fun y hy => h y (by simp [hy]))
    have he := run_equal63 w T x.1 hT (h x (by simp))
    by_cases e : x.1 = T
    · rw [decide_eq_true e.symm] at he
      simp only [ents, mkEnt, Instr.findAsking, lookI, Sem.run_bind, he, Result.andThen_ok, if_true, if_pos e]
      rfl
    · rw [decide_eq_false (fun h => e h.symm)] at he
      simp only [ents, mkEnt, Instr.findAsking, lookI, Sem.run_bind, he, Result.andThen_ok, if_neg e, Bool.false_eq_true, if_false]
      exact ih

theorem run_findKey (w : World) (T : Nat) (hT : Cl w T) (l : List (Nat × Value)) (b : Nat) (h : ∀ x ∈ l, Cl w x.1) :
    (Instr.findKey 63 (.pointer (some ⟨T, 0, none⟩)) (ents l b)).run Try.prog w = .ok (lookI T l 0) w := by
  cases l with
  | nil => simp [Instr.findKey, run_underlying Try.underlying63, ents, Instr.findNow, lookI]
  | cons x r =>
    have := run_findAsking w T hT (x :: r) b 0 h
    simp only [Instr.findKey, Sem.run_bind, run_underlying Try.underlying63, Result.andThen_ok]
    simp only [ents, Instr.findNow, Instr.sameNow]
    exact this

theorem run_checkKey63 (w : World) (b : Bool) (v : Value) : (Instr.checkKey b 10000 63 v).run Try.prog w = .ok () w := by
  have h : ∀ n : Nat, (Instr.checkKey b (n + 1) 63 v).run Try.prog w = .ok () w := fun n => by
    simp [Instr.checkKey, run_underlying Try.underlying63]
  exact h 9999

theorem ents_len : ∀ (l : List (Nat × Value)) (b : Nat), (ents l b).length = l.length
  | [], _ => rfl
  | x :: r, b => by simp [ents, ents_len r (b + 1)]
theorem ents_app : ∀ (l m : List (Nat × Value)) (b : Nat), ents (l ++ m) b = ents l b ++ ents m (b + l.length)
  | [], m, b => by simp [ents]
  | x :: r, m, b => by simp [ents, ents_app r m (b + 1), Nat.add_assoc, Nat.add_comm 1]

theorem lookI_none (T : Nat) : ∀ (l : List (Nat × Value)) (i : Nat), (∀ x ∈ l, x.1 ≠ T) → lookI T l i = none
  | [], _, _ => rfl
  | x :: r, i, h => by
    unfold lookI
    rw [if_neg (h x (by simp))]
    exact lookI_none T r (i + 1) (fun y hy => h y (by simp [hy]))

theorem lookI_at (T : Nat) (v : Value) : ∀ (l : List (Nat × Value)) (i j : Nat), (l.map (·.1)).Nodup → l[j]? = some (T, v) → lookI T l i = some (i + j, v)
  | [], i, j, _, h => by simp at h
  | x :: r, i, 0, _, h => by
    simp at h
    subst h
    simp [lookI]
  | x :: r, i, j + 1, hn, h => by
    simp only [List.map_cons, List.nodup_cons] at hn
    have hj : r[j]? = some (T, v) := by simpa using h
    have hx : ¬ x.1 = T := by
      intro e
      apply hn.1
      rw [e]
      exact List.mem_map.2 ⟨(T, v), List.mem_of_getElem? hj, rfl⟩
    unfold lookI
    rw [if_neg hx, lookI_at T v r (i + 1) j hn.2 hj]
    congr 2
    omega

/-- the map of l, b entries having gone before -/
def mapObj (l : List (Nat × Value)) (b : Nat) : Obj := .map (ents l b).toArray (b + l.length)
/-- block r is the map of l, b entries having gone before -/
def MapAt (w : World) (r : Nat) (l : List (Nat × Value)) (b : Nat) : Prop := w.heap[r]? = some (mapObj l b)
theorem MapAt.raw {w : World} {r b : Nat} {l : List (Nat × Value)} (h : MapAt w r l b) : w.heap[r]? = some (.map (ents l b).toArray (b + l.length)) := h

section
variable {w : World} {r b : Nat} {l : List (Nat × Value)} {T : Nat} {mt E : TypeId}

theorem run_look_hit (hmt : Try.prog.underlying mt = some (.map 63 E)) (hm : MapAt w r l b) (hl : ∀ x ∈ l, Cl w x.1) (hT : Cl w T) {i : Nat} {v : Value} (hi : lookI T l 0 = some (i, v)) :
    (Instr.lookup mt (.map (some r)) (.pointer (some ⟨T, 0, none⟩)) false).run Try.prog w = .ok v w := by
  simp only [Instr.lookup, Sem.run_bind, run_underlying hmt, Result.andThen_ok, MapKept.run_getObj_map hm.raw, Sem.run_pure, run_checkKey63, run_findKey w T hT l b hl, hi, Bool.false_eq_true, if_false]

theorem run_look_miss (hmt : Try.prog.underlying mt = some (.map 63 E)) {z : Value} (hz : (zeroValue E).run Try.prog w = .ok z w) (hm : MapAt w r l b) (hl : ∀ x ∈ l, Cl w x.1) (hT : Cl w T) (hi : lookI T l 0 = none) :
    (Instr.lookup mt (.map (some r)) (.pointer (some ⟨T, 0, none⟩)) false).run Try.prog w = .ok z w := by
  simp only [Instr.lookup, Sem.run_bind, run_underlying hmt, Result.andThen_ok, MapKept.run_getObj_map hm.raw, Sem.run_pure, run_checkKey63, run_findKey w T hT l b hl, hi, hz, Bool.false_eq_true, if_false]

theorem run_upd_new (hmt : Try.prog.underlying mt = some (.map 63 E)) (hm : MapAt w r l b) (hl : ∀ x ∈ l, Cl w x.1) (hT : Cl w T) (hi : lookI T l 0 = none) (v : Value) :
    (Instr.mapUpdate mt (.map (some r)) (.pointer (some ⟨T, 0, none⟩)) v).run Try.prog w = .ok () (setBlock w r (mapObj (l ++ [(T, v)]) b)) := by
  unfold mapObj
  simp only [Instr.mapUpdate, Sem.run_bind, run_underlying hmt, Result.andThen_ok, MapKept.run_getObj_map hm.raw, run_checkKey63, run_findKey w T hT l b hl, hi, MapKept.run_setObj_map _ hm.raw]
  rw [ents_app, List.length_append]
  simp [setBlock, ents, mkEnt, Nat.add_assoc]

theorem run_del_head (hmt : Try.prog.underlying mt = some (.map 63 E)) {v : Value} (hm : MapAt w r ((T, v) :: l) b) (hl : ∀ x ∈ (T, v) :: l, Cl w x.1) (hT : Cl w T) (kt ty : TypeId) :
    (Builtin.delete_ #[mt, kt] ty #[.map (some r), .pointer (some ⟨T, 0, none⟩)]).run Try.prog w = .ok (.tuple #[]) (setBlock w r (mapObj l (b + 1))) := by
  unfold mapObj
  have hi : lookI T ((T, v) :: l) 0 = some (0, v) := by simp [lookI]
  have hfk := run_findKey w T hT ((T, v) :: l) b hl
  rw [hi] at hfk
  have e1 : ((ents ((T, v) :: l) b).toArray).eraseIdxIfInBounds 0 = (ents l (b + 1)).toArray := by
    simp [ents, Array.eraseIdxIfInBounds]
  have e2 : b + ((T, v) :: l).length = b + 1 + l.length := by simp; omega
  rw [← e1, ← e2]
  simp only [Builtin.delete_, Sem.run_bind, List.getElem?_toArray, List.getElem?_cons_zero, List.getElem?_cons_succ, run_underlying hmt, Result.andThen_ok, MapKept.run_getObj_map hm.raw, run_checkKey63, hfk, MapKept.run_setObj_map _ hm.raw]
  rfl

theorem run_len (hmt : Try.prog.underlying mt = some (.map 63 E)) (hm : MapAt w r l b) (ty : TypeId) :
    (Builtin.len_ #[mt] ty #[.map (some r)]).run Try.prog w = .ok (.int .i64 l.length) w := by
  simp only [Builtin.len_, Sem.run_bind, List.getElem?_toArray, List.getElem?_cons_zero, run_underlying hmt, Result.andThen_ok, MapKept.run_getObj_map hm.raw]
  simp [goInt, ents_len]
end

theorem MapAt.heap_eq {w w' : World} {r b : Nat} {l : List (Nat × Value)} (h : MapAt w r l b) (e : w'.heap[r]? = w.heap[r]?) : MapAt w' r l b := by unfold MapAt; rw [e]; exact h
theorem MapAt.lt {w : World} {r b : Nat} {l : List (Nat × Value)} (h : MapAt w r l b) : r < w.heap.size := (Array.getElem?_eq_some_iff.1 h).1
theorem heap_setBlock_at {w : World} {r : Nat} {o o' : Obj} (h : w.heap[r]? = some o') : (setBlock w r o).heap[r]? = some o := by
  have := (Array.getElem?_eq_some_iff.1 h).1
  simp [setBlock, this]
theorem heap_setBlock_ne {w : World} {r k : Nat} {o : Obj} (h : k ≠ r) : (setBlock w r o).heap[k]? = w.heap[k]? := by
  simp [setBlock, Array.getElem?_setIfInBounds_ne (fun e => h e.symm)]
theorem size_setBlock (w : World) (r : Nat) (o : Obj) : (setBlock w r o).heap.size = w.heap.size := by simp [setBlock]

end Go.Proofs.Qxb6613396a
