/- what the lock table is in memory -/
import Derived.Test.Qxb6613396aObjs
namespace Go.Proofs.Qxb6613396a
open Go.RowKit
open Go.ChangeMaps (setBlock)
set_option linter.unusedVariables false

/-- w' is w with new blocks, and with writes to the blocks of M alone -/
structure Only (M : Nat → Prop) (w w' : World) : Prop where
  os : w'.os = w.os
  tape : w'.tape = w.tape
  output : w'.output = w.output
  size : w.heap.size ≤ w'.heap.size
  block : ∀ k, k < w.heap.size → ¬ M k → w'.heap[k]? = w.heap[k]?

theorem Only.refl (M : Nat → Prop) (w : World) : Only M w w := ⟨rfl, rfl, rfl, Nat.le_refl _, fun _ _ _ => rfl⟩
theorem Only.trans {M : Nat → Prop} {a b c : World} (h : Only M a b) (k : Only M b c) : Only M a c :=
  ⟨k.os.trans h.os, k.tape.trans h.tape, k.output.trans h.output, Nat.le_trans h.size k.size, fun i hi hm => (k.block i (Nat.lt_of_lt_of_le hi h.size) hm).trans (h.block i hi hm)⟩
theorem Only.mono {M N : Nat → Prop} {w w' : World} (h : Only M w w') (hs : ∀ k, k < w.heap.size → M k → N k) : Only N w w' :=
  ⟨h.os, h.tape, h.output, h.size, fun k hk hn => h.block k hk (fun hm => hn (hs k hk hm))⟩
theorem Only.alloc {M : Nat → Prop} {a w : World} (h : Only M a w) (o : Obj) : Only M a (w.alloc o) :=
  h.trans ⟨rfl, rfl, rfl, by simp, fun k hk _ => Below.heap_alloc _ _ _ hk⟩
theorem Only.drew {M : Nat → Prop} {a w : World} (h : Only M a w) : Only M a w.drew := ⟨h.os, h.tape, h.output, h.size, h.block⟩
theorem Only.drewN {M : Nat → Prop} {a w : World} (h : Only M a w) (n : Nat) (w2 : World) (hh : w2.heap = w.heap) (ho : w2.os = w.os) (ht : w2.tape = w.tape) (hp : w2.output = w.output) : Only M a w2 :=
  ⟨ho.trans h.os, ht.trans h.tape, hp.trans h.output, by rw [hh]; exact h.size, by rw [hh]; exact h.block⟩
theorem Only.setB {M : Nat → Prop} {a w : World} (h : Only M a w) {r : Nat} (hr : M r) (o : Obj) : Only M a (setBlock w r o) :=
  h.trans ⟨rfl, rfl, rfl, by rw [size_setBlock]; exact Nat.le_refl _, fun k hk hn => heap_setBlock_ne (fun e => hn (e ▸ hr))⟩
theorem Only.setB_new {M : Nat → Prop} {a w : World} (h : Only M a w) {r : Nat} (hr : a.heap.size ≤ r) (o : Obj) : Only M a (setBlock w r o) :=
  ⟨h.os, h.tape, h.output, by rw [size_setBlock]; exact h.size, fun k hk hn => (heap_setBlock_ne (by omega)).trans (h.block k hk hn)⟩
theorem Only.setCell {M : Nat → Prop} {a w : World} (h : Only M a w) {p : Addr} (hr : M p.block) (u : Value) : Only M a (w.setCell p u) :=
  h.trans ⟨rfl, rfl, rfl, by simp [World.setCell], fun k hk hn => Below.heap_setCell _ _ _ _ (fun e => hn (e ▸ hr))⟩
theorem Only.grown {M : Nat → Prop} {a w w' : World} (h : Only M a w) {row : Option Nat} (g : w.grownBy w' row) (hr : ∀ k, row = some k → k < a.heap.size → M k) : Only M a w' :=
  ⟨g.os.trans h.os, g.tape.trans h.tape, g.output.trans h.output, Nat.le_trans h.size g.size, fun k hk hn =>
    (g.block k (Nat.lt_of_lt_of_le hk h.size) (fun e => hn (hr k e.symm hk))).trans (h.block k hk hn)⟩
theorem Only.ext {M : Nat → Prop} {a w w' : World} (h : Only M a w) (b : Below w.heap.size w w') : Only M a w' :=
  h.trans ⟨b.os, b.tape, b.output, b.size, fun k hk _ => b.block k hk⟩
theorem Only.below {M : Nat → Prop} {w w' : World} {B : Nat} (h : Only M w w') (hB : B ≤ w.heap.size) (hm : ∀ k, M k → B ≤ k) : Below B w w' :=
  ⟨h.os, h.tape, h.output, h.size, fun k hk => h.block k (by omega) (fun m => by have := hm k m; omega)⟩

/-- a top-level transaction -/
def TxAt (w : World) (T : Nat) : Prop := ∃ c, w.heap[T]? = some (Obj.cells c 88 (0, 0)) ∧ c[1]? = some (.pointer none)
/-- a row that holds the key -/
def KeyRow (w : World) (g : Nat) (sp : Int) (id : ByteArray) : Prop := ∃ c, w.heap[g]? = some (Obj.cells c 28 (0, 0)) ∧ c[0]? = some (.int .i64 sp) ∧ c[1]? = some (.string id)

theorem TxAt.cl {w : World} {T : Nat} (h : TxAt w T) : Cl w T := let ⟨c, h1, _⟩ := h; ⟨c, 88, h1⟩
theorem TxAt.heap_eq {w w' : World} {T : Nat} (h : TxAt w T) (e : w'.heap[T]? = w.heap[T]?) : TxAt w' T := by unfold TxAt; rw [e]; exact h
theorem KeyRow.heap_eq {w w' : World} {g : Nat} {sp : Int} {id : ByteArray} (h : KeyRow w g sp id) (e : w'.heap[g]? = w.heap[g]?) : KeyRow w' g sp id := by unfold KeyRow; rw [e]; exact h
theorem Cl.heap_eq {w w' : World} {T : Nat} (h : Cl w T) (e : w'.heap[T]? = w.heap[T]?) : Cl w' T := by unfold Cl; rw [e]; exact h
theorem Cl.lt {w : World} {T : Nat} (h : Cl w T) : T < w.heap.size := let ⟨c, t, h1⟩ := h; (Array.getElem?_eq_some_iff.1 h1).1
theorem Cl.notMap {w : World} {T r : Nat} {es : Array MapEntry} {k : Nat} (h : Cl w T) (hr : w.heap[r]? = some (.map es k)) : T ≠ r := by
  obtain ⟨c, t, h1⟩ := h
  intro e
  rw [e, hr] at h1
  cases h1

/-- the lock table's cells -/
def ltCells (MO MH MW : Nat) : Array Value := #[.int .u64 0, .int .i32 0, .int .u32 0, .map (some MO), .map (some MH), .map (some MW), .int .u64 0, .bool false]

theorem cell_of {w : World} {b : Nat} {c : Array Value} {t : TypeId} (h : w.heap[b]? = some (Obj.cells c t (0, 0))) (j : Nat) : w.cell? ⟨b, j, none⟩ = c[j]? := cell_of_row w b j c t (0, 0) h
theorem froz_of {w : World} {b : Nat} {c : Array Value} {t : TypeId} (h : w.heap[b]? = some (Obj.cells c t (0, 0))) (j : Nat) : w.frozen? ⟨b, j, none⟩ = false := frozen_of_row w b j c t h

/-- a request: its block, its transaction, its mode, its channel -/
structure Rq where
  R : Nat
  T : Nat
  m : Int
  c : Nat
/-- a holder: its transaction, its mode, the row that holds its keys -/
structure Hd where
  T : Nat
  m : Int
  g : Nat
  cap : Nat

def reqCells (q : Rq) (sp : Int) (id : ByteArray) : Array Value := #[.pointer (some ⟨q.T, 0, none⟩), .int .i64 sp, .string id, .int .u8 q.m, .chan (some q.c), .nilIface, .int .u64 0]
structure ReqC (w : World) (q : Rq) (sp : Int) (id : ByteArray) : Prop where
  blk : w.heap[q.R]? = some (Obj.cells (reqCells q sp id) 93 (0, 0))
  tx : TxAt w q.T
theorem ReqC.heap_eq {w w' : World} {q : Rq} {sp : Int} {id : ByteArray} (h : ReqC w q sp id) (e1 : w'.heap[q.R]? = w.heap[q.R]?) (e2 : w'.heap[q.T]? = w.heap[q.T]?) : ReqC w' q sp id :=
  ⟨e1.trans h.blk, h.tx.heap_eq e2⟩

end Go.Proofs.Qxb6613396a
