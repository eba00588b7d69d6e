/- the lock table, its one object, the holders, the queue: as one word on memory -/
import Derived.Test.Qxb6613396aDelete
import Derived.Test.Qxb6613396aCompat
namespace Go.Proofs.Qxb6613396a
open Go.RowKit
open Go.ChangeMaps (setBlock)
set_option linter.unusedVariables false

/-- the blocks of a table -/
structure Bk where
  L : Nat
  O : Nat
  MO : Nat
  MH : Nat
  MW : Nat
  HM : Nat

def hmOf (h : Hd) : Nat × Value := (h.T, .int .u8 h.m)
def mhOf (h : Hd) : Nat × Value := (h.T, .slice (some ⟨h.g, 0, none⟩) 1 h.cap)
def mwOf (q : Rq) : Nat × Value := (q.T, .pointer (some ⟨q.R, 0, none⟩))
def rqOf (q : Rq) : Value := .pointer (some ⟨q.R, 0, none⟩)

structure Sys (w : World) (B : Nat) (k : Bk) (sp : Int) (id : ByteArray) (hs : List Hd) (ds qs : List Rq) (v : Value) (x : Option Nat) : Prop where
  lt : w.heap[k.L]? = some (.cells (ltCells k.MO k.MH k.MW) 59 (0, 0))
  ol : w.heap[k.O]? = some (.cells #[.map (some k.HM), v] 62 (0, 0))
  own : w.ownsRow B 66 1 v qs.length (qs.map rqOf)
  hm : MapAt w k.HM (hs.map hmOf) 0
  mh : MapAt w k.MH (hs.map mhOf) 0
  mw : MapAt w k.MW (qs.map mwOf) ds.length
  ob : ObAt w k.MO sp id x
  htx : ∀ h ∈ hs, TxAt w h.T
  hrow : ∀ h ∈ hs, KeyRow w h.g sp id
  req : ∀ q ∈ ds ++ qs, ReqC w q sp id
  dch : ∀ q ∈ ds, w.heap[q.c]? = some (.chan 0 #[] true 0 0 false)
  qch : ∀ q ∈ qs, w.heap[q.c]? = some (.chan 0 #[] false 0 0 false)
  nod : (hs.map (·.T) ++ qs.map (·.T)).Nodup
  nodc : (ds.map (·.c) ++ qs.map (·.c)).Nodup
  bO : B ≤ k.O
  bMO : B ≤ k.MO
  bMH : B ≤ k.MH
  bMW : B ≤ k.MW
  bHM : B ≤ k.HM
  bc : ∀ q ∈ qs, B ≤ q.c
  n1 : k.MO ≠ k.MH
  n2 : k.MO ≠ k.MW
  n3 : k.MO ≠ k.HM
  n4 : k.MH ≠ k.MW
  n5 : k.MH ≠ k.HM
  n6 : k.MW ≠ k.HM

section
variable {w w' : World} {B : Nat} {k : Bk} {sp : Int} {id : ByteArray} {hs : List Hd} {ds qs : List Rq} {v : Value} {x : Option Nat}

theorem lt_of_some {w : World} {b : Nat} {o : Obj} (h : w.heap[b]? = some o) : b < w.heap.size := (Array.getElem?_eq_some_iff.1 h).1
theorem tyne {w : World} {a b : Nat} {c d : Array Value} {s t : TypeId} {r r' : Nat × Nat} (ha : w.heap[a]? = some (.cells c s r)) (hb : w.heap[b]? = some (.cells d t r')) (h : s ≠ t) : a ≠ b := by
  intro e
  rw [e, hb] at ha
  simp at ha
  exact h ha.2.1.symm
theorem kyne {w : World} {a b : Nat} {c : Array Value} {s : TypeId} {r : Nat × Nat} {es : Array MapEntry} {n : Nat} (ha : w.heap[a]? = some (.cells c s r)) (hb : w.heap[b]? = some (.map es n)) : a ≠ b := by
  intro e
  rw [e, hb] at ha
  cases ha
theorem chne {w : World} {a b : Nat} {c : Array Value} {s : TypeId} {r : Nat × Nat} {p : Nat} {q : Array Value} {cl : Bool} {i j : Nat} {tm : Bool} (ha : w.heap[a]? = some (.cells c s r)) (hb : w.heap[b]? = some (.chan p q cl i j tm)) : a ≠ b := by
  intro e
  rw [e, hb] at ha
  cases ha
theorem mcne {w : World} {a b : Nat} {es : Array MapEntry} {n : Nat} {p : Nat} {q : Array Value} {cl : Bool} {i j : Nat} {tm : Bool} (ha : w.heap[a]? = some (.map es n)) (hb : w.heap[b]? = some (.chan p q cl i j tm)) : a ≠ b := by
  intro e
  rw [e, hb] at ha
  cases ha

/-- the queue's row -/
theorem own_row {w : World} {B : Nat} {v : Value} {n : Nat} {xs : List Value} (h : w.ownsRow B 66 1 v n xs) : ∀ j, v.ownBlock = some j → B ≤ j ∧ ∃ c, w.heap[j]? = some (.cells c 66 (0, 0)) := by
  intro j hj
  rcases h.2 with ⟨h1, _⟩ | ⟨g', cap', cur, h1, h3, h4, _⟩
  · subst h1; simp [Value.ownBlock] at hj
  · subst h1
    simp [Value.ownBlock] at hj
    subst hj
    exact ⟨h3, cur, h4⟩

/-- what the steps on a table may write -/
def Wr (k : Bk) (v : Value) (cs : List Rq) (j : Nat) : Prop := j = k.O ∨ j = k.HM ∨ j = k.MH ∨ j = k.MW ∨ j = k.MO ∨ some j = v.ownBlock ∨ ∃ q ∈ cs, j = q.c

/-- a block of cells beside the object and the queue's row is none of those -/
theorem Sys.notWr (h : Sys w B k sp id hs ds qs v x) {j : Nat} {c : Array Value} {t : TypeId} {r : Nat × Nat} (hj : w.heap[j]? = some (.cells c t r)) (h1 : j ≠ k.O) (h2 : some j ≠ v.ownBlock) : ¬ Wr k v qs j := by
  obtain ⟨es, n, ho⟩ := h.ob.isMap
  rintro (e | e | e | e | e | e | ⟨q, hq, e⟩)
  · exact h1 e
  · exact kyne hj h.hm.raw e
  · exact kyne hj h.mh.raw e
  · exact kyne hj h.mw.raw e
  · exact kyne hj ho e
  · exact h2 e
  · exact chne hj (h.qch q hq) e
theorem Sys.notWr_ty (h : Sys w B k sp id hs ds qs v x) {j : Nat} {c : Array Value} {t : TypeId} {r : Nat × Nat} (hj : w.heap[j]? = some (.cells c t r)) (h1 : t ≠ 62) (h2 : t ≠ 66) : ¬ Wr k v qs j :=
  h.notWr hj (tyne hj h.ol h1) (fun e => by
    obtain ⟨_, c', h'⟩ := own_row h.own j e.symm
    exact tyne hj h' h2 rfl)
theorem Sys.wrB (h : Sys w B k sp id hs ds qs v x) (j : Nat) (hj : Wr k v qs j) : B ≤ j := by
  rcases hj with e | e | e | e | e | e | ⟨q, hq, e⟩
  · rw [e]; exact h.bO
  · rw [e]; exact h.bHM
  · rw [e]; exact h.bMH
  · rw [e]; exact h.bMW
  · rw [e]; exact h.bMO
  · exact (own_row h.own j e.symm).1
  · rw [e]; exact h.bc q hq

/-- all that lay lies on where the world has only grown -/
theorem Sys.ext (h : Sys w B k sp id hs ds qs v x) (b : Below w.heap.size w w') : Sys w' B k sp id hs ds qs v x where
  lt := (b.block _ (lt_of_some h.lt)).trans h.lt
  ol := (b.block _ (lt_of_some h.ol)).trans h.ol
  own := h.own.kept (grownBy_of_below b) (by cases v.ownBlock <;> simp)
  hm := h.hm.heap_eq (b.block _ h.hm.lt)
  mh := h.mh.heap_eq (b.block _ h.mh.lt)
  mw := h.mw.heap_eq (b.block _ h.mw.lt)
  ob := h.ob.heap_eq (b.block _ h.ob.lt)
  htx := fun y hy => (h.htx y hy).heap_eq (b.block _ (h.htx y hy).cl.lt)
  hrow := fun y hy => (h.hrow y hy).heap_eq (b.block _ (by obtain ⟨c, h1, _⟩ := h.hrow y hy; exact lt_of_some h1))
  req := fun q hq => (h.req q hq).heap_eq (b.block _ (lt_of_some (h.req q hq).blk)) (b.block _ (h.req q hq).tx.cl.lt)
  dch := fun q hq => (b.block _ (lt_of_some (h.dch q hq))).trans (h.dch q hq)
  qch := fun q hq => (b.block _ (lt_of_some (h.qch q hq))).trans (h.qch q hq)
  nod := h.nod
  nodc := h.nodc
  bO := h.bO
  bMO := h.bMO
  bMH := h.bMH
  bMW := h.bMW
  bHM := h.bHM
  bc := h.bc
  n1 := h.n1
  n2 := h.n2
  n3 := h.n3
  n4 := h.n4
  n5 := h.n5
  n6 := h.n6

/-- may a lock of mode m stand beside locks of these modes? -/
def okM (ms : List Int) (m : Int) : Bool := ms.all fun a => !(m == 2 || a == 2)

theorem mem_ents : ∀ (l : List (Nat × Value)) (b : Nat) (e : MapEntry), e ∈ ents l b → ∃ y ∈ l, e.key = .pointer (some ⟨y.1, 0, none⟩) ∧ e.val = y.2 ∧ b ≤ e.born ∧ e.born < b + l.length
  | [], b, e, h => by simp [ents] at h
  | y :: r, b, e, h => by
    simp only [ents, List.mem_cons] at h
    rcases h with rfl | h
    · exact ⟨y, by simp, rfl, rfl, Nat.le_refl _, by simp [mkEnt]⟩
    · obtain ⟨z, hz, h1, h2, h3, h4⟩ := mem_ents r (b + 1) e h
      exact ⟨z, by simp [hz], h1, h2, by omega, by simp; omega⟩
theorem ents_mem : ∀ (l : List (Nat × Value)) (b : Nat) (y : Nat × Value), y ∈ l → ∃ e ∈ ents l b, e.val = y.2
  | [], b, y, h => by simp at h
  | z :: r, b, y, h => by
    rcases List.mem_cons.1 h with rfl | h
    · exact ⟨mkEnt y b, by simp [ents], rfl⟩
    · obtain ⟨e, he, hv⟩ := ents_mem r (b + 1) y h
      exact ⟨e, by simp [ents, he], hv⟩
theorem ents_born : ∀ (l : List (Nat × Value)) (b : Nat), ((ents l b).map (·.born)).Nodup
  | [], b => by simp [ents]
  | y :: r, b => by
    simp only [ents, List.map_cons, List.nodup_cons]
    refine ⟨?_, ents_born r (b + 1)⟩
    intro h
    obtain ⟨e, he, hb⟩ := List.mem_map.1 h
    obtain ⟨_, _, _, _, h3, _⟩ := mem_ents r (b + 1) e he
    simp [mkEnt] at hb
    omega

theorem conf_iff (hs : List Hd) (m : Int) : (∃ e ∈ (ents (hs.map hmOf) 0).toArray.toList, confE m e) ↔ okM (hs.map (·.m)) m = false := by
  constructor
  · rintro ⟨e, he, hc⟩
    obtain ⟨y, hy, _, hv, _⟩ := mem_ents _ _ e (by simpa using he)
    obtain ⟨h, hh, rfl⟩ := List.mem_map.1 hy
    unfold okM
    rw [List.all_eq_false]
    refine ⟨h.m, List.mem_map.2 ⟨h, hh, rfl⟩, ?_⟩
    rcases hc with hc | hc
    · simp [hc]
    · rw [hv] at hc
      simp [hmOf] at hc
      simp [hc]
  · intro h
    unfold okM at h
    rw [List.all_eq_false] at h
    obtain ⟨a, ha, hn⟩ := h
    obtain ⟨y, hy, rfl⟩ := List.mem_map.1 ha
    obtain ⟨e, he, hv⟩ := ents_mem (hs.map hmOf) 0 (hmOf y) (List.mem_map.2 ⟨y, hy, rfl⟩)
    refine ⟨e, by simpa using he, ?_⟩
    simp only [Bool.not_eq_true', Bool.or_eq_false_iff, beq_eq_false_iff_ne, ne_eq, Decidable.not_and_iff_not_or_not, Decidable.not_not] at hn
    rcases hn with hn | hn
    · exact .inl hn
    · refine .inr ?_
      rw [hv]
      simp [hmOf, hn]

/-- 'compatible', asked for a request of the queue -/
theorem Sys.compat (h : Sys w B k sp id hs ds qs v x) (q : Rq) (hq : q ∈ qs) :
    Calls Try.prog 34 #[.pointer (some ⟨k.O, 0, none⟩), .pointer (some ⟨q.T, 0, none⟩), .int .u8 q.m] w fun e W' => e = .returned (.bool (okM (hs.map (·.m)) q.m)) ∧ Below w.heap.size w W' := by
  have hr := h.req q (by simp [hq])
  obtain ⟨cT, ht, hp⟩ := hr.tx
  refine compat_calls k.O k.HM q.T q.m (ents (hs.map hmOf) 0).toArray (0 + (hs.map hmOf).length) cT w ⟨(cell_of h.ol 0).trans rfl, h.hm.raw, ?_, ?_, by simpa using ents_born _ 0, ht, (cell_of ht 1).trans hp⟩ _ (fun hc => (conf_iff hs q.m).1 hc) (fun hn => by
    cases hh : okM (hs.map (·.m)) q.m
    · exact absurd ((conf_iff hs q.m).2 hh) hn
    · rfl)
  · intro e he
    obtain ⟨y, hy, hk, hv, _⟩ := mem_ents _ _ e (by simpa using he)
    obtain ⟨a, ha, rfl⟩ := List.mem_map.1 hy
    obtain ⟨c, h1, _⟩ := h.htx a ha
    refine ⟨a.T, a.m, c, hk, hv, h1, ?_⟩
    intro e
    have hn := List.nodup_append.1 h.nod
    exact hn.2.2 a.T (List.mem_map.2 ⟨a, ha, rfl⟩) q.T (List.mem_map.2 ⟨q, hq, rfl⟩) e
  · intro e he
    obtain ⟨_, _, _, _, _, h4⟩ := mem_ents _ _ e (by simpa using he)
    exact h4
end

end Go.Proofs.Qxb6613396a
