/- a holder more, a request more: no walk -/
import Derived.Test.Qxb6613396aPlain
namespace Go.Proofs.Qxb6613396a
open Go.RowKit
open Go.ChangeMaps (setBlock)
set_option linter.unusedVariables false

/-- a slice that came in, below B -/
def MsB (w : World) (B : Nat) (a : Option Addr) (n : Nat) (ms : List Int) : Prop :=
  ms.length = n ∧ (0 < n → ∃ b off, a = some ⟨b, off, none⟩ ∧ b < B ∧ ∀ i, i < n → w.cell? ⟨b, off + i, none⟩ = some (.int .u8 (ms.getD i 0)))
theorem MsB.below {w w' : World} {B : Nat} {a : Option Addr} {n : Nat} {ms : List Int} (h : MsB w B a n ms) (b : Below B w w') : MsB w' B a n ms :=
  ⟨h.1, fun hn => by
    obtain ⟨b1, off, h1, h2, h3⟩ := h.2 hn
    exact ⟨b1, off, h1, h2, fun i hi => (b.cell (p := ⟨b1, off + i, none⟩) h2).trans (h3 i hi)⟩⟩
theorem MsB.ms {w : World} {B : Nat} {a : Option Addr} {n : Nat} {ms : List Int} (h : MsB w B a n ms) (hB : B ≤ w.heap.size) : Ms w a n ms :=
  ⟨h.1, fun hn => by
    obtain ⟨b1, off, h1, h2, h3⟩ := h.2 hn
    exact ⟨b1, off, h1, by omega, h3⟩⟩
theorem MsB.up {w : World} {B C : Nat} {a : Option Addr} {n : Nat} {ms : List Int} (h : MsB w B a n ms) (hB : B ≤ C) : MsB w C a n ms :=
  ⟨h.1, fun hn => by
    obtain ⟨b1, off, h1, h2, h3⟩ := h.2 hn
    exact ⟨b1, off, h1, by omega, h3⟩⟩

/-- block J is a row of n cells, of which the first are those of l -/
def PRow (w : World) (J n : Nat) (t : TypeId) (l : List Value) : Prop := ∃ c : Array Value, w.heap[J]? = some (.cells c t (0, 0)) ∧ c.size = n ∧ l.length ≤ n ∧ ∀ i, i < l.length → c[i]? = l[i]?
theorem PRow.lt {w : World} {J n : Nat} {t : TypeId} {l : List Value} (h : PRow w J n t l) : J < w.heap.size := let ⟨_, h1, _⟩ := h; lt_of_some h1
theorem PRow.heap_eq {w w' : World} {J n : Nat} {t : TypeId} {l : List Value} (h : PRow w J n t l) (e : w'.heap[J]? = w.heap[J]?) : PRow w' J n t l := by unfold PRow; rw [e]; exact h
theorem PRow.cellAny {w : World} {J n : Nat} {t : TypeId} {l : List Value} (h : PRow w J n t l) {i : Nat} (hi : i < n) : ∃ u, w.cell? ⟨J, i, none⟩ = some u := by
  obtain ⟨c, h1, h2, _⟩ := h
  exact ⟨c[i], by rw [cell_of h1]; exact Array.getElem?_eq_getElem (by omega)⟩
theorem PRow.froz {w : World} {J n : Nat} {t : TypeId} {l : List Value} (h : PRow w J n t l) (i : Nat) : w.frozen? ⟨J, i, none⟩ = false := let ⟨_, h1, _⟩ := h; froz_of h1 i
theorem PRow.push {w : World} {J n : Nat} {t : TypeId} {l : List Value} (h : PRow w J n t l) (u : Value) (hl : l.length < n) : PRow (w.setCell ⟨J, l.length, none⟩ u) J n t (l ++ [u]) := by
  obtain ⟨c, h1, h2, h3, h4⟩ := h
  refine ⟨c.setIfInBounds l.length u, heap_setCell_same w J l.length c t u h1, by simpa using h2, by simp; omega, fun i hi => ?_⟩
  rw [Array.getElem?_setIfInBounds]
  by_cases e : l.length = i
  · subst e
    simp [h2, hl]
  · rw [if_neg e]
    simp at hi
    rw [h4 i (by omega), List.getElem?_append_left (by omega)]
theorem PRow.rw {w : World} {J n : Nat} {t : TypeId} {l : List Value} (h : PRow w J n t l) (hl : l.length = n) (f : Nat → Value) (hf : ∀ i, i < n → l[i]? = some (f i)) : Rw w (some ⟨J, 0, none⟩) n f := fun hn => by
  refine ⟨J, 0, rfl, h.lt, fun i hi => ?_⟩
  obtain ⟨c, h1, h2, h3, h4⟩ := h
  rw [cell_of h1, Nat.zero_add, h4 i (by omega)]
  exact hf i hi

section
variable {w w' : World} {B : Nat} {k : Bk} {sp : Int} {id : ByteArray} {hs : List Hd} {ds qs : List Rq} {v : Value} {x : Option Nat}

theorem Sys.again (h : Sys w B k sp id hs ds qs v x) (o : Only (Wq k v) w w') {hs2 : List Hd} {qs2 : List Rq} {v' : Value}
    (ol : w'.heap[k.O]? = some (.cells #[.map (some k.HM), v'] 62 (0, 0))) (own : w'.ownsRow B 66 1 v' qs2.length (qs2.map rqOf))
    (mw : MapAt w' k.MW (qs2.map mwOf) ds.length) (hm : MapAt w' k.HM (hs2.map hmOf) 0) (mh : MapAt w' k.MH (hs2.map mhOf) 0)
    (htx : ∀ y ∈ hs2, TxAt w' y.T) (hrow : ∀ y ∈ hs2, KeyRow w' y.g sp id) (req : ∀ q ∈ qs2, ReqC w' q sp id) (qch : ∀ q ∈ qs2, w'.heap[q.c]? = some (.chan 0 #[] false 0 0 false))
    (nod : (hs2.map (·.T) ++ qs2.map (·.T)).Nodup) (nodc : (ds.map (·.c) ++ qs2.map (·.c)).Nodup) (bc : ∀ q ∈ qs2, B ≤ q.c) : Sys w' B k sp id hs2 ds qs2 v' x := by
  have kp := h.keep o
  exact {
    lt := kp.lt
    ol := ol
    own := own
    hm := hm
    mh := mh
    mw := mw
    ob := kp.ob
    htx := htx
    hrow := hrow
    req := fun q hq => by
      rcases List.mem_append.1 hq with hq | hq
      · exact kp.req q (h.req q (List.mem_append_left _ hq))
      · exact req q hq
    dch := fun q hq => kp.ch _ _ (h.dch q hq)
    qch := qch
    nod := nod
    nodc := nodc
    bO := h.bO
    bMO := h.bMO
    bMH := h.bMH
    bMW := h.bMW
    bHM := h.bHM
    bc := bc
    n1 := h.n1
    n2 := h.n2
    n3 := h.n3
    n4 := h.n4
    n5 := h.n5
    n6 := h.n6 }

/-- a holder more -/
theorem Sys.grantNew (h : Sys w B k sp id hs ds [] v x) {T : Nat} (hT : TxAt w T) (hf : ∀ y ∈ hs, y.T ≠ T) (m : Int) :
    Calls Try.prog 21 #[.pointer (some ⟨k.L, 0, none⟩), Ky sp id, .pointer (some ⟨k.O, 0, none⟩), .pointer (some ⟨T, 0, none⟩), .int .u8 m] w fun e w' => e = .returned (.tuple #[]) ∧
      (∃ g cap, Sys w' B k sp id (hs ++ [⟨T, m, g, cap⟩]) ds [] v x) ∧ Only (fun j => j = k.HM ∨ j = k.MH) w w' := by
  refine (zgrant_calls k.L k.O k.MO k.MH k.MW k.HM T sp id m v (hs.map hmOf) (hs.map mhOf) 0 0 w h.lt h.ol h.hm h.mh h.hmKeys h.mhKeys hT
    (by intro y hy; obtain ⟨a, ha, rfl⟩ := List.mem_map.1 hy; exact hf a ha)
    (by intro y hy; obtain ⟨a, ha, rfl⟩ := List.mem_map.1 hy; exact hf a ha) (fun e => h.n5 e.symm)).mono ?_
  rintro e W ⟨rfl, g, cap, a1, a2, a3, a4, a5⟩
  have o : Only (Wq k v) w W := a5.mono (fun j _ hj => by
    rcases hj with hj | hj
    · exact .inr (.inr (.inr (.inl hj)))
    · exact .inr (.inr (.inr (.inr hj))))
  have kp := h.keep o
  refine ⟨rfl, ⟨g, cap, h.again o ?_ ?_ ?_ ?_ ?_ ?_ ?_ ?_ ?_ ?_ h.nodc h.bc⟩, a5⟩
  · refine (a5.block _ (lt_of_some h.ol) ?_).trans h.ol
    rintro (e | e)
    · exact kyne h.ol h.hm.raw e
    · exact kyne h.ol h.mh.raw e
  · rcases h.own with ⟨ha, ha' | ⟨g', cap', cur, b1, b2, b3, b4⟩⟩
    · exact ⟨ha, .inl ha'⟩
    · refine ⟨ha, .inr ⟨g', cap', cur, b1, b2, (a5.block _ (lt_of_some b3) ?_).trans b3, b4⟩⟩
      rintro (e | e)
      · exact kyne b3 h.hm.raw e
      · exact kyne b3 h.mh.raw e
  · refine h.mw.heap_eq (a5.block _ h.mw.lt ?_)
    rintro (e | e)
    · exact h.n6 e
    · exact h.n4 e.symm
  · rw [List.map_append]; exact a1
  · rw [List.map_append]; exact a2
  · intro y hy
    rcases List.mem_append.1 hy with hy | hy
    · exact kp.tx _ (h.htx y hy)
    · simp at hy; subst hy; exact kp.tx _ hT
  · intro y hy
    rcases List.mem_append.1 hy with hy | hy
    · exact kp.row _ (h.hrow y hy)
    · simp at hy; subst hy; exact a3
  · intro q hq; cases hq
  · intro q hq; cases hq
  · have := h.nod
    simp only [List.map_nil, List.append_nil] at this
    simp only [List.map_append, List.map_cons, List.map_nil, List.append_nil]
    rw [List.nodup_append]
    refine ⟨this, by simp, ?_⟩
    intro a ha b hb
    obtain ⟨y, hy, rfl⟩ := List.mem_map.1 ha
    simp at hb
    subst hb
    exact hf y hy

/-- a request more -/
theorem Sys.queueNew (h : Sys w B k sp id hs ds qs v x) {q : Rq} (hn : qs.length ≤ 4096) (hB : B ≤ w.heap.size) (hq : ReqC w q sp id) (hc : w.heap[q.c]? = some (.chan 0 #[] false 0 0 false)) (bc : B ≤ q.c)
    (hf1 : ∀ y ∈ hs, y.T ≠ q.T) (hf2 : ∀ y ∈ qs, y.T ≠ q.T) (hf3 : ∀ y ∈ ds ++ qs, y.c ≠ q.c) :
    Calls Try.prog 23 #[.pointer (some ⟨k.L, 0, none⟩), .pointer (some ⟨k.O, 0, none⟩), .pointer (some ⟨q.R, 0, none⟩)] w fun e w' => e = .returned (.tuple #[]) ∧
      (∃ v', Sys w' B k sp id hs ds (qs ++ [q]) v' x ∧ (v'.ownBlock = v.ownBlock ∨ ∃ g, v'.ownBlock = some g ∧ w.heap.size ≤ g)) ∧ Only (fun j => j = k.O ∨ j = k.MW ∨ some j = v.ownBlock) w w' := by
  refine (queue_calls k.L k.O k.MO k.MH k.MW k.HM B sp id q v qs.length (qs.map rqOf) (qs.map mwOf) ds.length w hn h.lt h.ol hB h.own h.mw
    (by intro y hy; obtain ⟨a, ha, rfl⟩ := List.mem_map.1 hy; exact (h.req a (List.mem_append_right _ ha)).tx) hq
    (by intro y hy; obtain ⟨a, ha, rfl⟩ := List.mem_map.1 hy; exact hf2 a ha)).mono ?_
  rintro e W ⟨rfl, v', a1, a2, a3, a4, a5⟩
  have o : Only (Wq k v) w W := a5.mono (fun j _ hj => by
    rcases hj with hj | hj | hj
    · exact .inr (.inl hj)
    · exact .inr (.inr (.inl hj))
    · exact .inl hj)
  have kp := h.keep o
  have hvt : ∀ {r : Nat} {es : Array MapEntry} {n : Nat}, w.heap[r]? = some (.map es n) → r ≠ k.MW → ¬ (r = k.O ∨ r = k.MW ∨ some r = v.ownBlock) := by
    rintro r es n hr hne (e | e | e)
    · exact kyne h.ol hr e.symm
    · exact hne e
    · obtain ⟨_, c, h'⟩ := own_row h.own r e.symm
      exact kyne h' hr rfl
  refine ⟨rfl, ⟨v', h.again o a1 ?_ ?_ ?_ ?_ ?_ ?_ ?_ ?_ ?_ ?_ ?_, a4⟩, a5⟩
  · rw [List.length_append, List.map_append]; exact a2
  · rw [List.map_append]; exact a3
  · exact h.hm.heap_eq (a5.block _ h.hm.lt (hvt h.hm.raw (fun e => h.n6 e.symm)))
  · exact h.mh.heap_eq (a5.block _ h.mh.lt (hvt h.mh.raw h.n4))
  · exact fun y hy => kp.tx _ (h.htx y hy)
  · exact fun y hy => kp.row _ (h.hrow y hy)
  · intro q' hq'
    rcases List.mem_append.1 hq' with hq' | hq'
    · exact kp.req _ (h.req q' (List.mem_append_right _ hq'))
    · simp at hq'; subst hq'; exact kp.req _ hq
  · intro q' hq'
    rcases List.mem_append.1 hq' with hq' | hq'
    · exact kp.ch _ _ (h.qch q' hq')
    · simp at hq'; subst hq'; exact kp.ch _ _ hc
  · rw [List.map_append, ← List.append_assoc, List.nodup_append]
    refine ⟨h.nod, by simp, ?_⟩
    intro a ha b hb
    simp at hb
    subst hb
    rcases List.mem_append.1 ha with ha | ha
    · obtain ⟨y, hy, rfl⟩ := List.mem_map.1 ha; exact hf1 y hy
    · obtain ⟨y, hy, rfl⟩ := List.mem_map.1 ha; exact hf2 y hy
  · rw [List.map_append, ← List.append_assoc, List.nodup_append]
    refine ⟨h.nodc, by simp, ?_⟩
    intro a ha b hb
    simp at hb
    subst hb
    rcases List.mem_append.1 ha with ha | ha
    · obtain ⟨y, hy, rfl⟩ := List.mem_map.1 ha; exact hf3 y (List.mem_append_left _ hy)
    · obtain ⟨y, hy, rfl⟩ := List.mem_map.1 ha; exact hf3 y (List.mem_append_right _ hy)
  · intro q' hq'
    rcases List.mem_append.1 hq' with hq' | hq'
    · exact h.bc q' hq'
    · simp at hq'; subst hq'; exact bc
end

end Go.Proofs.Qxb6613396a
