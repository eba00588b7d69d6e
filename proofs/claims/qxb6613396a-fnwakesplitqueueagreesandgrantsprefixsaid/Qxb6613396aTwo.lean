/- a table whose queue is filled twice; the end of a table: no walk -/
import Derived.Test.Qxb6613396aKeeps
namespace Go.Proofs.Qxb6613396a
open Go.RowKit
open Go.ChangeMaps (setBlock)
set_option linter.unusedVariables false

theorem PRow.owns {w : World} {J n : Nat} {t : TypeId} {l : List Value} (h : PRow w J n t l) (hn : n ≤ maxLen) : w.ownsRow 0 t 1 (.slice (some ⟨J, 0, none⟩) l.length n) l.length l := by
  obtain ⟨c, h1, h2, h3, h4⟩ := h
  refine ⟨by simp, .inr ⟨J, n, c, rfl, Nat.zero_le _, h1, h3, hn, by omega, ?_⟩⟩
  apply List.ext_getElem?
  intro i
  rw [Nat.mul_one, List.getElem?_take]
  by_cases hi : i < l.length
  · rw [if_pos hi, Array.getElem?_toList]; exact h4 i hi
  · rw [if_neg hi, List.getElem?_eq_none (by omega)]
theorem PRow.ofOwns {w : World} {J m n base : Nat} {t : TypeId} {l : List Value} (h : w.ownsRow base t 1 (.slice (some ⟨J, 0, none⟩) m n) m l) : PRow w J n t l := by
  have hl := h.1
  rcases h.2 with ⟨h1, _⟩ | ⟨g', cap', cur, h1, h2, h3, h4, h5, h6, h7⟩
  · cases h1
  · simp only [Value.slice.injEq, Option.some.injEq, Addr.mk.injEq, and_true, true_and] at h1
    obtain ⟨rfl, rfl⟩ := h1
    refine ⟨cur, h3, by omega, by omega, fun i hi => ?_⟩
    rw [← h7, List.getElem?_take, if_pos (by omega), Array.getElem?_toList]

section
variable {w W W' : World} {B : Nat} {k : Bk} {sp : Int} {id : ByteArray} {hs hs' : List Hd} {ds qs : List Rq} {v : Value} {x : Option Nat} {J1 J2 N : Nat}

/-- a change to the map of objects alone -/
theorem Sys.obj (s : Sys W B k sp id hs ds qs v x) {x' : Option Nat} (o : Only (fun j => j = k.MO) W W') (hob : ObAt W' k.MO sp id x') : Sys W' B k sp id hs ds qs v x' := by
  obtain ⟨es, n, hm⟩ := s.ob.isMap
  have hc : ∀ {j : Nat} {c : Array Value} {t : TypeId} {r : Nat × Nat}, W.heap[j]? = some (.cells c t r) → W'.heap[j]? = W.heap[j]? := fun hj => o.block _ (lt_of_some hj) (kyne hj hm)
  have hh : ∀ {j p : Nat} {q : Array Value} {cl : Bool} {a b : Nat} {tm : Bool}, W.heap[j]? = some (.chan p q cl a b tm) → W'.heap[j]? = W.heap[j]? := fun hj => o.block _ (lt_of_some hj) (fun e => mcne hm hj e.symm)
  have htx : ∀ T, TxAt W T → TxAt W' T := fun T hT => hT.heap_eq (by obtain ⟨c, h1, _⟩ := hT; exact hc h1)
  exact {
    lt := (hc s.lt).trans s.lt
    ol := (hc s.ol).trans s.ol
    own := by
      rcases s.own with ⟨ha, ha' | ⟨g', cap', cur, b1, b2, b3, b4⟩⟩
      · exact ⟨ha, .inl ha'⟩
      · exact ⟨ha, .inr ⟨g', cap', cur, b1, b2, (hc b3).trans b3, b4⟩⟩
    hm := s.hm.heap_eq (o.block _ s.hm.lt (fun e => s.n3 e.symm))
    mh := s.mh.heap_eq (o.block _ s.mh.lt (fun e => s.n1 e.symm))
    mw := s.mw.heap_eq (o.block _ s.mw.lt (fun e => s.n2 e.symm))
    ob := hob
    htx := fun y hy => htx _ (s.htx y hy)
    hrow := fun y hy => (s.hrow y hy).heap_eq (by obtain ⟨c, h1, _⟩ := s.hrow y hy; exact hc h1)
    req := fun q hq => ⟨(hc (s.req q hq).blk).trans (s.req q hq).blk, htx _ (s.req q hq).tx⟩
    dch := fun q hq => (hh (s.dch q hq)).trans (s.dch q hq)
    qch := fun q hq => (hh (s.qch q hq)).trans (s.qch q hq)
    nod := s.nod
    nodc := s.nodc
    bO := s.bO
    bMO := s.bMO
    bMH := s.bMH
    bMW := s.bMW
    bHM := s.bHM
    bc := s.bc
    n1 := s.n1
    n2 := s.n2
    n3 := s.n3
    n4 := s.n4
    n5 := s.n5
    n6 := s.n6 }

/-- the object put back -/
theorem Tab.put (t : Tab w W k sp id hs hs' ds qs v x J1 J2 N) (hx : x = none ∨ x = some k.O) :
    Calls Try.prog 11 #[.pointer (some ⟨k.L, 0, none⟩), .agg #[.int .i64 sp, .string id], .pointer (some ⟨k.O, 0, none⟩)] W fun e W' => e = .returned (.tuple #[]) ∧ Tab w W' k sp id hs hs' ds qs v (some k.O) J1 J2 N := by
  refine (put_calls k.L k.O k.MO k.MH k.MW sp id x W t.sys.lt t.sys.ob hx).mono ?_
  rintro e W' ⟨rfl, hob, o⟩
  obtain ⟨es, n, hm⟩ := t.sys.ob.isMap
  refine ⟨rfl, t.sys.obj o hob, t.gr, ?_, ?_, t.nj, t.bl.trans (o.below t.bl.size (fun i hi => by rw [hi]; exact t.sys.bMO))⟩
  · refine t.p1.heap_eq (o.block _ t.p1.lt ?_)
    obtain ⟨c, h1, _⟩ := t.p1
    exact kyne h1 hm
  · refine t.p2.heap_eq (o.block _ t.p2.lt ?_)
    obtain ⟨c, h1, _⟩ := t.p2
    exact kyne h1 hm

/-- more requests, and their row appended to the row of them all -/
theorem Tab.more {e : Ending} {ms : List Int} {n : Nat} {WC : World} (t : Tab w W k sp id hs hs' ds qs v x J1 J2 N) (hN : N ≤ maxLen) (hJ : w.heap.size ≤ J2) (ha : Asked W w.heap.size k sp id (hs ++ hs') ds qs v x ms n e WC) (hms : ms.length = n) :
    ∃ JF rs v', e = .returned (.slice (some ⟨JF, 0, none⟩) n n) ∧ rs.map (·.m) = ms ∧ WC.ownsRow 0 66 1 (.slice (some ⟨J2, 0, none⟩) (ds ++ qs).length N) (ds ++ qs).length ((ds ++ qs).map rqOf) ∧ (rs.map rqOf).length = n * 1 ∧
      (∀ ad, some (⟨JF, 0, none⟩ : Addr) = some ad → ∀ j u, (rs.map rqOf)[j]? = some u → WC.cell? (ad.add j) = some u) ∧
      ∀ WD, WC.grownBy WD (some J2) → WD.ownsRow 0 66 1 (.slice (some ⟨J2, 0, none⟩) ((ds ++ qs).length + n) N) ((ds ++ qs).length + n) ((ds ++ qs).map rqOf ++ rs.map rqOf) → Tab w WD k sp id hs hs' ds (qs ++ rs) v' x J1 J2 N := by
  obtain ⟨JF, rs, v', h1, h2, h3, h4, h5, h6, h7, h8⟩ := ha
  have hl : rs.length = n := by have := congrArg List.length h3; simp at this; omega
  have hJl := t.p2.lt
  have p1 : PRow WC J1 hs.length 63 (hs.map tp) := by
    refine t.p1.heap_eq (h5.block _ t.p1.lt ?_)
    obtain ⟨c, hc, _⟩ := t.p1
    refine t.sys.notMq hc (by decide) (fun e => ?_)
    obtain ⟨_, c', h'⟩ := own_row t.sys.own _ e.symm
    exact tyne hc h' (by decide) rfl
  have p2 : PRow WC J2 N 66 ((ds ++ qs).map rqOf) := by
    refine t.p2.heap_eq (h5.block _ t.p2.lt ?_)
    obtain ⟨c, hc, _⟩ := t.p2
    exact t.sys.notMq hc (by decide) (fun e => t.nj e.symm)
  have hv' : v'.ownBlock ≠ some J2 := by
    rcases h8 with e | ⟨g, e, hg⟩
    · rw [e]; exact t.nj
    · rw [e]
      intro e'
      injection e' with e'
      omega
  refine ⟨JF, rs, v', h1, h3, ?_, by simp [hl], ?_, ?_⟩
  · have := p2.owns hN
    simpa using this
  · intro ad had j u hu
    injection had with had
    subst had
    obtain ⟨c, c1, c2, c3, c4⟩ := h4
    have hj := (List.getElem?_eq_some_iff.1 hu).1
    rw [Addr.add_lit, cell_of c1, Nat.zero_add, c4 j hj]
    exact hu
  · intro WD hg ho
    have o : Only (fun j => j = J2) WC WD := (Only.refl _ WC).grown hg (fun j e _ => by injection e with e; exact e.symm)
    obtain ⟨c, hc, _⟩ := p2
    refine ⟨h2.other hc (by decide) (by decide) (by decide) (by decide) (by decide) hv' o, t.gr, ?_, ?_, hv', ?_⟩
    · refine p1.heap_eq (o.block _ p1.lt ?_)
      obtain ⟨c', hc', _⟩ := p1
      exact tyne hc' hc (by decide)
    · have := PRow.ofOwns ho
      rw [← List.map_append, List.append_assoc] at this
      exact this
    · exact (t.bl.trans (h5.below t.bl.size t.sys.mqB)).trans (o.below (Nat.le_trans t.bl.size h5.size) (fun i hi => by rw [hi]; exact hJ))
end

/-- the end of a table -/
def Fin2 (w W : World) (k : Bk) (sp : Int) (id : ByteArray) (ms2 ms : List Int) (J1 J2 kk ql : Nat) (p : Value) : Prop :=
  ∃ hs hs' ds qs v x N, Tab w W k sp id hs hs' ds qs v x J1 J2 N ∧ hs.map (·.m) = ms2 ∧ (ds ++ qs).map (·.m) = ms ∧ ds.length = kk ∧ qs.length = ql ∧ p = .pointer (x.map fun o => ⟨o, 0, none⟩)

section
variable {w W W' : World} {k : Bk} {sp : Int} {id : ByteArray} {ms2 ms : List Int} {J1 J2 kk ql : Nat} {p : Value}

theorem Fin2.ext (h : Fin2 w W k sp id ms2 ms J1 J2 kk ql p) (b : Below W.heap.size W W') : Fin2 w W' k sp id ms2 ms J1 J2 kk ql p := by
  obtain ⟨hs, hs', ds, qs, v, x, N, t, h1, h2, h3, h4, h5⟩ := h
  exact ⟨hs, hs', ds, qs, v, x, N, t.ext b, h1, h2, h3, h4, h5⟩
theorem Fin2.bl (h : Fin2 w W k sp id ms2 ms J1 J2 kk ql p) : Below w.heap.size w W := by
  obtain ⟨hs, hs', ds, qs, v, x, N, t, _⟩ := h
  exact t.bl
theorem Fin2.c15 (h : Fin2 w W k sp id ms2 ms J1 J2 kk ql p) : Calls Try.prog 15 #[.pointer (some ⟨k.O, 0, none⟩)] W fun e W' => e = .returned (.int .i64 ql) ∧ W' = W := by
  obtain ⟨hs, hs', ds, qs, v, x, N, t, h1, h2, h3, h4, h5⟩ := h
  rw [← h4]
  exact t.sys.lenQ
theorem Fin2.c18 (h : Fin2 w W k sp id ms2 ms J1 J2 kk ql p) : Calls Try.prog 18 #[.pointer (some ⟨k.L, 0, none⟩), .agg #[.int .i64 sp, .string id]] W fun e W' => e = .returned p ∧ Below W.heap.size W W' := by
  obtain ⟨hs, hs', ds, qs, v, x, N, t, h1, h2, h3, h4, h5⟩ := h
  rw [h5]
  exact t.sys.objIn
theorem Fin2.c17 (h : Fin2 w W k sp id ms2 ms J1 J2 kk ql p) {a2 a3 : Option Addr} {m2 m3 c2 c3 c4 c5 : Nat} (r2 : MsB w w.heap.size a2 m2 ms2) (r3 : MsB w w.heap.size a3 m3 ms) (b2 : m2 ≤ 4096) (b3 : m3 ≤ 4096) (i : Int) (hi : i = kk) :
    Calls Try.prog 17 #[.pointer (some ⟨k.L, 0, none⟩), .agg #[.int .i64 sp, .string id], .pointer (some ⟨k.O, 0, none⟩), .slice a2 m2 c2, .slice (some ⟨J1, 0, none⟩) m2 c4, .slice a3 m3 c3, .slice (some ⟨J2, 0, none⟩) m3 c5, .int .i64 i] W fun e W' => e = .returned (.bool true) ∧ Below W.heap.size W W' := by
  obtain ⟨hs, hs', ds, qs, v, x, N, t, h1, h2, h3, h4, h5⟩ := h
  exact t.books r2 r3 h1 h2 b2 b3 i (by rw [hi, h3])
end

/-- the object is there where anything is -/
def pOf (k : Bk) (n : Nat) : Value := if 0 < n then .pointer (some ⟨k.O, 0, none⟩) else .pointer none

/-- all at once -/
theorem Tab.fin1 {w W W' : World} {k : Bk} {sp : Int} {id : ByteArray} {hs : List Hd} {rs : List Rq} {v : Value} {J1 J2 N : Nat} {ms2 ms : List Int} (t : Tab w W k sp id hs [] [] rs v (some k.O) J1 J2 N) (hw : Woken W w.heap.size k sp id (hs ++ []) [] rs v (some k.O) W') (h2 : hs.map (·.m) = ms2) (h3 : rs.map (·.m) = ms) :
    Fin2 w W' k sp id ms2 ms J1 J2 (gN ms2 ms) (ms.length - gN ms2 ms) (pOf k (ms2.length + ms.length)) := by
  obtain ⟨gr, rest, hs2, v', x', t', hsp, hgl, hg0, hx1, hx2⟩ := t.first hw
  rw [h2, h3] at hgl
  refine ⟨hs, hs2, gr, rest, v', x', N, t', h2, by rw [← hsp]; exact h3, hgl, ?_, ?_⟩
  · rw [← hgl, ← h3, hsp, List.length_map, List.length_append]; omega
  · unfold pOf
    rw [← h2, ← h3, List.length_map, List.length_map]
    by_cases he : hs = [] ∧ rs = []
    · rw [hx1 he, if_neg (by rw [he.1, he.2]; simp)]; rfl
    · rw [hx2 he, if_pos]
      · rfl
      · apply Nat.pos_of_ne_zero
        intro e
        exact he ⟨List.length_eq_zero_iff.1 (by omega), List.length_eq_zero_iff.1 (by omega)⟩

/-- between the two fills -/
def Half (w W : World) (k : Bk) (sp : Int) (id : ByteArray) (ms2 ms3 : List Int) (J1 J2 N : Nat) (x : Option Nat) : Prop :=
  ∃ hs hs' ds qs v, Tab w W k sp id hs hs' ds qs v x J1 J2 N ∧ hs.map (·.m) = ms2 ∧ hs'.map (·.m) = ms3.take (gN ms2 ms3) ∧ (ds ++ qs).map (·.m) = ms3 ∧ ds.length = gN ms2 ms3 ∧ qs.map (·.m) = ms3.drop (gN ms2 ms3)

theorem Tab.half {w W W' : World} {k : Bk} {sp : Int} {id : ByteArray} {hs : List Hd} {rs : List Rq} {v : Value} {J1 J2 N : Nat} {ms2 ms : List Int} (t : Tab w W k sp id hs [] [] rs v (some k.O) J1 J2 N) (hw : Woken W w.heap.size k sp id (hs ++ []) [] rs v (some k.O) W') (h2 : hs.map (·.m) = ms2) (h3 : rs.map (·.m) = ms) :
    ∃ x, Half w W' k sp id ms2 ms J1 J2 N x ∧ (x = none ∨ x = some k.O) ∧ Value.pointer (x.map fun o => ⟨o, 0, none⟩) = pOf k (ms2.length + ms.length) := by
  obtain ⟨gr, rest, hs2, v', x', t', hsp, hgl, hg0, hx1, hx2⟩ := t.first hw
  rw [h2, h3] at hgl
  have hm : ms = gr.map (·.m) ++ rest.map (·.m) := by rw [← h3, hsp, List.map_append]
  have hgm : (gr.map (·.m)).length = gN ms2 ms := by rw [List.length_map]; exact hgl
  refine ⟨x', ⟨hs, hs2, gr, rest, v', t', h2, ?_, by rw [← hsp]; exact h3, hgl, ?_⟩, ?_, ?_⟩
  · rw [(modes_eq t'.gr).1, ← hgm]
    conv => rhs; rw [hm]
    rw [List.take_left' rfl]
  · rw [← hgm]
    conv => rhs; rw [hm]
    rw [List.drop_left' rfl]
  · by_cases he : hs = [] ∧ rs = []
    · exact .inl (hx1 he)
    · exact .inr (hx2 he)
  · unfold pOf
    rw [← h2, ← h3, List.length_map, List.length_map]
    by_cases he : hs = [] ∧ rs = []
    · rw [hx1 he, if_neg (by rw [he.1, he.2]; simp)]; rfl
    · rw [hx2 he, if_pos]
      · rfl
      · apply Nat.pos_of_ne_zero
        intro e
        exact he ⟨List.length_eq_zero_iff.1 (by omega), List.length_eq_zero_iff.1 (by omega)⟩

end Go.Proofs.Qxb6613396a
