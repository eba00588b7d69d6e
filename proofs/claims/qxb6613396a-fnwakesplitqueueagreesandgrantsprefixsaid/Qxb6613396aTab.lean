/- a table with its rows, from its start to its books: no walk -/
import Derived.Test.Qxb6613396aReqs
namespace Go.Proofs.Qxb6613396a
open Go.RowKit
open Go.ChangeMaps (setBlock)
set_option linter.unusedVariables false

def bkOf (B : Nat) : Bk := ⟨B + 3, B + 5, B, B + 1, B + 2, B + 4⟩

/-- behind the table's making; behind the object's -/
def T1 (w W : World) : Prop := W = (((w.alloc (.map #[] 0)).alloc (.map #[] 0)).alloc (.map #[] 0)).alloc (.cells (ltCells w.heap.size (w.heap.size + 1) (w.heap.size + 2)) 59)
def T2 (w W : World) : Prop := ∃ W1, T1 w W1 ∧ W = (W1.alloc (.map #[] 0)).alloc (.cells #[.map (some (w.heap.size + 4)), .slice none 0 0] 62)

theorem tbl_calls (w : World) : Calls Try.prog 9 #[] w fun e W => e = .returned (.pointer (some ⟨(bkOf w.heap.size).L, 0, none⟩)) ∧ T1 w W :=
  (newTable_calls w).mono fun e W ⟨h1, h2⟩ => ⟨h1, h2⟩
theorem T1.size {w W : World} (h : T1 w W) : W.heap.size = w.heap.size + 4 := by rw [h]; simp
theorem T1.lock {w W : World} (h : T1 w W) : Calls Try.prog 10 #[] W fun e W2 => e = .returned (.pointer (some ⟨(bkOf w.heap.size).O, 0, none⟩)) ∧ T2 w W2 :=
  (newLock_calls W).mono fun e W2 ⟨h1, h2⟩ => ⟨by rw [h1, h.size]; rfl, W, h, by rw [h2, h.size]⟩

theorem alloc_at (w : World) (o : Obj) (j : Nat) (h : j = w.heap.size) : (w.alloc o).heap[j]? = some o := by subst h; exact heap_alloc_new w o
theorem alloc_lt {w : World} {o o' : Obj} {j : Nat} (h : w.heap[j]? = some o') : (w.alloc o).heap[j]? = some o' := (Below.heap_alloc _ _ _ (lt_of_some h)).trans h

/-- what T2 holds -/
theorem T2.facts {w W : World} (h : T2 w W) : W.heap[w.heap.size + 3]? = some (.cells (ltCells w.heap.size (w.heap.size + 1) (w.heap.size + 2)) 59 (0, 0)) ∧ W.heap[w.heap.size + 5]? = some (.cells #[.map (some (w.heap.size + 4)), .slice none 0 0] 62 (0, 0)) ∧
    W.heap[w.heap.size]? = some (.map #[] 0) ∧ W.heap[w.heap.size + 1]? = some (.map #[] 0) ∧ W.heap[w.heap.size + 2]? = some (.map #[] 0) ∧ W.heap[w.heap.size + 4]? = some (.map #[] 0) ∧ Below w.heap.size w W := by
  obtain ⟨W1, h1, rfl⟩ := h
  have hz := h1.size
  subst h1
  refine ⟨?_, ?_, ?_, ?_, ?_, ?_, ?_⟩
  · exact alloc_lt (alloc_lt (alloc_at _ _ _ (by simp)))
  · exact alloc_at _ _ _ (by simp)
  · exact alloc_lt (alloc_lt (alloc_lt (alloc_lt (alloc_lt (alloc_at _ _ _ (by simp))))))
  · exact alloc_lt (alloc_lt (alloc_lt (alloc_lt (alloc_at _ _ _ (by simp)))))
  · exact alloc_lt (alloc_lt (alloc_lt (alloc_at _ _ _ (by simp))))
  · exact alloc_lt (alloc_at _ _ _ (by simp))
  · exact ((((((Below.refl _ w).alloc (Nat.le_refl _) _).alloc (by simp) _).alloc (by simp; omega) _).alloc (by simp; omega) _).alloc (by simp; omega) _).alloc (by simp; omega) _

/-- the table stands -/
def Started (w W : World) (sp : Int) (id : ByteArray) : Prop := Sys W w.heap.size (bkOf w.heap.size) sp id [] [] [] (.slice none 0 0) (some (bkOf w.heap.size).O) ∧ Below w.heap.size w W

theorem T2.put {w W : World} (h : T2 w W) (sp : Int) (id : ByteArray) :
    Calls Try.prog 11 #[.pointer (some ⟨(bkOf w.heap.size).L, 0, none⟩), .agg #[.int .i64 sp, .string id], .pointer (some ⟨(bkOf w.heap.size).O, 0, none⟩)] W fun e W3 => e = .returned (.tuple #[]) ∧ Started w W3 sp id := by
  obtain ⟨h1, h2, h3, h4, h5, h6, h7⟩ := h.facts
  refine (put_calls (w.heap.size + 3) (w.heap.size + 5) w.heap.size (w.heap.size + 1) (w.heap.size + 2) sp id none W h1 ⟨0, .inl ⟨rfl, h3⟩⟩ (.inl rfl)).mono ?_
  rintro e W3 ⟨rfl, hob, ho⟩
  have hb : ∀ {j : Nat} {o : Obj}, W.heap[j]? = some o → j ≠ w.heap.size → W3.heap[j]? = some o := fun hj hne => (ho.block _ (lt_of_some hj) hne).trans hj
  refine ⟨rfl, ?_, h7.trans (ho.below h7.size (fun i hi => by rw [hi]; exact Nat.le_refl _))⟩
  exact {
    lt := hb h1 (by simp [bkOf])
    ol := hb h2 (by simp [bkOf])
    own := World.ownsRow_nil _ _ _ _
    hm := hb h6 (by simp [bkOf])
    mh := hb h4 (by simp [bkOf])
    mw := hb h5 (by simp [bkOf])
    ob := hob
    htx := fun y hy => by cases hy
    hrow := fun y hy => by cases hy
    req := fun y hy => by cases hy
    dch := fun y hy => by cases hy
    qch := fun y hy => by cases hy
    nod := by simp
    nodc := by simp
    bO := by simp [bkOf]
    bMO := by simp [bkOf]
    bMH := by simp [bkOf]
    bMW := by simp [bkOf]
    bHM := by simp [bkOf]
    bc := fun y hy => by cases hy
    n1 := by simp [bkOf]
    n2 := by simp [bkOf]
    n3 := by simp [bkOf]
    n4 := by simp [bkOf]
    n5 := by simp [bkOf]
    n6 := by simp [bkOf] }

/-- a table with its rows -/
structure Tab (w W : World) (k : Bk) (sp : Int) (id : ByteArray) (hs hs' : List Hd) (ds qs : List Rq) (v : Value) (x : Option Nat) (J1 J2 n2 : Nat) : Prop where
  sys : Sys W w.heap.size k sp id (hs ++ hs') ds qs v x
  gr : hs'.map hT = ds.map qT
  p1 : PRow W J1 hs.length 63 (hs.map tp)
  p2 : PRow W J2 n2 66 ((ds ++ qs).map rqOf)
  nj : v.ownBlock ≠ some J2
  bl : Below w.heap.size w W

section
variable {w W W' : World} {k : Bk} {sp : Int} {id : ByteArray} {hs hs' : List Hd} {ds qs : List Rq} {v : Value} {x : Option Nat} {J1 J2 n2 : Nat}

theorem Tab.ext (h : Tab w W k sp id hs hs' ds qs v x J1 J2 n2) (b : Below W.heap.size W W') : Tab w W' k sp id hs hs' ds qs v x J1 J2 n2 :=
  ⟨h.sys.ext b, h.gr, h.p1.heap_eq (b.block _ h.p1.lt), h.p2.heap_eq (b.block _ h.p2.lt), h.nj, h.bl.trans (b.mono h.bl.size)⟩

/-- what happens above leaves a table alone -/
theorem Tab.past (h : Tab w W k sp id hs hs' ds qs v x J1 J2 n2) (b : Below W.heap.size W W') : Tab w W' k sp id hs hs' ds qs v x J1 J2 n2 := h.ext b

/-- what wake leaves of it -/
theorem Tab.woken (h : Tab w W k sp id hs hs' ds qs v x J1 J2 n2) (hw : Woken W w.heap.size k sp id (hs ++ hs') ds qs v x W') :
    ∃ gr rest hs2 v', Tab w W' k sp id hs (hs' ++ hs2) (ds ++ gr) rest v' (if hs ++ hs' = [] ∧ qs = [] then none else x) J1 J2 n2 ∧ qs = gr ++ rest ∧ gr.length = gN ((hs ++ hs').map (·.m)) (qs.map (·.m)) ∧
      gN ((hs ++ (hs' ++ hs2)).map (·.m)) (rest.map (·.m)) = 0 ∧ hs2.map hT = gr.map qT := by
  obtain ⟨gr, rest, hs2, v', a1, a2, a3, a4, a5, a6, a7⟩ := hw
  refine ⟨gr, rest, hs2, v', ⟨?_, ?_, ?_, ?_, ?_, ?_⟩, a1, a4, ?_, a3⟩
  · rw [← List.append_assoc]; exact a2
  · rw [List.map_append, List.map_append, h.gr, a3]
  · refine h.p1.heap_eq (a6.block _ h.p1.lt ?_)
    obtain ⟨c, hc, _⟩ := h.p1
    exact h.sys.notWr_ty hc (by decide) (by decide)
  · rw [List.append_assoc, ← a1]
    refine h.p2.heap_eq (a6.block _ h.p2.lt ?_)
    obtain ⟨c, hc, _⟩ := h.p2
    exact h.sys.notWr hc (tyne hc h.sys.ol (by decide)) (fun e => h.nj e.symm)
  · rw [a7]; exact h.nj
  · exact h.bl.trans (a6.below h.bl.size h.sys.wrB)
  · rw [← List.append_assoc]; exact a5

theorem PRow.rw' {w : World} {J n : Nat} {t : TypeId} {l : List Value} (h : PRow w J n t l) {c : Nat} (hl : l.length = c) (f : Nat → Value) (hf : ∀ i, i < c → l[i]? = some (f i)) : Rw w (some ⟨J, 0, none⟩) c f := fun hn => by
  refine ⟨J, 0, rfl, h.lt, fun i hi => ?_⟩
  obtain ⟨c, h1, h2, h3, h4⟩ := h
  rw [cell_of h1, Nat.zero_add, h4 i (by omega)]
  exact hf i hi

theorem Tab.bks (h : Tab w W k sp id hs hs' ds qs v x J1 J2 n2) {a2 a3 : Option Addr} {m2 m3 : Nat} {ms2 ms3 : List Int} (r2 : MsB w w.heap.size a2 m2 ms2) (r3 : MsB w w.heap.size a3 m3 ms3) (e2 : hs.map (·.m) = ms2) (e3 : (ds ++ qs).map (·.m) = ms3) :
    Bks W w.heap.size k sp id hs hs' ds qs v x a2 (some ⟨J1, 0, none⟩) a3 (some ⟨J2, 0, none⟩) := by
  have g2 := (r2.below h.bl).ms h.bl.size
  have g3 := (r3.below h.bl).ms h.bl.size
  have l2 : m2 = hs.length := by rw [← r2.1, ← e2, List.length_map]
  have l3 : m3 = (ds ++ qs).length := by rw [← r3.1, ← e3, List.length_map]
  refine ⟨h.sys, h.gr, ?_, ?_, ?_, ?_⟩
  · rw [← l2]
    have : (fun i => Value.int .u8 (ms2.getD i 0)) = fun i => Value.int .u8 (hs.getD i h0).m := by
      funext i
      rw [← e2, List.getD_eq_getElem?_getD, List.getD_eq_getElem?_getD, List.getElem?_map]
      cases hs[i]? <;> rfl
    rw [← this]; exact g2.2
  · refine h.p1.rw' (by simp) _ (fun i hi => ?_)
    rw [List.getElem?_map, List.getElem?_eq_getElem hi, List.getD_eq_getElem?_getD, List.getElem?_eq_getElem hi]
    rfl
  · rw [← l3]
    have : (fun i => Value.int .u8 (ms3.getD i 0)) = fun i => Value.int .u8 ((ds ++ qs).getD i r0).m := by
      funext i
      rw [← e3, List.getD_eq_getElem?_getD, List.getD_eq_getElem?_getD, List.getElem?_map]
      cases (ds ++ qs)[i]? <;> rfl
    rw [← this]; exact g3.2
  · refine h.p2.rw' (by simp) _ (fun i hi => ?_)
    rw [List.getElem?_map, List.getElem?_eq_getElem hi, List.getD_eq_getElem?_getD, List.getElem?_eq_getElem hi]
    rfl

theorem Tab.books (h : Tab w W k sp id hs hs' ds qs v x J1 J2 n2) {a2 a3 : Option Addr} {m2 m3 c2 c3 c4 c5 : Nat} {ms2 ms3 : List Int} (r2 : MsB w w.heap.size a2 m2 ms2) (r3 : MsB w w.heap.size a3 m3 ms3) (e2 : hs.map (·.m) = ms2) (e3 : (ds ++ qs).map (·.m) = ms3)
    (b2 : m2 ≤ 4096) (b3 : m3 ≤ 4096) (kk : Int) (hk : kk = ds.length) :
    Calls Try.prog 17 #[.pointer (some ⟨k.L, 0, none⟩), .agg #[.int .i64 sp, .string id], .pointer (some ⟨k.O, 0, none⟩), .slice a2 m2 c2, .slice (some ⟨J1, 0, none⟩) m2 c4, .slice a3 m3 c3, .slice (some ⟨J2, 0, none⟩) m3 c5, .int .i64 kk] W fun e W' => e = .returned (.bool true) ∧ Below W.heap.size W W' := by
  rw [hk]
  exact books_calls w.heap.size k sp id hs hs' ds qs v x a2 (some ⟨J1, 0, none⟩) a3 (some ⟨J2, 0, none⟩) c2 c4 c3 c5 W m2 m3 ds.length (h.bks r2 r3 e2 e3) (by rw [← r2.1, ← e2, List.length_map]) (by rw [← r3.1, ← e3, List.length_map]) rfl b2 b3
end

/-- behind zzHolders -/
theorem Held.of {w W W' : World} {k : Bk} {sp : Int} {id : ByteArray} {v : Value} {x : Option Nat} {ms : List Int} {n : Nat} {e : Ending} (h : Held W w.heap.size k sp id v x ms n e W') (hb : Below w.heap.size w W) (hn : ms.length = n) :
    ∃ J hs, e = .returned (.slice (some ⟨J, 0, none⟩) n n) ∧ Sys W' w.heap.size k sp id hs [] [] v x ∧ hs.map (·.m) = ms ∧ PRow W' J hs.length 63 (hs.map tp) ∧ Below w.heap.size w W' := by
  obtain ⟨J, hs, h1, h2, h3, h4, h5⟩ := h
  have hl : hs.length = n := by have := congrArg List.length h3; simp at this; omega
  exact ⟨J, hs, h1, h2, h3, by rw [hl]; exact h4, hb.trans h5⟩

/-- behind the first zzRequests -/
theorem Asked.tab {w W W' : World} {k : Bk} {sp : Int} {id : ByteArray} {hs : List Hd} {v : Value} {x : Option Nat} {ms : List Int} {n J1 : Nat} {e : Ending} (s : Sys W w.heap.size k sp id hs [] [] v x) (p1 : PRow W J1 hs.length 63 (hs.map tp)) (bl : Below w.heap.size w W)
    (h : Asked W w.heap.size k sp id hs [] [] v x ms n e W') : ∃ J rs v', e = .returned (.slice (some ⟨J, 0, none⟩) n n) ∧ Tab w W' k sp id hs [] [] rs v' x J1 J n ∧ rs.map (·.m) = ms := by
  obtain ⟨J, rs, v', h1, h2, h3, h4, h5, h6, h7, h8⟩ := h
  refine ⟨J, rs, v', h1, ⟨by simpa using h2, rfl, ?_, by simpa using h4, h6, bl.trans (h5.below bl.size s.mqB)⟩, h3⟩
  refine p1.heap_eq (h5.block _ p1.lt ?_)
  obtain ⟨c, hc, _⟩ := p1
  refine s.notMq hc (by decide) (fun e => ?_)
  obtain ⟨_, c', h'⟩ := own_row s.own _ e.symm
  exact tyne hc h' (by decide) rfl

theorem Try.sz62 : ∃ j, Try.prog.info? 62 = some j ∧ j.size = 2 := size_of' (by kernel_rfl)
theorem Try.run_eql32_same (w : World) (a : Addr) : (binOp .eql 32 (.pointer (some a)) (.pointer (some a))).run Try.prog w = .ok (.bool true) w := by
  obtain ⟨j, hj, _⟩ := Try.sz62
  exact run_eql_ptr_same w a Try.underlying32 hj

end Go.Proofs.Qxb6613396a
