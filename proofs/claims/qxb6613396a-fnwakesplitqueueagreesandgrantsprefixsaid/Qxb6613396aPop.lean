/- one round of wake: no walk -/
import Derived.Test.Qxb6613396aSys
namespace Go.Proofs.Qxb6613396a
open Go.RowKit
open Go.ChangeMaps (setBlock)
set_option linter.unusedVariables false

section
variable {w w' : World} {B : Nat} {k : Bk} {sp : Int} {id : ByteArray} {hs : List Hd} {ds qs : List Rq} {v : Value} {x : Option Nat}

/-- what a round writes ahead of the close -/
def Wq (k : Bk) (v : Value) (j : Nat) : Prop := some j = v.ownBlock ∨ j = k.O ∨ j = k.MW ∨ j = k.HM ∨ j = k.MH

theorem Sys.notWq (h : Sys w B k sp id hs ds qs v x) {j : Nat} {c : Array Value} {t : TypeId} {r : Nat × Nat} (hj : w.heap[j]? = some (.cells c t r)) (h1 : t ≠ 62) (h2 : t ≠ 66) : ¬ Wq k v j := by
  have := h.notWr_ty hj h1 h2
  rintro (e | e | e | e | e)
  · exact this (.inr (.inr (.inr (.inr (.inr (.inl e))))))
  · exact this (.inl e)
  · exact this (.inr (.inr (.inr (.inl e))))
  · exact this (.inr (.inl e))
  · exact this (.inr (.inr (.inl e)))
theorem Sys.notWq_ch (h : Sys w B k sp id hs ds qs v x) {j p : Nat} {q : Array Value} {cl : Bool} {a b : Nat} {tm : Bool} (hj : w.heap[j]? = some (.chan p q cl a b tm)) : ¬ Wq k v j := by
  rintro (e | e | e | e | e)
  · obtain ⟨_, c, h'⟩ := own_row h.own j e.symm
    exact chne h' hj rfl
  · subst e; exact chne h.ol hj rfl
  · subst e; exact mcne h.mw.raw hj rfl
  · subst e; exact mcne h.hm.raw hj rfl
  · subst e; exact mcne h.mh.raw hj rfl
theorem Sys.notWq_mo (h : Sys w B k sp id hs ds qs v x) : ¬ Wq k v k.MO := by
  obtain ⟨es, n, ho⟩ := h.ob.isMap
  rintro (e | e | e | e | e)
  · obtain ⟨_, c, h'⟩ := own_row h.own _ e.symm
    exact kyne h' ho rfl
  · exact kyne h.ol ho e.symm
  · exact h.n2 e
  · exact h.n3 e
  · exact h.n1 e

/-- what such writes leave alone -/
structure Kept (w w' : World) (k : Bk) (sp : Int) (id : ByteArray) (x : Option Nat) : Prop where
  lt : w'.heap[k.L]? = some (.cells (ltCells k.MO k.MH k.MW) 59 (0, 0))
  ob : ObAt w' k.MO sp id x
  tx : ∀ T, TxAt w T → TxAt w' T
  row : ∀ g, KeyRow w g sp id → KeyRow w' g sp id
  req : ∀ q, ReqC w q sp id → ReqC w' q sp id
  ch : ∀ (c : Nat) (cl : Bool), w.heap[c]? = some (.chan 0 #[] cl 0 0 false) → w'.heap[c]? = some (.chan 0 #[] cl 0 0 false)

theorem Sys.keep (h : Sys w B k sp id hs ds qs v x) (o : Only (Wq k v) w w') : Kept w w' k sp id x := by
  have tx : ∀ T, TxAt w T → TxAt w' T := fun T hT => by
    obtain ⟨c, h1, h2⟩ := hT
    exact ⟨c, (o.block T (lt_of_some h1) (h.notWq h1 (by decide) (by decide))).trans h1, h2⟩
  refine ⟨?_, ?_, tx, ?_, ?_, ?_⟩
  · exact (o.block _ (lt_of_some h.lt) (h.notWq h.lt (by decide) (by decide))).trans h.lt
  · exact h.ob.heap_eq (o.block _ h.ob.lt h.notWq_mo)
  · intro g hg
    obtain ⟨c, h1, h2⟩ := hg
    exact ⟨c, (o.block g (lt_of_some h1) (h.notWq h1 (by decide) (by decide))).trans h1, h2⟩
  · intro q hq
    exact ⟨(o.block _ (lt_of_some hq.blk) (h.notWq hq.blk (by decide) (by decide))).trans hq.blk, tx _ hq.tx⟩
  · intro c cl hc
    exact (o.block _ (lt_of_some hc) (h.notWq_ch hc)).trans hc

/-- THE ROUND's END -/
theorem Sys.pop {q : Rq} {v' : Value} {w4 : World} {g cap : Nat} (h : Sys w B k sp id hs ds (q :: qs) v x) (o : Only (Wq k v) w w4) (hv : v'.ownBlock = v.ownBlock)
    (ol : w4.heap[k.O]? = some (.cells #[.map (some k.HM), v'] 62 (0, 0))) (own : w4.ownsRow B 66 1 v' qs.length (qs.map rqOf))
    (mw : MapAt w4 k.MW (qs.map mwOf) (ds.length + 1)) (hm : MapAt w4 k.HM (hs.map hmOf ++ [(q.T, .int .u8 q.m)]) 0) (mh : MapAt w4 k.MH (hs.map mhOf ++ [(q.T, .slice (some ⟨g, 0, none⟩) 1 cap)]) 0) (row : KeyRow w4 g sp id) :
    Sys (setBlock w4 q.c (.chan 0 #[] true 0 0 false)) B k sp id (hs ++ [⟨q.T, q.m, g, cap⟩]) (ds ++ [q]) qs v' x ∧ Only (Wr k v (q :: qs)) w (setBlock w4 q.c (.chan 0 #[] true 0 0 false)) := by
  have kp := h.keep o
  have hc := kp.ch q.c false (h.qch q (by simp))
  have hcell : ∀ {j : Nat} {c : Array Value} {t : TypeId} {r : Nat × Nat}, w4.heap[j]? = some (.cells c t r) → (setBlock w4 q.c (.chan 0 #[] true 0 0 false)).heap[j]? = w4.heap[j]? := fun hj => heap_setBlock_ne (chne hj hc)
  have hmap : ∀ {j : Nat} {es : Array MapEntry} {n : Nat}, w4.heap[j]? = some (.map es n) → (setBlock w4 q.c (.chan 0 #[] true 0 0 false)).heap[j]? = w4.heap[j]? := fun hj => heap_setBlock_ne (mcne hj hc)
  obtain ⟨es, n, ho⟩ := kp.ob.isMap
  have htx : ∀ T, TxAt w T → TxAt (setBlock w4 q.c (.chan 0 #[] true 0 0 false)) T := fun T hT => (kp.tx T hT).heap_eq (by obtain ⟨c, h1, _⟩ := kp.tx T hT; exact hcell h1)
  have hreq : ∀ q', ReqC w q' sp id → ReqC (setBlock w4 q.c (.chan 0 #[] true 0 0 false)) q' sp id := fun q' hq' => ⟨(hcell (kp.req q' hq').blk).trans (kp.req q' hq').blk, htx _ hq'.tx⟩
  have hnc := List.nodup_append.1 h.nodc
  refine ⟨?_, ?_⟩
  · exact {
      lt := (hcell kp.lt).trans kp.lt
      ol := (hcell ol).trans ol
      own := own.kept (row := some q.c) ⟨rfl, rfl, rfl, by rw [size_setBlock]; exact Nat.le_refl _, fun j _ hj => heap_setBlock_ne (fun e => hj (by rw [e]))⟩ (by
        cases hvb : v'.ownBlock with
        | none => exact .inl rfl
        | some j =>
          refine .inr ?_
          intro e
          obtain ⟨_, c, h'⟩ := own_row own j hvb
          exact chne h' hc (by injection e))
      hm := by rw [List.map_append]; exact hm.heap_eq (hmap hm.raw)
      mh := by rw [List.map_append]; exact mh.heap_eq (hmap mh.raw)
      mw := by rw [List.length_append]; exact mw.heap_eq (hmap mw.raw)
      ob := kp.ob.heap_eq (hmap ho)
      htx := fun y hy => by
        rcases List.mem_append.1 hy with hy | hy
        · exact htx _ (h.htx y hy)
        · simp at hy
          subst hy
          exact htx _ (h.req q (by simp)).tx
      hrow := fun y hy => by
        rcases List.mem_append.1 hy with hy | hy
        · have := kp.row _ (h.hrow y hy)
          exact this.heap_eq (by obtain ⟨c, h1, _⟩ := this; exact hcell h1)
        · simp at hy
          subst hy
          exact row.heap_eq (by obtain ⟨c, h1, _⟩ := row; exact hcell h1)
      req := fun q' hq' => hreq q' (h.req q' (by simpa using hq'))
      dch := fun q' hq' => by
        rcases List.mem_append.1 hq' with hq' | hq'
        · have hne : q'.c ≠ q.c := hnc.2.2 q'.c (List.mem_map.2 ⟨q', hq', rfl⟩) q.c (by simp)
          exact (heap_setBlock_ne hne).trans (kp.ch _ _ (h.dch q' hq'))
        · simp at hq'
          subst hq'
          exact heap_setBlock_at hc
      qch := fun q' hq' => by
        have hne : q'.c ≠ q.c := by
          have := hnc.2.1
          simp only [List.map_cons, List.nodup_cons] at this
          intro e
          exact this.1 (by rw [← e]; exact List.mem_map.2 ⟨q', hq', rfl⟩)
        exact (heap_setBlock_ne hne).trans (kp.ch _ _ (h.qch q' (by simp [hq'])))
      nod := by
        have := h.nod
        simpa [List.append_assoc] using this
      nodc := by
        have := h.nodc
        simpa [List.append_assoc] using this
      bO := h.bO
      bMO := h.bMO
      bMH := h.bMH
      bMW := h.bMW
      bHM := h.bHM
      bc := fun q' hq' => h.bc q' (by simp [hq'])
      n1 := h.n1
      n2 := h.n2
      n3 := h.n3
      n4 := h.n4
      n5 := h.n5
      n6 := h.n6 }
  · refine Only.setB (M := Wr k v (q :: qs)) (o.mono ?_) (.inr (.inr (.inr (.inr (.inr (.inr ⟨q, by simp, rfl⟩)))))) _
    rintro j _ (e | e | e | e | e)
    · exact .inr (.inr (.inr (.inr (.inr (.inl e)))))
    · exact .inl e
    · exact .inr (.inr (.inr (.inl e)))
    · exact .inr (.inl e)
    · exact .inr (.inr (.inl e))
end

end Go.Proofs.Qxb6613396a
