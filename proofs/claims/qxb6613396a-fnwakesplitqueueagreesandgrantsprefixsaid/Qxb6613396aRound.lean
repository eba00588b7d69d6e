/- one round of wake, stretch by stretch: no walk -/
import Derived.Test.Qxb6613396aPop
import Derived.Conc.EventLaws
namespace Go.Proofs.Qxb6613396a
open Go.RowKit
open Go.ChangeMaps (setBlock)
set_option linter.unusedVariables false

/-- inside a round, ahead of the grant -/
structure Mid (w W : World) (B : Nat) (k : Bk) (hs : List Hd) (qs : List Rq) (v v' : Value) (l : List (Nat × Value)) (b : Nat) : Prop where
  ol : W.heap[k.O]? = some (.cells #[.map (some k.HM), v'] 62 (0, 0))
  own : W.ownsRow B 66 1 v' qs.length (qs.map rqOf)
  mw : MapAt W k.MW l b
  hm : MapAt W k.HM (hs.map hmOf) 0
  mh : MapAt W k.MH (hs.map mhOf) 0
  only : Only (Wq k v) w W

section
variable {w W W' : World} {B : Nat} {k : Bk} {sp : Int} {id : ByteArray} {hs : List Hd} {ds qs : List Rq} {v v' : Value} {x : Option Nat} {q : Rq} {l : List (Nat × Value)} {b : Nat}

theorem Sys.head (h : Sys w B k sp id hs ds (q :: qs) v x) : ∃ g cap, v = .slice (some ⟨g, 0, none⟩) (qs.length + 1) cap ∧ w.cell? ⟨g, 0, none⟩ = some (.pointer (some ⟨q.R, 0, none⟩)) ∧ qs.length + 1 ≤ cap ∧ cap ≤ maxLen ∧ g < w.heap.size := by
  have ho := h.own
  obtain ⟨g, cap, hv, _, hlt⟩ := ho.form (by simp)
  subst hv
  refine ⟨g, cap, rfl, ?_, ?_, ?_, hlt⟩
  · rw [ho.cellAt 0 (by simp)]; rfl
  · rcases ho.2 with ⟨h1, _⟩ | ⟨g', cap', cur, h1, _, _, h2, h3, _⟩
    · cases h1
    · simp only [Value.slice.injEq, Option.some.injEq, Addr.mk.injEq, and_true, true_and] at h1
      obtain ⟨rfl, rfl⟩ := h1
      simpa using h2
  · rcases ho.2 with ⟨h1, _⟩ | ⟨g', cap', cur, h1, _, _, h2, h3, _⟩
    · cases h1
    · simp only [Value.slice.injEq, Option.some.injEq, Addr.mk.injEq, and_true, true_and] at h1
      obtain ⟨rfl, rfl⟩ := h1
      exact h3

theorem Sys.nil (h : Sys w B k sp id hs ds [] v x) : ∃ a cap, v = .slice a 0 cap := by
  rcases h.own.2 with ⟨h1, _⟩ | ⟨g, cap, cur, h1, _⟩
  · exact ⟨none, 0, h1⟩
  · exact ⟨_, cap, h1⟩

theorem Sys.qlen (h : Sys w B k sp id hs ds qs v x) : ∃ a cap, v = .slice a qs.length cap := by
  rcases h.own.2 with ⟨h1, h2⟩ | ⟨g, cap, cur, h1, _⟩
  · exact ⟨none, 0, by rw [h2]; exact h1⟩
  · exact ⟨_, cap, h1⟩

/-- slices.Delete, on the table's queue -/
theorem Sys.del {g cap : Nat} (h : Sys w B k sp id hs ds (q :: qs) (.slice (some ⟨g, 0, none⟩) (qs.length + 1) cap) x) (hn : qs.length ≤ 4096) :
    Calls Try.prog 35 #[.slice (some ⟨g, 0, none⟩) (qs.length + 1) cap, .int .i64 0, .int .i64 1] w fun e W => e = .returned (.slice (some ⟨g, 0, none⟩) qs.length cap) ∧
      W.heap[k.O]? = some (.cells #[.map (some k.HM), .slice (some ⟨g, 0, none⟩) (qs.length + 1) cap] 62 (0, 0)) ∧
      Mid w (W.setCell ⟨k.O, 1, none⟩ (.slice (some ⟨g, 0, none⟩) qs.length cap)) B k hs qs (.slice (some ⟨g, 0, none⟩) (qs.length + 1) cap) (.slice (some ⟨g, 0, none⟩) qs.length cap) (mwOf q :: qs.map mwOf) ds.length := by
  refine (delete_calls B g qs.length cap (rqOf q) (qs.map rqOf) w hn (by
    intro u hu
    rcases List.mem_cons.1 hu with rfl | hu
    · rfl
    · obtain ⟨_, _, rfl⟩ := List.mem_map.1 hu; rfl) h.own).mono ?_
  rintro e W ⟨rfl, hown, ho⟩
  have hg := own_row h.own g rfl
  obtain ⟨_, cg, hgc⟩ := hg
  have hOg : k.O ≠ g := tyne h.ol hgc (by decide)
  have e1 : W.heap[k.O]? = some (.cells #[.map (some k.HM), .slice (some ⟨g, 0, none⟩) (qs.length + 1) cap] 62 (0, 0)) := (ho.block _ (lt_of_some h.ol) hOg).trans h.ol
  have hmap : ∀ {r : Nat} {l : List (Nat × Value)} {b : Nat}, MapAt w r l b → MapAt (W.setCell ⟨k.O, 1, none⟩ (.slice (some ⟨g, 0, none⟩) qs.length cap)) r l b := fun {r l b} hr => by
    refine hr.heap_eq ?_
    rw [Below.heap_setCell _ _ _ _ (fun e => kyne h.ol hr.raw e.symm)]
    exact ho.block _ hr.lt (fun e => kyne hgc hr.raw e.symm)
  refine ⟨rfl, e1, ?_, ?_, hmap h.mw, hmap h.hm, hmap h.mh, ?_⟩
  · rw [heap_setCell_same W k.O 1 _ 62 _ e1]; rfl
  · refine hown.kept (row := some k.O) ⟨rfl, rfl, rfl, by simp [World.setCell], fun j _ hj => Below.heap_setCell _ _ _ _ (fun e => hj (by rw [e]))⟩ (.inr ?_)
    simp only [Value.ownBlock, ne_eq, Option.some.injEq]
    exact fun e => hOg e.symm
  · refine Only.setCell (M := Wq k (.slice (some ⟨g, 0, none⟩) (qs.length + 1) cap)) (ho.mono ?_) (.inr (.inl rfl)) _
    intro j _ hj
    exact .inl (by rw [hj]; rfl)

theorem Mid.ext (h : Mid w W B k hs qs v v' l b) (e : Below W.heap.size W W') : Mid w W' B k hs qs v v' l b where
  ol := (e.block _ (lt_of_some h.ol)).trans h.ol
  own := h.own.kept (grownBy_of_below e) (by cases v'.ownBlock <;> simp)
  mw := h.mw.heap_eq (e.block _ h.mw.lt)
  hm := h.hm.heap_eq (e.block _ h.hm.lt)
  mh := h.mh.heap_eq (e.block _ h.mh.lt)
  only := h.only.ext e

/-- the delete in the map of those that wait -/
theorem Mid.del (h : Mid w W B k hs qs v v' l b) (s : Sys w B k sp id hs ds (q :: qs) v x) (l' : List (Nat × Value)) (b' : Nat) (hv : ∀ j, v'.ownBlock = some j → ∃ c, W.heap[j]? = some (.cells c 66 (0, 0))) :
    Mid w (setBlock W k.MW (mapObj l' b')) B k hs qs v v' l' b' where
  ol := (heap_setBlock_ne (kyne h.ol h.mw.raw)).trans h.ol
  own := h.own.kept (row := some k.MW) ⟨rfl, rfl, rfl, by rw [size_setBlock]; exact Nat.le_refl _, fun j _ hj => heap_setBlock_ne (fun e => hj (by rw [e]))⟩ (by
    cases hvb : v'.ownBlock with
    | none => exact .inl rfl
    | some j =>
      refine .inr ?_
      intro e
      obtain ⟨c, hc⟩ := hv j hvb
      injection e with e
      exact kyne hc h.mw.raw e)
  mw := heap_setBlock_at h.mw.raw
  hm := h.hm.heap_eq (heap_setBlock_ne (fun e => s.n6 e.symm))
  mh := h.mh.heap_eq (heap_setBlock_ne s.n4)
  only := Only.setB (M := Wq k v) h.only (.inr (.inr (.inl rfl))) _

/-- the grant -/
theorem Mid.grant (h : Mid w W B k hs qs v v' (qs.map mwOf) (ds.length + 1)) (s : Sys w B k sp id hs ds (q :: qs) v x) (hv : v'.ownBlock = v.ownBlock) :
    Calls Try.prog 33 #[.pointer (some ⟨k.L, 0, none⟩), Ky sp id, .pointer (some ⟨k.O, 0, none⟩), .pointer (some ⟨q.T, 0, none⟩), .int .u8 q.m] W fun e W5 => e = .returned (.tuple #[]) ∧
      Only (Wq k v) w W5 ∧ ∃ g cap, Sys (setBlock W5 q.c (.chan 0 #[] true 0 0 false)) B k sp id (hs ++ [⟨q.T, q.m, g, cap⟩]) (ds ++ [q]) qs v' x ∧ Only (Wr k v (q :: qs)) w (setBlock W5 q.c (.chan 0 #[] true 0 0 false)) := by
  have kp := s.keep h.only
  have hnod := List.nodup_append.1 s.nod
  have hne : ∀ y ∈ hs, y.T ≠ q.T := fun y hy => hnod.2.2 y.T (List.mem_map.2 ⟨y, hy, rfl⟩) q.T (by simp)
  refine (grant_calls k.L k.O k.MO k.MH k.MW k.HM q.T sp id q.m v' (hs.map hmOf) (hs.map mhOf) 0 0 W kp.lt h.ol h.hm h.mh
    (by intro y hy; obtain ⟨a, ha, rfl⟩ := List.mem_map.1 hy; exact (kp.tx _ (s.htx a ha)).cl)
    (by intro y hy; obtain ⟨a, ha, rfl⟩ := List.mem_map.1 hy; exact (kp.tx _ (s.htx a ha)).cl)
    (kp.tx _ (s.req q (by simp)).tx)
    (by intro y hy; obtain ⟨a, ha, rfl⟩ := List.mem_map.1 hy; exact hne a ha)
    (by intro y hy; obtain ⟨a, ha, rfl⟩ := List.mem_map.1 hy; exact hne a ha)
    (fun e => s.n5 e.symm)).mono ?_
  rintro e W5 ⟨rfl, g, cap, h1, h2, h3, _, h5⟩
  have o5 : Only (Wq k v) w W5 := h.only.trans (h5.mono (fun j _ hj => by
    rcases hj with hj | hj
    · exact .inr (.inr (.inr (.inl hj)))
    · exact .inr (.inr (.inr (.inr hj)))))
  have hvr := own_row h.own
  refine ⟨rfl, o5, g, cap, s.pop o5 hv ?_ ?_ ?_ h1 h2 h3⟩
  · refine (h5.block _ (lt_of_some h.ol) ?_).trans h.ol
    rintro (e | e)
    · exact kyne h.ol h.hm.raw e
    · exact kyne h.ol h.mh.raw e
  · rcases h.own with ⟨ha, ha' | ⟨g', cap', cur, a1, a2, a3, a4⟩⟩
    · exact ⟨ha, .inl ha'⟩
    · refine ⟨ha, .inr ⟨g', cap', cur, a1, a2, (h5.block _ (lt_of_some a3) ?_).trans a3, a4⟩⟩
      rintro (e | e)
      · exact kyne a3 h.hm.raw e
      · exact kyne a3 h.mh.raw e
  · refine h.mw.heap_eq (h5.block _ h.mw.lt ?_)
    rintro (e | e)
    · exact s.n6 e
    · exact s.n4 e.symm
end

/-- how many of the queue go ahead -/
def gN : List Int → List Int → Nat
  | _, [] => 0
  | ms, m :: r => if okM ms m then gN (ms ++ [m]) r + 1 else 0

theorem gN_le : ∀ (ms r : List Int), gN ms r ≤ r.length
  | _, [] => by simp [gN]
  | ms, m :: r => by
    unfold gN
    split
    · have := gN_le (ms ++ [m]) r; simp; omega
    · simp

def hT (h : Hd) : Nat × Int := (h.T, h.m)
def qT (q : Rq) : Nat × Int := (q.T, q.m)

/-- the length of the object's queue -/
def qLen (w : World) (O : Nat) : Nat := match w.cell? ⟨O, 1, none⟩ with
  | some (.slice _ n _) => n
  | _ => 0

/-- WAKE's LOOP -/
def Wk (w : World) (B : Nat) (k : Bk) (sp : Int) (id : ByteArray) (hs : List Hd) (ds qs : List Rq) (v : Value) (x : Option Nat) (K : Nat) (W : World) : Prop :=
  ∃ gr rest hs' v', qs = gr ++ rest ∧ Sys W B k sp id (hs ++ hs') (ds ++ gr) rest v' x ∧ hs'.map hT = gr.map qT ∧ gN (hs.map (·.m)) (qs.map (·.m)) = gr.length + gN ((hs ++ hs').map (·.m)) (rest.map (·.m)) ∧
    Only (Wr k v qs) w W ∧ v'.ownBlock = v.ownBlock ∧ W.heap[K]? = some (.cells #[.int .i64 sp, .string id] 28 (0, 0))

theorem Sys.qLen {w : World} {B : Nat} {k : Bk} {sp : Int} {id : ByteArray} {hs : List Hd} {ds qs : List Rq} {v : Value} {x : Option Nat} (h : Sys w B k sp id hs ds qs v x) : qLen w k.O = qs.length := by
  obtain ⟨a, cap, rfl⟩ := h.qlen
  unfold Qxb6613396a.qLen
  rw [cell_of h.ol 1]
  rfl

theorem modes_eq {hs : List Hd} {gr : List Rq} (h : hs.map hT = gr.map qT) : hs.map (·.m) = gr.map (·.m) ∧ hs.map (·.T) = gr.map (·.T) := by
  constructor
  · have := congrArg (List.map (·.2)) h
    simpa [hT, qT, List.map_map, Function.comp_def] using this
  · have := congrArg (List.map (·.1)) h
    simpa [hT, qT, List.map_map, Function.comp_def] using this

/-- one more round -/
theorem Wk.step {w : World} {B : Nat} {k : Bk} {sp : Int} {id : ByteArray} {hs : List Hd} {ds : List Rq} {v : Value} {x : Option Nat} {K : Nat} {W W6 : World} {gr rest : List Rq} {hs' : List Hd} {v1 v2 : Value} {q : Rq} {g cap : Nat}
    (he : hs'.map hT = gr.map qT) (hg : gN (hs.map (·.m)) ((gr ++ q :: rest).map (·.m)) = gr.length + gN ((hs ++ hs').map (·.m)) ((q :: rest).map (·.m))) (ok : okM ((hs ++ hs').map (·.m)) q.m = true)
    (o1 : Only (Wr k v (gr ++ q :: rest)) w W) (o2 : Only (Wr k v1 (q :: rest)) W W6) (hv1 : v1.ownBlock = v.ownBlock) (hv2 : v2.ownBlock = v1.ownBlock) (s0 : Sys W B k sp id (hs ++ hs') (ds ++ gr) (q :: rest) v1 x)
    (s : Sys W6 B k sp id (hs ++ hs' ++ [⟨q.T, q.m, g, cap⟩]) (ds ++ gr ++ [q]) rest v2 x) (hk : W.heap[K]? = some (.cells #[.int .i64 sp, .string id] 28 (0, 0))) :
    Wk w B k sp id hs ds (gr ++ q :: rest) v x K W6 := by
  refine ⟨gr ++ [q], rest, hs' ++ [⟨q.T, q.m, g, cap⟩], v2, by simp, by rw [← List.append_assoc, ← List.append_assoc]; exact s, by simp [he, hT, qT], ?_, ?_, hv2.trans hv1, ?_⟩
  · rw [hg]
    rw [List.map_append] at ok
    simp only [List.map_cons, gN, ok, if_true, List.length_append, List.length_cons, List.length_nil, List.map_append, List.map_nil, List.append_assoc]
    omega
  · refine o1.trans (o2.mono ?_)
    rintro j _ (e | e | e | e | e | e | ⟨q', hq', e⟩)
    · exact .inl e
    · exact .inr (.inl e)
    · exact .inr (.inr (.inl e))
    · exact .inr (.inr (.inr (.inl e)))
    · exact .inr (.inr (.inr (.inr (.inl e))))
    · exact .inr (.inr (.inr (.inr (.inr (.inl (e.trans hv1))))))
    · exact .inr (.inr (.inr (.inr (.inr (.inr ⟨q', by simp at hq' ⊢; exact .inr hq', e⟩)))))
  · exact (o2.block _ (lt_of_some hk) (s0.notWr_ty hk (by decide) (by decide))).trans hk

end Go.Proofs.Qxb6613396a
