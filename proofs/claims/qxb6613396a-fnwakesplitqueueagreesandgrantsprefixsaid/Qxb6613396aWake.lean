/- wake -/
import Derived.Test.Qxb6613396aRound
namespace Go.Proofs.Qxb6613396a
open Go.RowKit
open Go.ChangeMaps (setBlock)
set_option linter.unusedVariables false

theorem ob_del' {w : World} {r : Nat} {sp : Int} {id : ByteArray} {x : Option Nat} (h : ObAt w r sp id x) : ∃ o, (∀ kt ty, (Builtin.delete_ #[44, kt] ty #[.map (some r), .agg #[.int .i64 sp, .string id]]).run Try.prog w = .ok (.tuple #[]) (setBlock w r o)) ∧ ObAt (setBlock w r o) r sp id none := by
  obtain ⟨clk, ⟨rfl, h⟩ | ⟨O', b, rfl, hh⟩⟩ := h
  · refine ⟨.map #[] clk, fun kt ty => ?_, clk, .inl ⟨rfl, heap_setBlock_at h⟩⟩
    show (Builtin.delete_ #[44, kt] ty #[.map (some r), Ky sp id]).run Try.prog w = _
    simp only [Builtin.delete_, Sem.run_bind, List.getElem?_toArray, List.getElem?_cons_zero, List.getElem?_cons_succ, run_underlying Try.underlying44, Result.andThen_ok, MapKept.run_getObj_map h, run_checkKey28, run_findKey28_nil, MapKept.run_setObj_map _ h]
    rfl
  · refine ⟨.map #[] clk, fun kt ty => ?_, clk, .inl ⟨rfl, heap_setBlock_at hh⟩⟩
    show (Builtin.delete_ #[44, kt] ty #[.map (some r), Ky sp id]).run Try.prog w = _
    simp only [Builtin.delete_, Sem.run_bind, List.getElem?_toArray, List.getElem?_cons_zero, List.getElem?_cons_succ, run_underlying Try.underlying44, Result.andThen_ok, MapKept.run_getObj_map hh, run_checkKey28, run_findKey28_one, MapKept.run_setObj_map _ hh]
    have e : (#[({ key := Ky sp id, val := .pointer (some ⟨O', 0, none⟩), born := b } : MapEntry)]).eraseIdxIfInBounds 0 = #[] := by simp [Array.eraseIdxIfInBounds]
    rw [e]
    rfl

/-- what wake leaves -/
def Woken (w : World) (B : Nat) (k : Bk) (sp : Int) (id : ByteArray) (hs : List Hd) (ds qs : List Rq) (v : Value) (x : Option Nat) (W : World) : Prop :=
  ∃ gr rest hs' v', qs = gr ++ rest ∧ Sys W B k sp id (hs ++ hs') (ds ++ gr) rest v' (if hs = [] ∧ qs = [] then none else x) ∧ hs'.map hT = gr.map qT ∧ gr.length = gN (hs.map (·.m)) (qs.map (·.m)) ∧
    gN ((hs ++ hs').map (·.m)) (rest.map (·.m)) = 0 ∧ Only (Wr k v qs) w W ∧ v'.ownBlock = v.ownBlock

/-- the loop's end -/
def WkE (w : World) (B : Nat) (k : Bk) (sp : Int) (id : ByteArray) (hs : List Hd) (ds qs : List Rq) (v : Value) (x : Option Nat) (K : Nat) (W : World) : Prop :=
  ∃ gr rest hs' v', qs = gr ++ rest ∧ Sys W B k sp id (hs ++ hs') (ds ++ gr) rest v' x ∧ hs'.map hT = gr.map qT ∧ gr.length = gN (hs.map (·.m)) (qs.map (·.m)) ∧ gN ((hs ++ hs').map (·.m)) (rest.map (·.m)) = 0 ∧
    Only (Wr k v qs) w W ∧ v'.ownBlock = v.ownBlock ∧ W.heap[K]? = some (.cells #[.int .i64 sp, .string id] 28 (0, 0))

theorem WkE.fin {w : World} {B : Nat} {k : Bk} {sp : Int} {id : ByteArray} {hs : List Hd} {ds qs : List Rq} {v : Value} {x : Option Nat} {K : Nat} {W W' : World} (h : WkE w B k sp id hs ds qs v x K W) (hb : Below W.heap.size W W') (hne : ¬ (hs = [] ∧ qs = [])) : Woken w B k sp id hs ds qs v x W' := by
  obtain ⟨gr, rest, hs', v', a1, a2, a3, a4, a5, a6, a7, a8⟩ := h
  exact ⟨gr, rest, hs', v', a1, by rw [if_neg hne]; exact a2.ext hb, a3, a4, a5, a6.ext hb, a7⟩

theorem WkE.del {w : World} {B : Nat} {k : Bk} {sp : Int} {id : ByteArray} {hs : List Hd} {ds qs : List Rq} {v : Value} {x : Option Nat} {K : Nat} {W W' : World} (h : WkE w B k sp id hs ds qs v x K W) (hb : Below W.heap.size W W') (hne : hs = [] ∧ qs = []) (o : Obj) (ho : ObAt (setBlock W' k.MO o) k.MO sp id none) : Woken w B k sp id hs ds qs v x (setBlock W' k.MO o) := by
  obtain ⟨gr, rest, hs', v', a1, a2, a3, a4, a5, a6, a7, a8⟩ := h
  have s := a2.ext hb
  obtain ⟨es, n, hm⟩ := s.ob.isMap
  refine ⟨gr, rest, hs', v', a1, ?_, a3, a4, a5, Only.setB (M := Wr k v qs) (a6.ext hb) (.inr (.inr (.inr (.inr (.inl rfl))))) _, a7⟩
  rw [if_pos hne]
  have hc : ∀ {j : Nat} {c : Array Value} {t : TypeId} {r : Nat × Nat}, W'.heap[j]? = some (.cells c t r) → (setBlock W' k.MO o).heap[j]? = W'.heap[j]? := fun hj => heap_setBlock_ne (kyne hj hm)
  have hh : ∀ {j p : Nat} {q : Array Value} {cl : Bool} {a b : Nat} {tm : Bool}, W'.heap[j]? = some (.chan p q cl a b tm) → (setBlock W' k.MO o).heap[j]? = W'.heap[j]? := fun hj => heap_setBlock_ne (fun e => mcne hm hj e.symm)
  have htx : ∀ T, TxAt W' T → TxAt (setBlock W' k.MO o) T := fun T hT => hT.heap_eq (by obtain ⟨c, h1, _⟩ := hT; exact hc h1)
  exact {
    lt := (hc s.lt).trans s.lt
    ol := (hc s.ol).trans s.ol
    own := by
      rcases s.own with ⟨ha, ha' | ⟨g', cap', cur, b1, b2, b3, b4⟩⟩
      · exact ⟨ha, .inl ha'⟩
      · exact ⟨ha, .inr ⟨g', cap', cur, b1, b2, (hc b3).trans b3, b4⟩⟩
    hm := s.hm.heap_eq (heap_setBlock_ne (fun e => s.n3 e.symm))
    mh := s.mh.heap_eq (heap_setBlock_ne (fun e => s.n1 e.symm))
    mw := s.mw.heap_eq (heap_setBlock_ne (fun e => s.n2 e.symm))
    ob := ho
    htx := fun y hy => htx _ (s.htx y hy)
    hrow := fun y hy => (s.hrow y hy).heap_eq (by obtain ⟨c, h1, _⟩ := s.hrow y hy; exact hc h1)
    req := fun q hq => ⟨(hc (s.req q hq).blk).trans (s.req q hq).blk, htx _ (s.req q hq).tx⟩
    dch := fun q hq => (hh (s.dch q hq)).trans (s.dch q hq)
    qch := fun q hq => (hh (s.qch q hq)).trans (s.qch q hq)
    nod := s.nod
    nodc := s.nodc
    bO := s.bO
    bMO := s.bMO
    bMH := s.bMH
    bMW := s.bMW
    bHM := s.bHM
    bc := s.bc
    n1 := s.n1
    n2 := s.n2
    n3 := s.n3
    n4 := s.n4
    n5 := s.n5
    n6 := s.n6 }

set_option maxRecDepth 100000 in
set_option maxHeartbeats 3200000 in
theorem wake_calls (B : Nat) (k : Bk) (sp : Int) (id : ByteArray) (hs : List Hd) (ds qs : List Rq) (v : Value) (x : Option Nat) (w : World) (h : Sys w B k sp id hs ds qs v x) (hn : qs.length ≤ 4096) :
    Calls Try.prog 24 #[.pointer (some ⟨k.L, 0, none⟩), Ky sp id, .pointer (some ⟨k.O, 0, none⟩)] w fun e w' => e = .returned (.tuple #[]) ∧ Woken w B k sp id hs ds qs v x w' := by
  have h0 : Wk w B k sp id hs ds qs v x w.heap.size (w.alloc (.cells #[.int .i64 sp, .string id] 28)) :=
    ⟨[], qs, [], v, rfl, by simpa using h.ext ((Below.refl _ w).alloc (Nat.le_refl _) _), rfl, by simp, (Only.refl _ w).alloc _, rfl, heap_alloc_new w _⟩
  clear h
  unfold Ky
  go_enter Try.func24, Try.ntmps24
  go_wp2_with fail
  go_loopw [6] (fun _ wr => Wk w B k sp id hs ds qs v x w.heap.size wr) (fun _ wr => qLen wr k.O)
  case atStart => exact h0
  case round =>
    clear h0
    obtain ⟨gr, rest, hs', v1, hq, s, he, hg, ho, hv, hk⟩ := hrel
    subst hq
    have c1 : wr.cell? ⟨k.O, 1, none⟩ = some v1 := (cell_of s.ol 1).trans rfl
    cases rest with
    | nil =>
      have F : Hid (∀ W, Below wr.heap.size wr W → WkE w B k sp id hs ds (gr ++ []) v x w.heap.size W) := fun W hb =>
        ⟨gr, [], hs', v1, rfl, s.ext hb, he, by rw [hg]; simp [gN], by simp [gN], ho.ext hb, hv, (hb.block _ (lt_of_some hk)).trans hk⟩
      have hemp : Hid ((hs = [] ∧ gr ++ [] = []) ↔ (hs ++ hs') = []) := by
        have hl := congrArg List.length he
        simp at hl
        cases hs <;> cases gr <;> cases hs' <;> simp_all [Hid]
      obtain ⟨a, cap, rfl⟩ := s.nil
      have SX : Hid (∀ W, Below wr.heap.size wr W → Sys W B k sp id (hs ++ hs') (ds ++ gr) [] (.slice a 0 cap) x ∧ W.heap[w.heap.size]? = some (.cells #[.int .i64 sp, .string id] 28 (0, 0))) := fun W hb => ⟨s.ext hb, (hb.block _ (lt_of_some hk)).trans hk⟩
      obtain ⟨N, hN⟩ : ∃ N, N = (hs ++ hs').length := ⟨_, rfl⟩
      have HN : Hid (N = (hs ++ hs').length) := hN
      clear s he hg ho hv hk hN
      go_wp2_with fail
      go_quiet (fail)
      obtain ⟨W, hW⟩ : ∃ W, W = wr.drewN nq := ⟨_, rfl⟩
      have hbW : Below wr.heap.size wr W := by rw [hW]; exact ⟨rfl, rfl, rfl, Nat.le_refl _, fun _ _ => rfl⟩
      obtain ⟨s, hk⟩ := SX.out W hbW
      rw [← hW]
      clear hW c1
      have c0 : W.cell? ⟨k.O, 0, none⟩ = some (.map (some k.HM)) := (cell_of s.ol 0).trans rfl
      have c1 : W.cell? ⟨k.O, 1, none⟩ = some (.slice a 0 cap) := (cell_of s.ol 1).trans rfl
      have hlen : ∀ ty, (Builtin.len_ #[60] ty #[.map (some k.HM)]).run Try.prog W = .ok (.int .i64 N) W := fun ty => by
        have := run_len Try.underlying60 s.hm ty
        rw [List.length_map, ← HN.out] at this
        exact this
      by_cases hz : N = 0
      · subst hz
        have c3 : W.cell? ⟨k.L, 3, none⟩ = some (.map (some k.MO)) := (cell_of s.lt 3).trans rfl
        have c4 : W.cell? ⟨w.heap.size, 0, none⟩ = some (.int .i64 sp) := (cell_of hk 0).trans rfl
        have c5 : W.cell? ⟨w.heap.size, 1, none⟩ = some (.string id) := (cell_of hk 1).trans rfl
        obtain ⟨o, hrun, hob⟩ := ob_del' (w := W.drew) (s.ob.heap_eq rfl)
        have HOB : Hid (ObAt (setBlock W.drew k.MO o) k.MO sp id none) := hob
        clear s hk hob
        go_wp2_with fail
        go_region
        all_goals go_wp2
        all_goals go_end0
        all_goals exact ⟨rfl, (F.out W hbW).del (Below.refl _ _).drew (hemp.out.2 (List.length_eq_zero_iff.1 HN.out.symm)) o HOB.out⟩
      · clear s hk
        have hz' : ¬ ((N : Int) = 0) := by omega
        go_wp2
        go_end0
        exact ⟨rfl, (F.out W hbW).fin (Below.refl _ _) (fun h => hz (by rw [HN.out, hemp.out.1 h]; rfl))⟩
    | cons q rest =>
      obtain ⟨g, cap, hv1, cg, hcap1, hcap2, hgl⟩ := s.head
      subst hv1
      have hrq := s.req q (by simp)
      have SX : Hid (∀ W, Below wr.heap.size wr W → Sys W B k sp id (hs ++ hs') (ds ++ gr) (q :: rest) (.slice (some ⟨g, 0, none⟩) (rest.length + 1) cap) x ∧ W.heap[w.heap.size]? = some (.cells #[.int .i64 sp, .string id] 28 (0, 0))) := fun W hb => ⟨s.ext hb, (hb.block _ (lt_of_some hk)).trans hk⟩
      obtain ⟨b, hb⟩ : ∃ b, b = okM ((hs ++ hs').map (·.m)) q.m := ⟨_, rfl⟩
      have HBV : Hid (b = okM ((hs ++ hs').map (·.m)) q.m) := hb
      have HC : Hid (∀ W, Below wr.heap.size wr W → Calls Try.prog 34 #[.pointer (some ⟨k.O, 0, none⟩), .pointer (some ⟨q.T, 0, none⟩), .int .u8 q.m] W fun e W' => e = .returned (.bool b) ∧ Below wr.heap.size wr W') := fun W hW => by
        rw [hb]
        exact ((s.ext hW).compat q (by simp)).mono fun e W' ⟨h1, h2⟩ => ⟨h1, hW.trans (h2.mono hW.size)⟩
      have SEE : Hid (∀ W, Below wr.heap.size wr W → W.cell? ⟨k.O, 1, none⟩ = some (.slice (some ⟨g, 0, none⟩) (rest.length + 1) cap) ∧ W.cell? ⟨g, 0, none⟩ = some (.pointer (some ⟨q.R, 0, none⟩)) ∧ W.cell? ⟨q.R, 0, none⟩ = some (.pointer (some ⟨q.T, 0, none⟩)) ∧ W.cell? ⟨q.R, 3, none⟩ = some (.int .u8 q.m)) := fun W hW => by
        have s' := s.ext hW
        exact ⟨(cell_of s'.ol 1).trans rfl, (hW.cell hgl).trans cg, (cell_of (s'.req q (by simp)).blk 0).trans rfl, (cell_of (s'.req q (by simp)).blk 3).trans rfl⟩
      obtain ⟨c1, c2, c3, c4⟩ := SEE.out wr (Below.refl _ _)
      have hq2 := s.qLen
      have HX : Hid (hs'.map hT = gr.map qT ∧ gN (hs.map (·.m)) ((gr ++ q :: rest).map (·.m)) = gr.length + gN ((hs ++ hs').map (·.m)) ((q :: rest).map (·.m)) ∧ Only (Wr k v (gr ++ q :: rest)) w wr ∧ (Value.slice (some ⟨g, 0, none⟩) (rest.length + 1) cap).ownBlock = v.ownBlock ∧ qLen wr k.O = rest.length + 1) := ⟨he, hg, ho, hv, hq2⟩
      have hnr : rest.length ≤ 4096 := by simp at hn; omega
      unfold maxLen at hcap2
      clear s hrq hb he hg ho hv hk hq2 hn cg
      cases b with
      | false =>
        have F : Hid (∀ W, Below wr.heap.size wr W → WkE w B k sp id hs ds (gr ++ q :: rest) v x w.heap.size W) := fun W hb => by
          obtain ⟨he, hg, ho, hv, _⟩ := HX.out
          obtain ⟨s, hk⟩ := SX.out W hb
          have hz : gN ((hs ++ hs').map (·.m)) ((q :: rest).map (·.m)) = 0 := by simp only [List.map_cons, gN, ← HBV.out]; rfl
          exact ⟨gr, q :: rest, hs', _, rfl, s, he, by rw [hg, hz]; rfl, hz, ho.ext hb, hv, hk⟩
        obtain ⟨N, hN⟩ : ∃ N, N = (hs ++ hs').length := ⟨_, rfl⟩
        have hN0 : N ≠ 0 := by
          intro e
          have : hs ++ hs' = [] := List.length_eq_zero_iff.1 (by omega)
          have h2 := HBV.out
          rw [this] at h2
          simp [okM] at h2
        have HN : Hid (N = (hs ++ hs').length) := hN
        clear hN
        go_wp2_with fail
        go_region_held3 (fun x => x.cell? ⟨k.O, 1, none⟩ = some (.slice (some ⟨g, 0, none⟩) (rest.length + 1) cap) ∧ x.cell? ⟨g, 0, none⟩ = some (.pointer (some ⟨q.R, 0, none⟩)) ∧ x.cell? ⟨q.R, 0, none⟩ = some (.pointer (some ⟨q.T, 0, none⟩)) ∧ x.cell? ⟨q.R, 3, none⟩ = some (.int .u8 q.m))
          (first
            | exact SEE.out _ hbW
            | exact SEE.out _ (Below.refl _ _)
            | exact SEE.out _ (Below.refl _ _).drew)
          ((go_at_call 34; refine (HC.out _ (Below.refl _ _).drew).mono ?_; rintro e W ⟨rfl, hbW⟩))
        all_goals
          obtain ⟨s, hk⟩ := SX.out W hbW
          have c0 : W.cell? ⟨k.O, 0, none⟩ = some (.map (some k.HM)) := (cell_of s.ol 0).trans rfl
          have hlen : ∀ ty, (Builtin.len_ #[60] ty #[.map (some k.HM)]).run Try.prog W = .ok (.int .i64 N) W := fun ty => by
            have := run_len Try.underlying60 s.hm ty
            rw [List.length_map, ← HN.out] at this
            exact this
          have hz' : ¬ ((N : Int) = 0) := by omega
          clear s hk
          go_wp2
          go_end0
          exact ⟨rfl, (F.out W hbW).fin (Below.refl _ _) (by simp)⟩
      | true =>
        go_wp2_with fail
        go_region_held3 (fun x => x.cell? ⟨k.O, 1, none⟩ = some (.slice (some ⟨g, 0, none⟩) (rest.length + 1) cap) ∧ x.cell? ⟨g, 0, none⟩ = some (.pointer (some ⟨q.R, 0, none⟩)) ∧ x.cell? ⟨q.R, 0, none⟩ = some (.pointer (some ⟨q.T, 0, none⟩)) ∧ x.cell? ⟨q.R, 3, none⟩ = some (.int .u8 q.m))
          (first
            | exact SEE.out _ hbW
            | exact SEE.out _ (Below.refl _ _)
            | exact SEE.out _ (Below.refl _ _).drew)
          ((go_at_call 34; refine (HC.out _ (Below.refl _ _).drew).mono ?_; rintro e W ⟨rfl, hbW⟩))
        obtain ⟨c1, c2, c3, c4⟩ := SEE.out W hbW
        obtain ⟨s, hk⟩ := SX.out W hbW
        have HS : Hid (Sys W B k sp id (hs ++ hs') (ds ++ gr) (q :: rest) (.slice (some ⟨g, 0, none⟩) (rest.length + 1) cap) x ∧ W.heap[w.heap.size]? = some (.cells #[.int .i64 sp, .string id] 28 (0, 0))) := ⟨s, hk⟩
        clear s hk
        go_wp2_with fail
        refine (HS.out.1.del hnr).mono ?_
        rintro e W2 ⟨rfl, hO2, hmid⟩
        clear c1 c2 c3 c4
        have d1 := (cell_of hO2 1).trans rfl
        have d2 := froz_of hO2 1
        obtain ⟨W3, hW3⟩ : ∃ W3, W3 = W2.setCell ⟨k.O, 1, none⟩ (.slice (some ⟨g, 0, none⟩) rest.length cap) := ⟨_, rfl⟩
        rw [← hW3] at hmid
        have HM3 : Hid (Mid W W3 B k (hs ++ hs') rest (.slice (some ⟨g, 0, none⟩) (rest.length + 1) cap) (.slice (some ⟨g, 0, none⟩) rest.length cap) (mwOf q :: rest.map mwOf) (ds ++ gr).length) := hmid
        have HW3 : Hid (W3 = W2.setCell ⟨k.O, 1, none⟩ (.slice (some ⟨g, 0, none⟩) rest.length cap)) := hW3
        clear hmid hO2 hW3
        obtain ⟨o4, ho4⟩ : ∃ o4, o4 = mapObj (rest.map mwOf) ((ds ++ gr).length + 1) := ⟨_, rfl⟩
        have HO4 : Hid (o4 = mapObj (rest.map mwOf) ((ds ++ gr).length + 1)) := ho4
        clear ho4
        have e3 : W3.cell? ⟨k.L, 5, none⟩ = some (.map (some k.MW)) ∧ W3.cell? ⟨q.R, 0, none⟩ = some (.pointer (some ⟨q.T, 0, none⟩)) ∧ ∀ kt ty, (Builtin.delete_ #[46, kt] ty #[.map (some k.MW), .pointer (some ⟨q.T, 0, none⟩)]).run Try.prog W3.drew = .ok (.tuple #[]) (setBlock W3.drew k.MW o4) := by
          rw [HO4.out]
          have s := HS.out.1
          have m := HM3.out
          have kp := s.keep m.only
          have hcl : ∀ y ∈ mwOf q :: rest.map mwOf, Cl W3.drew y.1 := by
            intro y hy
            rw [← List.map_cons] at hy
            obtain ⟨a, ha, rfl⟩ := List.mem_map.1 hy
            exact ((kp.req a (s.req a (List.mem_append_right _ ha))).tx).cl
          exact ⟨(cell_of kp.lt 5).trans rfl, (cell_of (kp.req q (s.req q (by simp))).blk 0).trans rfl, fun kt ty => run_del_head (v := .pointer (some ⟨q.R, 0, none⟩)) (w := W3.drew) Try.underlying46 m.mw hcl (hcl (mwOf q) (by simp)) kt ty⟩
        obtain ⟨e1, e2, hdel⟩ := e3
        go_wp2_with fail
        rw [← HW3.out]
        clear d1 d2
        go_region
        all_goals
          obtain ⟨W4, hW4⟩ : ∃ W4, W4 = setBlock W3.drew k.MW o4 := ⟨_, rfl⟩
          have m4 : Mid W W4 B k (hs ++ hs') rest (.slice (some ⟨g, 0, none⟩) (rest.length + 1) cap) (.slice (some ⟨g, 0, none⟩) rest.length cap) (rest.map mwOf) ((ds ++ gr).length + 1) := by
            rw [hW4, HO4.out]
            refine (HM3.out.ext (Below.refl _ _).drew).del HS.out.1 _ _ ?_
            intro j hj
            exact (own_row HM3.out.own j hj).2
          rw [← hW4]
          clear hW4 e1 e2 hdel
          have HG : Hid (∀ Z, Below W4.heap.size W4 Z → Calls Try.prog 33 #[.pointer (some ⟨k.L, 0, none⟩), .agg #[.int .i64 sp, .string id], .pointer (some ⟨k.O, 0, none⟩), .pointer (some ⟨q.T, 0, none⟩), .int .u8 q.m] Z fun e W5 => e = .returned (.tuple #[]) ∧
            Only (Wq k (.slice (some ⟨g, 0, none⟩) (rest.length + 1) cap)) W W5 ∧ ∃ g' cap', Sys (setBlock W5 q.c (.chan 0 #[] true 0 0 false)) B k sp id (hs ++ hs' ++ [⟨q.T, q.m, g', cap'⟩]) (ds ++ gr ++ [q]) rest (.slice (some ⟨g, 0, none⟩) rest.length cap) x ∧ Only (Wr k (.slice (some ⟨g, 0, none⟩) (rest.length + 1) cap) (q :: rest)) W (setBlock W5 q.c (.chan 0 #[] true 0 0 false))) := fun Z hZ => (m4.ext hZ).grant HS.out.1 rfl
          have ST : Hid (∀ Z, Only (Wq k (.slice (some ⟨g, 0, none⟩) (rest.length + 1) cap)) W Z → Z.cell? ⟨w.heap.size, 0, none⟩ = some (.int .i64 sp) ∧ Z.cell? ⟨w.heap.size, 1, none⟩ = some (.string id) ∧ Z.cell? ⟨q.R, 0, none⟩ = some (.pointer (some ⟨q.T, 0, none⟩)) ∧ Z.cell? ⟨q.R, 3, none⟩ = some (.int .u8 q.m)) := fun Z hZ => by
            obtain ⟨s, hk⟩ := HS.out
            have kp := s.keep hZ
            have hK := (hZ.block _ (lt_of_some hk) (s.notWq hk (by decide) (by decide))).trans hk
            have hR := (kp.req q (s.req q (by simp))).blk
            exact ⟨(cell_of hK 0).trans rfl, (cell_of hK 1).trans rfl, (cell_of hR 0).trans rfl, (cell_of hR 3).trans rfl⟩
          have O4 : Hid (Only (Wq k (.slice (some ⟨g, 0, none⟩) (rest.length + 1) cap)) W W4) := m4.only
          obtain ⟨t1, t2, t3, t4⟩ := ST.out W4 m4.only
          clear m4
          go_wp2_with fail
          go_region_held3 (fun x => x.cell? ⟨w.heap.size, 0, none⟩ = some (.int .i64 sp) ∧ x.cell? ⟨w.heap.size, 1, none⟩ = some (.string id) ∧ x.cell? ⟨q.R, 0, none⟩ = some (.pointer (some ⟨q.T, 0, none⟩)) ∧ x.cell? ⟨q.R, 3, none⟩ = some (.int .u8 q.m))
            (first
              | exact ST.out _ ho5
              | exact ST.out _ O4.out
              | exact ST.out _ O4.out.drew)
            ((go_at_call 33; refine (HG.out _ (Below.refl _ _).drew).mono ?_; rintro e W5 ⟨rfl, ho5, hfin⟩))
          all_goals
            obtain ⟨g', cap', s6, o6⟩ := hfin
            have kp := HS.out.1.keep ho5
            have u1 : W5.cell? ⟨q.R, 4, none⟩ = some (.chan (some q.c)) := (cell_of (kp.req q (HS.out.1.req q (by simp))).blk 4).trans rfl
            have hcl : ∀ ats ty, (Builtin.close_ ats ty #[.chan (some q.c)]).run Try.prog W5 = .ok (.tuple #[]) (setBlock W5 q.c (.chan 0 #[] true 0 0 false)) := fun ats ty => run_close_open ats ty (kp.ch q.c false (HS.out.1.qch q (by simp)))
            have R : Hid (Wk w B k sp id hs ds (gr ++ q :: rest) v x w.heap.size (setBlock W5 q.c (.chan 0 #[] true 0 0 false)) ∧ qLen (setBlock W5 q.c (.chan 0 #[] true 0 0 false)) k.O < qLen wr k.O) := by
              obtain ⟨he, hg, ho, hv, hql⟩ := HX.out
              refine ⟨Wk.step (v2 := .slice (some ⟨g, 0, none⟩) rest.length cap) he hg HBV.out.symm (ho.ext hbW) o6 hv rfl HS.out.1 s6 HS.out.2, ?_⟩
              rw [s6.qLen, hql]
              omega
            clear kp s6 o6 t1 t2 t3 t4
            go_wp2
            go_roundw
            case rel => exact R.out.1
            case measure => exact R.out.2

end Go.Proofs.Qxb6613396a
