/- zzRequests -/
import Derived.Test.Qxb6613396aHold
namespace Go.Proofs.Qxb6613396a
open Go.RowKit
open Go.ChangeMaps (setBlock)
set_option linter.unusedVariables false

theorem Only.trans' {M N : Nat → Prop} {a b c : World} (h : Only M a b) (k : Only N b c) (hs : ∀ i, i < a.heap.size → N i → M i) : Only M a c :=
  ⟨k.os.trans h.os, k.tape.trans h.tape, k.output.trans h.output, Nat.le_trans h.size k.size, fun i hi hm => (k.block i (Nat.lt_of_lt_of_le hi h.size) (fun hn => hm (hs i hi hn))).trans (h.block i hi hm)⟩

/-- what queueing writes -/
def Mq (k : Bk) (v : Value) (j : Nat) : Prop := j = k.O ∨ j = k.MW ∨ some j = v.ownBlock
/-- the queue's row is the old one, or a new one -/
def Grew (v v' : Value) (n : Nat) : Prop := v'.ownBlock = v.ownBlock ∨ ∃ g, v'.ownBlock = some g ∧ n ≤ g

theorem Sys.mqB {w : World} {B : Nat} {k : Bk} {sp : Int} {id : ByteArray} {hs : List Hd} {ds qs : List Rq} {v : Value} {x : Option Nat} (h : Sys w B k sp id hs ds qs v x) (j : Nat) (hj : Mq k v j) : B ≤ j := by
  rcases hj with e | e | e
  · rw [e]; exact h.bO
  · rw [e]; exact h.bMW
  · exact (own_row h.own j e.symm).1
theorem Sys.notMq {w : World} {B : Nat} {k : Bk} {sp : Int} {id : ByteArray} {hs : List Hd} {ds qs : List Rq} {v : Value} {x : Option Nat} (h : Sys w B k sp id hs ds qs v x) {j : Nat} {c : Array Value} {t : TypeId} {r : Nat × Nat} (hj : w.heap[j]? = some (.cells c t r)) (h1 : t ≠ 62) (h2 : some j ≠ v.ownBlock) : ¬ Mq k v j := by
  rintro (e | e | e)
  · exact tyne hj h.ol h1 e
  · exact kyne hj h.mw.raw e
  · exact h2 e

/-- zzRequests' loop -/
def RIn (w : World) (B : Nat) (k : Bk) (sp : Int) (id : ByteArray) (hs : List Hd) (ds qs : List Rq) (v : Value) (x : Option Nat) (ms : List Int) (n K J : Nat) (j : Nat) (W : World) : Prop :=
  ∃ rs v', Sys W B k sp id hs ds (qs ++ rs) v' x ∧ rs.map (·.m) = ms.take j ∧ PRow W J n 66 (rs.map rqOf) ∧ Only (Mq k v) w W ∧ W.heap[K]? = some (.cells #[.int .i64 sp, .string id] 28 (0, 0)) ∧ v'.ownBlock ≠ some J ∧ w.heap.size ≤ J ∧ Grew v v' w.heap.size

/-- what zzRequests leaves -/
def Asked (w : World) (B : Nat) (k : Bk) (sp : Int) (id : ByteArray) (hs : List Hd) (ds qs : List Rq) (v : Value) (x : Option Nat) (ms : List Int) (n : Nat) (e : Ending) (W : World) : Prop :=
  ∃ J rs v', e = .returned (.slice (some ⟨J, 0, none⟩) n n) ∧ Sys W B k sp id hs ds (qs ++ rs) v' x ∧ rs.map (·.m) = ms ∧ PRow W J n 66 (rs.map rqOf) ∧ Only (Mq k v) w W ∧ v'.ownBlock ≠ some J ∧ w.heap.size ≤ J ∧ Grew v v' w.heap.size

/-- one request more -/
def Put2 (w W : World) (B : Nat) (k : Bk) (sp : Int) (id : ByteArray) (hs : List Hd) (ds qs : List Rq) (v : Value) (x : Option Nat) (q : Rq) : Prop :=
  (∃ v', Sys W B k sp id hs ds (qs ++ [q]) v' x ∧ Grew v v' w.heap.size) ∧ Only (Mq k v) w W

theorem RIn.step {w : World} {B : Nat} {k : Bk} {sp : Int} {id : ByteArray} {hs : List Hd} {ds qs : List Rq} {v : Value} {x : Option Nat} {ms : List Int} {n K J j : Nat} {wr W2 W3 : World} {rs : List Rq} {v' : Value} {q : Rq}
    (s : Sys wr B k sp id hs ds (qs ++ rs) v' x) (hm : rs.map (·.m) = ms.take j) (hj : j < n) (hms : ms.length = n) (pr : PRow wr J n 66 (rs.map rqOf)) (o0 : Only (Mq k v) w wr) (hk : wr.heap[K]? = some (.cells #[.int .i64 sp, .string id] 28 (0, 0))) (hvJ : v'.ownBlock ≠ some J) (hJ : w.heap.size ≤ J) (hv : Grew v v' w.heap.size)
    (b2 : Below wr.heap.size wr W2) (hp : Put2 W2 W3 B k sp id hs ds (qs ++ rs) v' x q) (hqm : q.m = ms.getD j 0) : (∃ u, W3.cell? ⟨J, j, none⟩ = some u) ∧ W3.frozen? ⟨J, j, none⟩ = false ∧ RIn w B k sp id hs ds qs v x ms n K J (j + 1) (W3.setCell ⟨J, j, none⟩ (.pointer (some ⟨q.R, 0, none⟩))) := by
  obtain ⟨⟨v2, s3, hv2⟩, o⟩ := hp
  have s2 := s.ext b2
  have hc : ∀ {i : Nat} {c : Array Value} {t : TypeId} {r : Nat × Nat}, wr.heap[i]? = some (.cells c t r) → t ≠ 62 → some i ≠ v'.ownBlock → W3.heap[i]? = wr.heap[i]? := fun {i c t r} hi h1 h2 => by
    have e1 := b2.block i (lt_of_some hi)
    refine (o.block i (Nat.lt_of_lt_of_le (lt_of_some hi) b2.size) ?_).trans e1
    rw [hi] at e1
    exact s2.notMq e1 h1 h2
  have hJlt := pr.lt
  have pr3 : PRow W3 J n 66 (rs.map rqOf) := pr.heap_eq (by obtain ⟨c, h1, _⟩ := pr; exact hc h1 (by decide) (fun e => hvJ e.symm))
  have hl : (rs.map rqOf).length = j := by
    have := congrArg List.length hm
    simp at this ⊢
    omega
  have pr4 := pr3.push (.pointer (some ⟨q.R, 0, none⟩)) (by omega)
  rw [hl] at pr4
  have pr3' := pr3
  obtain ⟨c, hJc, _⟩ := pr3'
  have hk3 : W3.heap[K]? = some (.cells #[.int .i64 sp, .string id] 28 (0, 0)) := (hc hk (by decide) (fun e => by
    obtain ⟨_, c', h'⟩ := own_row s.own K e.symm
    exact tyne hk h' (by decide) rfl)).trans hk
  have hKJ : K ≠ J := tyne hk3 hJc (by decide)
  have o4 : Only (fun i => i = J) W3 (W3.setCell ⟨J, j, none⟩ (.pointer (some ⟨q.R, 0, none⟩))) := Only.setCell (M := fun i => i = J) (Only.refl _ _) rfl _
  have hv2J : v2.ownBlock ≠ some J := by
    rcases hv2 with e | ⟨g, e, hg⟩
    · rw [e]; exact hvJ
    · rw [e]
      intro e'
      injection e' with e'
      have := b2.size
      omega
  refine ⟨pr3.cellAny hj, pr3.froz j, rs ++ [q], v2, ?_, ?_, ?_, ?_, ?_, hv2J, hJ, ?_⟩
  · rw [← List.append_assoc]
    exact s3.other hJc (by decide) (by decide) (by decide) (by decide) (by decide) hv2J o4
  · rw [List.map_append, hm, List.take_add_one, List.getElem?_eq_getElem (by omega)]
    simp only [List.map_cons, List.map_nil, hqm]
    rw [List.getD_eq_getElem?_getD, List.getElem?_eq_getElem (by omega)]
    rfl
  · rw [List.map_append]; exact pr4
  · have o3 : Only (Mq k v) w W3 := Only.trans' (o0.ext b2) o (fun i hi hM => by
      rcases hM with e | e | e
      · exact .inl e
      · exact .inr (.inl e)
      · rcases hv with h | ⟨g, h, hg⟩
        · exact .inr (.inr (e.trans h))
        · rw [h] at e
          injection e with e
          omega)
    exact Only.trans' o3 o4 (fun i hi e => by omega)
  · exact (Below.heap_setCell _ _ _ _ hKJ).trans hk3
  · rcases hv2 with e | ⟨g, e, hg⟩
    · rcases hv with h | ⟨g, h, hg⟩
      · exact .inl (e.trans h)
      · exact .inr ⟨g, e.trans h, hg⟩
    · exact .inr ⟨g, e, Nat.le_trans o0.size (Nat.le_trans b2.size hg)⟩

set_option maxRecDepth 100000 in
set_option maxHeartbeats 3200000 in
theorem reqs_calls (B : Nat) (k : Bk) (sp : Int) (id : ByteArray) (hs : List Hd) (ds qs : List Rq) (v : Value) (x : Option Nat) (a : Option Addr) (n c : Nat) (ms : List Int) (s : Int) (w : World) (h : Sys w B k sp id hs ds qs v x) (hm : MsB w B a n ms) (hn : qs.length + n ≤ 4096) (hB : B ≤ w.heap.size) :
    Calls Try.prog 13 #[.pointer (some ⟨k.L, 0, none⟩), Ky sp id, .pointer (some ⟨k.O, 0, none⟩), .slice a n c, .int .u64 s] w fun e w' => Asked w B k sp id hs ds qs v x ms n e w' := by
  obtain ⟨i0, hi, hz0, hz1, hz2⟩ := info_parts Try.info66
  have H : Hid (Sys w B k sp id hs ds qs v x) := h
  have HM : Hid (∀ W, Below B w W → MsB W B a n ms) := fun W hb => hm.below hb
  have MB : Hid (∀ j, Mq k v j → B ≤ j) := fun j hj => h.mqB j hj
  clear h hm
  unfold Ky
  have hn' : n ≤ 4096 := by omega
  go_enter Try.func13, Try.ntmps13
  go_wp2_with (at_make; refine wpList_make_full _ rfl (.tmp 15) (.tmp 15) 38 rfl 0 66 i0 (.pointer none) 1 Try.underlying38 hi hz0 hz1 .i64 .i64 n n n rfl rfl rfl rfl (by rw [hz2]; omega) (by unfold maxLen; omega) (by omega) ?_; intro w3 ho3 hg3)
  have hst : RIn w B k sp id hs ds qs v x ms n w.heap.size (w.heap.size + 1) 0 w3 := by
    have b0 : Below w.heap.size w (w.alloc (.cells #[.int .i64 sp, .string id] 28)) := (Below.refl _ w).alloc (Nat.le_refl _) _
    have b3 : Below w.heap.size w w3 := b0.grown hg3 (by simp) (fun _ h => by cases h)
    refine ⟨[], v, by rw [List.append_nil]; exact H.out.ext b3, by simp, ?_, (Only.refl _ w).ext b3, ?_, ?_, by omega, .inl rfl⟩
    · have := PRow.made ho3
      simpa using this
    · refine (hg3.block _ (by simp) (by simp)).trans ?_
      exact heap_alloc_new w _
    · intro e
      obtain ⟨_, c', h'⟩ := own_row H.out.own _ e
      have := lt_of_some h'
      omega
  have HST : Hid (RIn w B k sp id hs ds qs v x ms n w.heap.size (w.heap.size + 1) 0 w3) := hst
  obtain ⟨J, hJ⟩ : ∃ J, J = w.heap.size + 1 := ⟨_, rfl⟩
  rw [← hJ] at HST ⊢
  clear hst ho3 hg3 hJ H
  go_loopw [12, 13] (fun i _ wr => ∃ j : Nat, j ≤ n ∧ i = .int .i64 j ∧ Hid (RIn w B k sp id hs ds qs v x ms n w.heap.size J j wr)) (fun i _ _ => n - (intOf i).toNat)
  case atStart => exact ⟨0, Nat.zero_le _, rfl, HST⟩
  case round =>
    clear HST
    obtain ⟨j, hj, rfl, hst⟩ := hrel
    by_cases hlt : j < n
    · obtain ⟨rs, v', sy, hm, pr, o0, hk, hvJ, hJ, hv⟩ := hst.out
      have bl : Below B w wr := o0.below hB MB.out
      obtain ⟨hml, hmc⟩ := HM.out wr bl
      obtain ⟨b, o, ha, hb, hc⟩ := hmc (by omega)
      subst ha
      obtain ⟨m, hmm⟩ : ∃ m, m = ms.getD j 0 := ⟨_, rfl⟩
      have e1 : wr.cell? ⟨b, o + j, none⟩ = some (.int .u8 m) := by rw [hmm]; exact hc j hlt
      have STEP : Hid (∀ W2 W3 q, Below wr.heap.size wr W2 → Put2 W2 W3 B k sp id hs ds (qs ++ rs) v' x q → q.m = m → (∃ u, W3.cell? ⟨J, j, none⟩ = some u) ∧ W3.frozen? ⟨J, j, none⟩ = false ∧ RIn w B k sp id hs ds qs v x ms n w.heap.size J (j + 1) (W3.setCell ⟨J, j, none⟩ (.pointer (some ⟨q.R, 0, none⟩)))) := fun W2 W3 q hb2 hp hqm =>
        RIn.step sy hm hlt hml pr o0 hk hvJ hJ hv hb2 hp (hqm.trans hmm)
      have hrl : rs.length = j := by
        have := congrArg List.length hm
        simp at this
        omega
      have SY : Hid (Sys wr B k sp id hs ds (qs ++ rs) v' x ∧ B ≤ wr.heap.size ∧ (qs ++ rs).length ≤ 4096) := ⟨sy, Nat.le_trans hB o0.size, by rw [List.length_append]; omega⟩
      have ST : Hid (∀ W, Below wr.heap.size wr W → W.cell? ⟨w.heap.size, 0, none⟩ = some (.int .i64 sp) ∧ W.cell? ⟨w.heap.size, 1, none⟩ = some (.string id) ∧ W.cell? ⟨b, o + j, none⟩ = some (.int .u8 m)) := fun W hb => by
        have hk1 := (hb.block _ (lt_of_some hk)).trans hk
        exact ⟨(cell_of hk1 0).trans rfl, (cell_of hk1 1).trans rfl, (hb.cell (p := ⟨b, o + j, none⟩) (lt_of_cell e1)).trans e1⟩
      obtain ⟨t1, t2, t3⟩ := ST.out wr (Below.refl _ _)
      clear hst sy hm pr bl hk hml hmc hb hc hmm e1 o0 hvJ hJ hv hrl
      go_wp2_with fail
      go_region_held3 (fun x => x.cell? ⟨w.heap.size, 0, none⟩ = some (.int .i64 sp) ∧ x.cell? ⟨w.heap.size, 1, none⟩ = some (.string id) ∧ x.cell? ⟨b, o + j, none⟩ = some (.int .u8 m))
        (first
          | exact ST.out _ hbb
          | exact ST.out _ hb1
          | exact ST.out _ (Below.refl _ _)
          | exact ST.out _ (Below.refl _ _).drew)
        ((first
          | (go_at_call 20; refine (newTx_calls _ wr.drew).mono ?_; rintro e W1 ⟨rfl, hT, hb0, hsz⟩; have hb1 : Below wr.heap.size wr W1 := (Below.refl _ _).drew.trans hb0)
          | (go_at_call 22; refine (newReq_calls _ sp id m W1 hT).mono ?_; rintro e W2 ⟨R, ch, rfl, hR, hch, hq, hcc, hb2⟩; have hbb : Below wr.heap.size wr W2 := hb1.trans (hb2.mono hb1.size))))
      all_goals
        have hbb : Below wr.heap.size wr W2 := hb1.trans (hb2.mono hb1.size)
        have HQ : Hid (Calls Try.prog 23 #[.pointer (some ⟨k.L, 0, none⟩), .pointer (some ⟨k.O, 0, none⟩), .pointer (some ⟨R, 0, none⟩)] W2 fun e W3 => e = .returned (.tuple #[]) ∧ Put2 W2 W3 B k sp id hs ds (qs ++ rs) v' x ⟨R, wr.drew.heap.size + 1, m, ch⟩) := by
          obtain ⟨sy, hB', hql⟩ := SY.out
          have s2 := sy.ext hbb
          have hws : wr.drew.heap.size = wr.heap.size := rfl
          exact s2.queueNew (q := ⟨R, wr.drew.heap.size + 1, m, ch⟩) hql (Nat.le_trans hB' hbb.size) hq hcc (by show B ≤ ch; omega)
            (fun y hy e => by have := (sy.htx y hy).cl.lt; simp only at e; omega)
            (fun y hy e => by have := (sy.req y (List.mem_append_right _ hy)).tx.cl.lt; simp only at e; omega)
            (fun y hy e => by
              have hlt : y.c < wr.heap.size := by
                rcases List.mem_append.1 hy with hy | hy
                · exact lt_of_some (sy.dch y hy)
                · exact lt_of_some (sy.qch y hy)
              simp only at e
              omega)
        have HBB : Hid (Below wr.heap.size wr W2) := hbb
        clear hT hb0 hsz hb1 hR hch hq hcc hb2 hbb t1 t2 t3 SY
        go_wp2_with fail
        refine HQ.out.mono ?_
        rintro e W3 ⟨rfl, hp⟩
        obtain ⟨⟨u, q1⟩, q2, q3⟩ := STEP.out W2 W3 _ HBB.out hp rfl
        have Q3 : Hid (RIn w B k sp id hs ds qs v x ms n w.heap.size J (j + 1) (W3.setCell ⟨J, j, none⟩ (.pointer (some ⟨R, 0, none⟩)))) := q3
        clear q3 hp
        go_wp2
        go_roundw
        case rel => exact ⟨j + 1, by omega, by go_num, Q3⟩
        case measure => simp [intOf]; omega
    · have hjn : j = n := by omega
      subst hjn
      go_wp2
      go_ret
      obtain ⟨rs, v', sy, hm, pr, o0, hk, hvJ, hJ, hv⟩ := hst.out
      exact ⟨J, rs, v', rfl, sy, by rw [hm, List.take_of_length_le (by rw [(HM.out wr (o0.below hB MB.out)).1]; exact Nat.le_refl _)], pr, o0, hvJ, hJ, hv⟩

end Go.Proofs.Qxb6613396a
