/- zzHolders -/
import Derived.Test.Qxb6613396aAdd
namespace Go.Proofs.Qxb6613396a
open Go.RowKit
open Go.ChangeMaps (setBlock)
set_option linter.unusedVariables false

section
variable {w w' : World} {B : Nat} {k : Bk} {sp : Int} {id : ByteArray} {hs : List Hd} {ds qs : List Rq} {v : Value} {x : Option Nat}

/-- a write to a row beside the table -/
theorem Sys.other (h : Sys w B k sp id hs ds qs v x) {J : Nat} {c : Array Value} {t : TypeId} {r : Nat × Nat} (hJ : w.heap[J]? = some (.cells c t r)) (t1 : t ≠ 59) (t2 : t ≠ 62) (t3 : t ≠ 88) (t4 : t ≠ 28) (t5 : t ≠ 93)
    (hv : v.ownBlock ≠ some J) (o : Only (fun j => j = J) w w') : Sys w' B k sp id hs ds qs v x := by
  have hc : ∀ {j : Nat} {d : Array Value} {s : TypeId} {r' : Nat × Nat}, w.heap[j]? = some (.cells d s r') → s ≠ t → w'.heap[j]? = w.heap[j]? := fun hj hs => o.block _ (lt_of_some hj) (tyne hj hJ hs)
  have hm : ∀ {j : Nat} {es : Array MapEntry} {n : Nat}, w.heap[j]? = some (.map es n) → w'.heap[j]? = w.heap[j]? := fun hj => o.block _ (lt_of_some hj) (fun e => kyne hJ hj e.symm)
  have hh : ∀ {j p : Nat} {q : Array Value} {cl : Bool} {a b : Nat} {tm : Bool}, w.heap[j]? = some (.chan p q cl a b tm) → w'.heap[j]? = w.heap[j]? := fun hj => o.block _ (lt_of_some hj) (fun e => chne hJ hj e.symm)
  have htx : ∀ T, TxAt w T → TxAt w' T := fun T hT => hT.heap_eq (by obtain ⟨d, h1, _⟩ := hT; exact hc h1 (fun e => t3 e.symm))
  obtain ⟨es, n, ho⟩ := h.ob.isMap
  exact {
    lt := (hc h.lt (fun e => t1 e.symm)).trans h.lt
    ol := (hc h.ol (fun e => t2 e.symm)).trans h.ol
    own := by
      rcases h.own with ⟨ha, ha' | ⟨g', cap', cur, b1, b2, b3, b4⟩⟩
      · exact ⟨ha, .inl ha'⟩
      · refine ⟨ha, .inr ⟨g', cap', cur, b1, b2, (o.block _ (lt_of_some b3) ?_).trans b3, b4⟩⟩
        intro e
        apply hv
        rw [b1, ← e]
        rfl
    hm := h.hm.heap_eq (hm h.hm.raw)
    mh := h.mh.heap_eq (hm h.mh.raw)
    mw := h.mw.heap_eq (hm h.mw.raw)
    ob := h.ob.heap_eq (hm ho)
    htx := fun y hy => htx _ (h.htx y hy)
    hrow := fun y hy => (h.hrow y hy).heap_eq (by obtain ⟨d, h1, _⟩ := h.hrow y hy; exact hc h1 (fun e => t4 e.symm))
    req := fun q hq => ⟨(hc (h.req q hq).blk (fun e => t5 e.symm)).trans (h.req q hq).blk, htx _ (h.req q hq).tx⟩
    dch := fun q hq => (hh (h.dch q hq)).trans (h.dch q hq)
    qch := fun q hq => (hh (h.qch q hq)).trans (h.qch q hq)
    nod := h.nod
    nodc := h.nodc
    bO := h.bO
    bMO := h.bMO
    bMH := h.bMH
    bMW := h.bMW
    bHM := h.bHM
    bc := h.bc
    n1 := h.n1
    n2 := h.n2
    n3 := h.n3
    n4 := h.n4
    n5 := h.n5
    n6 := h.n6 }
end

def tp (y : Hd) : Value := .pointer (some ⟨y.T, 0, none⟩)

/-- zzHolders' loop -/
def HIn (w : World) (B : Nat) (k : Bk) (sp : Int) (id : ByteArray) (v : Value) (x : Option Nat) (ms : List Int) (n K J : Nat) (j : Nat) (W : World) : Prop :=
  ∃ hs, Sys W B k sp id hs [] [] v x ∧ hs.map (·.m) = ms.take j ∧ PRow W J n 63 (hs.map tp) ∧ Below B w W ∧ W.heap[K]? = some (.cells #[.int .i64 sp, .string id] 28 (0, 0)) ∧ B ≤ W.heap.size ∧ B ≤ J

/-- what zzHolders leaves -/
def Held (w : World) (B : Nat) (k : Bk) (sp : Int) (id : ByteArray) (v : Value) (x : Option Nat) (ms : List Int) (n : Nat) (e : Ending) (W : World) : Prop :=
  ∃ J hs, e = .returned (.slice (some ⟨J, 0, none⟩) n n) ∧ Sys W B k sp id hs [] [] v x ∧ hs.map (·.m) = ms ∧ PRow W J n 63 (hs.map tp) ∧ Below B w W

/-- one holder more -/
def Put (w W : World) (B : Nat) (k : Bk) (sp : Int) (id : ByteArray) (hs : List Hd) (v : Value) (x : Option Nat) (T : Nat) (m : Int) : Prop :=
  (∃ g cap, Sys W B k sp id (hs ++ [⟨T, m, g, cap⟩]) [] [] v x) ∧ Only (fun j => j = k.HM ∨ j = k.MH) w W

theorem Try.info63 : (Try.prog.info? 63).map (fun i => (i.zero, i.size, i.bytes)) = some (some (.pointer none), 1, 8) := by kernel_rfl

theorem PRow.made {w : World} {base J n : Nat} {t : TypeId} {l : List Value} (h : w.ownsRow base t 1 (.slice (some ⟨J, 0, none⟩) n n) n l) : PRow w J n t [] := by
  rcases h.2 with ⟨h1, _⟩ | ⟨g', cap', cur, h1, h2, h3, h4, h5, h6, h7⟩
  · cases h1
  · simp only [Value.slice.injEq, Option.some.injEq, Addr.mk.injEq, and_true, true_and] at h1
    obtain ⟨rfl, rfl⟩ := h1
    exact ⟨cur, h3, by omega, by simp, fun i hi => by simp at hi⟩

theorem HIn.step {w : World} {B : Nat} {k : Bk} {sp : Int} {id : ByteArray} {v : Value} {x : Option Nat} {ms : List Int} {n K J j : Nat} {wr W1 W2 : World} {hs : List Hd} {T : Nat}
    (s : Sys wr B k sp id hs [] [] v x) (hm : hs.map (·.m) = ms.take j) (hj : j < n) (hms : ms.length = n) (pr : PRow wr J n 63 (hs.map tp)) (bl : Below B w wr) (hk : wr.heap[K]? = some (.cells #[.int .i64 sp, .string id] 28 (0, 0))) (hB : B ≤ wr.heap.size) (hJ : B ≤ J)
    (b1 : Below wr.heap.size wr W1) (hp : Put W1 W2 B k sp id hs v x T (ms.getD j 0)) : (∃ u, W2.cell? ⟨J, j, none⟩ = some u) ∧ W2.frozen? ⟨J, j, none⟩ = false ∧ HIn w B k sp id v x ms n K J (j + 1) (W2.setCell ⟨J, j, none⟩ (.pointer (some ⟨T, 0, none⟩))) := by
  obtain ⟨⟨g, cap, s2⟩, o⟩ := hp
  have s1 := s.ext b1
  have hc : ∀ {i : Nat} {c : Array Value} {t : TypeId} {r : Nat × Nat}, wr.heap[i]? = some (.cells c t r) → W2.heap[i]? = wr.heap[i]? := fun {i c t r} hi => by
    have e1 := b1.block i (lt_of_some hi)
    refine (o.block i (Nat.lt_of_lt_of_le (lt_of_some hi) b1.size) ?_).trans e1
    rw [hi] at e1
    rintro (e | e)
    · exact kyne e1 s1.hm.raw e
    · exact kyne e1 s1.mh.raw e
  have pr2 : PRow W2 J n 63 (hs.map tp) := pr.heap_eq (by obtain ⟨c, h1, _⟩ := pr; exact hc h1)
  have hl : (hs.map tp).length = j := by
    have := congrArg List.length hm
    simp at this ⊢
    omega
  have pr3 := pr2.push (.pointer (some ⟨T, 0, none⟩)) (by omega)
  rw [hl] at pr3
  have pr2' := pr2
  obtain ⟨c, hJc, _⟩ := pr2'
  have hk2 := (hc hk).trans hk
  have hKJ : K ≠ J := tyne hk2 hJc (by decide)
  have o3 : Only (fun i => i = J) W2 (W2.setCell ⟨J, j, none⟩ (.pointer (some ⟨T, 0, none⟩))) := Only.setCell (M := fun i => i = J) (Only.refl _ _) rfl _
  refine ⟨pr2.cellAny hj, pr2.froz j, hs ++ [⟨T, ms.getD j 0, g, cap⟩], s2.other hJc (by decide) (by decide) (by decide) (by decide) (by decide) ?_ o3, ?_, ?_, ?_, ?_, ?_, hJ⟩
  · intro e
    obtain ⟨_, c', h'⟩ := own_row s2.own J e
    exact tyne hJc h' (by decide) rfl
  · rw [List.map_append, hm, List.take_add_one, List.getElem?_eq_getElem (by omega), List.getD_eq_getElem?_getD, List.getElem?_eq_getElem (by omega)]
    rfl
  · rw [List.map_append]; exact pr3
  · have h2 : Below B W1 W2 := o.below (Nat.le_trans hB b1.size) (fun i hi => by
      rcases hi with hi | hi
      · rw [hi]; exact s.bHM
      · rw [hi]; exact s.bMH)
    exact (bl.trans ((b1.mono hB).trans h2)).trans (o3.below (Nat.le_trans hB (Nat.le_trans b1.size h2.size)) (fun i hi => by rw [hi]; exact hJ))
  · exact (Below.heap_setCell _ _ _ _ hKJ).trans hk2
  · have : (W2.setCell ⟨J, j, none⟩ (.pointer (some ⟨T, 0, none⟩))).heap.size = W2.heap.size := by simp [World.setCell]
    rw [this]
    exact Nat.le_trans hB (Nat.le_trans b1.size o.size)

set_option maxRecDepth 100000 in
set_option maxHeartbeats 3200000 in
theorem holders_calls (B : Nat) (k : Bk) (sp : Int) (id : ByteArray) (v : Value) (x : Option Nat) (a : Option Addr) (n c : Nat) (ms : List Int) (s : Int) (w : World) (h : Sys w B k sp id [] [] [] v x) (hm : MsB w B a n ms) (hn : n ≤ 4096) (hB : B ≤ w.heap.size) :
    Calls Try.prog 12 #[.pointer (some ⟨k.L, 0, none⟩), Ky sp id, .pointer (some ⟨k.O, 0, none⟩), .slice a n c, .int .u64 s] w fun e w' => Held w B k sp id v x ms n e w' := by
  obtain ⟨i0, hi, hz0, hz1, hz2⟩ := info_parts Try.info63
  have H : Hid (Sys w B k sp id [] [] [] v x) := h
  have HM : Hid (∀ W, Below B w W → MsB W B a n ms) := fun W hb => hm.below hb
  clear h hm
  unfold Ky
  go_enter Try.func12, Try.ntmps12
  go_wp2_with (at_make; refine wpList_make_full _ rfl (.tmp 15) (.tmp 15) 35 rfl 0 63 i0 (.pointer none) 1 Try.underlying35 hi hz0 hz1 .i64 .i64 n n n rfl rfl rfl rfl (by rw [hz2]; omega) (by unfold maxLen; omega) (by omega) ?_; intro w3 ho3 hg3)
  have hst : HIn w B k sp id v x ms n w.heap.size (w.heap.size + 1) 0 w3 := by
    have b0 : Below w.heap.size w (w.alloc (.cells #[.int .i64 sp, .string id] 28)) := (Below.refl _ w).alloc (Nat.le_refl _) _
    have b3 : Below w.heap.size w w3 := b0.grown hg3 (by simp) (fun _ h => by cases h)
    refine ⟨[], H.out.ext b3, by simp, ?_, b3.mono hB, ?_, Nat.le_trans hB b3.size, by omega⟩
    · have := PRow.made ho3
      simpa using this
    · refine (hg3.block _ (by simp) (by simp)).trans ?_
      exact heap_alloc_new w _
  have HST : Hid (HIn w B k sp id v x ms n w.heap.size (w.heap.size + 1) 0 w3) := hst
  obtain ⟨J, hJ⟩ : ∃ J, J = w.heap.size + 1 := ⟨_, rfl⟩
  rw [← hJ] at HST ⊢
  clear hst ho3 hg3 hJ H
  go_loopw [12, 13] (fun i _ wr => ∃ j : Nat, j ≤ n ∧ i = .int .i64 j ∧ Hid (HIn w B k sp id v x ms n w.heap.size J j wr)) (fun i _ _ => n - (intOf i).toNat)
  case atStart => exact ⟨0, Nat.zero_le _, rfl, HST⟩
  case round =>
    clear HST
    obtain ⟨j, hj, rfl, hst⟩ := hrel
    by_cases hlt : j < n
    · obtain ⟨hs, sy, hm, pr, bl, hk, hB', hJB⟩ := hst.out
      obtain ⟨hml, hmc⟩ := HM.out wr bl
      obtain ⟨b, o, ha, hb, hc⟩ := hmc (by omega)
      subst ha
      obtain ⟨m, hmm⟩ : ∃ m, m = ms.getD j 0 := ⟨_, rfl⟩
      have e1 : wr.cell? ⟨b, o + j, none⟩ = some (.int .u8 m) := by rw [hmm]; exact hc j hlt
      have STEP : Hid (∀ W1 W2 T, Below wr.heap.size wr W1 → Put W1 W2 B k sp id hs v x T m → (∃ u, W2.cell? ⟨J, j, none⟩ = some u) ∧ W2.frozen? ⟨J, j, none⟩ = false ∧ HIn w B k sp id v x ms n w.heap.size J (j + 1) (W2.setCell ⟨J, j, none⟩ (.pointer (some ⟨T, 0, none⟩)))) := fun W1 W2 T hb1 hp => by
        rw [hmm] at hp
        exact HIn.step sy hm hlt hml pr bl hk hB' hJB hb1 hp
      have SY : Hid (Sys wr B k sp id hs [] [] v x ∧ B ≤ wr.heap.size ∧ b < B ∧ wr.heap[w.heap.size]? = some (.cells #[.int .i64 sp, .string id] 28 (0, 0)) ∧ wr.cell? ⟨b, o + j, none⟩ = some (.int .u8 m)) := ⟨sy, hB', hb, hk, e1⟩
      clear hst sy hm pr bl hk hB' hJB hml hmc hb hc hmm e1
      go_wp2_with fail
      refine (newTx_calls _ wr).mono ?_
      rintro e W1 ⟨rfl, hT, hb1, hsz⟩
      obtain ⟨T, hTe⟩ : ∃ T, T = wr.heap.size + 1 := ⟨_, rfl⟩
      rw [← hTe] at hT ⊢
      have HG : Hid (∀ W, Below W1.heap.size W1 W → Calls Try.prog 21 #[.pointer (some ⟨k.L, 0, none⟩), .agg #[.int .i64 sp, .string id], .pointer (some ⟨k.O, 0, none⟩), .pointer (some ⟨T, 0, none⟩), .int .u8 m] W fun e W2 => e = .returned (.tuple #[]) ∧ Put W W2 B k sp id hs v x T m) := fun W hb => by
        have s1 := SY.out.1.ext (hb1.trans (hb.mono hb1.size))
        exact s1.grantNew (hT.heap_eq (hb.block _ hT.cl.lt)) (fun y hy e => by
          have := (SY.out.1.htx y hy).cl.lt
          omega) m
      have ST : Hid (∀ W W2, Below W1.heap.size W1 W → Only (fun j => j = k.HM ∨ j = k.MH) W W2 → W2.cell? ⟨w.heap.size, 0, none⟩ = some (.int .i64 sp) ∧ W2.cell? ⟨w.heap.size, 1, none⟩ = some (.string id) ∧ W2.cell? ⟨b, o + j, none⟩ = some (.int .u8 m)) := fun W W2 hb ho => by
        obtain ⟨sy, hB', hbB, hk, e1⟩ := SY.out
        have hbW := hb1.trans (hb.mono hb1.size)
        have s1 := sy.ext hbW
        have hk1 := (hbW.block _ (lt_of_some hk)).trans hk
        have hk2 : W2.heap[w.heap.size]? = some (.cells #[.int .i64 sp, .string id] 28 (0, 0)) := (ho.block _ (lt_of_some hk1) (by
          rintro (e | e)
          · exact kyne hk1 s1.hm.raw e
          · exact kyne hk1 s1.mh.raw e)).trans hk1
        have hB2 : Below B W W2 := ho.below (Nat.le_trans hB' hbW.size) (fun i hi => by
          rcases hi with hi | hi
          · rw [hi]; exact s1.bHM
          · rw [hi]; exact s1.bMH)
        exact ⟨(cell_of hk2 0).trans rfl, (cell_of hk2 1).trans rfl, (hB2.cell (p := ⟨b, o + j, none⟩) hbB).trans ((hbW.cell (p := ⟨b, o + j, none⟩) (lt_of_cell e1)).trans e1)⟩
      obtain ⟨t1, t2, t3⟩ := ST.out W1 W1 (Below.refl _ _) (Only.refl _ _)
      have HB1 : Hid (Below wr.heap.size wr W1 ∧ Below wr.heap.size wr W1.drew) := ⟨hb1, hb1.drew⟩
      clear hb1 hT hsz hTe SY
      go_wp2_with fail
      go_region_held3 (fun x => x.cell? ⟨w.heap.size, 0, none⟩ = some (.int .i64 sp) ∧ x.cell? ⟨w.heap.size, 1, none⟩ = some (.string id) ∧ x.cell? ⟨b, o + j, none⟩ = some (.int .u8 m))
        (first
          | exact ST.out _ _ (Below.refl _ _).drew hp.2
          | exact ST.out _ _ (Below.refl _ _) (Only.refl _ _)
          | exact ST.out _ _ (Below.refl _ _).drew (Only.refl _ _))
        ((go_at_call 21; refine (HG.out _ (Below.refl _ _).drew).mono ?_; rintro e W2 ⟨rfl, hp⟩))
      all_goals
        obtain ⟨⟨u, q1⟩, q2, q3⟩ := STEP.out W1.drew W2 T HB1.out.2 hp
        have Q3 : Hid (HIn w B k sp id v x ms n w.heap.size J (j + 1) (W2.setCell ⟨J, j, none⟩ (.pointer (some ⟨T, 0, none⟩)))) := q3
        clear q3 hp t1 t2 t3
        go_wp2
        go_roundw
        case rel => exact ⟨j + 1, by omega, by go_num, Q3⟩
        case measure => simp [intOf]; omega
    · have hjn : j = n := by omega
      subst hjn
      go_wp2
      go_ret
      obtain ⟨hs, sy, hm, pr, bl, hk, hB', hJB⟩ := hst.out
      exact ⟨J, hs, rfl, sy, by rw [hm, List.take_of_length_le (by rw [(HM.out wr bl).1]; exact Nat.le_refl _)], pr, bl⟩

end Go.Proofs.Qxb6613396a
