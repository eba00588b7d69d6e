/- conflicting: an iterator over a map's entries -/
import Derived.Test.Qxb6613396aWithin
import Derived.Maps.RangeRun
namespace Go.Proofs.Qxb6613396a
open Go.RowKit Go.Shelf
open Go.ChangeMaps (setBlock)
attribute [local go_sem] Oper.semAt_some
set_option linter.unusedVariables false

/-- what Kp is here -/
def KpB (n₀ : Nat) (A B : World) : Prop := Below n₀ A B ∧ KeepsWalks A B

/-- an entry of the holders' map: a transaction (not T) and its mode -/
def HEnt (w : World) (T : Nat) (e : MapEntry) : Prop :=
  ∃ h m c, e.key = .pointer (some ⟨h, 0, none⟩) ∧ e.val = .int .u8 m ∧ w.heap[h]? = some (Obj.cells c 88 (0, 0)) ∧ h ≠ T

/-- does the entry conflict with a lock of this mode? -/
def confE (mode : Int) (e : MapEntry) : Prop := mode = 2 ∨ e.val = .int .u8 2

/-- what the iterator finds -/
structure CView (w : World) (Bo Bm Bt O HM T : Nat) (mode : Int) (es : Array MapEntry) (clk : Nat) (cT : Array Value) : Prop where
  bo : w.cell? ⟨Bo, 0, none⟩ = some (.pointer (some ⟨O, 0, none⟩))
  bm : w.cell? ⟨Bm, 0, none⟩ = some (.int .u8 mode)
  bt : w.cell? ⟨Bt, 0, none⟩ = some (.pointer (some ⟨T, 0, none⟩))
  o0 : w.cell? ⟨O, 0, none⟩ = some (.map (some HM))
  hm : w.heap[HM]? = some (.map es clk)
  ent : ∀ e ∈ es.toList, HEnt w T e
  old : ∀ e ∈ es.toList, e.born < clk
  nod : (es.toList.map (·.born)).Nodup
  tx : w.heap[T]? = some (Obj.cells cT 88 (0, 0))
  par : w.cell? ⟨T, 1, none⟩ = some (.pointer none)

theorem lt_of_cell {w : World} {a : Addr} {v : Value} (h : w.cell? a = some v) : a.block < w.heap.size := World.block_lt_of_cell? w a h

theorem CView.below {w w' : World} {Bo Bm Bt O HM T : Nat} {mode : Int} {es : Array MapEntry} {clk : Nat} {cT : Array Value} (h : CView w Bo Bm Bt O HM T mode es clk cT) (b : Below w.heap.size w w') : CView w' Bo Bm Bt O HM T mode es clk cT where
  bo := (b.cell (lt_of_cell h.bo)).trans h.bo
  bm := (b.cell (lt_of_cell h.bm)).trans h.bm
  bt := (b.cell (lt_of_cell h.bt)).trans h.bt
  o0 := (b.cell (lt_of_cell h.o0)).trans h.o0
  hm := (b.block _ (Array.getElem?_eq_some_iff.1 h.hm).1).trans h.hm
  ent := fun e he => by
    obtain ⟨x, m, c, h1, h2, h3, h4⟩ := h.ent e he
    exact ⟨x, m, c, h1, h2, (b.block _ (Array.getElem?_eq_some_iff.1 h3).1).trans h3, h4⟩
  old := h.old
  nod := h.nod
  tx := (b.block _ (Array.getElem?_eq_some_iff.1 h.tx).1).trans h.tx
  par := (b.cell (lt_of_cell h.par)).trans h.par

/-- the loop's own word -/
def CInv (mode : Int) (es : Array MapEntry) (clk HM r : Nat) (w : World) (J : List Nat → World → Prop) (wr : World) : Prop :=
  ∃ pre seen c0, J pre wr ∧ wr.heap[r]? = some (.mapIter (some HM) clk seen c0) ∧ clk ≤ c0 ∧ Below w.heap.size w wr ∧ pre.length + (leftOf es seen).size ≤ es.size ∧
    (∀ e ∈ es.toList, seen.contains e.born = true → confE mode e → pre ≠ [])

theorem leftOf_nil (es : Array MapEntry) : (leftOf es #[]).size = es.size := by simp [leftOf]

theorem grownBy_of_below {W W' : World} (h : Below W.heap.size W W') : W.grownBy W' none := ⟨h.os, h.tape, h.output, h.size, fun k hk _ => h.block k hk⟩

theorem below_setBlock {B r : Nat} {a w1 : World} {o : Obj} (h : Below B a w1) (hr : B ≤ r) : Below B a (setBlock w1 r o) :=
  ⟨h.os, h.tape, h.output, by simp [setBlock]; exact h.size, fun k hk => by
    rw [show (setBlock w1 r o).heap[k]? = w1.heap[k]? by simp [setBlock, Array.getElem?_setIfInBounds_ne (show r ≠ k by omega)]]
    exact h.block k hk⟩

set_option maxRecDepth 100000 in
set_option maxHeartbeats 1000000 in
theorem conf1_in (F : Fence) (n : Nat) (h37 : F.fn 37) (h38 : F.fn 38) (h39 : F.fn 39) (h40 : F.fn 40) (hro : F.round = none) (hn : 5 ≤ n) (l Bo Bm Bt O HM T : Nat) (mode : Int) (es : Array MapEntry) (clk : Nat) (cT : Array Value) (w : World) (J Jx : List Nat → World → Prop)
    (hv : CView w Bo Bm Bt O HM T mode es clk cT)
    (W : World) (hW : Below w.heap.size w W) (hJa : AbidesFrom W.heap.size J)
    (hY : ∀ pre x W, J pre W → pre.length < es.size → YieldAt F (n - 1) Try.prog l #[.pointer (some ⟨x, 0, none⟩)] W fun e W' =>
      (e = .returned (.bool true) ∧ J (pre ++ [x]) W' ∧ KpB w.heap.size W W') ∨ (e = .returned (.bool false) ∧ Jx (pre ++ [x]) W'))
    (h0 : J [] W) :
    CallsIn F n Try.prog 37 #[.func (.yield l) #[] #[], .pointer (some ⟨Bo, 0, none⟩), .pointer (some ⟨Bm, 0, none⟩), .pointer (some ⟨Bt, 0, none⟩)] W fun e W' => (∃ v, e = .returned v) ∧
      ((∃ ys, ((∃ e ∈ es.toList, confE mode e) → ys ≠ []) ∧ J ys W') ∨ (∃ pre, (∃ e ∈ es.toList, confE mode e) ∧ Jx pre W')) := by
  have hV := hv.below hW
  have c1 := hV.bo
  have c2 := hV.o0
  have hr := run_range_map (P := Try.prog) W 60 63 90 HM es clk Try.underlying60 hV.hm
  have HV : Hid (CView W Bo Bm Bt O HM T mode es clk cT) := hV
  clear hV
  refine callsIn_of_wp Try.func37 rfl h37 ?_ hro
  simp only [Try.ntmps37, List.size_toArray, List.length_cons, List.length_nil, Nat.reduceAdd, Nat.reduceSub, Array.replicate_succ, Array.replicate_zero, List.push_toArray, List.append_toArray, List.nil_append, List.cons_append]
  have HR : Hid (W.heap.size = W.heap.size) := rfl
  gi_wp2
  obtain ⟨r, hrr⟩ : ∃ r, r = W.heap.size := ⟨_, rfl⟩
  have hstart : CInv mode es clk HM r w J (W.alloc (.mapIter (some HM) clk #[] clk)) := by
    refine ⟨[], #[], clk, ?_, ?_, Nat.le_refl _, hW.alloc (by have := hW.size; omega) _, by rw [leftOf_nil]; simp, fun e _ h => by simp at h⟩
    · exact hJa [] W _ none h0 (World.grownBy_alloc W _ none) (fun r e => by cases e)
    · rw [hrr]; exact heap_alloc_new W _
  have hwr : w.heap.size ≤ r := by rw [hrr]; exact hW.size
  have HJ : Hid (∀ s A B row, J s A → A.grownBy B row → (∀ q, row = some q → r ≤ q ∧ ∃ o : Obj, A.heap[q]? = some o ∧ o.isWalk = true) → J s B) := by rw [hrr]; exact hJa
  rw [← hrr]
  clear hr c1 c2 HV h0 hJa HR hrr
  gi_loopw [5] (fun _ wr => CInv mode es clk HM r w J wr) (fun _ wr => (leftOf es (wr.iterSeen r)).size)
  case atStart => exact hstart
  case round =>
    clear hstart
    obtain ⟨pre, seen, c0, hJ, hit, hc0, hB, hlen, hseen⟩ := hrel
    have hV := hv.below hB
    rcases run_next_at (P := Try.prog) wr 0 r HM clk c0 seen es clk hit hV.hm hV.old hc0 with ⟨hz, hrun⟩ | ⟨e, he, w1, hw1, hrun⟩
    · have HF : Hid ((∃ e ∈ es.toList, confE mode e) → pre ≠ []) := by
        rintro ⟨e, he, hc⟩
        exact hseen e he (all_seen es seen hz e he) hc
      clear hseen hV
      gi_wp2
      go_end0
      exact ⟨⟨_, rfl⟩, .inl ⟨pre, HF.out, hJ⟩⟩
    · obtain ⟨W2, hW2⟩ : ∃ W2, W2 = setBlock w1 r (.mapIter (some HM) clk (seen.push e.born) clk) := ⟨_, rfl⟩
      rw [← hW2] at hrun
      have hw1h : w1.heap = wr.heap := by rcases hw1 with rfl | rfl <;> rfl
      have hrl : r < wr.heap.size := (Array.getElem?_eq_some_iff.1 hit).1
      have hit2 : W2.heap[r]? = some (.mapIter (some HM) clk (seen.push e.born) clk) := by
        rw [hW2]; simp [setBlock, hw1h, hrl]
      have hB1 : Below w.heap.size w w1 := by rcases hw1 with rfl | rfl; exact hB; exact hB.drew
      have hB2 : Below w.heap.size w W2 := by rw [hW2]; exact below_setBlock hB1 hwr
      have hV2 := hv.below hB2
      have hemem := (mem_left he).1
      have hent := run_entry_at (P := Try.prog) W2 r HM clk seen es clk e hit2 hV2.hm hemem hV2.nod
      have hgr : wr.grownBy W2 (some r) := by
        rw [hW2]
        refine ⟨?_, ?_, ?_, ?_, fun k hk hkr => ?_⟩
        · rcases hw1 with rfl | rfl <;> rfl
        · rcases hw1 with rfl | rfl <;> rfl
        · rcases hw1 with rfl | rfl <;> rfl
        · simp [setBlock, hw1h]
        · rw [← hw1h]
          simp [setBlock, Array.getElem?_setIfInBounds_ne (show r ≠ k from fun e => hkr (by rw [e]))]
      have hJ2 : J pre W2 := HJ.out pre wr W2 (some r) hJ hgr (fun q hq => by cases hq; exact ⟨Nat.le_refl _, _, hit, rfl⟩)
      have hsh := left_shrinks es seen e he
      obtain ⟨h, m, c, hk, hm, hh, hne⟩ := hV2.ent e hemem
      rw [hk, hm] at hrun hent
      have d1 := hV2.bm
      have d2 := hV2.bt
      have hmeas : Hid ((leftOf es ((W2.iterSeen r))).size < (leftOf es ((wr.iterSeen r))).size) := by
        show _ < _
        unfold World.iterSeen
        rw [hit2, hit]
        exact hsh
      have hlen2 : pre.length + (leftOf es (seen.push e.born)).size < es.size := by omega
      have HV2 : Hid (CView W2 Bo Bm Bt O HM T mode es clk cT) := hV2
      have HS : Hid (∀ x ∈ es.toList, seen.contains x.born = true → confE mode x → pre ≠ []) := hseen
      have Hm : Hid (e.val = .int .u8 m) := hm
      have Hk : Hid (e.key = .pointer (some ⟨h, 0, none⟩)) := hk
      clear hV hV2 hW2 hw1 hw1h hB1 hgr hseen hm hk he hJ hB
      by_cases hcf : mode = 2 ∨ m = 2
      · have HC : Hid (∃ x ∈ es.toList, confE mode x) := ⟨e, hemem, by
          rcases hcf with h | h
          · exact .inl h
          · exact .inr (by rw [Hm.out, h])⟩
        have hW3 := within_in F (n - 1) h38 h39 h40 hro (by omega) T h W2 cT c HV2.out.tx hh (fun e => hne e.symm) HV2.out.par
        have HW3 : Hid (CallsIn F (n - 1) Try.prog 38 #[.pointer (some ⟨T, 0, none⟩), .pointer (some ⟨h, 0, none⟩)] W2 fun e W' => e = .returned (.bool false) ∧ Below W2.heap.size W2 W') := hW3
        have hn1 : 1 ≤ n := by omega
        clear hW3 hlen
        rcases (show ((mode == 2) = true) ∨ ((mode == 2) = false ∧ (m == 2) = true) from by
          by_cases h2 : mode = 2
          · exact .inl (by simpa using h2)
          · exact .inr ⟨by simpa using h2, by rcases hcf with h | h; exact absurd h h2; simpa using h⟩) with t1 | ⟨t1, t2⟩
        all_goals
          gi_wp2_with (gi_at_call 38; refine HW3.out.mono ?_; rintro e3 W3 ⟨rfl, hb3⟩; have hJ3 : J pre W3 := HJ.out pre W2 W3 none hJ2 (grownBy_of_below hb3) (fun q hq => by cases hq); obtain ⟨fn, tmps, assign, body, hy, hR⟩ := hY pre h W3 hJ3 (by omega))
          refine hR.mono ?_
          rintro e4 W4 (⟨rfl, hJ4, hk4⟩ | ⟨rfl, hJx4⟩)
          · have hr2 : r < W2.heap.size := (Array.getElem?_eq_some_iff.1 hit2).1
            have hit4 : W4.heap[r]? = some (.mapIter (some HM) clk (seen.push e.born) clk) := hk4.2.same r _ ((hb3.block r hr2).trans hit2) rfl
            have hB4 : Below w.heap.size w W4 := (hB2.trans (hb3.mono hB2.size)).trans hk4.1
            have hm4 : Hid ((leftOf es ((W4.iterSeen r))).size < (leftOf es ((wr.iterSeen r))).size) := by
              have := hmeas.out
              show _ < _
              unfold World.iterSeen at this ⊢
              rw [hit2] at this
              rw [hit4]
              exact this
            clear hR hy hb3 hk4
            gi_wp2
            go_roundw
            case rel =>
              exact ⟨pre ++ [h], seen.push e.born, clk, hJ4, hit4, Nat.le_refl _, hB4, by simp; omega, fun x _ _ _ => by simp⟩
            case measure => exact hm4.out
          · gi_wp2
            refine bodyPost_ret (results_none rfl _ _ _) rfl ?_
            exact ⟨⟨_, rfl⟩, .inr ⟨_, HC.out, hJx4⟩⟩
      · have t1 : (mode == 2) = false := by simp; omega
        have t2 : (m == 2) = false := by simp; omega
        gi_wp2
        go_roundw
        case rel =>
          refine ⟨pre, seen.push e.born, clk, hJ2, hit2, Nat.le_refl _, hB2, by omega, ?_⟩
          intro x hx hs hc
          rw [contains_push] at hs
          by_cases hxs : seen.contains x.born = true
          · exact HS.out x hx hxs hc
          · have hxe : x.born = e.born := by
              rw [Bool.or_eq_true] at hs
              rcases hs with hs | hs
              · exact absurd hs hxs
              · simpa using hs
            have : x = e := born_inj HV2.out.nod hx hemem hxe
            subst this
            exfalso
            rcases hc with hc | hc
            · exact hcf (.inl hc)
            · rw [Hm.out] at hc
              injection hc with _ hc
              exact hcf (.inr hc)
        case measure => exact hmeas.out

theorem conf_stops (F : Fence) (n : Nat) (h37 : F.fn 37) (h38 : F.fn 38) (h39 : F.fn 39) (h40 : F.fn 40) (hro : F.round = none) (hn : 5 ≤ n) (Bo Bm Bt O HM T : Nat) (mode : Int) (es : Array MapEntry) (clk : Nat) (cT : Array Value) (w : World)
    (hv : CView w Bo Bm Bt O HM T mode es clk cT) :
    SeqStopsK F n Try.prog 37 #[.pointer (some ⟨Bo, 0, none⟩), .pointer (some ⟨Bm, 0, none⟩), .pointer (some ⟨Bt, 0, none⟩)] (fun x : Nat => #[.pointer (some ⟨x, 0, none⟩)]) (KpB w.heap.size)
      (fun ys => (∃ e ∈ es.toList, confE mode e) → ys ≠ []) (fun _ => ∃ e ∈ es.toList, confE mode e) es.size w :=
  fun l J Jx W hW hJ hJx hY h0 => conf1_in F n h37 h38 h39 h40 hro hn l Bo Bm Bt O HM T mode es clk cT w J Jx hv W hW hJ hY h0

end Go.Proofs.Qxb6613396a
