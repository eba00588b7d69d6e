/- ZZgrant, ZZqueue -/
import Derived.Test.Qxb6613396aGrant
namespace Go.Proofs.Qxb6613396a
open Go.RowKit
open Go.ChangeMaps (setBlock)
set_option linter.unusedVariables false

/-- what a grant leaves -/
def Granted (HM MH T : Nat) (sp : Int) (id : ByteArray) (m : Int) (l1 l2 : List (Nat × Value)) (b1 b2 : Nat) (w w' : World) : Prop :=
  ∃ g cap, MapAt w' HM (l1 ++ [(T, .int .u8 m)]) b1 ∧ MapAt w' MH (l2 ++ [(T, .slice (some ⟨g, 0, none⟩) 1 cap)]) b2 ∧ KeyRow w' g sp id ∧ w.heap.size ≤ g ∧ Only (fun k => k = HM ∨ k = MH) w w'

theorem zgrant_calls (L O MO MH MW HM T : Nat) (sp : Int) (id : ByteArray) (m : Int) (v : Value) (l1 l2 : List (Nat × Value)) (b1 b2 : Nat) (w : World)
    (hL : w.heap[L]? = some (.cells (ltCells MO MH MW) 59 (0, 0))) (hO : w.heap[O]? = some (.cells #[.map (some HM), v] 62 (0, 0)))
    (h1 : MapAt w HM l1 b1) (h2 : MapAt w MH l2 b2) (k1 : ∀ x ∈ l1, Cl w x.1) (k2 : ∀ x ∈ l2, Cl w x.1) (hT : TxAt w T) (n1 : ∀ x ∈ l1, x.1 ≠ T) (n2 : ∀ x ∈ l2, x.1 ≠ T) (hne : HM ≠ MH) :
    Calls Try.prog 21 #[.pointer (some ⟨L, 0, none⟩), Ky sp id, .pointer (some ⟨O, 0, none⟩), .pointer (some ⟨T, 0, none⟩), .int .u8 m] w fun e w' => e = .returned (.tuple #[]) ∧ Granted HM MH T sp id m l1 l2 b1 b2 w w' := by
  have e : ∀ k, k < w.heap.size → (w.alloc (.cells #[.int .i64 sp, .string id] 28)).heap[k]? = w.heap[k]? := fun k hk => Below.heap_alloc _ _ _ hk
  have G := grant_calls L O MO MH MW HM T sp id m v l1 l2 b1 b2 (w.alloc (.cells #[.int .i64 sp, .string id] 28)) ((e L (Array.getElem?_eq_some_iff.1 hL).1).trans hL) ((e O (Array.getElem?_eq_some_iff.1 hO).1).trans hO)
    (h1.heap_eq (e _ h1.lt)) (h2.heap_eq (e _ h2.lt)) (fun y hy => (k1 y hy).heap_eq (e _ (k1 y hy).lt)) (fun y hy => (k2 y hy).heap_eq (e _ (k2 y hy).lt)) (hT.heap_eq (e _ hT.cl.lt)) n1 n2 hne
  have HG : Hid (Calls Try.prog 33 #[.pointer (some ⟨L, 0, none⟩), Ky sp id, .pointer (some ⟨O, 0, none⟩), .pointer (some ⟨T, 0, none⟩), .int .u8 m] (w.alloc (.cells #[.int .i64 sp, .string id] 28)) fun e w' => e = .returned (.tuple #[]) ∧ Granted HM MH T sp id m l1 l2 b1 b2 w w') := by
    refine G.mono fun e w' ⟨h, g, cap, a1, a2, a3, a4, a5⟩ => ⟨h, g, cap, a1, a2, a3, by simp at a4; omega, ((Only.refl _ w).alloc _).trans a5⟩
  clear G e hL hO h1 h2 k1 k2 hT n1 n2
  unfold Ky at HG ⊢
  go_enter Try.func21, Try.ntmps21
  go_wp2_with fail
  refine HG.out.mono ?_
  rintro e w1 ⟨rfl, hg⟩
  go_wp2
  go_end0
  exact ⟨rfl, hg⟩

theorem Try.info66 : (Try.prog.info? 66).map (fun i => (i.zero, i.size, i.bytes)) = some (some (.pointer none), 1, 8) := by kernel_rfl

/-- what queueing leaves -/
def Queued (O HM MW B : Nat) (v : Value) (n : Nat) (xs : List Value) (l : List (Nat × Value)) (b T R : Nat) (w w' : World) : Prop :=
  ∃ v', w'.heap[O]? = some (.cells #[.map (some HM), v'] 62 (0, 0)) ∧ w'.ownsRow B 66 1 v' (n + 1) (xs ++ [.pointer (some ⟨R, 0, none⟩)]) ∧ MapAt w' MW (l ++ [(T, .pointer (some ⟨R, 0, none⟩))]) b ∧
    (v'.ownBlock = v.ownBlock ∨ ∃ g, v'.ownBlock = some g ∧ w.heap.size ≤ g) ∧ Only (fun k => k = O ∨ k = MW ∨ some k = v.ownBlock) w w'

set_option maxRecDepth 100000 in
set_option maxHeartbeats 1600000 in
theorem queue_calls (L O MO MH MW HM B : Nat) (sp : Int) (id : ByteArray) (q : Rq) (v : Value) (n : Nat) (xs : List Value) (l : List (Nat × Value)) (b : Nat) (w : World) (hn : n ≤ 4096)
    (hL : w.heap[L]? = some (.cells (ltCells MO MH MW) 59 (0, 0))) (hO : w.heap[O]? = some (.cells #[.map (some HM), v] 62 (0, 0))) (hB : B ≤ w.heap.size)
    (hown : w.ownsRow B 66 1 v n xs) (h2 : MapAt w MW l b) (k2 : ∀ x ∈ l, TxAt w x.1) (hq : ReqC w q sp id) (n2 : ∀ x ∈ l, x.1 ≠ q.T) :
    Calls Try.prog 23 #[.pointer (some ⟨L, 0, none⟩), .pointer (some ⟨O, 0, none⟩), .pointer (some ⟨q.R, 0, none⟩)] w fun e w' => e = .returned (.tuple #[]) ∧ Queued O HM MW B v n xs l b q.T q.R w w' := by
  obtain ⟨i0, hi, hz0, hz1, hz2⟩ := info_parts Try.info66
  have hLl : L < w.heap.size := (Array.getElem?_eq_some_iff.1 hL).1
  have hOl : O < w.heap.size := (Array.getElem?_eq_some_iff.1 hO).1
  have c1 : w.cell? ⟨O, 1, none⟩ = some v := (cell_of hO 1).trans rfl
  have hvb : ∀ k, v.ownBlock = some k → B ≤ k ∧ k < w.heap.size ∧ ∃ c, w.heap[k]? = some (.cells c 66 (0, 0)) := by
    intro k hk
    rcases hown.2 with ⟨h1, _⟩ | ⟨g', cap', cur, h1, h3, h4, _⟩
    · subst h1; simp [Value.ownBlock] at hk
    · subst h1
      simp [Value.ownBlock] at hk
      subst hk
      exact ⟨h3, (Array.getElem?_eq_some_iff.1 h4).1, cur, h4⟩
  have hvt : ∀ k c t, w.heap[k]? = some (.cells c t (0, 0)) → t ≠ 66 → some k ≠ v.ownBlock := by
    intro k c t hk ht e
    obtain ⟨_, _, c', h⟩ := hvb k e.symm
    rw [hk] at h
    simp at h
    exact ht h.2
  have hvm : some MW ≠ v.ownBlock := by
    intro e
    obtain ⟨_, _, c', h⟩ := hvb MW e.symm
    rw [h2.raw] at h
    cases h
  -- what is known behind the append, in whatever world it leaves
  have AFT : Hid (∀ w1, (w.alloc (.cells #[.pointer (some ⟨q.R, 0, none⟩)] 66)).grownBy w1 v.ownBlock → w1.heap[O]? = some (.cells #[.map (some HM), v] 62 (0, 0)) ∧ w1.heap[L]? = some (.cells (ltCells MO MH MW) 59 (0, 0)) ∧ w1.heap[q.R]? = some (.cells (reqCells q sp id) 93 (0, 0)) ∧ MapAt w1 MW l b ∧ (∀ x ∈ l, TxAt w1 x.1) ∧ TxAt w1 q.T ∧ Only (fun k => k = O ∨ k = MW ∨ some k = v.ownBlock) w w1) := by
    intro w1 hg
    have hx : Only (fun k => some k = v.ownBlock) w w1 := ((Only.refl _ w).alloc _).grown hg (fun k e _ => e.symm)
    have hTx : ∀ T, TxAt w T → TxAt w1 T := fun T hT => by
      obtain ⟨c, h1, h3⟩ := hT
      exact ⟨c, (hx.block T (Array.getElem?_eq_some_iff.1 h1).1 (hvt T c 88 h1 (by decide))).trans h1, h3⟩
    exact ⟨(hx.block O hOl (hvt O _ 62 hO (by decide))).trans hO, (hx.block L hLl (hvt L _ 59 hL (by decide))).trans hL, (hx.block q.R (Array.getElem?_eq_some_iff.1 hq.blk).1 (hvt q.R _ 93 hq.blk (by decide))).trans hq.blk,
      h2.heap_eq (hx.block MW h2.lt hvm), fun x hx' => hTx _ (k2 x hx'), hTx _ hq.tx, hx.mono (fun k _ h => .inr (.inr h))⟩
  have f2 := lookI_none q.T l 0 n2
  have F2 : Hid (lookI q.T l 0 = none) := f2
  have hOM : O ≠ MW := by intro e; rw [e, h2.raw] at hO; cases hO
  have hLO : L ≠ O := by
    intro e
    rw [e, hO] at hL
    have := congrArg (fun o : Option Obj => match o with | some (.cells _ t _) => t | _ => 0) hL
    simp at this
  have hRO : q.R ≠ O := by
    intro e
    have h := hq.blk
    rw [e, hO] at h
    have := congrArg (fun o : Option Obj => match o with | some (.cells _ t _) => t | _ => 0) h
    simp at this
  have HTO : Hid (∀ w1 T, TxAt w1 T → w1.heap[O]? = some (.cells #[.map (some HM), v] 62 (0, 0)) → T ≠ O) := by
    intro w1 T hT hO1 e
    obtain ⟨c, h1, _⟩ := hT
    rw [e, hO1] at h1
    have := congrArg (fun o : Option Obj => match o with | some (.cells _ t _) => t | _ => 0) h1
    simp at this
  have hBO : Hid (v.ownBlock = v.ownBlock) := rfl
  have HOWN : Hid (w.ownsRow B 66 1 v n xs) := hown
  have HOV : Hid (∀ g, v.ownBlock = some g → O ≠ g) := by
    intro g hg e
    exact hvt O _ 62 hO (by decide) (by rw [e, hg])
  clear hO hown hL hq h2 k2 n2 f2 hvb hvt hvm
  go_enter Try.func23, Try.ntmps23
  go_wp2_with (at_builtin; refine wpList_append_lies _ rfl (.tmp 10) (.tmp 12) 38 rfl B 66 i0 (.pointer none) 1 8 Try.underlying38 hi hz0 hz1 hz2 rfl (by decide) v n xs rfl (HOWN.out.alloc _) ⟨w.heap.size, 0, none⟩ 1 1 [.pointer (some ⟨q.R, 0, none⟩)] rfl rfl ?c1 ?c2 ?cm ?c3 ?c4 ?c5 (w.heap.size + 1) ?c6 ?_)
  case c2 => rfl
  case c3 => unfold maxLen; omega
  case c4 => omega
  case c5 => omega
  intro g cap w1 hown1 hgrow hat hlt
  obtain ⟨a1, a2, a3, a4, a5, a6, a7⟩ := AFT.out w1 hgrow
  have hOg : O ≠ g := by
    rcases hat with h | h
    · exact HOV.out g h
    · omega
  have d1 := (cell_of a1 1).trans rfl
  have d2 := froz_of a1 1
  obtain ⟨W2, hW2⟩ : ∃ W2, W2 = w1.setCell ⟨O, 1, none⟩ (.slice (some ⟨g, 0, none⟩) (n + 1) cap) := ⟨_, rfl⟩
  have e2 : ∀ k, k ≠ O → W2.heap[k]? = w1.heap[k]? := fun k hk => by rw [hW2]; exact Below.heap_setCell _ _ _ _ hk
  have hO2 : W2.heap[O]? = some (.cells #[.map (some HM), .slice (some ⟨g, 0, none⟩) (n + 1) cap] 62 (0, 0)) := by
    rw [hW2, heap_setCell_same w1 O 1 _ 62 _ a1]; rfl
  have hown2 : W2.ownsRow B 66 1 (.slice (some ⟨g, 0, none⟩) (n + 1) cap) (n + 1) (xs ++ [.pointer (some ⟨q.R, 0, none⟩)]) := by
    rw [hW2]
    refine hown1.kept (row := some O) ⟨rfl, rfl, rfl, by simp [World.setCell], fun k _ hk => Below.heap_setCell _ _ _ _ (fun e => hk (by rw [e]))⟩ (.inr ?_)
    simp only [Value.ownBlock, ne_eq, Option.some.injEq]
    exact fun e => hOg e.symm
  have g1 : W2.cell? ⟨L, 5, none⟩ = some (.map (some MW)) := (cell_of ((e2 L hLO).trans a2) 5).trans rfl
  have g2 : W2.cell? ⟨q.R, 0, none⟩ = some (.pointer (some ⟨q.T, 0, none⟩)) := (cell_of ((e2 q.R hRO).trans a3) 0).trans rfl
  have m2 : MapAt W2 MW l b := a4.heap_eq (e2 MW (fun e => hOM e.symm))
  have hu := run_upd_new (w := W2.drew) Try.underlying46 m2 (fun x hx => ((a5 x hx).cl).heap_eq (e2 _ (HTO.out w1 _ (a5 x hx) a1))) (a6.cl.heap_eq (e2 _ (HTO.out w1 _ a6 a1))) F2.out (.pointer (some ⟨q.R, 0, none⟩))
  have o2 : Only (fun k => k = O ∨ k = MW ∨ some k = v.ownBlock) w W2 := by rw [hW2]; exact a7.setCell (.inl rfl) _
  have HM2 : Hid (MapAt W2 MW l b) := m2
  have HO2 : Hid (W2.heap[O]? = some (.cells #[.map (some HM), .slice (some ⟨g, 0, none⟩) (n + 1) cap] 62 (0, 0))) := hO2
  have HOWN2 : Hid (W2.ownsRow B 66 1 (.slice (some ⟨g, 0, none⟩) (n + 1) cap) (n + 1) (xs ++ [.pointer (some ⟨q.R, 0, none⟩)])) := hown2
  have O2 : Hid (Only (fun k => k = O ∨ k = MW ∨ some k = v.ownBlock) w W2) := o2
  have HAT : Hid (v.ownBlock = some g ∨ g = w.heap.size + 1) := hat
  have HW2 : Hid (W2 = w1.setCell ⟨O, 1, none⟩ (.slice (some ⟨g, 0, none⟩) (n + 1) cap)) := hW2
  clear a1 a2 a3 a4 a5 a6 a7 e2 hO2 hown2 o2 m2 hat hown1 hgrow hlt hW2
  go_wp2_with fail
  rw [← HW2.out]
  clear d1 d2
  go_region
  all_goals go_wp2
  all_goals go_end0
  all_goals
    refine ⟨rfl, .slice (some ⟨g, 0, none⟩) (n + 1) cap, (heap_setBlock_ne hOM).trans HO2.out, ?_, heap_setBlock_at HM2.out.raw, ?_, Only.setB (M := fun k => k = O ∨ k = MW ∨ some k = v.ownBlock) O2.out.drew (.inr (.inl rfl)) _⟩
    · refine HOWN2.out.kept (row := some MW) ⟨rfl, rfl, rfl, by rw [size_setBlock]; exact Nat.le_refl _, fun k _ hk => heap_setBlock_ne (fun e => hk (by rw [e]))⟩ (.inr ?_)
      intro e
      simp only [Value.ownBlock, Option.some.injEq] at e
      rcases HOWN2.out.2 with ⟨h, _⟩ | ⟨g', cap', cur, h1, _, h2, _⟩
      · cases h
      · simp only [Value.slice.injEq, Option.some.injEq, Addr.mk.injEq, and_true, true_and] at h1
        obtain ⟨rfl, rfl⟩ := h1
        rw [e, HM2.out.raw] at h2
        cases h2
    · rcases HAT.out with h | h
      · exact .inl h.symm
      · exact .inr ⟨g, rfl, by omega⟩

end Go.Proofs.Qxb6613396a
