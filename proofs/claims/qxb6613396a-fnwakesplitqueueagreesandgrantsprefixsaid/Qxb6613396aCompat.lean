/- compatible -/
import Derived.Test.Qxb6613396aConf
namespace Go.Proofs.Qxb6613396a
open Go.RowKit Go.Shelf
attribute [local go_sem] Oper.semAt_some
set_option linter.unusedVariables false

theorem conflicting_in (F : Fence) (n : Nat) (h36 : F.fn 36) (hro : F.round = none) (O T : Nat) (mode : Int) (w : World) :
    CallsIn F n Try.prog 36 #[.pointer (some ⟨O, 0, none⟩), .pointer (some ⟨T, 0, none⟩), .int .u8 mode] w fun e w' => e = .returned (.func (.func 37) #[] #[.pointer (some ⟨w.heap.size, 0, none⟩), .pointer (some ⟨w.heap.size + 1 + 1, 0, none⟩), .pointer (some ⟨w.heap.size + 1, 0, none⟩)]) ∧
      w' = ((w.alloc (.cells #[.pointer (some ⟨O, 0, none⟩)] 32)).alloc (.cells #[.pointer (some ⟨T, 0, none⟩)] 63)).alloc (.cells #[.int .u8 mode] 90) := by
  refine callsIn_of_wp Try.func36 rfl h36 ?_ hro
  simp only [Try.ntmps36, List.size_toArray, List.length_cons, List.length_nil, Nat.reduceAdd, Nat.reduceSub, Array.replicate_succ, Array.replicate_zero, List.push_toArray, List.append_toArray, List.nil_append, List.cons_append]
  gi_wp2
  go_ret
  exact ⟨rfl, rfl⟩

/-- what 'compatible' asks of the memory -/
structure CAsk (w : World) (O HM T : Nat) (es : Array MapEntry) (clk : Nat) (cT : Array Value) : Prop where
  o0 : w.cell? ⟨O, 0, none⟩ = some (.map (some HM))
  hm : w.heap[HM]? = some (.map es clk)
  ent : ∀ e ∈ es.toList, HEnt w T e
  old : ∀ e ∈ es.toList, e.born < clk
  nod : (es.toList.map (·.born)).Nodup
  tx : w.heap[T]? = some (Obj.cells cT 88 (0, 0))
  par : w.cell? ⟨T, 1, none⟩ = some (.pointer none)

theorem KpB.t {n₀ : Nat} {A B C : World} (h : KpB n₀ A B) (k : KpB n₀ B C) : KpB n₀ A C := ⟨h.1.trans k.1, h.2.trans k.2⟩
theorem KpB.b {n₀ : Nat} {w : World} (hn : n₀ ≤ w.heap.size) (W : World) (l : Nat) (o o' : Obj) (hl : w.heap.size ≤ l) (h : W.heap[l]? = some o) (h1 : o.isCells = false) (h2 : o.isWalk = false) : KpB n₀ W (W.putObj l o') :=
  ⟨belowK_b hn W l o o' hl h h1 h2, walksK_b (w := w) W l o o' hl h h1 h2⟩

set_option maxRecDepth 100000 in
set_option maxHeartbeats 2000000 in
theorem compat_in (F : Fence) (n : Nat) (h34 : F.fn 34) (h36 : F.fn 36) (h37 : F.fn 37) (h38 : F.fn 38) (h39 : F.fn 39) (h40 : F.fn 40) (hro : F.round = none) (hn : 7 ≤ n) (O HM T : Nat) (mode : Int) (es : Array MapEntry) (clk : Nat) (cT : Array Value) (w : World)
    (hv : CAsk w O HM T es clk cT) (b : Bool) (hb1 : (∃ e ∈ es.toList, confE mode e) → b = false) (hb0 : ¬ (∃ e ∈ es.toList, confE mode e) → b = true) :
    CallsIn F n Try.prog 34 #[.pointer (some ⟨O, 0, none⟩), .pointer (some ⟨T, 0, none⟩), .int .u8 mode] w fun e W' => e = .returned (.bool b) ∧ Below w.heap.size w W' := by
  have h1 : 1 ≤ n := by omega
  have HV : Hid (CAsk w O HM T es clk cT) := hv
  have Hb1 : Hid ((∃ e ∈ es.toList, confE mode e) → b = false) := hb1
  have Hb0 : Hid (¬ (∃ e ∈ es.toList, confE mode e) → b = true) := hb0
  clear hv hb1 hb0
  refine callsIn_of_wp_marks Try.func34 rfl h34 ?_ hro
  simp only [Try.ntmps34, List.size_toArray, List.length_cons, List.length_nil, Nat.reduceAdd, Nat.reduceSub, Array.replicate_succ, Array.replicate_zero, List.push_toArray, List.append_toArray, List.nil_append, List.cons_append]
  gi_wp2_with (gi_at_call 36; refine (conflicting_in F (n - 1) h36 hro O T mode _).mono ?_; rintro e w' ⟨rfl, rfl⟩)
  have c0 := cell_new_l w (.bool false) 4
  obtain ⟨W0, hW0⟩ : ∃ W0, W0 = (((w.alloc (.cells #[.bool false] 4)).alloc (.cells #[.pointer (some ⟨O, 0, none⟩)] 32)).alloc (.cells #[.pointer (some ⟨T, 0, none⟩)] 63)).alloc (.cells #[.int .u8 mode] 90) := ⟨_, rfl⟩
  have hB0 : Below w.heap.size w W0 := by
    rw [hW0]; exact ((((Below.refl _ w).alloc (Nat.le_refl _) _).alloc (by simp) _).alloc (by simp; omega) _).alloc (by simp; omega) _
  have hsz : W0.heap.size = w.heap.size + 4 := by rw [hW0]; simp
  have c1 := cell_new_l (w.alloc (.cells #[.bool false] 4)) (.pointer (some ⟨O, 0, none⟩)) 32
  have c2 := cell_new_l ((w.alloc (.cells #[.bool false] 4)).alloc (.cells #[.pointer (some ⟨O, 0, none⟩)] 32)) (.pointer (some ⟨T, 0, none⟩)) 63
  have c3 := cell_new_l (((w.alloc (.cells #[.bool false] 4)).alloc (.cells #[.pointer (some ⟨O, 0, none⟩)] 32)).alloc (.cells #[.pointer (some ⟨T, 0, none⟩)] 63)) (.int .u8 mode) 90
  simp only [World.size_alloc] at c1 c2 c3
  have d0 : W0.cell? ⟨w.heap.size, 0, none⟩ = some (.bool false) := by rw [hW0]; exact cell_alloc_l _ (cell_alloc_l _ (cell_alloc_l _ c0.1))
  have f0 : W0.frozen? ⟨w.heap.size, 0, none⟩ = false := by rw [hW0]; exact frozen_alloc_l _ (cell_alloc_l _ (cell_alloc_l _ c0.1)) (frozen_alloc_l _ (cell_alloc_l _ c0.1) (frozen_alloc_l _ c0.1 c0.2))
  have hcv : CView W0 (w.heap.size + 1) (w.heap.size + 1 + 1 + 1) (w.heap.size + 1 + 1) O HM T mode es clk cT := by
    have v := HV.out
    exact {
      bo := by rw [hW0]; exact cell_alloc_l _ (cell_alloc_l _ c1.1)
      bm := by rw [hW0]; exact c3.1
      bt := by rw [hW0]; exact cell_alloc_l _ c2.1
      o0 := (hB0.cell (lt_of_cell v.o0)).trans v.o0
      hm := (hB0.block _ (Array.getElem?_eq_some_iff.1 v.hm).1).trans v.hm
      ent := fun e he => by
        obtain ⟨x, m, c, h1, h2, h3, h4⟩ := v.ent e he
        exact ⟨x, m, c, h1, h2, (hB0.block _ (Array.getElem?_eq_some_iff.1 h3).1).trans h3, h4⟩
      old := v.old
      nod := v.nod
      tx := (hB0.block _ (Array.getElem?_eq_some_iff.1 v.tx).1).trans v.tx
      par := (hB0.cell (lt_of_cell v.par)).trans v.par }
  rw [← hW0]
  clear hW0 c0 c1 c2 c3
  refine wpIn_rangeFunc_ownF hro h1 (gf := 37) (lb := #[.pointer (some ⟨w.heap.size + 1, 0, none⟩), .pointer (some ⟨w.heap.size + 1 + 1 + 1, 0, none⟩), .pointer (some ⟨w.heap.size + 1 + 1, 0, none⟩)]) rfl h37 (enters_of Try.func37 (by kernel_rfl) rfl)
    (conf_stops F (n - 1) h37 h38 h39 h40 hro (by omega) (w.heap.size + 1) (w.heap.size + 1 + 1 + 1) (w.heap.size + 1 + 1) O HM T mode es clk cT W0 hcv) KpB.t (KpB.b (Nat.le_refl _)) (Below.refl _ _) (fun _ => rfl)
    (fun pre W => (pre = [] ∧ W.cell? ⟨w.heap.size, 0, none⟩ = some (.bool false) ∧ W.frozen? ⟨w.heap.size, 0, none⟩ = false) ∧ Below w.heap.size w W)
    (fun c pre W => (c = .ret ∧ W.cell? ⟨w.heap.size, 0, none⟩ = some (.bool false)) ∧ Below w.heap.size w W)
    (OwnFrom.and (Own.from (fun s A B row hs hg hr => ⟨hs.1, cell_kept hs.2.1 hg hr, (frozen_kept hs.2.1 hg hr).trans hs.2.2⟩) _) (ownFrom_below (Nat.le_refl _) (by omega)))
    (fun c => OwnFrom.and (Own.from (fun s A B row hs hg hr => ⟨hs.1, cell_kept hs.2 hg hr⟩) _) (ownFrom_below (Nat.le_refl _) (by omega)))
    ⟨⟨rfl, d0, f0⟩, hB0⟩
    (fun x => { tmps := #[.pointer (some ⟨O, 0, none⟩), .pointer (some ⟨T, 0, none⟩), .int .u8 mode, undef, undef, undef, .pointer (some ⟨w.heap.size, 0, none⟩), .pointer (some ⟨O, 0, none⟩), .pointer (some ⟨T, 0, none⟩), .int .u8 mode, .func (.func 37) #[] #[.pointer (some ⟨w.heap.size + 1, 0, none⟩), .pointer (some ⟨w.heap.size + 1 + 1 + 1, 0, none⟩), .pointer (some ⟨w.heap.size + 1 + 1, 0, none⟩)], .pointer (some ⟨x, 0, none⟩)], defers := [] }) ?assign ?body ?done ?stop
  case assign =>
    intro l x W K hK
    gi_wp2
    simpa using hK
  case body =>
    rintro l pre x W ⟨⟨_, hcr, hfr⟩, hB⟩ _
    gi_wp2
    exact ⟨KeepsOthers.setCell _ _ _, ⟨rfl, World.cell?_setCell_same' _ _ _ (by rw [hcr]; rfl)⟩, hB.setCell (p := ⟨w.heap.size, 0, none⟩) (Nat.le_refl _) _⟩
  case done =>
    rintro D ys W hD hS ⟨⟨rfl, hcr, hfr⟩, hB⟩ hK
    have hbt : Hid (b = true) := Hb0.out (fun h => hS h rfl)
    clear hS
    gi_wp2
    have hK' := (KeepsOthers.setCell W ⟨w.heap.size, 0, none⟩ (.bool true)).same D _ hK rfl
    refine ⟨by simp, .inl ⟨_, _, rfl, run_takeDeferred hK', ?_⟩⟩
    have hc5 := cell_kept (World.cell?_setCell_same' W ⟨w.heap.size, 0, none⟩ (.bool true) (by rw [hcr]; rfl)) (grownBy_putObj' _ D (.deferred none)) (fun r e => by cases e; exact ⟨_, hK', rfl⟩)
    refine ⟨.bool true, ?_, by rw [hbt.out], (hB.setCell (p := ⟨w.heap.size, 0, none⟩) (by simp) _).trans (belowK_b (w := w) (Nat.le_refl _) _ D _ _ (by omega) hK' rfl rfl)⟩
    simp [results, Try.f34, go_sem, hc5]
  case stop =>
    rintro D c pre W hD hS ⟨⟨rfl, hcr⟩, hB⟩ hK
    have hbt : Hid (b = false) := Hb1.out hS
    clear hS
    gi_wp2
    refine ⟨by simp, .inl ⟨_, _, rfl, run_takeDeferred hK, ?_⟩⟩
    have hc5 := cell_kept hcr (grownBy_putObj' _ D (.deferred none)) (fun r e => by cases e; exact ⟨_, hK, rfl⟩)
    refine ⟨.bool false, ?_, by rw [hbt.out], hB.trans (belowK_b (w := w) (Nat.le_refl _) W D _ _ (by omega) hK rfl rfl)⟩
    simp [results, Try.f34, go_sem, hc5]

theorem compat_calls (O HM T : Nat) (mode : Int) (es : Array MapEntry) (clk : Nat) (cT : Array Value) (w : World)
    (hv : CAsk w O HM T es clk cT) (b : Bool) (hb1 : (∃ e ∈ es.toList, confE mode e) → b = false) (hb0 : ¬ (∃ e ∈ es.toList, confE mode e) → b = true) :
    Calls Try.prog 34 #[.pointer (some ⟨O, 0, none⟩), .pointer (some ⟨T, 0, none⟩), .int .u8 mode] w fun e W' => e = .returned (.bool b) ∧ Below w.heap.size w W' :=
  callsIn_wide.1 (compat_in Fence.wide 7 trivial trivial trivial trivial trivial trivial rfl (by omega) O HM T mode es clk cT w hv b hb1 hb0)

end Go.Proofs.Qxb6613396a
