/- within -/
import Derived.Test.Qxb6613396aIter
import Derived.LaidEqlPtr
namespace Go.Proofs.Qxb6613396a
open Go.RowKit Go.Shelf
attribute [local go_sem] Oper.semAt_some
set_option linter.unusedVariables false

theorem cell_of_box_l {W : World} {B : Nat} {v : Value} {t : TypeId} (h : W.heap[B]? = some (.cells #[v] t (0, 0))) : W.cell? ⟨B, 0, none⟩ = some v ∧ W.frozen? ⟨B, 0, none⟩ = false := by
  constructor <;> simp [World.cell?, World.frozen?, h]
theorem cell_new_l (W : World) (v : Value) (t : TypeId) : (W.alloc (.cells #[v] t)).cell? ⟨W.heap.size, 0, none⟩ = some v ∧ (W.alloc (.cells #[v] t)).frozen? ⟨W.heap.size, 0, none⟩ = false :=
  cell_of_box_l (World.alloc_heap_new W _)
theorem cell_alloc_l {W : World} {a : Addr} {v : Value} (o : Obj) (h : W.cell? a = some v) : (W.alloc o).cell? a = some v := cell_kept h (World.grownBy_alloc W o none) (fun r e => by cases e)
theorem frozen_alloc_l {W : World} {a : Addr} {v : Value} (o : Obj) (h : W.cell? a = some v) (hf : W.frozen? a = false) : (W.alloc o).frozen? a = false := (frozen_kept h (World.grownBy_alloc W o none) (fun r e => by cases e)).trans hf

theorem size_of {P : Program} {e : TypeId} {n : Nat} (h : (P.info? e).map (·.size) = some n) : ∃ j, P.info? e = some j ∧ j.size = n := by
  obtain ⟨i, hi, hz⟩ := Option.map_eq_some_iff.1 h
  exact ⟨i, hi, hz⟩
theorem Try.siz88 : (Try.prog.info? 88).map (·.size) = some 15 := by kernel_rfl
theorem Try.size88 : ∃ j, Try.prog.info? 88 = some j ∧ j.size = 15 := size_of Try.siz88

set_option maxRecDepth 100000 in
set_option maxHeartbeats 2000000 in
theorem within_in (F : Fence) (n : Nat) (h38 : F.fn 38) (h39 : F.fn 39) (h40 : F.fn 40) (hro : F.round = none) (hn : 3 ≤ n) (T t : Nat) (w : World) (cT ct : Array Value) (hT' : w.heap[T]? = some (Obj.cells cT 88 (0, 0))) (ht' : w.heap[t]? = some (Obj.cells ct 88 (0, 0))) (hne : T ≠ t) (hP : w.cell? ⟨T, 1, none⟩ = some (.pointer none)) :
    CallsIn F n Try.prog 38 #[.pointer (some ⟨T, 0, none⟩), .pointer (some ⟨t, 0, none⟩)] w fun e W' => e = .returned (.bool false) ∧ Below w.heap.size w W' := by
  have h1 : 1 ≤ n := by omega
  have hT : T < w.heap.size := (Array.getElem?_eq_some_iff.1 hT').1
  have htl : t < w.heap.size := (Array.getElem?_eq_some_iff.1 ht').1
  have HT' : Hid (w.heap[T]? = some (Obj.cells cT 88 (0, 0))) := hT'
  have Ht' : Hid (w.heap[t]? = some (Obj.cells ct 88 (0, 0))) := ht'
  clear hT' ht'
  refine callsIn_of_wp_marks Try.func38 rfl h38 ?_ hro
  simp only [Try.ntmps38, List.size_toArray, List.length_cons, List.length_nil, Nat.reduceAdd, Nat.reduceSub, Array.replicate_succ, Array.replicate_zero, List.push_toArray, List.append_toArray, List.nil_append, List.cons_append]
  gi_wp2_with (gi_at_call 39; refine (line_in F (n - 1) h39 hro T _).mono ?_; rintro e w' ⟨rfl, rfl⟩)
  have c0 := cell_new_l w (.pointer (some ⟨t, 0, none⟩)) 63
  have c1 := cell_new_l (w.alloc (.cells #[.pointer (some ⟨t, 0, none⟩)] 63)) (.bool false) 4
  have c2 := cell_new_l ((w.alloc (.cells #[.pointer (some ⟨t, 0, none⟩)] 63)).alloc (.cells #[.bool false] 4)) (.pointer (some ⟨T, 0, none⟩)) 63
  simp only [World.size_alloc] at c1 c2
  have hB0 : Below w.heap.size w (((w.alloc (.cells #[.pointer (some ⟨t, 0, none⟩)] 63)).alloc (.cells #[.bool false] 4)).alloc (.cells #[.pointer (some ⟨T, 0, none⟩)] 63)) := (((Below.refl _ w).alloc (Nat.le_refl _) _).alloc (by simp) _).alloc (by simp; omega) _
  refine wpIn_rangeFunc_ownF hro h1 (gf := 40) (lb := #[.pointer (some ⟨w.heap.size + 1 + 1, 0, none⟩)]) rfl h40 (enters_of Try.func40 (by kernel_rfl) rfl)
    (line_stops F (n - 1) h40 hro (by omega) (w.heap.size + 1 + 1) w.heap.size T _ (by simp) (by simp; omega) c2.1 hT ((hB0.cell (p := ⟨T, 1, none⟩) hT).trans hP)) belowK_t (belowK_b (by simp; omega)) (Below.refl _ _) (fun _ => rfl)
    (fun pre W => (W.cell? ⟨w.heap.size, 0, none⟩ = some (.pointer (some ⟨t, 0, none⟩)) ∧ W.cell? ⟨w.heap.size + 1, 0, none⟩ = some (.bool false) ∧ W.frozen? ⟨w.heap.size + 1, 0, none⟩ = false) ∧ Below w.heap.size w W)
    (fun _ _ _ => False)
    (OwnFrom.and (Own.from (fun s A B row hs hg hr => ⟨cell_kept hs.1 hg hr, cell_kept hs.2.1 hg hr, (frozen_kept hs.2.1 hg hr).trans hs.2.2⟩) _) (ownFrom_below (Nat.le_refl _) (by simp; omega)))
    (fun _ _ _ _ _ hs _ _ => hs)
    ⟨⟨cell_alloc_l _ (cell_alloc_l _ c0.1), cell_alloc_l _ c1.1, frozen_alloc_l _ c1.1 c1.2⟩, hB0⟩
    (fun x => { tmps := #[.pointer (some ⟨T, 0, none⟩), .pointer (some ⟨t, 0, none⟩), undef, .pointer (some ⟨w.heap.size, 0, none⟩), .pointer (some ⟨w.heap.size + 1, 0, none⟩), .pointer (some ⟨T, 0, none⟩), .pointer (some ⟨T, 0, none⟩), .func (.func 40) #[] #[.pointer (some ⟨w.heap.size + 1 + 1, 0, none⟩)], .pointer (some ⟨T, 0, none⟩), undef, undef, undef], defers := [] }) ?assign ?body ?done ?stop
  case assign =>
    intro l x W K hK
    gi_wp2
    exact hK
  case body =>
    rintro l pre x W ⟨⟨hcw, hcr, hfr⟩, hB⟩ _
    obtain ⟨j, hj, hjs⟩ := Try.size88
    have he := run_eql_ptr_other W (a := ⟨T, 0, none⟩) (b := ⟨t, 0, none⟩) Try.underlying63 hj (by rw [hjs]; decide) (fun e => hne (by injection e)) ((hB.block T hT).trans HT'.out) ((hB.block t htl).trans Ht'.out)
    gi_wp2
    exact ⟨KeepsOthers.refl _, Below.refl _ _, ⟨hcw, hcr, hfr⟩, hB⟩
  case done =>
    rintro D ys W hD rfl ⟨⟨_, hcr, hfr⟩, hB⟩ hK
    gi_wp2
    have hK' := (KeepsOthers.setCell W ⟨w.heap.size + 1, 0, none⟩ (.bool false)).same D _ hK rfl
    refine ⟨by simp, .inl ⟨_, _, rfl, run_takeDeferred hK', ?_⟩⟩
    have hc5 := cell_kept (World.cell?_setCell_same' W ⟨w.heap.size + 1, 0, none⟩ (.bool false) (by rw [hcr]; rfl)) (grownBy_putObj' _ D (.deferred none)) (fun r e => by cases e; exact ⟨_, hK', rfl⟩)
    refine ⟨.bool false, ?_, rfl, (hB.setCell (p := ⟨w.heap.size + 1, 0, none⟩) (by simp) _).trans (belowK_b (w := w) (Nat.le_refl _) _ D _ _ (by simp at hD; omega) hK' rfl rfl)⟩
    simp [results, Try.f38, go_sem, hc5]
  case stop =>
    rintro D c pre W _ _ h _
    exact h.elim

theorem within_calls (T t : Nat) (w : World) (cT ct : Array Value) (hT' : w.heap[T]? = some (Obj.cells cT 88 (0, 0))) (ht' : w.heap[t]? = some (Obj.cells ct 88 (0, 0))) (hne : T ≠ t) (hP : w.cell? ⟨T, 1, none⟩ = some (.pointer none)) :
    Calls Try.prog 38 #[.pointer (some ⟨T, 0, none⟩), .pointer (some ⟨t, 0, none⟩)] w fun e W' => e = .returned (.bool false) ∧ Below w.heap.size w W' :=
  callsIn_wide.1 (within_in Fence.wide 3 trivial trivial trivial rfl (by omega) T t w cT ct hT' ht' hne hP)

end Go.Proofs.Qxb6613396a
