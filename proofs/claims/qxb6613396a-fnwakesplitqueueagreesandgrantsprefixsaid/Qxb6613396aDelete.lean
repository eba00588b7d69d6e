/- slices.Delete(s, 0, 1) -/
import Derived.Test.Qxb6613396aQueue
import Derived.Deep.RegionLaw
import Derived.Deep.MidRow
import Derived.Deep.Upon
import Derived.Lib.SliceRun
namespace Go.Proofs.Qxb6613396a
open Go.RowKit
open Go.ChangeMaps (setBlock)
set_option linter.unusedVariables false

set_option maxHeartbeats 1600000 in
set_option maxRecDepth 100000 in
theorem delete_walk (g n cap : Nat) (x : Value) (xs : List Value) (w : World) (hn : n ≤ 4096) (hl : n + 1 ≤ cap) (hm : cap ≤ maxLen) (hx : xs.length = n) (h1 : ∀ u ∈ x :: xs, u.oneCell' = true)
    (hc : ∀ j, j < n + 1 → w.cell? ⟨g, j, none⟩ = (x :: xs)[j]?) (hf : ∀ j, w.frozen? ⟨g, j, none⟩ = false) :
    Calls Try.prog 35 #[.slice (some ⟨g, 0, none⟩) (n + 1) cap, .int .i64 0, .int .i64 1] w fun e w' => e = .returned (.slice (some ⟨g, 0, none⟩) n cap) ∧ w' = (w.drew.setCells g 0 xs).setCells g n [.pointer none] := by
  obtain ⟨i0, hi0, hz0, hz1, hz2⟩ := info_parts Try.info66
  unfold maxLen at hm
  obtain ⟨A, hA, hnews⟩ : ∃ A : Addr, (if cap = 1 then some (⟨g, 0, none⟩ : Addr) else some ⟨g, 1, none⟩) = some A ∧ Hid (∀ j u, xs[j]? = some u → w.drew.cell? (A.add j) = some u) := by
    by_cases h : cap = 1
    · refine ⟨⟨g, 0, none⟩, by simp [h], fun j u hu => ?_⟩
      have h0 : xs.length = 0 := by omega
      rw [List.length_eq_zero_iff.1 h0] at hu
      simp at hu
    · refine ⟨⟨g, 1, none⟩, by simp [h], fun j u hu => ?_⟩
      have hj : j < n := by have := (List.getElem?_eq_some_iff.1 hu).1; omega
      rw [Addr.add_lit, show 1 + j = j + 1 by omega]
      show w.cell? ⟨g, j + 1, none⟩ = some u
      rw [hc (j + 1) (by omega)]
      simpa using hu
  have s1 : Hid (xs.length = n * 1) := by rw [Nat.mul_one]; exact hx
  have s2 : Hid (∀ u ∈ xs, u.oneCell' = true) := fun u hu => h1 u (by simp [hu])
  have s3 : Hid (∀ j, j < xs.length → (w.drew.cell? ⟨g, 0 + 0 * 1 + j, none⟩).isSome = true ∧ w.drew.frozen? ⟨g, 0 + 0 * 1 + j, none⟩ = false) := by
    intro j hj
    rw [show 0 + 0 * 1 + j = j by omega]
    exact ⟨by show (w.cell? _).isSome = true; rw [hc j (by omega)]; simp; omega, hf j⟩
  have hp1 : (1 : Int) ≤ (n : Int) + 1 := by omega
  have hcl := fun ty c => Lib.run_clear_slice (P := Try.prog) (w.drew.setCells g 0 xs) 38 66 ty (.pointer none) Try.underlying38 Try.zeroValue66 rfl rfl g n 1 c (by omega)
    (fun j hj => World.isSome_setCells g xs 0 w.drew _ (by show (w.cell? _).isSome = true; rw [hc (n + j) (by omega)]; simp; omega)) (fun j hj => by rw [World.frozen?_setCells]; exact hf _)
  clear hc hf h1
  go_enter Try.func35, Try.ntmps35
  go_wp2
  go_region_law (refine step_append_room rfl (.tmp 22) (.tmp 25) 38 rfl 66 i0 1 Try.underlying38 hi0 hz1 g 0 0 cap (by simp [Act.eval, Act.put]) A n (cap - 1) xs (by simp [Act.eval, Act.put]) s1.out hnews.out s2.out (by omega) s3.out ?_)
  all_goals go_wp2
  all_goals go_ret
  all_goals exact ⟨rfl, rfl⟩

theorem row_setCells (b : Nat) (t : TypeId) : ∀ (vs : List Value) (o : Nat) (w : World) (cs : Array Value), w.heap[b]? = some (.cells cs t (0, 0)) → ∃ cs', (w.setCells b o vs).heap[b]? = some (.cells cs' t (0, 0)) ∧ cs'.size = cs.size
  | [], o, w, cs, h => ⟨cs, h, rfl⟩
  | v :: r, o, w, cs, h => by
    have h' := heap_setCell_same w b o cs t v h
    obtain ⟨cs', h1, h2⟩ := row_setCells b t r (o + 1) (w.setCell ⟨b, o, none⟩ v) _ h'
    exact ⟨cs', h1, by rw [h2]; simp⟩
theorem only_setCells (b : Nat) : ∀ (vs : List Value) (o : Nat) (w : World), Only (fun k => k = b) w (w.setCells b o vs)
  | [], o, w => Only.refl _ w
  | v :: r, o, w => (Only.setCell (M := fun k => k = b) (Only.refl _ w) (p := ⟨b, o, none⟩) rfl v).trans (only_setCells b r (o + 1) _)

theorem delete_calls (B g n cap : Nat) (x : Value) (xs : List Value) (w : World) (hn : n ≤ 4096) (h1 : ∀ u ∈ x :: xs, u.oneCell' = true) (hown : w.ownsRow B 66 1 (.slice (some ⟨g, 0, none⟩) (n + 1) cap) (n + 1) (x :: xs)) :
    Calls Try.prog 35 #[.slice (some ⟨g, 0, none⟩) (n + 1) cap, .int .i64 0, .int .i64 1] w fun e w' => e = .returned (.slice (some ⟨g, 0, none⟩) n cap) ∧ w'.ownsRow B 66 1 (.slice (some ⟨g, 0, none⟩) n cap) n xs ∧ Only (fun k => k = g) w w' := by
  have hc := fun j (hj : j < n + 1) => hown.cellAt j (by omega)
  have hf := hown.frozenAt
  rcases hown.2 with ⟨h, _⟩ | ⟨g', cap', cur, e1, hB, hg, hl, hm, hs, ht⟩
  · cases h
  · simp only [Value.slice.injEq, Option.some.injEq, Addr.mk.injEq, and_true, true_and] at e1
    obtain ⟨rfl, rfl⟩ := e1
    have hxl : xs.length = n := by have := hown.1; simp at this; omega
    refine (delete_walk g n cap x xs w hn hl hm hxl h1 hc hf).mono ?_
    rintro e w' ⟨rfl, rfl⟩
    obtain ⟨c1, k1, z1⟩ := row_setCells g 66 xs 0 w.drew cur hg
    obtain ⟨c2, k2, z2⟩ := row_setCells g 66 [.pointer none] n (w.drew.setCells g 0 xs) c1 k1
    refine ⟨rfl, ⟨by simp [hxl], .inr ⟨g, cap, c2, rfl, hB, k2, by omega, hm, by rw [z2, z1, hs], ?_⟩⟩, ?_⟩
    · apply List.ext_getElem?
      intro j
      rw [Nat.mul_one, List.getElem?_take]
      by_cases hj : j < n
      · rw [if_pos hj, Array.getElem?_toList, ← cell_of k2 j, World.cell?_setCells_out _ _ _ _ _ (fun _ _ => .inl hj)]
        have := World.cell?_setCells_in g xs 0 w.drew (fun i hi => by rw [show 0 + i = i by omega]; show (w.cell? _).isSome = true; rw [hc i (by omega)]; simp; omega) j (by omega)
        rw [show 0 + j = j by omega] at this
        rw [this]
        simp [hxl, hj]
      · rw [if_neg hj, List.getElem?_eq_none (by omega)]
    · exact ((Only.refl _ w).drew.trans (only_setCells g xs 0 _)).trans (only_setCells g _ n _)

end Go.Proofs.Qxb6613396a
