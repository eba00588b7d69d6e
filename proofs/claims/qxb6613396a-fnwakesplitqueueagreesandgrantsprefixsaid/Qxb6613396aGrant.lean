/- putObject, grant -/
import Derived.Test.Qxb6613396aMake
import Derived.Deep.AppendLies
import Derived.Deep.DrawnRows
namespace Go.Proofs.Qxb6613396a
open Go.RowKit
open Go.ChangeMaps (setBlock)
set_option linter.unusedVariables false

theorem put_calls (L O MO MH MW : Nat) (sp : Int) (id : ByteArray) (x : Option Nat) (w : World) (hL : w.heap[L]? = some (.cells (ltCells MO MH MW) 59 (0, 0))) (hob : ObAt w MO sp id x) (hx : x = none ∨ x = some O) :
    Calls Try.prog 11 #[.pointer (some ⟨L, 0, none⟩), Ky sp id, .pointer (some ⟨O, 0, none⟩)] w fun e w' => e = .returned (.tuple #[]) ∧ ObAt w' MO sp id (some O) ∧ Only (fun k => k = MO) w w' := by
  have hLl : L < w.heap.size := (Array.getElem?_eq_some_iff.1 hL).1
  have hMl := hob.lt
  have c3 : w.cell? ⟨L, 3, none⟩ = some (.map (some MO)) := (cell_of hL 3).trans rfl
  obtain ⟨o, hrun, hob'⟩ := ob_upd (w := (w.alloc (.cells #[.int .i64 sp, .string id] 28)).drew) (O := O) (hob.heap_eq (Below.heap_alloc _ _ _ hMl)) hx
  have HO : Hid (ObAt (setBlock (w.alloc (.cells #[.int .i64 sp, .string id] 28)).drew MO o) MO sp id (some O)) := hob'
  unfold Ky at hrun ⊢
  clear hL hob hob' hx
  go_enter Try.func11, Try.ntmps11
  go_wp2
  go_region
  all_goals go_wp2
  all_goals go_end0
  all_goals exact ⟨rfl, HO.out, Only.setB (M := fun k => k = MO) (((Only.refl _ w).alloc _).drew) rfl _⟩

theorem Try.info28 : (Try.prog.info? 28).map (fun i => (i.zero, i.size, i.bytes)) = some (some (.agg #[.int .i64 0, .string ⟨#[]⟩]), 2, 24) := by kernel_rfl

/-- what the drawn statement of 'grant' reads -/
def GSee (L MH K T : Nat) (sp : Int) (id : ByteArray) (x : World) : Prop :=
  x.cell? ⟨L, 4, none⟩ = some (.map (some MH)) ∧ x.cell? ⟨K, 0, none⟩ = some (.int .i64 sp) ∧ x.cell? ⟨K, 1, none⟩ = some (.string id) ∧
    (Instr.lookup 45 (.map (some MH)) (.pointer (some ⟨T, 0, none⟩)) false).run Try.prog x = .ok (.slice none 0 0) x

set_option maxRecDepth 100000 in
set_option maxHeartbeats 3200000 in
theorem grant_calls (L O MO MH MW HM T : Nat) (sp : Int) (id : ByteArray) (m : Int) (v : Value) (l1 l2 : List (Nat × Value)) (b1 b2 : Nat) (w : World)
    (hL : w.heap[L]? = some (.cells (ltCells MO MH MW) 59 (0, 0))) (hO : w.heap[O]? = some (.cells #[.map (some HM), v] 62 (0, 0)))
    (h1 : MapAt w HM l1 b1) (h2 : MapAt w MH l2 b2) (k1 : ∀ x ∈ l1, Cl w x.1) (k2 : ∀ x ∈ l2, Cl w x.1) (hT : TxAt w T) (n1 : ∀ x ∈ l1, x.1 ≠ T) (n2 : ∀ x ∈ l2, x.1 ≠ T) (hne : HM ≠ MH) :
    Calls Try.prog 33 #[.pointer (some ⟨L, 0, none⟩), Ky sp id, .pointer (some ⟨O, 0, none⟩), .pointer (some ⟨T, 0, none⟩), .int .u8 m] w fun e w' => e = .returned (.tuple #[]) ∧
      ∃ g cap, MapAt w' HM (l1 ++ [(T, .int .u8 m)]) b1 ∧ MapAt w' MH (l2 ++ [(T, .slice (some ⟨g, 0, none⟩) 1 cap)]) b2 ∧ KeyRow w' g sp id ∧ w.heap.size ≤ g ∧ Only (fun k => k = HM ∨ k = MH) w w' := by
  obtain ⟨i0, hi0, hz0, hz1, hz2⟩ := info_parts Try.info28
  have hLl : L < w.heap.size := (Array.getElem?_eq_some_iff.1 hL).1
  have hOl : O < w.heap.size := (Array.getElem?_eq_some_iff.1 hO).1
  have f1 := lookI_none T l1 0 n1
  have f2 := lookI_none T l2 0 n2
  -- all that lay lies on, in whatever world has only grown
  have up : ∀ x, Only (fun _ => False) w x → MapAt x HM l1 b1 ∧ MapAt x MH l2 b2 ∧ (∀ y ∈ l1, Cl x y.1) ∧ (∀ y ∈ l2, Cl x y.1) ∧ Cl x T ∧ x.cell? ⟨L, 4, none⟩ = some (.map (some MH)) ∧ x.cell? ⟨O, 0, none⟩ = some (.map (some HM)) := by
    intro x hx
    have e : ∀ k, k < w.heap.size → x.heap[k]? = w.heap[k]? := fun k hk => hx.block k hk (fun h => h)
    exact ⟨h1.heap_eq (e _ h1.lt), h2.heap_eq (e _ h2.lt), fun y hy => (k1 y hy).heap_eq (e _ (k1 y hy).lt), fun y hy => (k2 y hy).heap_eq (e _ (k2 y hy).lt), hT.cl.heap_eq (e _ hT.cl.lt),
      (cell_of ((e L hLl).trans hL) 4).trans rfl, (cell_of ((e O hOl).trans hO) 0).trans rfl⟩
  obtain ⟨W0, hW0⟩ : ∃ W0, W0 = w.alloc (.cells #[.int .i64 sp, .string id] 28) := ⟨_, rfl⟩
  have o0 : Only (fun _ => False) w W0 := by rw [hW0]; exact (Only.refl _ w).alloc _
  have hsz : W0.heap.size = w.heap.size + 1 := by rw [hW0]; simp
  have hkb : W0.heap[w.heap.size]? = some (.cells #[.int .i64 sp, .string id] 28 (0, 0)) := by rw [hW0]; exact heap_alloc_new w _
  have see : ∀ x, Only (fun _ => False) W0 x → GSee L MH w.heap.size T sp id x := by
    intro x hx
    obtain ⟨_, a2, _, a4, a5, a6, _⟩ := up x (o0.trans hx)
    have ek := (hx.block w.heap.size (by omega) (fun h => h)).trans hkb
    exact ⟨a6, (cell_of ek 0).trans rfl, (cell_of ek 1).trans rfl, run_look_miss Try.underlying45 (Try.zeroValue96 x) a2 a4 a5 f2⟩
  have c0 : w.cell? ⟨O, 0, none⟩ = some (.map (some HM)) := (up w (Only.refl _ _)).2.2.2.2.2.2
  have r1 := run_look_miss (w := W0) Try.underlying60 (Try.zeroValue90 W0) (up W0 o0).1 (up W0 o0).2.2.1 (up W0 o0).2.2.2.2.1 f1
  have lk1 := (see W0.drew ((Only.refl _ _).drew)).2.2.2
  have lk2 := (see (W0.alloc (.cells #[.int .i64 sp, .string id] 28)).drew (((Only.refl _ _).alloc _).drew)).2.2.2
  have SEC : Hid (∀ x, Only (fun k => k = MH) W0 x → x.cell? ⟨L, 4, none⟩ = some (.map (some MH)) ∧ x.cell? ⟨w.heap.size, 0, none⟩ = some (.int .i64 sp) ∧ x.cell? ⟨w.heap.size, 1, none⟩ = some (.string id)) := by
    intro x hx
    have hLM : L ≠ MH := by intro e; rw [e, h2.raw] at hL; cases hL
    have hMl := h2.lt
    have eL := (hx.block L (by omega) hLM).trans ((o0.block L hLl (fun h => h)).trans hL)
    have ek := (hx.block w.heap.size (by omega) (by omega)).trans hkb
    exact ⟨(cell_of eL 4).trans rfl, (cell_of ek 0).trans rfl, (cell_of ek 1).trans rfl⟩
  have HU : Hid (∀ x, Only (fun _ => False) w x → MapAt x HM l1 b1 ∧ MapAt x MH l2 b2 ∧ (∀ y ∈ l1, Cl x y.1) ∧ (∀ y ∈ l2, Cl x y.1) ∧ Cl x T ∧ x.cell? ⟨L, 4, none⟩ = some (.map (some MH)) ∧ x.cell? ⟨O, 0, none⟩ = some (.map (some HM))) := up
  have FIN : Hid (∀ w1 o2, Only (fun _ => False) w w1 → MapAt (setBlock w1 MH o2) HM l1 b1 ∧ (∀ y ∈ l1, Cl (setBlock w1 MH o2) y.1) ∧ Cl (setBlock w1 MH o2) T ∧ (setBlock w1 MH o2).cell? ⟨O, 0, none⟩ = some (.map (some HM))) := by
    intro w1 o2 hx
    obtain ⟨a1, a2, a3, _, a5, _, a7⟩ := up w1 hx
    have hO1 := (hx.block O hOl (fun h => h)).trans hO
    have hOM : O ≠ MH := by intro e; rw [e, a2.raw] at hO1; cases hO1
    exact ⟨a1.heap_eq (heap_setBlock_ne hne), fun y hy => (a3 y hy).heap_eq (heap_setBlock_ne ((a3 y hy).notMap a2.raw)), a5.heap_eq (heap_setBlock_ne (a5.notMap a2.raw)), (cell_of ((heap_setBlock_ne hOM).trans hO1) 0).trans rfl⟩
  have F1 : Hid (lookI T l1 0 = none) := f1
  have F2 : Hid (lookI T l2 0 = none) := f2
  have O0 : Hid (Only (fun _ => False) w W0) := o0
  have HKB : Hid (W0.heap[w.heap.size]? = some (.cells #[.int .i64 sp, .string id] 28 (0, 0))) := hkb
  subst hW0
  clear see up f1 f2 h1 h2 k1 k2 n1 n2 hL hO o0 hkb hsz
  unfold Ky
  have HNB : Hid (((w.alloc (.cells #[.int .i64 sp, .string id] 28)).alloc (.cells #[.int .i64 sp, .string id] 28)).heap[w.heap.size + 1]? = some (.cells #[.int .i64 sp, .string id] 28 (0, 0))) := by
    have := heap_alloc_new (w.alloc (.cells #[.int .i64 sp, .string id] 28)) (.cells #[.int .i64 sp, .string id] 28)
    rw [World.size_alloc] at this
    exact this
  have HG : Hid (∀ w1 : World, ((w.alloc (.cells #[.int .i64 sp, .string id] 28)).alloc (.cells #[.int .i64 sp, .string id] 28)).drew.grownBy w1 (Value.slice none 0 0).ownBlock → Only (fun _ => False) w w1) := by
    intro w1 hg
    exact ((((Only.refl _ w).alloc _).alloc _).drew).grown hg (fun _ h => by cases h)
  go_enter Try.func33, Try.ntmps33
  go_wp2
  go_region_held3 (fun x => x.cell? ⟨L, 4, none⟩ = some (.map (some MH)) ∧ x.cell? ⟨w.heap.size, 0, none⟩ = some (.int .i64 sp) ∧ x.cell? ⟨w.heap.size, 1, none⟩ = some (.string id))
    (first
      | exact SEC.out _ ((Only.refl _ _).drew)
      | exact SEC.out _ (((Only.refl _ _).alloc _).drew)
      | exact SEC.out _ ((((Only.refl _ _).alloc _).drew).grown hgrow (fun _ h => by cases h))
      | exact SEC.out _ (Only.setB (M := fun k => k = MH) ((((Only.refl _ _).alloc _).drew).grown hgrow (fun _ h => by cases h)) rfl _))
    ((refine step_append_lies _ (by rfl) _ _ _ (by rfl) 0 28 i0 _ 2 24 Try.underlying96 hi0 hz0 hz1 hz2 rfl (by omega) (.slice none 0 0) 0 [] (by rfl) (World.ownsRow_nil _ _ _ _)
        ⟨w.heap.size + 1, 0, none⟩ 1 1 [.int .i64 sp, .string id] (by rfl) (by rfl) (World.news_of_block (cs := #[.int .i64 sp, .string id]) (t := 28) (fr := (0, 0)) HNB.out) (by simp [Value.oneCell'])
        (by omega) (by unfold maxLen; omega) (by omega) (Nat.zero_le _) (w.heap.size + 1 + 1) (by simp) ?_; intro gg cap w1 hown1 hgrow hat hlt; have hupd := run_upd_new (w := w1) Try.underlying45 (HU.out w1 (HG.out w1 hgrow)).2.1 (HU.out w1 (HG.out w1 hgrow)).2.2.2.1 (HU.out w1 (HG.out w1 hgrow)).2.2.2.2.1 F2.out (.slice (some ⟨gg, 0, none⟩) 1 cap)))
  all_goals
    obtain ⟨W2, hW2⟩ : ∃ W2, W2 = setBlock w1 MH (mapObj (l2 ++ [(T, Value.slice (some ⟨gg, 0, none⟩) 1 cap)]) b2) := ⟨_, rfl⟩
    have hx := HG.out w1 hgrow
    obtain ⟨p1, p2, p3, p4⟩ := FIN.out w1 (mapObj (l2 ++ [(T, Value.slice (some ⟨gg, 0, none⟩) 1 cap)]) b2) hx
    rw [← hW2] at p1 p2 p3 p4
    rw [← hW2]
    have hu := run_upd_new (w := W2) Try.underlying60 p1 p2 p3 F1.out (.int .u8 m)
    have hmh : W2.heap[MH]? = some (mapObj (l2 ++ [(T, Value.slice (some ⟨gg, 0, none⟩) 1 cap)]) b2) := by
      rw [hW2]; exact heap_setBlock_at (HU.out w1 hx).2.1.raw
    have hgm : gg = w.heap.size + 1 + 1 := by rcases hat with h | h; cases h; exact h
    have hml := ((HU.out w (Only.refl _ _)).2.1).lt
    have hhl := ((HU.out w (Only.refl _ _)).1).lt
    have hrow : KeyRow W2 gg sp id := by
      rcases hown1.2 with ⟨h, _⟩ | ⟨g', cap', cur, h1, _, h2, _, _, h3, h4⟩
      · cases h
      · simp only [Value.slice.injEq, Option.some.injEq, Addr.mk.injEq, and_true, true_and] at h1
        obtain ⟨rfl, rfl⟩ := h1
        refine ⟨cur, ?_, ?_, ?_⟩
        · rw [hW2, heap_setBlock_ne (by omega)]; exact h2
        · have := congrArg (fun l => l[0]?) h4
          simpa using this
        · have := congrArg (fun l => l[1]?) h4
          simpa using this
    have OW : Hid (Only (fun k => k = HM ∨ k = MH) w W2) := by
      rw [hW2]
      exact Only.setB (M := fun k => k = HM ∨ k = MH) (hx.mono (fun _ _ h => h.elim)) (.inr rfl) _
    have HROW : Hid (KeyRow W2 gg sp id) := hrow
    have HMH : Hid (W2.heap[MH]? = some (mapObj (l2 ++ [(T, Value.slice (some ⟨gg, 0, none⟩) 1 cap)]) b2)) := hmh
    have HP1 : Hid (MapAt W2 HM l1 b1) := p1
    have HGM : Hid (gg = w.heap.size + 1 + 1) := hgm
    clear hrow hmh p1 p2 p3 hW2 hupd hown1 hgrow hat hlt hx lk1 lk2 r1 hgm
    go_wp2
    go_end0
    refine ⟨rfl, gg, cap, heap_setBlock_at HP1.out.raw, (show MapAt W2 MH _ _ from HMH.out).heap_eq (heap_setBlock_ne (fun e => hne e.symm)), HROW.out.heap_eq (heap_setBlock_ne (by have := HGM.out; omega)), by have := HGM.out; omega, Only.setB (M := fun k => k = HM ∨ k = MH) OW.out (.inl rfl) _⟩

end Go.Proofs.Qxb6613396a
