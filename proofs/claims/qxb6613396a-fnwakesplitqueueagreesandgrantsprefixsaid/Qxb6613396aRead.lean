/- the readers -/
import Derived.Test.Qxb6613396aWake
import Derived.Test.Qxb6613396aDone
namespace Go.Proofs.Qxb6613396a
open Go.RowKit
open Go.ChangeMaps (setBlock)
set_option linter.unusedVariables false

theorem lookI_mem {T : Nat} {v : Value} {l : List (Nat × Value)} (hn : (l.map (·.1)).Nodup) (hm : (T, v) ∈ l) : ∃ i, lookI T l 0 = some (i, v) := by
  obtain ⟨j, hj, e⟩ := List.mem_iff_getElem.1 hm
  exact ⟨0 + j, lookI_at T v l 0 j hn (by rw [List.getElem?_eq_getElem hj, e])⟩

section
variable {w : World} {B : Nat} {k : Bk} {sp : Int} {id : ByteArray} {hs : List Hd} {ds qs : List Rq} {v : Value} {x : Option Nat}

theorem Sys.wakes (h : Sys w B k sp id hs ds qs v x) (hn : qs.length ≤ 4096) :
    Calls Try.prog 14 #[.pointer (some ⟨k.L, 0, none⟩), Ky sp id, .pointer (some ⟨k.O, 0, none⟩)] w fun e w' => e = .returned (.tuple #[]) ∧ Woken w B k sp id hs ds qs v x w' := by
  have G := wake_calls B k sp id hs ds qs v x (w.alloc (.cells #[.int .i64 sp, .string id] 28)) (h.ext ((Below.refl _ w).alloc (Nat.le_refl _) _)) hn
  have HG : Hid (Calls Try.prog 24 #[.pointer (some ⟨k.L, 0, none⟩), .agg #[.int .i64 sp, .string id], .pointer (some ⟨k.O, 0, none⟩)] (w.alloc (.cells #[.int .i64 sp, .string id] 28)) fun e w' => e = .returned (.tuple #[]) ∧ Woken w B k sp id hs ds qs v x w') :=
    G.mono fun e w' ⟨h, gr, rest, hs', v', a1, a2, a3, a4, a5, a6, a7⟩ => ⟨h, gr, rest, hs', v', a1, a2, a3, a4, a5, ((Only.refl _ w).alloc _).trans a6, a7⟩
  clear G h
  unfold Ky
  go_enter Try.func14, Try.ntmps14
  go_wp2_with fail
  refine HG.out.mono ?_
  rintro e w1 ⟨rfl, hg⟩
  go_wp2
  go_end0
  exact ⟨rfl, hg⟩

theorem Sys.lenQ (h : Sys w B k sp id hs ds qs v x) : Calls Try.prog 15 #[.pointer (some ⟨k.O, 0, none⟩)] w fun e w' => e = .returned (.int .i64 qs.length) ∧ w' = w := by
  obtain ⟨a, cap, rfl⟩ := h.qlen
  have c1 := (cell_of h.ol 1).trans rfl
  obtain ⟨n, hn⟩ : ∃ n, n = qs.length := ⟨_, rfl⟩
  rw [← hn] at c1 ⊢
  clear h hn
  go_enter Try.func15, Try.ntmps15
  go_wp2
  go_ret
  exact ⟨rfl, rfl⟩

theorem Sys.lenH (h : Sys w B k sp id hs ds qs v x) : Calls Try.prog 25 #[.pointer (some ⟨k.O, 0, none⟩)] w fun e w' => e = .returned (.int .i64 hs.length) ∧ w' = w := by
  have c0 := (cell_of h.ol 0).trans rfl
  obtain ⟨n, hn⟩ : ∃ n, n = hs.length := ⟨_, rfl⟩
  have hl : ∀ ty, (Builtin.len_ #[60] ty #[.map (some k.HM)]).run Try.prog w = .ok (.int .i64 n) w := fun ty => by
    have := run_len Try.underlying60 h.hm ty
    rw [List.length_map, ← hn] at this
    exact this
  rw [← hn]
  clear h hn
  go_enter Try.func25, Try.ntmps25
  go_wp2
  go_ret
  exact ⟨rfl, rfl⟩

theorem mode_calls {O HM T : Nat} {m : Int} (c0 : w.cell? ⟨O, 0, none⟩ = some (.map (some HM))) (hr : (Instr.lookup 60 (.map (some HM)) (.pointer (some ⟨T, 0, none⟩)) false).run Try.prog w = .ok (.int .u8 m) w) :
    Calls Try.prog 26 #[.pointer (some ⟨O, 0, none⟩), .pointer (some ⟨T, 0, none⟩)] w fun e w' => e = .returned (.int .u8 m) ∧ w' = w := by
  go_enter Try.func26, Try.ntmps26
  go_wp2
  go_ret
  exact ⟨rfl, rfl⟩

theorem wait_calls {L MW T : Nat} {p : Value} (c0 : w.cell? ⟨L, 5, none⟩ = some (.map (some MW))) (hr : (Instr.lookup 46 (.map (some MW)) (.pointer (some ⟨T, 0, none⟩)) false).run Try.prog w = .ok p w) :
    Calls Try.prog 27 #[.pointer (some ⟨L, 0, none⟩), .pointer (some ⟨T, 0, none⟩)] w fun e w' => e = .returned p ∧ w' = w := by
  go_enter Try.func27, Try.ntmps27
  go_wp2
  go_ret
  exact ⟨rfl, rfl⟩

theorem heldLen_calls {L MH T n cap : Nat} {a : Option Addr} (c0 : w.cell? ⟨L, 4, none⟩ = some (.map (some MH))) (hr : (Instr.lookup 45 (.map (some MH)) (.pointer (some ⟨T, 0, none⟩)) false).run Try.prog w = .ok (.slice a n cap) w) :
    Calls Try.prog 28 #[.pointer (some ⟨L, 0, none⟩), .pointer (some ⟨T, 0, none⟩)] w fun e w' => e = .returned (.int .i64 n) ∧ w' = w := by
  go_enter Try.func28, Try.ntmps28
  go_wp2
  go_ret
  exact ⟨rfl, rfl⟩

theorem reqTx_calls {R T : Nat} (c0 : w.cell? ⟨R, 0, none⟩ = some (.pointer (some ⟨T, 0, none⟩))) :
    Calls Try.prog 30 #[.pointer (some ⟨R, 0, none⟩)] w fun e w' => e = .returned (.pointer (some ⟨T, 0, none⟩)) ∧ w' = w := by
  go_enter Try.func30, Try.ntmps30
  go_wp2
  go_ret
  exact ⟨rfl, rfl⟩

theorem queueAt_calls {O g n cap i : Nat} {p : Value} (c0 : w.cell? ⟨O, 1, none⟩ = some (.slice (some ⟨g, 0, none⟩) n cap)) (hi : i < n) (c1 : w.cell? ⟨g, i, none⟩ = some p) :
    Calls Try.prog 32 #[.pointer (some ⟨O, 0, none⟩), .int .i64 i] w fun e w' => e = .returned p ∧ w' = w := by
  go_enter Try.func32, Try.ntmps32
  go_wp2
  go_ret
  exact ⟨rfl, rfl⟩

theorem heldAt_calls {L MH T g cap : Nat} {sp : Int} {id : ByteArray} (c0 : w.cell? ⟨L, 4, none⟩ = some (.map (some MH))) (hg : KeyRow w g sp id)
    (hr : (Instr.lookup 45 (.map (some MH)) (.pointer (some ⟨T, 0, none⟩)) false).run Try.prog (w.alloc (.cells #[.int .i64 0, .string ⟨#[]⟩] 28)) = .ok (.slice (some ⟨g, 0, none⟩) 1 cap) (w.alloc (.cells #[.int .i64 0, .string ⟨#[]⟩] 28))) :
    Calls Try.prog 29 #[.pointer (some ⟨L, 0, none⟩), .pointer (some ⟨T, 0, none⟩), .int .i64 0] w fun e w' => e = .returned (Ky sp id) ∧ Below w.heap.size w w' := by
  obtain ⟨c, h1, h2, h3⟩ := hg
  have e0 := (cell_of h1 0).trans h2
  have e1 := (cell_of h1 1).trans h3
  have hL := lt_of_cell c0
  have hG := lt_of_some h1
  clear h1 h2 h3
  go_enter Try.func29, Try.ntmps29
  go_wp2
  exact bodyPost_ret (v := Ky sp id) (by simp [results, Try.results29, go_sem, Ky]) rfl ⟨rfl, (Below.refl _ _).alloc (Nat.le_refl _) _⟩

theorem objIn_calls {L MO : Nat} {sp : Int} {id : ByteArray} {p : Value} (c0 : w.cell? ⟨L, 3, none⟩ = some (.map (some MO)))
    (hr : (Instr.lookup 44 (.map (some MO)) (Ky sp id) false).run Try.prog (w.alloc (.cells #[.int .i64 sp, .string id] 28)).drew = .ok p (w.alloc (.cells #[.int .i64 sp, .string id] 28)).drew) :
    Calls Try.prog 18 #[.pointer (some ⟨L, 0, none⟩), Ky sp id] w fun e w' => e = .returned p ∧ Below w.heap.size w w' := by
  have hL := lt_of_cell c0
  unfold Ky at hr ⊢
  go_enter Try.func18, Try.ntmps18
  go_wp2
  go_region
  all_goals go_wp2
  all_goals go_ret
  all_goals exact ⟨rfl, ((Below.refl _ w).alloc (Nat.le_refl _) _).drew⟩

theorem Sys.hmKeys (h : Sys w B k sp id hs ds qs v x) : ∀ y ∈ hs.map hmOf, Cl w y.1 := by
  intro y hy; obtain ⟨a, ha, rfl⟩ := List.mem_map.1 hy; exact (h.htx a ha).cl
theorem Sys.mhKeys (h : Sys w B k sp id hs ds qs v x) : ∀ y ∈ hs.map mhOf, Cl w y.1 := by
  intro y hy; obtain ⟨a, ha, rfl⟩ := List.mem_map.1 hy; exact (h.htx a ha).cl
theorem Sys.mwKeys (h : Sys w B k sp id hs ds qs v x) : ∀ y ∈ qs.map mwOf, Cl w y.1 := by
  intro y hy; obtain ⟨a, ha, rfl⟩ := List.mem_map.1 hy; exact (h.req a (List.mem_append_right _ ha)).tx.cl
theorem Sys.apart (h : Sys w B k sp id hs ds qs v x) {y : Hd} {q : Rq} (hy : y ∈ hs) (hq : q ∈ qs) : y.T ≠ q.T :=
  (List.nodup_append.1 h.nod).2.2 y.T (List.mem_map.2 ⟨y, hy, rfl⟩) q.T (List.mem_map.2 ⟨q, hq, rfl⟩)

theorem Sys.mode (h : Sys w B k sp id hs ds qs v x) {y : Hd} (hy : y ∈ hs) : Calls Try.prog 26 #[.pointer (some ⟨k.O, 0, none⟩), .pointer (some ⟨y.T, 0, none⟩)] w fun e w' => e = .returned (.int .u8 y.m) ∧ w' = w := by
  obtain ⟨i, hi⟩ := lookI_mem (T := y.T) (v := .int .u8 y.m) (l := hs.map hmOf) (by simpa [hmOf, Function.comp_def] using (List.nodup_append.1 h.nod).1) (List.mem_map.2 ⟨y, hy, rfl⟩)
  exact mode_calls ((cell_of h.ol 0).trans rfl) (run_look_hit Try.underlying60 h.hm h.hmKeys (h.htx y hy).cl hi)
theorem Sys.mode0 (h : Sys w B k sp id hs ds qs v x) {q : Rq} (hq : q ∈ qs) : Calls Try.prog 26 #[.pointer (some ⟨k.O, 0, none⟩), .pointer (some ⟨q.T, 0, none⟩)] w fun e w' => e = .returned (.int .u8 0) ∧ w' = w :=
  mode_calls ((cell_of h.ol 0).trans rfl) (run_look_miss Try.underlying60 (Try.zeroValue90 w) h.hm h.hmKeys (h.req q (List.mem_append_right _ hq)).tx.cl (lookI_none _ _ _ (by
    intro y hy; obtain ⟨a, ha, rfl⟩ := List.mem_map.1 hy; exact h.apart ha hq)))
theorem Sys.wait0 (h : Sys w B k sp id hs ds qs v x) {y : Hd} (hy : y ∈ hs) : Calls Try.prog 27 #[.pointer (some ⟨k.L, 0, none⟩), .pointer (some ⟨y.T, 0, none⟩)] w fun e w' => e = .returned (.pointer none) ∧ w' = w :=
  wait_calls ((cell_of h.lt 5).trans rfl) (run_look_miss Try.underlying46 (Try.zeroValue66 w) h.mw h.mwKeys (h.htx y hy).cl (lookI_none _ _ _ (by
    intro z hz; obtain ⟨a, ha, rfl⟩ := List.mem_map.1 hz; exact fun e => h.apart hy ha e.symm)))
theorem Sys.wait (h : Sys w B k sp id hs ds qs v x) {q : Rq} (hq : q ∈ qs) : Calls Try.prog 27 #[.pointer (some ⟨k.L, 0, none⟩), .pointer (some ⟨q.T, 0, none⟩)] w fun e w' => e = .returned (.pointer (some ⟨q.R, 0, none⟩)) ∧ w' = w := by
  obtain ⟨i, hi⟩ := lookI_mem (T := q.T) (v := .pointer (some ⟨q.R, 0, none⟩)) (l := qs.map mwOf) (by simpa [mwOf, Function.comp_def] using (List.nodup_append.1 h.nod).2.1) (List.mem_map.2 ⟨q, hq, rfl⟩)
  exact wait_calls ((cell_of h.lt 5).trans rfl) (run_look_hit Try.underlying46 h.mw h.mwKeys (h.req q (List.mem_append_right _ hq)).tx.cl hi)
theorem Sys.held1 (h : Sys w B k sp id hs ds qs v x) {y : Hd} (hy : y ∈ hs) : Calls Try.prog 28 #[.pointer (some ⟨k.L, 0, none⟩), .pointer (some ⟨y.T, 0, none⟩)] w fun e w' => e = .returned (.int .i64 1) ∧ w' = w := by
  obtain ⟨i, hi⟩ := lookI_mem (T := y.T) (v := .slice (some ⟨y.g, 0, none⟩) 1 y.cap) (l := hs.map mhOf) (by simpa [mhOf, Function.comp_def] using (List.nodup_append.1 h.nod).1) (List.mem_map.2 ⟨y, hy, rfl⟩)
  exact heldLen_calls ((cell_of h.lt 4).trans rfl) (run_look_hit Try.underlying45 h.mh h.mhKeys (h.htx y hy).cl hi)
theorem Sys.held0 (h : Sys w B k sp id hs ds qs v x) {q : Rq} (hq : q ∈ qs) : Calls Try.prog 28 #[.pointer (some ⟨k.L, 0, none⟩), .pointer (some ⟨q.T, 0, none⟩)] w fun e w' => e = .returned (.int .i64 0) ∧ w' = w :=
  heldLen_calls ((cell_of h.lt 4).trans rfl) (run_look_miss Try.underlying45 (Try.zeroValue96 w) h.mh h.mhKeys (h.req q (List.mem_append_right _ hq)).tx.cl (lookI_none _ _ _ (by
    intro y hy; obtain ⟨a, ha, rfl⟩ := List.mem_map.1 hy; exact h.apart ha hq)))
theorem Sys.heldKey (h : Sys w B k sp id hs ds qs v x) {y : Hd} (hy : y ∈ hs) : Calls Try.prog 29 #[.pointer (some ⟨k.L, 0, none⟩), .pointer (some ⟨y.T, 0, none⟩), .int .i64 0] w fun e w' => e = .returned (Ky sp id) ∧ Below w.heap.size w w' := by
  have h' := h.ext ((Below.refl _ w).alloc (Nat.le_refl _) (.cells #[.int .i64 0, .string ⟨#[]⟩] 28))
  obtain ⟨i, hi⟩ := lookI_mem (T := y.T) (v := .slice (some ⟨y.g, 0, none⟩) 1 y.cap) (l := hs.map mhOf) (by simpa [mhOf, Function.comp_def] using (List.nodup_append.1 h.nod).1) (List.mem_map.2 ⟨y, hy, rfl⟩)
  exact heldAt_calls ((cell_of h.lt 4).trans rfl) (h.hrow y hy) (run_look_hit Try.underlying45 h'.mh h'.mhKeys (h'.htx y hy).cl hi)
theorem Sys.reqTx (h : Sys w B k sp id hs ds qs v x) {q : Rq} (hq : q ∈ ds ++ qs) : Calls Try.prog 30 #[.pointer (some ⟨q.R, 0, none⟩)] w fun e w' => e = .returned (.pointer (some ⟨q.T, 0, none⟩)) ∧ w' = w :=
  reqTx_calls ((cell_of (h.req q hq).blk 0).trans rfl)
theorem Sys.doneY (h : Sys w B k sp id hs ds qs v x) {q : Rq} (hq : q ∈ ds) : Calls Try.prog 31 #[.pointer (some ⟨q.R, 0, none⟩)] w fun e w' => e = .returned (.bool true) ∧ w' = w :=
  done_yes q.R q.c w ((cell_of (h.req q (List.mem_append_left _ hq)).blk 4).trans rfl) (h.dch q hq)
theorem Sys.doneN (h : Sys w B k sp id hs ds qs v x) {q : Rq} (hq : q ∈ qs) : Calls Try.prog 31 #[.pointer (some ⟨q.R, 0, none⟩)] w fun e w' => e = .returned (.bool false) ∧ w' = w :=
  done_no q.R q.c w ((cell_of (h.req q (List.mem_append_right _ hq)).blk 4).trans rfl) (h.qch q hq)
theorem Sys.queueAt (h : Sys w B k sp id hs ds qs v x) {i : Nat} {q : Rq} (hi : qs[i]? = some q) : Calls Try.prog 32 #[.pointer (some ⟨k.O, 0, none⟩), .int .i64 i] w fun e w' => e = .returned (.pointer (some ⟨q.R, 0, none⟩)) ∧ w' = w := by
  have hl := (List.getElem?_eq_some_iff.1 hi).1
  have ho := h.own
  obtain ⟨g, cap, hv, _, hlt⟩ := ho.form (by omega)
  subst hv
  exact queueAt_calls ((cell_of h.ol 1).trans rfl) hl (by rw [ho.cellAt i (by omega)]; simp [hi, rqOf])
theorem Sys.objIn (h : Sys w B k sp id hs ds qs v x) : Calls Try.prog 18 #[.pointer (some ⟨k.L, 0, none⟩), Ky sp id] w fun e w' => e = .returned (.pointer (x.map fun o => ⟨o, 0, none⟩)) ∧ Below w.heap.size w w' := by
  have h' := h.ext ((Below.refl _ w).alloc (Nat.le_refl _) (.cells #[.int .i64 sp, .string id] 28)).drew
  refine objIn_calls ((cell_of h.lt 3).trans rfl) ?_
  cases x with
  | none => exact ob_look_none (Try.zeroValue32 _) h'.ob
  | some O => exact ob_look_some h'.ob
end

end Go.Proofs.Qxb6613396a
