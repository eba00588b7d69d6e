/- FnWakeSplitQueueAgreesAndGrantsPrefix: its byte count, its early ends, the end of the second table -/
import Derived.Test.Qxb6613396aTwo
namespace Go.Proofs.Qxb6613396a
open Go.RowKit
open Go.ChangeMaps (setBlock)
set_option linter.unusedVariables false

set_option maxHeartbeats 1600000 in
theorem bytes5_calls (sp : Int) (id : ByteArray) (a b c : Option Addr) (n d m e r f : Nat) (w : World) (h0 : id.size ≤ maxLen) (h1 : n ≤ maxLen) (h2 : m ≤ maxLen) (h3 : r ≤ maxLen) :
    Calls Try.prog 5 #[.int .i64 sp, .string id, .slice a n d, .slice b m e, .slice c r f] w fun e w' => ABool e ∧ w' = w := by
  unfold maxLen at h0 h1 h2 h3
  obtain ⟨s, hs⟩ : ∃ s, s = id.size := ⟨_, rfl⟩
  rw [← hs] at h0
  have hc : 1048576 < s ∨ (s ≤ 1048576 ∧ 1048576 < n) ∨ (s ≤ 1048576 ∧ n ≤ 1048576 ∧ 1048576 < s + n) ∨ (s ≤ 1048576 ∧ n ≤ 1048576 ∧ s + n ≤ 1048576 ∧ 1048576 < m) ∨ (s ≤ 1048576 ∧ n ≤ 1048576 ∧ s + n ≤ 1048576 ∧ m ≤ 1048576 ∧ 1048576 < s + n + m) ∨
      (s ≤ 1048576 ∧ n ≤ 1048576 ∧ s + n ≤ 1048576 ∧ m ≤ 1048576 ∧ s + n + m ≤ 1048576 ∧ 1048576 < r) ∨ (s ≤ 1048576 ∧ n ≤ 1048576 ∧ s + n ≤ 1048576 ∧ m ≤ 1048576 ∧ s + n + m ≤ 1048576 ∧ r ≤ 1048576 ∧ 1048576 < s + n + m + r) ∨
      (s ≤ 1048576 ∧ n ≤ 1048576 ∧ s + n ≤ 1048576 ∧ m ≤ 1048576 ∧ s + n + m ≤ 1048576 ∧ r ≤ 1048576 ∧ s + n + m + r ≤ 1048576) := by omega
  rcases hc with c1 | ⟨c1, c2⟩ | ⟨c1, c2, c3⟩ | ⟨c1, c2, c3, c4⟩ | ⟨c1, c2, c3, c4, c5⟩ | ⟨c1, c2, c3, c4, c5, c6⟩ | ⟨c1, c2, c3, c4, c5, c6, c7⟩ | ⟨c1, c2, c3, c4, c5, c6, c7⟩
  all_goals
    go_enter Try.func5, Try.ntmps5
    go_wp2
    go_ret
    exact ⟨⟨_, rfl⟩, rfl⟩

set_option maxRecDepth 100000 in
set_option maxHeartbeats 1600000 in
theorem early3 (sp : Int) (id : ByteArray) (a2 a3 a4 : Option Addr) (n2 c2 n3 c3 n4 c4 : Nat) (w : World) (h0 : id.size ≤ maxLen) (h2 : n2 ≤ maxLen) (h3 : n3 ≤ maxLen) (h4 : n4 ≤ maxLen) (h : ¬ (id.size ≤ 4096 ∧ n2 ≤ 1024 ∧ n3 ≤ 1024 ∧ n4 ≤ 1024 ∧ 0 ≤ sp ∧ sp ≤ 1)) :
    Calls Try.prog 3 #[.int .i64 sp, .string id, .slice a2 n2 c2, .slice a3 n3 c3, .slice a4 n4 c4] w fun e w' => e = .returned (.bool true) ∧ w' = w := by
  have HB := bytes5_calls sp id a2 a3 a4 n2 c2 n3 c3 n4 c4 w h0 h2 h3 h4
  have H : Hid (Calls Try.prog 5 #[.int .i64 sp, .string id, .slice a2 n2 c2, .slice a3 n3 c3, .slice a4 n4 c4] w fun e w' => ABool e ∧ w' = w) := HB
  unfold maxLen at h0 h2 h3 h4
  clear HB
  have hc : 4096 < id.size ∨ (id.size ≤ 4096 ∧ 1024 < n2) ∨ (id.size ≤ 4096 ∧ n2 ≤ 1024 ∧ 1024 < n3) ∨ (id.size ≤ 4096 ∧ n2 ≤ 1024 ∧ n3 ≤ 1024 ∧ 1024 < n4) ∨ (id.size ≤ 4096 ∧ n2 ≤ 1024 ∧ n3 ≤ 1024 ∧ n4 ≤ 1024 ∧ sp < 0) ∨ (id.size ≤ 4096 ∧ n2 ≤ 1024 ∧ n3 ≤ 1024 ∧ n4 ≤ 1024 ∧ 0 ≤ sp ∧ 1 < sp) := by omega
  clear h
  rcases hc with d1 | ⟨d1, d2⟩ | ⟨d1, d2, d3⟩ | ⟨d1, d2, d3, d4⟩ | ⟨d1, d2, d3, d4, d5⟩ | ⟨d1, d2, d3, d4, d5, d6⟩
  all_goals
    go_enter Try.func3, Try.ntmps3
    go_wp2_with fail
    refine H.out.mono ?_
    rintro e w1 ⟨⟨b, rfl⟩, hw⟩
    rw [hw]
    clear hw w1
    cases b
    all_goals
      go_wp2
      go_ret
      exact ⟨rfl, rfl⟩

/-- rest is empty -/
theorem Half.fin0 {w W : World} {k : Bk} {sp : Int} {id : ByteArray} {ms2 ms3 : List Int} {J1 J2 N : Nat} {x : Option Nat} (h : Half w W k sp id ms2 ms3 J1 J2 N x) (hp : Value.pointer (x.map fun o => ⟨o, 0, none⟩) = pOf k (ms2.length + ms3.length)) :
    Fin2 w W k sp id ms2 ms3 J1 J2 (gN ms2 ms3) (ms3.length - gN ms2 ms3) (pOf k (ms2.length + ms3.length)) := by
  obtain ⟨hs, hs', ds, qs, v, t, h1, h2, h3, h4, h5⟩ := h
  refine ⟨hs, hs', ds, qs, v, x, N, t, h1, h3, h4, ?_, hp.symm⟩
  have := congrArg List.length h5
  rw [List.length_map, List.length_drop] at this
  exact this

/-- behind the second fill and its wake -/
theorem Tab.fin2 {w W W' : World} {k : Bk} {sp : Int} {id : ByteArray} {hs hs' : List Hd} {ds qs rs : List Rq} {v : Value} {J1 J2 N : Nat} {ms2 ms3 ms4 : List Int} (t : Tab w W k sp id hs hs' ds (qs ++ rs) v (some k.O) J1 J2 N) (hw : Woken W w.heap.size k sp id (hs ++ hs') ds (qs ++ rs) v (some k.O) W')
    (h1 : hs.map (·.m) = ms2) (h2 : hs'.map (·.m) = ms3.take (gN ms2 ms3)) (h3 : (ds ++ qs).map (·.m) = ms3) (h4 : ds.length = gN ms2 ms3) (h5 : qs.map (·.m) = ms3.drop (gN ms2 ms3)) (h6 : rs.map (·.m) = ms4) (h7 : 0 < ms4.length) :
    Fin2 w W' k sp id ms2 (ms3 ++ ms4) J1 J2 (gN ms2 (ms3 ++ ms4)) ((ms3 ++ ms4).length - gN ms2 (ms3 ++ ms4)) (pOf k (ms2.length + (ms3 ++ ms4).length)) := by
  obtain ⟨gr, rest, hs2, v', t', hsp, hgl, hg0, _⟩ := t.woken hw
  have hr : rs ≠ [] := by
    intro e
    rw [e] at h6
    rw [← h6] at h7
    simp at h7
  have e1 : (ds ++ gr ++ rest).map (·.m) = ms3 ++ ms4 := by
    rw [List.append_assoc, ← hsp, ← List.append_assoc, List.map_append, h3, h6]
  have e2 : (ds ++ gr).length = gN ms2 (ms3 ++ ms4) := by
    rw [List.length_append, h4, hgl, gN_split ms3 ms4 ms2, List.map_append, List.map_append, h1, h2, h5, h6]
  refine ⟨hs, hs' ++ hs2, ds ++ gr, rest, v', _, N, t', h1, e1, e2, ?_, ?_⟩
  · have := congrArg List.length e1
    rw [List.length_map, List.length_append] at this
    omega
  · rw [if_neg (fun he => hr (List.append_eq_nil_iff.1 he.2).2)]
    unfold pOf
    rw [if_pos (by rw [List.length_append]; omega)]
    rfl

theorem all_row {w : World} {A N : Nat} {l : List Int} (h : w.ownsRow 0 5 1 (.slice (some ⟨A, 0, none⟩) N N) N (l.map (Value.int .u8))) : MsB w w.heap.size (some ⟨A, 0, none⟩) N l := by
  have hl : l.length = N := by have := h.1; simp at this; exact this
  refine ⟨hl, fun hn => ⟨A, 0, rfl, ?_, fun i hi => ?_⟩⟩
  · rcases h.2 with ⟨h1, _⟩ | ⟨g', cap', cur, h1, h2, h3, _⟩
    · cases h1
    · simp only [Value.slice.injEq, Option.some.injEq, Addr.mk.injEq, and_true, true_and] at h1
      obtain ⟨rfl, rfl⟩ := h1
      exact lt_of_some h3
  · rw [Nat.zero_add, h.cellAt i (by omega), List.getElem?_map, List.getD_eq_getElem?_getD, List.getElem?_eq_getElem (by omega)]
    rfl

theorem msB_news {w : World} {B : Nat} {a : Option Addr} {n : Nat} {ms : List Int} (h : MsB w B a n ms) : ∀ ad, a = some ad → ∀ j u, (ms.map (Value.int .u8))[j]? = some u → w.cell? (ad.add j) = some u := by
  intro ad had j u hu
  have hj := (List.getElem?_eq_some_iff.1 hu).1
  rw [List.length_map, h.1] at hj
  obtain ⟨b, off, h1, h2, h3⟩ := h.2 (by omega)
  rw [h1] at had
  injection had with had
  subst had
  rw [Addr.add_lit, h3 j hj, ← hu, List.getElem?_map, List.getD_eq_getElem?_getD, List.getElem?_eq_getElem (by rw [h.1]; exact hj)]
  rfl

theorem Try.info5 : (Try.prog.info? 5).map (fun i => (i.zero, i.size, i.bytes)) = some (some (.int .u8 0), 1, 1) := by kernel_rfl

end Go.Proofs.Qxb6613396a
