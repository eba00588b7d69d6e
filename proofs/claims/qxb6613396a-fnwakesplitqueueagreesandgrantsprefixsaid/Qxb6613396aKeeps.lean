/- FnWakeKeepsBooksAndIsIdempotent -/
import Derived.Test.Qxb6613396aTab
namespace Go.Proofs.Qxb6613396a
open Go.RowKit
open Go.ChangeMaps (setBlock)
set_option linter.unusedVariables false

/-- behind the first wake -/
theorem Tab.first {w W W' : World} {k : Bk} {sp : Int} {id : ByteArray} {hs : List Hd} {rs : List Rq} {v : Value} {J1 J2 n2 : Nat} (h : Tab w W k sp id hs [] [] rs v (some k.O) J1 J2 n2) (hw : Woken W w.heap.size k sp id (hs ++ []) [] rs v (some k.O) W') :
    ∃ gr rest hs2 v' x', Tab w W' k sp id hs hs2 gr rest v' x' J1 J2 n2 ∧ rs = gr ++ rest ∧ gr.length = gN (hs.map (·.m)) (rs.map (·.m)) ∧ gN ((hs ++ hs2).map (·.m)) (rest.map (·.m)) = 0 ∧ (hs = [] ∧ rs = [] → x' = none) ∧ (¬ (hs = [] ∧ rs = []) → x' = some k.O) := by
  obtain ⟨gr, rest, hs2, v', h1, h2, h3, h4, h5⟩ := h.woken hw
  rw [List.append_nil] at h1 h3
  exact ⟨gr, rest, hs2, v', _, h1, h2, h3, h4, fun e => if_pos e, fun e => if_neg e⟩

/-- behind a wake that grants nothing -/
theorem Tab.second {w W W' : World} {k : Bk} {sp : Int} {id : ByteArray} {hs hs' : List Hd} {ds qs : List Rq} {v : Value} {x : Option Nat} {J1 J2 n2 : Nat} (h : Tab w W k sp id hs hs' ds qs v x J1 J2 n2) (hw : Woken W w.heap.size k sp id (hs ++ hs') ds qs v x W')
    (h0 : gN ((hs ++ hs').map (·.m)) (qs.map (·.m)) = 0) (hx : hs ++ hs' = [] ∧ qs = [] → x = none) : ∃ v', Tab w W' k sp id hs hs' ds qs v' x J1 J2 n2 := by
  obtain ⟨gr, rest, hs2, v', h1, h2, h3, h4, h5⟩ := h.woken hw
  have hg : gr = [] := List.length_eq_zero_iff.1 (h3.trans h0)
  subst hg
  have hh : hs2 = [] := by simpa using h5
  subst hh
  rw [List.nil_append] at h2
  subst h2
  rw [List.append_nil, List.append_nil] at h1
  by_cases he : hs ++ hs' = [] ∧ qs = []
  · rw [if_pos he, ← hx he] at h1
    exact ⟨v', h1⟩
  · rw [if_neg he] at h1
    exact ⟨v', h1⟩

theorem Try.run_eql32_nil (w : World) (a : Addr) : (binOp .eql 32 (.pointer none) (.pointer (some a))).run Try.prog w = .ok (.bool false) w := by
  have h : ∀ d : Nat, (Op.equalIn (d + 1) 32 (.pointer none) (.pointer (some a))).run Try.prog w = .ok false w := fun d => by
    simp [Op.equalIn, run_underlying Try.underlying32, sizeOf, typeInfo]
  simp only [binOp]
  simp [Op.equal, Op.maxDepth, h 9999]

set_option maxRecDepth 100000 in
theorem early4 (sp : Int) (id : ByteArray) (a2 a3 : Option Addr) (n2 c2 n3 c3 : Nat) (w : World) (h0 : id.size ≤ maxLen) (h2 : n2 ≤ maxLen) (h3 : n3 ≤ maxLen) (h : ¬ (id.size ≤ 4096 ∧ n2 ≤ 1024 ∧ n3 ≤ 1024 ∧ 0 ≤ sp ∧ sp ≤ 1)) :
    Calls Try.prog 4 #[.int .i64 sp, .string id, .slice a2 n2 c2, .slice a3 n3 c3] w fun e w' => e = .returned (.bool true) ∧ w' = w := by
  have HB := bytes19_calls sp id a2 a3 n2 c2 n3 c3 w h0 h2 h3
  have H : Hid (Calls Try.prog 19 #[.int .i64 sp, .string id, .slice a2 n2 c2, .slice a3 n3 c3] w fun e w' => ABool e ∧ w' = w) := HB
  unfold maxLen at h0 h2 h3
  clear HB
  by_cases d1 : id.size ≤ 4096
  · by_cases d2 : n2 ≤ 1024
    · by_cases d3 : n3 ≤ 1024
      · by_cases d4 : 0 ≤ sp
        · have d5 : ¬ sp ≤ 1 := fun d5 => h ⟨d1, d2, d3, d4, d5⟩
          clear h
          go_enter Try.func4, Try.ntmps4
          go_wp2_with fail
          refine H.out.mono ?_
          rintro e w1 ⟨⟨b, rfl⟩, hw⟩
          subst hw
          cases b
          all_goals
            go_wp2
            go_ret
            exact ⟨rfl, rfl⟩
        · clear h
          go_enter Try.func4, Try.ntmps4
          go_wp2_with fail
          refine H.out.mono ?_
          rintro e w1 ⟨⟨b, rfl⟩, hw⟩
          subst hw
          cases b
          all_goals
            go_wp2
            go_ret
            exact ⟨rfl, rfl⟩
      · clear h
        go_enter Try.func4, Try.ntmps4
        go_wp2_with fail
        refine H.out.mono ?_
        rintro e w1 ⟨⟨b, rfl⟩, hw⟩
        subst hw
        cases b
        all_goals
          go_wp2
          go_ret
          exact ⟨rfl, rfl⟩
    · clear h
      go_enter Try.func4, Try.ntmps4
      go_wp2_with fail
      refine H.out.mono ?_
      rintro e w1 ⟨⟨b, rfl⟩, hw⟩
      subst hw
      cases b
      all_goals
        go_wp2
        go_ret
        exact ⟨rfl, rfl⟩
  · clear h
    go_enter Try.func4, Try.ntmps4
    go_wp2_with fail
    refine H.out.mono ?_
    rintro e w1 ⟨⟨b, rfl⟩, hw⟩
    subst hw
    cases b
    all_goals
      go_wp2
      go_ret
      exact ⟨rfl, rfl⟩

set_option maxRecDepth 100000 in
set_option maxHeartbeats 6400000 in
theorem main4 (sp : Int) (id : ByteArray) (a2 a3 : Option Addr) (n2 c2 n3 c3 : Nat) (ms2 ms3 : List Int) (w : World) (d1 : id.size ≤ 4096) (d2 : n2 ≤ 1024) (d3 : n3 ≤ 1024) (d4 : 0 ≤ sp) (d5 : sp ≤ 1) (r2 : MsB w w.heap.size a2 n2 ms2) (r3 : MsB w w.heap.size a3 n3 ms3) :
    Calls Try.prog 4 #[.int .i64 sp, .string id, .slice a2 n2 c2, .slice a3 n3 c3] w fun e w' => e = .returned (.bool true) ∧ Below w.heap.size w w' := by
  have H19 : Hid (Calls Try.prog 19 #[.int .i64 sp, .string id, .slice a2 n2 c2, .slice a3 n3 c3] w fun e w' => ABool e ∧ w' = w) := bytes19_calls sp id a2 a3 n2 c2 n3 c3 w (by unfold maxLen; omega) (by unfold maxLen; omega) (by unfold maxLen; omega)
  have H6 : Hid (Calls Try.prog 6 #[.slice a2 n2 c2] w fun e w' => ABool e ∧ w' = w) := modesOK_calls a2 n2 c2 ms2 w (by omega) (r2.ms (Nat.le_refl _))
  have H6' : Hid (Calls Try.prog 6 #[.slice a3 n3 c3] w fun e w' => ABool e ∧ w' = w) := modesOK_calls a3 n3 c3 ms3 w (by omega) (r3.ms (Nat.le_refl _))
  have H7 : Hid (Calls Try.prog 7 #[.slice a2 n2 c2, .slice none 0 0, .int .i64 0] w fun e w' => e = .returned (.bool (scB ms2)) ∧ w' = w) := by
    have := setC_calls a2 none n2 c2 0 0 0 ms2 [] w (by omega) (by omega) (by omega) (r2.ms (Nat.le_refl _)) ⟨rfl, fun h => by omega⟩
    simp only [List.take_nil, List.append_nil] at this
    exact this
  have R2 : Hid (MsB w w.heap.size a2 n2 ms2) := r2
  have R3 : Hid (MsB w w.heap.size a3 n3 ms3) := r3
  clear r2 r3
  go_enter Try.func4, Try.ntmps4
  go_wp2_with fail
  refine H19.out.mono ?_
  rintro e w1 ⟨⟨b, rfl⟩, hw⟩
  rw [hw]
  clear hw w1
  cases b with
  | false =>
    go_wp2
    go_ret
    exact ⟨rfl, Below.refl _ _⟩
  | true =>
    go_wp2_with fail
    refine H6.out.mono ?_
    rintro e w1 ⟨⟨b, rfl⟩, hw⟩
    rw [hw]
    clear hw w1
    cases b with
    | false =>
      go_wp2
      go_ret
      exact ⟨rfl, Below.refl _ _⟩
    | true =>
      go_wp2_with fail
      refine H6'.out.mono ?_
      rintro e w1 ⟨⟨b, rfl⟩, hw⟩
      rw [hw]
      clear hw w1
      cases b with
      | false =>
        go_wp2
        go_ret
        exact ⟨rfl, Below.refl _ _⟩
      | true =>
        go_wp2_with fail
        refine H7.out.mono ?_
        rintro e w1 ⟨rfl, hw⟩
        rw [hw]
        clear hw w1
        obtain ⟨b, hb⟩ : ∃ b, b = scB ms2 := ⟨_, rfl⟩
        rw [← hb]
        have HSC : Hid (b = scB ms2) := hb
        clear hb H19 H6 H6' H7
        cases b with
        | false =>
          go_wp2
          go_ret
          exact ⟨rfl, Below.refl _ _⟩
        | true =>
          go_wp2_with fail
          refine (newKey_calls sp id w).mono ?_
          rintro e w0 ⟨rfl, hb0⟩
          unfold Ky
          go_wp2_with fail
          obtain ⟨wk, hwk⟩ : ∃ wk, wk = w0.alloc (.cells #[.int .i64 sp, .string id] 28) := ⟨_, rfl⟩
          obtain ⟨K, hK⟩ : ∃ K, K = w0.heap.size := ⟨_, rfl⟩
          have hbk : Below w.heap.size w wk := by rw [hwk]; exact hb0.alloc hb0.size _
          have hkk : wk.heap[K]? = some (.cells #[.int .i64 sp, .string id] 28 (0, 0)) := by rw [hwk, hK]; exact heap_alloc_new _ _
          have KX : Hid (∀ W, Below wk.heap.size wk W → W.cell? ⟨K, 0, none⟩ = some (.int .i64 sp) ∧ W.cell? ⟨K, 1, none⟩ = some (.string id)) := fun W hb => by
            have e := (hb.block _ (lt_of_some hkk)).trans hkk
            exact ⟨(cell_of e 0).trans rfl, (cell_of e 1).trans rfl⟩
          have S2 : Hid (MsB wk wk.heap.size a2 n2 ms2) := (R2.out.below hbk).up hbk.size
          have S3 : Hid (MsB wk wk.heap.size a3 n3 ms3) := (R3.out.below hbk).up hbk.size
          have HBK : Hid (Below w.heap.size w wk ∧ w.heap.size ≤ wk.heap.size) := ⟨hbk, hbk.size⟩
          rw [← hwk, ← hK]
          clear hwk hK hb0 hbk hkk R2 R3
          refine (tbl_calls wk).mono ?_
          rintro e W1 ⟨rfl, ht1⟩
          obtain ⟨k, hk⟩ : ∃ k, k = bkOf wk.heap.size := ⟨_, rfl⟩
          have C10 := ht1.lock
          rw [← hk] at C10 ⊢
          have HC10 : Hid (Calls Try.prog 10 #[] W1 fun e W2 => e = .returned (.pointer (some ⟨k.O, 0, none⟩)) ∧ T2 wk W2) := C10
          have HKK : Hid (k = bkOf wk.heap.size) := hk
          clear hk C10 ht1
          go_wp2_with fail
          refine HC10.out.mono ?_
          rintro e W2 ⟨rfl, ht2⟩
          clear HC10
          obtain ⟨k0, k1⟩ := KX.out W2 ht2.facts.2.2.2.2.2.2
          have C11 := ht2.put sp id
          rw [← HKK.out] at C11
          have HC11 : Hid (Calls Try.prog 11 #[.pointer (some ⟨k.L, 0, none⟩), .agg #[.int .i64 sp, .string id], .pointer (some ⟨k.O, 0, none⟩)] W2 fun e W3 => e = .returned (.tuple #[]) ∧ Started wk W3 sp id) := C11
          clear C11 ht2
          go_wp2_with fail
          refine HC11.out.mono ?_
          rintro e W3 ⟨rfl, hst, hb3⟩
          rw [← HKK.out] at hst
          clear HC11 k0 k1 HKK
          obtain ⟨k0, k1⟩ := KX.out W3 hb3
          have HC12 : Hid (∀ s, Calls Try.prog 12 #[.pointer (some ⟨k.L, 0, none⟩), .agg #[.int .i64 sp, .string id], .pointer (some ⟨k.O, 0, none⟩), .slice a2 n2 c2, .int .u64 s] W3 fun e W4 => Held W3 wk.heap.size k sp id (.slice none 0 0) (some k.O) ms2 n2 e W4) := fun s =>
            holders_calls wk.heap.size k sp id _ _ a2 n2 c2 ms2 s W3 hst (S2.out.below hb3) (by omega) hb3.size
          have HB3 : Hid (Below wk.heap.size wk W3) := hb3
          clear hst hb3
          go_wp2_with fail
          refine (HC12.out _).mono ?_
          intro e W4 hh
          obtain ⟨J1, hs, rfl, sy, hhm, p1, hb4⟩ := hh.of HB3.out S2.out.1
          clear HC12 hh HB3 k0 k1
          obtain ⟨k0, k1⟩ := KX.out W4 hb4
          have HC13 : Hid (∀ s, Calls Try.prog 13 #[.pointer (some ⟨k.L, 0, none⟩), .agg #[.int .i64 sp, .string id], .pointer (some ⟨k.O, 0, none⟩), .slice a3 n3 c3, .int .u64 s] W4 fun e W5 => ∃ J rs v', e = .returned (.slice (some ⟨J, 0, none⟩) n3 n3) ∧ Tab wk W5 k sp id hs [] [] rs v' (some k.O) J1 J n3 ∧ rs.map (·.m) = ms3) := fun s =>
            (reqs_calls wk.heap.size k sp id hs [] [] _ _ a3 n3 c3 ms3 s W4 sy (S3.out.below hb4) (by simp; omega) hb4.size).mono fun e W5 h => Asked.tab sy p1 hb4 h
          have HHM : Hid (hs.map (·.m) = ms2) := hhm
          clear sy p1 hb4 hhm
          go_wp2_with fail
          refine (HC13.out _).mono ?_
          rintro e W5 ⟨J2, rs, v5, rfl, t5, hrm⟩
          clear HC13 k0 k1
          obtain ⟨k0, k1⟩ := KX.out W5 t5.bl
          have HRM : Hid (rs.map (·.m) = ms3) := hrm
          have HC14 : Hid (Calls Try.prog 14 #[.pointer (some ⟨k.L, 0, none⟩), .agg #[.int .i64 sp, .string id], .pointer (some ⟨k.O, 0, none⟩)] W5 fun e W6 => e = .returned (.tuple #[]) ∧ Woken W5 wk.heap.size k sp id (hs ++ []) [] rs v5 (some k.O) W6) :=
            t5.sys.wakes (by have h1 := congrArg List.length hrm; have h2 := S3.out.1; rw [List.length_map] at h1; omega)
          have T5 : Hid (Tab wk W5 k sp id hs [] [] rs v5 (some k.O) J1 J2 n3) := t5
          clear t5 hrm
          go_wp2_with fail
          refine HC14.out.mono ?_
          rintro e W6 ⟨rfl, hw6⟩
          obtain ⟨gr, rest, hs2, v6, x6, t6, hsp, hgl, hg0, hx1, hx2⟩ := T5.out.first hw6
          clear HC14 hw6 T5 k0 k1
          obtain ⟨ql, hql⟩ : ∃ ql, ql = rest.length := ⟨_, rfl⟩
          have hl3 : n3 = gr.length + ql := by rw [← S3.out.1, ← HRM.out, List.length_map, hsp, List.length_append, hql]
          have hl2 : n2 = hs.length := by rw [← S2.out.1, ← HHM.out, List.length_map]
          have hle : ql ≤ n3 := by omega
          have hkq : (n3 : Int) - (ql : Int) = (gr.length : Int) := by omega
          have hbl6 := t6.bl
          have C15 : Hid (Calls Try.prog 15 #[.pointer (some ⟨k.O, 0, none⟩)] W6 fun e w' => e = .returned (.int .i64 ql) ∧ w' = W6) := by
            rw [hql]; exact t6.sys.lenQ
          have C16 : Hid (Calls Try.prog 16 #[.slice a2 n2 c2, .slice a3 n3 c3, .int .i64 ((n3 : Int) - (ql : Int))] W6 fun e w' => e = .returned (.bool true) ∧ w' = W6) := by
            rw [hkq]
            have hg := hgl
            rw [HHM.out, HRM.out] at hg
            obtain ⟨s1, s2⟩ := gN_sc ms3 ms2 ((scB_iff ms2).1 HSC.out.symm)
            rw [← hg] at s1 s2
            exact great_calls a2 a3 n2 c2 n3 c3 gr.length ms2 ms3 W6 (by omega) (by omega) (by omega) ((S2.out.below hbl6).ms hbl6.size) ((S3.out.below hbl6).ms hbl6.size) ((scB_iff _).2 s1)
              (by rw [← S3.out.1]; exact s2.elim (fun h => .inl h) (fun h => .inr (scB_not h)))
          have he3 : (gr ++ rest).map (·.m) = ms3 := by rw [← hsp]; exact HRM.out
          have C17 : Hid (∀ Z v x, Tab wk Z k sp id hs hs2 gr rest v x J1 J2 n3 → Calls Try.prog 17 #[.pointer (some ⟨k.L, 0, none⟩), .agg #[.int .i64 sp, .string id], .pointer (some ⟨k.O, 0, none⟩), .slice a2 n2 c2, .slice (some ⟨J1, 0, none⟩) n2 n2, .slice a3 n3 c3, .slice (some ⟨J2, 0, none⟩) n3 n3, .int .i64 ((n3 : Int) - (ql : Int))] Z fun e Z' => e = .returned (.bool true) ∧ Below Z.heap.size Z Z') := fun Z v x t =>
            t.books S2.out S3.out HHM.out he3 (by omega) (by omega) _ hkq
          have hemp : (hs = [] ∧ rs = []) ↔ ¬ 0 < n2 + n3 := by
            have h3 : n3 = rs.length := by rw [← S3.out.1, ← HRM.out, List.length_map]
            rw [hl2, h3]
            constructor
            · rintro ⟨rfl, rfl⟩; simp
            · intro h
              exact ⟨List.length_eq_zero_iff.1 (by omega), List.length_eq_zero_iff.1 (by omega)⟩
          have HX0 : Hid (hs ++ hs2 = [] ∧ rest = [] → x6 = none) := by
            rintro ⟨e1, e2⟩
            have h1 : hs = [] := (List.append_eq_nil_iff.1 e1).1
            have h2 : hs2 = [] := (List.append_eq_nil_iff.1 e1).2
            have h3 : gr = [] := by
              have := congrArg List.length t6.gr
              rw [h2] at this
              simp at this
              exact List.length_eq_zero_iff.1 this.symm
            exact hx1 ⟨h1, by rw [hsp, h3, e2]; rfl⟩
          have W14 : Hid (∀ Z v, Tab wk Z k sp id hs hs2 gr rest v x6 J1 J2 n3 → Calls Try.prog 14 #[.pointer (some ⟨k.L, 0, none⟩), .agg #[.int .i64 sp, .string id], .pointer (some ⟨k.O, 0, none⟩)] Z fun e Z' => e = .returned (.tuple #[]) ∧ ∃ v', Tab wk Z' k sp id hs hs2 gr rest v' x6 J1 J2 n3) := fun Z v t =>
            (t.sys.wakes (by omega)).mono fun e Z' ⟨h1, h2⟩ => ⟨h1, t.second h2 hg0 HX0.out⟩
          obtain ⟨p, pb, hp, hpb, hpn, hpt⟩ : ∃ (p : Value) (pb : Bool), Hid (p = .pointer (x6.map fun o => ⟨o, 0, none⟩)) ∧ (decide ((0 : Int) < (n2 : Int) + (n3 : Int)) = pb) ∧ Hid (pb = false → p = .pointer none) ∧ Hid (pb = true → p = .pointer (some ⟨k.O, 0, none⟩)) := by
            by_cases hz : 0 < n2 + n3
            · refine ⟨.pointer (some ⟨k.O, 0, none⟩), true, ?_, by simp; omega, fun h => (by cases h), fun _ => rfl⟩
              show _ = _
              rw [hx2 (fun h => hemp.1 h hz)]; rfl
            · refine ⟨.pointer none, false, ?_, by simp; omega, fun _ => rfl, fun h => by cases h⟩
              show _ = _
              rw [hx1 (hemp.2 hz)]; rfl
          have C18 : Hid (∀ Z v, Tab wk Z k sp id hs hs2 gr rest v x6 J1 J2 n3 → Calls Try.prog 18 #[.pointer (some ⟨k.L, 0, none⟩), .agg #[.int .i64 sp, .string id]] Z fun e Z' => e = .returned p ∧ Below Z.heap.size Z Z') := fun Z v t => by
            rw [hp.out]
            exact t.sys.objIn
          have T6 : Hid (Tab wk W6 k sp id hs hs2 gr rest v6 x6 J1 J2 n3) := t6
          clear hql hl3 hl2 hkq hgl hg0 hx1 hx2 hsp he3 hemp HX0 hp t6 hbl6 HSC HHM HRM
          go_wp2_with fail
          refine C15.out.mono ?_
          rintro e Z ⟨rfl, hZ⟩
          rw [hZ]
          clear hZ Z
          go_wp2_with fail
          refine C16.out.mono ?_
          rintro e Z ⟨rfl, hZ⟩
          rw [hZ]
          clear hZ Z
          obtain ⟨k0, k1⟩ := KX.out W6 T6.out.bl
          go_wp2_with fail
          refine (C17.out _ _ _ T6.out).mono ?_
          rintro e W7 ⟨rfl, hb7⟩
          have T7 : Hid (Tab wk W7 k sp id hs hs2 gr rest v6 x6 J1 J2 n3) := T6.out.ext hb7
          clear hb7 T6 k0 k1 C16 C15
          obtain ⟨k0, k1⟩ := KX.out W7 T7.out.bl
          go_wp2_with fail
          refine (C18.out _ _ T7.out).mono ?_
          rintro e W8 ⟨rfl, hb8⟩
          have T8 : Hid (Tab wk W8 k sp id hs hs2 gr rest v6 x6 J1 J2 n3) := T7.out.ext hb8
          clear hb8 T7 k0 k1
          obtain ⟨k0, k1⟩ := KX.out W8 T8.out.bl
          have e32 := Try.run_eql32_same
          have e32n := Try.run_eql32_nil
          cases pb with
          | true =>
            have hpv := hpt.out rfl
            subst hpv
            go_wp2_with fail
            refine (W14.out _ _ T8.out).mono ?_
            rintro e W9 ⟨rfl, v9, t9⟩
            have T9 : Hid (Tab wk W9 k sp id hs hs2 gr rest v9 x6 J1 J2 n3) := t9
            clear t9 T8 k0 k1
            obtain ⟨k0, k1⟩ := KX.out W9 T9.out.bl
            go_wp2_with fail
            refine (C17.out _ _ _ T9.out).mono ?_
            rintro e WA ⟨rfl, hbA⟩
            have TA : Hid (Tab wk WA k sp id hs hs2 gr rest v9 x6 J1 J2 n3) := T9.out.ext hbA
            clear hbA T9 k0 k1
            obtain ⟨k0, k1⟩ := KX.out WA TA.out.bl
            go_wp2_with fail
            refine (C18.out _ _ TA.out).mono ?_
            rintro e WB ⟨rfl, hbB⟩
            have HF : Hid (Below w.heap.size w WB) := HBK.out.1.trans ((TA.out.ext hbB).bl.mono HBK.out.2)
            clear hbB k0 k1
            go_wp2
            go_ret
            exact ⟨rfl, HF.out⟩
          | false =>
            have hpv := hpn.out rfl
            subst hpv
            go_wp2_with fail
            refine (C18.out _ _ T8.out).mono ?_
            rintro e W8' ⟨rfl, hb8⟩
            have T8' : Hid (Tab wk W8' k sp id hs hs2 gr rest v6 x6 J1 J2 n3) := T8.out.ext hb8
            clear hb8 T8 k0 k1
            obtain ⟨k0, k1⟩ := KX.out W8' T8'.out.bl
            go_wp2_with fail
            refine (W14.out _ _ T8'.out).mono ?_
            rintro e W9 ⟨rfl, v9, t9⟩
            have T9 : Hid (Tab wk W9 k sp id hs hs2 gr rest v9 x6 J1 J2 n3) := t9
            clear t9 T8' k0 k1
            obtain ⟨k0, k1⟩ := KX.out W9 T9.out.bl
            go_wp2_with fail
            refine (C17.out _ _ _ T9.out).mono ?_
            rintro e WA ⟨rfl, hbA⟩
            have TA : Hid (Tab wk WA k sp id hs hs2 gr rest v9 x6 J1 J2 n3) := T9.out.ext hbA
            clear hbA T9 k0 k1
            obtain ⟨k0, k1⟩ := KX.out WA TA.out.bl
            go_wp2_with fail
            refine (C18.out _ _ TA.out).mono ?_
            rintro e WB ⟨rfl, hbB⟩
            have HF : Hid (Below w.heap.size w WB) := HBK.out.1.trans ((TA.out.ext hbB).bl.mono HBK.out.2)
            clear hbB k0 k1
            go_wp2
            go_ret
            exact ⟨rfl, HF.out⟩

end Go.Proofs.Qxb6613396a
