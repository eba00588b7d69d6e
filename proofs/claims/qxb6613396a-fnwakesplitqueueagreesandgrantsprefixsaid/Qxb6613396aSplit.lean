/- FnWakeSplitQueueAgreesAndGrantsPrefix -/
import Derived.Test.Qxb6613396aSplitA
namespace Go.Proofs.Qxb6613396a
open Go.RowKit
open Go.ChangeMaps (setBlock)
set_option linter.unusedVariables false

set_option maxRecDepth 100000 in
set_option maxHeartbeats 12800000 in
theorem main3 (sp : Int) (id : ByteArray) (a2 a3 a4 : Option Addr) (n2 c2 n3 c3 n4 c4 : Nat) (ms2 ms3 ms4 : List Int) (w : World) (d1 : id.size ≤ 4096) (d2 : n2 ≤ 1024) (d3 : n3 ≤ 1024) (d4 : n4 ≤ 1024) (d5 : 0 ≤ sp) (d6 : sp ≤ 1)
    (r2 : MsB w w.heap.size a2 n2 ms2) (r3 : MsB w w.heap.size a3 n3 ms3) (r4 : MsB w w.heap.size a4 n4 ms4) (z3 : a3 = none → n3 = 0 ∧ c3 = 0) (z4 : a4 = none → n4 = 0 ∧ c4 = 0) :
    Calls Try.prog 3 #[.int .i64 sp, .string id, .slice a2 n2 c2, .slice a3 n3 c3, .slice a4 n4 c4] w fun e w' => e = .returned (.bool true) ∧ Below w.heap.size w w' := by
  obtain ⟨i5, hi5, hy0, hy1, hy2⟩ := info_parts Try.info5
  obtain ⟨i66, hi66, hz0, hz1, hz2⟩ := info_parts Try.info66
  have H5 : Hid (Calls Try.prog 5 #[.int .i64 sp, .string id, .slice a2 n2 c2, .slice a3 n3 c3, .slice a4 n4 c4] w fun e w' => ABool e ∧ w' = w) := bytes5_calls sp id a2 a3 a4 n2 c2 n3 c3 n4 c4 w (by unfold maxLen; omega) (by unfold maxLen; omega) (by unfold maxLen; omega) (by unfold maxLen; omega)
  have H6 : Hid (Calls Try.prog 6 #[.slice a2 n2 c2] w fun e w' => ABool e ∧ w' = w) := modesOK_calls a2 n2 c2 ms2 w (by omega) (r2.ms (Nat.le_refl _))
  have H6' : Hid (Calls Try.prog 6 #[.slice a3 n3 c3] w fun e w' => ABool e ∧ w' = w) := modesOK_calls a3 n3 c3 ms3 w (by omega) (r3.ms (Nat.le_refl _))
  have H6x : Hid (Calls Try.prog 6 #[.slice a4 n4 c4] w fun e w' => ABool e ∧ w' = w) := modesOK_calls a4 n4 c4 ms4 w (by omega) (r4.ms (Nat.le_refl _))
  have H7 : Hid (Calls Try.prog 7 #[.slice a2 n2 c2, .slice none 0 0, .int .i64 0] w fun e w' => e = .returned (.bool (scB ms2)) ∧ w' = w) := by
    have := setC_calls a2 none n2 c2 0 0 0 ms2 [] w (by omega) (by omega) (by omega) (r2.ms (Nat.le_refl _)) ⟨rfl, fun h => by omega⟩
    simp only [List.take_nil, List.append_nil] at this
    exact this
  have R2 : Hid (MsB w w.heap.size a2 n2 ms2) := r2
  have R3 : Hid (MsB w w.heap.size a3 n3 ms3) := r3
  have R4 : Hid (MsB w w.heap.size a4 n4 ms4) := r4
  have Z3 : Hid (a3 = none → n3 = 0 ∧ c3 = 0) := z3
  have Z4 : Hid (a4 = none → n4 = 0 ∧ c4 = 0) := z4
  clear r2 r3 r4 z3 z4
  go_enter Try.func3, Try.ntmps3
  go_wp2_with fail
  refine H5.out.mono ?_
  rintro e w1 ⟨⟨b, rfl⟩, hw⟩
  rw [hw]
  clear hw w1
  cases b with
  | false =>
    go_wp2
    go_ret
    exact ⟨rfl, Below.refl _ _⟩
  | true =>
    go_wp2_with fail
    refine H6.out.mono ?_
    rintro e w1 ⟨⟨b, rfl⟩, hw⟩
    rw [hw]
    clear hw w1
    cases b with
    | false =>
      go_wp2
      go_ret
      exact ⟨rfl, Below.refl _ _⟩
    | true =>
      go_wp2_with fail
      refine H6'.out.mono ?_
      rintro e w1 ⟨⟨b, rfl⟩, hw⟩
      rw [hw]
      clear hw w1
      cases b with
      | false =>
        go_wp2
        go_ret
        exact ⟨rfl, Below.refl _ _⟩
      | true =>
        go_wp2_with fail
        refine H6x.out.mono ?_
        rintro e w1 ⟨⟨b, rfl⟩, hw⟩
        rw [hw]
        clear hw w1
        cases b with
        | false =>
          go_wp2
          go_ret
          exact ⟨rfl, Below.refl _ _⟩
        | true =>
          go_wp2_with fail
          refine H7.out.mono ?_
          rintro e w1 ⟨rfl, hw⟩
          rw [hw]
          clear hw w1
          obtain ⟨b, hb⟩ : ∃ b, b = scB ms2 := ⟨_, rfl⟩
          rw [← hb]
          have HSC : Hid (b = scB ms2) := hb
          clear hb H5 H6 H6' H6x H7
          cases b with
          | false =>
            go_wp2
            go_ret
            exact ⟨rfl, Below.refl _ _⟩
          | true =>
            have l3 : (ms3.map (Value.int .u8)).length = n3 * 1 := by rw [List.length_map, R3.out.1, Nat.mul_one]
            have l4 : (ms4.map (Value.int .u8)).length = n4 * 1 := by rw [List.length_map, R4.out.1, Nat.mul_one]
            have o3 : ∀ u ∈ ms3.map (Value.int .u8), u.oneCell' = true := by intro u hu; obtain ⟨_, _, rfl⟩ := List.mem_map.1 hu; rfl
            have o4 : ∀ u ∈ ms4.map (Value.int .u8), u.oneCell' = true := by intro u hu; obtain ⟨_, _, rfl⟩ := List.mem_map.1 hu; rfl
            have L3 : Hid ((ms3.map (Value.int .u8)).length = n3 * 1 ∧ (ms4.map (Value.int .u8)).length = n4 * 1 ∧ (∀ u ∈ ms3.map (Value.int .u8), u.oneCell' = true) ∧ (∀ u ∈ ms4.map (Value.int .u8), u.oneCell' = true)) := ⟨l3, l4, o3, o4⟩
            clear l3 l4 o3 o4
            go_wp2_with (first
              | (at_make; refine wpList_make_own _ rfl _ _ 22 rfl 0 5 i5 (.int .u8 0) 1 Try.underlying22 hi5 hy0 hy1 .i64 .i64 ((n3 : Int) + (n4 : Int)) (n3 + n4) rfl rfl (by omega) (by rw [hy2]; omega) (by unfold maxLen; omega) (by omega) ?_; intro wA hoA hgA
                 have HA : Hid (wA.ownsRow 0 5 1 (.slice (some ⟨w.heap.size, 0, none⟩) 0 (n3 + n4)) 0 [] ∧ Below w.heap.size w wA) := ⟨hoA, (Below.refl _ w).grown hgA (Nat.le_refl _) (fun _ h => by cases h)⟩
                 clear hoA hgA)
              | (at_builtin; refine wpList_append_fits_any _ rfl (.tmp 79) (.tmp 80) 22 rfl 0 5 i5 1 Try.underlying22 hi5 hy1 w.heap.size 0 (n3 + n4) [] rfl HA.out.1 a3 n3 c3 (ms3.map (Value.int .u8)) rfl L3.out.1 Z3.out (msB_news (R3.out.below HA.out.2)) L3.out.2.2.1 (by omega) ?_; intro wB hoB hgB
                 have HB : Hid (wB.ownsRow 0 5 1 (.slice (some ⟨w.heap.size, 0, none⟩) n3 (n3 + n4)) n3 (ms3.map (Value.int .u8)) ∧ Below w.heap.size w wB) := ⟨by simpa using hoB, HA.out.2.grown hgB HA.out.2.size (fun j e => by injection e with e; omega)⟩
                 clear hoB hgB)
              | (at_builtin; refine wpList_append_fits_any _ rfl (.tmp 82) (.tmp 83) 22 rfl 0 5 i5 1 Try.underlying22 hi5 hy1 w.heap.size n3 (n3 + n4) (ms3.map (Value.int .u8)) rfl HB.out.1 a4 n4 c4 (ms4.map (Value.int .u8)) rfl L3.out.2.1 Z4.out (msB_news (R4.out.below HB.out.2)) L3.out.2.2.2 (by omega) ?_; intro wC hoC hgC
                 have HC : Hid (wC.ownsRow 0 5 1 (.slice (some ⟨w.heap.size, 0, none⟩) (n3 + n4) (n3 + n4)) (n3 + n4) (ms3.map (Value.int .u8) ++ ms4.map (Value.int .u8)) ∧ Below w.heap.size w wC) := ⟨hoC, HB.out.2.grown hgC HB.out.2.size (fun j e => by injection e with e; omega)⟩
                 clear hoC hgC))
            obtain ⟨A, hA⟩ : ∃ A, A = w.heap.size := ⟨_, rfl⟩
            obtain ⟨N, hN⟩ : ∃ N, N = n3 + n4 := ⟨_, rfl⟩
            obtain ⟨ms, hms⟩ : ∃ ms, ms = ms3 ++ ms4 := ⟨_, rfl⟩
            have RA : Hid (MsB wC wC.heap.size (some ⟨A, 0, none⟩) N ms) := by
              rw [hA, hN, hms]
              exact all_row (by rw [List.map_append]; exact HC.out.1)
            rw [← hA, ← hN]
            have HMS : Hid (ms = ms3 ++ ms4) := hms
            have HN : Hid (N = n3 + n4) := hN
            have dN : N ≤ 2048 := by omega
            have Q2 : Hid (MsB wC wC.heap.size a2 n2 ms2) := (R2.out.below HC.out.2).up HC.out.2.size
            have Q3 : Hid (MsB wC wC.heap.size a3 n3 ms3) := (R3.out.below HC.out.2).up HC.out.2.size
            have Q4 : Hid (MsB wC wC.heap.size a4 n4 ms4) := (R4.out.below HC.out.2).up HC.out.2.size
            have HBC : Hid (Below w.heap.size w wC ∧ w.heap.size ≤ wC.heap.size) := ⟨HC.out.2, HC.out.2.size⟩
            clear HA HB HC L3 Z3 Z4 R2 R3 R4 hA hN hms
            refine (newKey_calls sp id wC).mono ?_
            rintro e w0 ⟨rfl, hb0⟩
            unfold Ky
            go_wp2_with fail
            obtain ⟨wk, hwk⟩ : ∃ wk, wk = w0.alloc (.cells #[.int .i64 sp, .string id] 28) := ⟨_, rfl⟩
            obtain ⟨K, hK⟩ : ∃ K, K = w0.heap.size := ⟨_, rfl⟩
            have hbk : Below wC.heap.size wC wk := by rw [hwk]; exact hb0.alloc hb0.size _
            have hkk : wk.heap[K]? = some (.cells #[.int .i64 sp, .string id] 28 (0, 0)) := by rw [hwk, hK]; exact heap_alloc_new _ _
            have KX : Hid (∀ W, Below wk.heap.size wk W → W.cell? ⟨K, 0, none⟩ = some (.int .i64 sp) ∧ W.cell? ⟨K, 1, none⟩ = some (.string id)) := fun W hb => by
              have e := (hb.block _ (lt_of_some hkk)).trans hkk
              exact ⟨(cell_of e 0).trans rfl, (cell_of e 1).trans rfl⟩
            have S2 : Hid (MsB wk wk.heap.size a2 n2 ms2) := (Q2.out.below hbk).up hbk.size
            have S3 : Hid (MsB wk wk.heap.size a3 n3 ms3) := (Q3.out.below hbk).up hbk.size
            have S4 : Hid (MsB wk wk.heap.size a4 n4 ms4) := (Q4.out.below hbk).up hbk.size
            have SA : Hid (MsB wk wk.heap.size (some ⟨A, 0, none⟩) N ms) := (RA.out.below hbk).up hbk.size
            have HBK : Hid (Below w.heap.size w wk ∧ w.heap.size ≤ wk.heap.size) := ⟨HBC.out.1.trans (hbk.mono HBC.out.2), Nat.le_trans HBC.out.2 hbk.size⟩
            rw [← hwk, ← hK]
            clear hwk hK hb0 hbk hkk Q2 Q3 Q4 RA HBC
            refine (tbl_calls wk).mono ?_
            rintro e W1 ⟨rfl, ht1⟩
            obtain ⟨k, hk⟩ : ∃ k, k = bkOf wk.heap.size := ⟨_, rfl⟩
            have C10 := ht1.lock
            rw [← hk] at C10 ⊢
            have HC10 : Hid (Calls Try.prog 10 #[] W1 fun e W2 => e = .returned (.pointer (some ⟨k.O, 0, none⟩)) ∧ T2 wk W2) := C10
            have HKK : Hid (k = bkOf wk.heap.size) := hk
            clear hk C10 ht1
            go_wp2_with fail
            refine HC10.out.mono ?_
            rintro e W2 ⟨rfl, ht2⟩
            clear HC10
            obtain ⟨k0, k1⟩ := KX.out W2 ht2.facts.2.2.2.2.2.2
            have C11 := ht2.put sp id
            rw [← HKK.out] at C11
            have HC11 : Hid (Calls Try.prog 11 #[.pointer (some ⟨k.L, 0, none⟩), .agg #[.int .i64 sp, .string id], .pointer (some ⟨k.O, 0, none⟩)] W2 fun e W3 => e = .returned (.tuple #[]) ∧ Started wk W3 sp id) := C11
            clear C11 ht2
            go_wp2_with fail
            refine HC11.out.mono ?_
            rintro e W3 ⟨rfl, hst, hb3⟩
            rw [← HKK.out] at hst
            clear HC11 k0 k1 HKK
            obtain ⟨k0, k1⟩ := KX.out W3 hb3
            have HC12 : Hid (∀ s, Calls Try.prog 12 #[.pointer (some ⟨k.L, 0, none⟩), .agg #[.int .i64 sp, .string id], .pointer (some ⟨k.O, 0, none⟩), .slice a2 n2 c2, .int .u64 s] W3 fun e W4 => Held W3 wk.heap.size k sp id (.slice none 0 0) (some k.O) ms2 n2 e W4) := fun s =>
              holders_calls wk.heap.size k sp id _ _ a2 n2 c2 ms2 s W3 hst (S2.out.below hb3) (by omega) hb3.size
            have HB3 : Hid (Below wk.heap.size wk W3) := hb3
            clear hst hb3
            go_wp2_with fail
            refine (HC12.out _).mono ?_
            intro e W4 hh
            obtain ⟨J1, hs, rfl, sy, hhm, p1, hb4⟩ := hh.of HB3.out S2.out.1
            clear HC12 hh HB3 k0 k1
            obtain ⟨k0, k1⟩ := KX.out W4 hb4
            have HC13 : Hid (∀ s, Calls Try.prog 13 #[.pointer (some ⟨k.L, 0, none⟩), .agg #[.int .i64 sp, .string id], .pointer (some ⟨k.O, 0, none⟩), .slice (some ⟨A, 0, none⟩) N N, .int .u64 s] W4 fun e W5 => ∃ J rs v', e = .returned (.slice (some ⟨J, 0, none⟩) N N) ∧ Tab wk W5 k sp id hs [] [] rs v' (some k.O) J1 J N ∧ rs.map (·.m) = ms) := fun s =>
              (reqs_calls wk.heap.size k sp id hs [] [] _ _ (some ⟨A, 0, none⟩) N N ms s W4 sy (SA.out.below hb4) (by simp; omega) hb4.size).mono fun e W5 h => Asked.tab sy p1 hb4 h
            have HHM : Hid (hs.map (·.m) = ms2) := hhm
            clear sy p1 hb4 hhm
            go_wp2_with fail
            refine (HC13.out _).mono ?_
            rintro e W5 ⟨J2, rs, v5, rfl, t5, hrm⟩
            clear HC13 k0 k1
            obtain ⟨k0, k1⟩ := KX.out W5 t5.bl
            have HC14 : Hid (Calls Try.prog 14 #[.pointer (some ⟨k.L, 0, none⟩), .agg #[.int .i64 sp, .string id], .pointer (some ⟨k.O, 0, none⟩)] W5 fun e W6 => e = .returned (.tuple #[]) ∧ Fin2 wk W6 k sp id ms2 ms J1 J2 (gN ms2 ms) (ms.length - gN ms2 ms) (pOf k (ms2.length + ms.length))) :=
              (t5.sys.wakes (by have h1 := congrArg List.length hrm; have h2 := SA.out.1; rw [List.length_map] at h1; omega)).mono fun e W6 ⟨h1, h2⟩ => ⟨h1, t5.fin1 h2 HHM.out hrm⟩
            clear t5 hrm HHM
            go_wp2_with fail
            refine HC14.out.mono ?_
            rintro e W6 ⟨rfl, f6⟩
            clear HC14 k0 k1
            have F6 : Hid (Fin2 wk W6 k sp id ms2 ms J1 J2 (gN ms2 ms) (ms.length - gN ms2 ms) (pOf k (ms2.length + ms.length))) := f6
            have BX : Hid (∀ W, Below W6.heap.size W6 W → Below wk.heap.size wk W) := fun W hb => f6.bl.trans (hb.mono f6.bl.size)
            have U2 : Hid (MsB W6 W6.heap.size a2 n2 ms2) := (S2.out.below f6.bl).up f6.bl.size
            have U3 : Hid (MsB W6 W6.heap.size a3 n3 ms3) := (S3.out.below f6.bl).up f6.bl.size
            have U4 : Hid (MsB W6 W6.heap.size a4 n4 ms4) := (S4.out.below f6.bl).up f6.bl.size
            have UA : Hid (MsB W6 W6.heap.size (some ⟨A, 0, none⟩) N ms) := (SA.out.below f6.bl).up f6.bl.size
            clear f6 S3 S4
            -- the second table
            go_wp2_with fail
            refine (tbl_calls W6).mono ?_
            rintro e X1 ⟨rfl, ht1⟩
            obtain ⟨k', hk⟩ : ∃ k', k' = bkOf W6.heap.size := ⟨_, rfl⟩
            have C10 := ht1.lock
            rw [← hk] at C10 ⊢
            have HC10 : Hid (Calls Try.prog 10 #[] X1 fun e W2 => e = .returned (.pointer (some ⟨k'.O, 0, none⟩)) ∧ T2 W6 W2) := C10
            have HKK : Hid (k' = bkOf W6.heap.size) := hk
            clear hk C10 ht1
            go_wp2_with fail
            refine HC10.out.mono ?_
            rintro e X2 ⟨rfl, ht2⟩
            clear HC10
            obtain ⟨k0, k1⟩ := KX.out X2 (BX.out X2 ht2.facts.2.2.2.2.2.2)
            have C11 := ht2.put sp id
            rw [← HKK.out] at C11
            have HC11 : Hid (Calls Try.prog 11 #[.pointer (some ⟨k'.L, 0, none⟩), .agg #[.int .i64 sp, .string id], .pointer (some ⟨k'.O, 0, none⟩)] X2 fun e W3 => e = .returned (.tuple #[]) ∧ Started W6 W3 sp id) := C11
            clear C11 ht2
            go_wp2_with fail
            refine HC11.out.mono ?_
            rintro e X3 ⟨rfl, hst, hb3⟩
            rw [← HKK.out] at hst
            clear HC11 k0 k1 HKK
            obtain ⟨k0, k1⟩ := KX.out X3 (BX.out X3 hb3)
            have HC12 : Hid (∀ s, Calls Try.prog 12 #[.pointer (some ⟨k'.L, 0, none⟩), .agg #[.int .i64 sp, .string id], .pointer (some ⟨k'.O, 0, none⟩), .slice a2 n2 c2, .int .u64 s] X3 fun e W4 => Held X3 W6.heap.size k' sp id (.slice none 0 0) (some k'.O) ms2 n2 e W4) := fun s =>
              holders_calls W6.heap.size k' sp id _ _ a2 n2 c2 ms2 s X3 hst (U2.out.below hb3) (by omega) hb3.size
            have HB3 : Hid (Below W6.heap.size W6 X3) := hb3
            clear hst hb3
            go_wp2_with fail
            refine (HC12.out _).mono ?_
            intro e X4 hh
            obtain ⟨I1, gs, rfl, sy, hhm, p1, hb4⟩ := hh.of HB3.out U2.out.1
            clear HC12 hh HB3 k0 k1
            have SY : Hid (Sys X4 W6.heap.size k' sp id gs [] [] (.slice none 0 0) (some k'.O) ∧ PRow X4 I1 gs.length 63 (gs.map tp) ∧ Below W6.heap.size W6 X4 ∧ gs.map (·.m) = ms2) := ⟨sy, p1, hb4, hhm⟩
            clear sy hhm p1 hb4
            go_wp2_with (at_make; refine wpList_make_own _ rfl _ _ 38 rfl 0 66 i66 (.pointer none) 1 Try.underlying38 hi66 hz0 hz1 .i64 .i64 (N : Int) N rfl rfl rfl (by rw [hz2]; omega) (by unfold maxLen; omega) (by omega) ?_; intro X5 hoR hgR
                         have T5 : Hid (Tab W6 X5 k' sp id gs [] [] [] (.slice none 0 0) (some k'.O) I1 X4.heap.size N ∧ W6.heap.size ≤ X4.heap.size) := by
                           obtain ⟨sy, p1, hb4, hhm⟩ := SY.out
                           have b5 : Below X4.heap.size X4 X5 := (Below.refl _ X4).grown hgR (Nat.le_refl _) (fun _ h => by cases h)
                           exact ⟨⟨by rw [List.append_nil]; exact sy.ext b5, rfl, p1.heap_eq (b5.block _ p1.lt), PRow.ofOwns hoR, (by intro h; cases h), hb4.trans (b5.mono hb4.size)⟩, hb4.size⟩
                         obtain ⟨k0, k1⟩ := KX.out X5 (BX.out X5 T5.out.1.bl)
                         clear hoR hgR)
            obtain ⟨R, hR⟩ : ∃ R, R = X4.heap.size := ⟨_, rfl⟩
            rw [← hR] at T5 ⊢
            have GM : Hid (gs.map (·.m) = ms2) := SY.out.2.2.2
            clear hR SY k0 k1
            have HC13 : Hid (∀ s, Calls Try.prog 13 #[.pointer (some ⟨k'.L, 0, none⟩), .agg #[.int .i64 sp, .string id], .pointer (some ⟨k'.O, 0, none⟩), .slice a3 n3 c3, .int .u64 s] X5 fun e X6 => Asked X5 W6.heap.size k' sp id (gs ++ []) [] [] (.slice none 0 0) (some k'.O) ms3 n3 e X6) := fun s =>
              reqs_calls W6.heap.size k' sp id (gs ++ []) [] [] _ _ a3 n3 c3 ms3 s X5 T5.out.1.sys (U3.out.below T5.out.1.bl) (by simp; omega) T5.out.1.bl.size
            refine (HC13.out _).mono ?_
            intro e X6 ha
            obtain ⟨JF, rf, v6, rfl, hrm, hoC, hlen, hcells, hfin⟩ := T5.out.1.more (by unfold maxLen; omega) T5.out.2 ha U3.out.1
            have one : ∀ u ∈ rf.map rqOf, u.oneCell' = true := by intro u hu; obtain ⟨_, _, rfl⟩ := List.mem_map.1 hu; rfl
            have hRW : W6.heap.size ≤ R := T5.out.2
            have HRW : Hid (W6.heap.size ≤ R) := hRW
            have M6 : Hid (X6.ownsRow 0 66 1 (.slice (some ⟨R, 0, none⟩) 0 N) 0 [] ∧ (rf.map rqOf).length = n3 * 1 ∧ (∀ ad, some (⟨JF, 0, none⟩ : Addr) = some ad → ∀ j u, (rf.map rqOf)[j]? = some u → X6.cell? (ad.add j) = some u) ∧ (∀ u ∈ rf.map rqOf, u.oneCell' = true) ∧ rf.map (·.m) = ms3 ∧
                ∀ WD, X6.grownBy WD (some R) → WD.ownsRow 0 66 1 (.slice (some ⟨R, 0, none⟩) (0 + n3) N) (0 + n3) ([] ++ rf.map rqOf) → Tab W6 WD k' sp id gs [] [] rf v6 (some k'.O) I1 R N) := ⟨hoC, hlen, hcells, one, hrm, hfin⟩
            have h3N : 0 + n3 ≤ N := by have := HN.out; omega
            clear HC13 ha hrm hoC hlen hcells hfin one T5 hRW
            go_wp2_with (at_builtin; refine wpList_append_fits_any _ rfl (.tmp 126) (.tmp 135) 38 rfl 0 66 i66 1 Try.underlying38 hi66 hz1 R 0 N [] rfl M6.out.1 (some ⟨JF, 0, none⟩) n3 n3 (rf.map rqOf) rfl M6.out.2.1 (fun h => by cases h) M6.out.2.2.1 M6.out.2.2.2.1 h3N ?_; intro X7 hoD hgD
                         have T7 : Hid (Tab W6 X7 k' sp id gs [] [] rf v6 (some k'.O) I1 R N) := M6.out.2.2.2.2.2 X7 hgD hoD
                         obtain ⟨k0, k1⟩ := KX.out X7 (BX.out X7 T7.out.bl)
                         clear hoD hgD)
            have HC14 : Hid (Calls Try.prog 14 #[.pointer (some ⟨k'.L, 0, none⟩), .agg #[.int .i64 sp, .string id], .pointer (some ⟨k'.O, 0, none⟩)] X7 fun e X8 => e = .returned (.tuple #[]) ∧ ∃ x, Half W6 X8 k' sp id ms2 ms3 I1 R N x ∧ (x = none ∨ x = some k'.O) ∧ Value.pointer (x.map fun o => ⟨o, 0, none⟩) = pOf k' (ms2.length + ms3.length)) :=
              (T7.out.sys.wakes (by have h1 := congrArg List.length M6.out.2.2.2.2.1; have h2 := U3.out.1; rw [List.length_map] at h1; omega)).mono fun e X8 ⟨h1, h2⟩ => ⟨h1, T7.out.half h2 GM.out M6.out.2.2.2.2.1⟩
            clear k0 k1
            refine HC14.out.mono ?_
            rintro e X8 ⟨rfl, x8, hhalf, hx8, hp8⟩
            have HH : Hid (Half W6 X8 k' sp id ms2 ms3 I1 R N x8 ∧ (x8 = none ∨ x8 = some k'.O) ∧ Value.pointer (x8.map fun o => ⟨o, 0, none⟩) = pOf k' (ms2.length + ms3.length)) := ⟨hhalf, hx8, hp8⟩
            clear HC14 T7 M6 hhalf hx8 hp8 GM
            by_cases hn4 : n4 = 0
            case' pos =>
              have e3 : n3 = N := by have := HN.out; omega
              obtain ⟨XZ, hXZ⟩ : ∃ XZ, XZ = X8 := ⟨_, rfl⟩
              have FZ : Hid (Fin2 W6 XZ k' sp id ms2 ms I1 R (gN ms2 ms) (ms.length - gN ms2 ms) (pOf k' (ms2.length + ms.length))) := by
                have hm4 : ms4 = [] := List.length_eq_zero_iff.1 (by rw [U4.out.1]; exact hn4)
                rw [HMS.out, hm4, List.append_nil, hXZ]
                exact HH.out.1.fin0 HH.out.2.2
              rw [← hXZ]
              have hn4' : ¬ (0 : Int) < (n4 : Int) := by omega
              clear hXZ HH
              go_wp2_with fail
              clear e3 hn4'
            case' neg =>
              have hn4' : (0 : Int) < (n4 : Int) := by omega
              obtain ⟨⟨gs, gs', ds, qs, v8, t8, g1, g2, g3, g4, g5⟩, hx8, hp8⟩ := HH.out
              obtain ⟨k0, k1⟩ := KX.out X8 (BX.out X8 t8.bl)
              have HP : Hid (Calls Try.prog 11 #[.pointer (some ⟨k'.L, 0, none⟩), .agg #[.int .i64 sp, .string id], .pointer (some ⟨k'.O, 0, none⟩)] X8 fun e X9 => e = .returned (.tuple #[]) ∧ Tab W6 X9 k' sp id gs gs' ds qs v8 (some k'.O) I1 R N) := t8.put hx8
              have G : Hid (gs.map (·.m) = ms2 ∧ gs'.map (·.m) = ms3.take (gN ms2 ms3) ∧ (ds ++ qs).map (·.m) = ms3 ∧ ds.length = gN ms2 ms3 ∧ qs.map (·.m) = ms3.drop (gN ms2 ms3)) := ⟨g1, g2, g3, g4, g5⟩
              clear t8 g1 g2 g3 g4 g5 hx8 hp8 HH
              go_wp2_with fail
              refine HP.out.mono ?_
              rintro e X9 ⟨rfl, t9⟩
              clear HP k0 k1
              obtain ⟨k0, k1⟩ := KX.out X9 (BX.out X9 t9.bl)
              have hl3 : (ds ++ qs).length = n3 := by
                have h1 := congrArg List.length G.out.2.2.1
                rw [List.length_map, U3.out.1] at h1
                exact h1
              have hlq : qs.length ≤ n3 := by rw [List.length_append] at hl3; omega
              have HC13 : Hid (∀ s, Calls Try.prog 13 #[.pointer (some ⟨k'.L, 0, none⟩), .agg #[.int .i64 sp, .string id], .pointer (some ⟨k'.O, 0, none⟩), .slice a4 n4 c4, .int .u64 s] X9 fun e XA => Asked X9 W6.heap.size k' sp id (gs ++ gs') ds qs v8 (some k'.O) ms4 n4 e XA) := fun s =>
                reqs_calls W6.heap.size k' sp id (gs ++ gs') ds qs _ _ a4 n4 c4 ms4 s X9 t9.sys (U4.out.below t9.bl) (by omega) t9.bl.size
              have T9 : Hid (Tab W6 X9 k' sp id gs gs' ds qs v8 (some k'.O) I1 R N) := t9
              have HL3 : Hid ((ds ++ qs).length = n3 ∧ qs.length ≤ n3) := ⟨hl3, hlq⟩
              clear t9 hl3 hlq
              go_wp2_with fail
              refine (HC13.out _).mono ?_
              intro e XA ha
              obtain ⟨JG, rg, vA, rfl, hrm, hoC, hlen, hcells, hfin⟩ := T9.out.more (by unfold maxLen; omega) HRW.out ha U4.out.1
              rw [HL3.out.1] at hoC hfin
              have one : ∀ u ∈ rg.map rqOf, u.oneCell' = true := by intro u hu; obtain ⟨_, _, rfl⟩ := List.mem_map.1 hu; rfl
              have MA : Hid (XA.ownsRow 0 66 1 (.slice (some ⟨R, 0, none⟩) n3 N) n3 ((ds ++ qs).map rqOf) ∧ (rg.map rqOf).length = n4 * 1 ∧ (∀ ad, some (⟨JG, 0, none⟩ : Addr) = some ad → ∀ j u, (rg.map rqOf)[j]? = some u → XA.cell? (ad.add j) = some u) ∧ (∀ u ∈ rg.map rqOf, u.oneCell' = true) ∧ rg.map (·.m) = ms4 ∧
                  ∀ WD, XA.grownBy WD (some R) → WD.ownsRow 0 66 1 (.slice (some ⟨R, 0, none⟩) (n3 + n4) N) (n3 + n4) ((ds ++ qs).map rqOf ++ rg.map rqOf) → Tab W6 WD k' sp id gs gs' ds (qs ++ rg) vA (some k'.O) I1 R N) := ⟨hoC, hlen, hcells, one, hrm, hfin⟩
              have h4N : n3 + n4 ≤ N := by have := HN.out; omega
              clear HC13 ha hrm hoC hlen hcells hfin one T9 k0 k1
              go_wp2_with (at_builtin; refine wpList_append_fits_any _ rfl (.tmp 148) (.tmp 160) 38 rfl 0 66 i66 1 Try.underlying38 hi66 hz1 R n3 N ((ds ++ qs).map rqOf) rfl MA.out.1 (some ⟨JG, 0, none⟩) n4 n4 (rg.map rqOf) rfl MA.out.2.1 (fun h => by cases h) MA.out.2.2.1 MA.out.2.2.2.1 h4N ?_; intro XB hoD hgD
                           have TB : Hid (Tab W6 XB k' sp id gs gs' ds (qs ++ rg) vA (some k'.O) I1 R N) := MA.out.2.2.2.2.2 XB hgD hoD
                           obtain ⟨k0, k1⟩ := KX.out XB (BX.out XB TB.out.bl)
                           clear hoD hgD)
              have HC14 : Hid (Calls Try.prog 14 #[.pointer (some ⟨k'.L, 0, none⟩), .agg #[.int .i64 sp, .string id], .pointer (some ⟨k'.O, 0, none⟩)] XB fun e XC => e = .returned (.tuple #[]) ∧ Fin2 W6 XC k' sp id ms2 ms I1 R (gN ms2 ms) (ms.length - gN ms2 ms) (pOf k' (ms2.length + ms.length))) := by
                have hrl : rg.length = n4 := by
                  have h1 := congrArg List.length MA.out.2.2.2.2.1
                  rw [List.length_map, U4.out.1] at h1
                  exact h1
                refine (TB.out.sys.wakes (by have := HL3.out.2; rw [List.length_append]; omega)).mono fun e XC ⟨h1, h2⟩ => ⟨h1, ?_⟩
                rw [HMS.out]
                obtain ⟨g1, g2, g3, g4, g5⟩ := G.out
                exact TB.out.fin2 h2 g1 g2 g3 g4 g5 MA.out.2.2.2.2.1 (by rw [U4.out.1]; omega)
              clear k0 k1
              refine HC14.out.mono ?_
              rintro e XZ ⟨rfl, fz⟩
              have FZ : Hid (Fin2 W6 XZ k' sp id ms2 ms I1 R (gN ms2 ms) (ms.length - gN ms2 ms) (pOf k' (ms2.length + ms.length))) := fz
              clear HC14 fz TB MA HL3 G hn4'
              have hN' : n3 + n4 = N := HN.out.symm
              go_wp2_with fail
              clear hN'
            all_goals
              have f1 := F6.out.ext FZ.out.bl
              have f2 := FZ.out
              obtain ⟨ql, hql⟩ : ∃ ql, ql = ms.length - gN ms2 ms := ⟨_, rfl⟩
              have hNl : ms.length = N := SA.out.1
              have h2l : ms2.length = n2 := S2.out.1
              have hgle := gN_le ms2 ms
              have hle : ql ≤ N := by omega
              have hkq : (N : Int) - (ql : Int) = ((gN ms2 ms : Nat) : Int) := by omega
              rw [← hql, h2l, hNl] at f1 f2
              have F1 : Hid (Fin2 wk XZ k sp id ms2 ms J1 J2 (gN ms2 ms) ql (pOf k (n2 + N))) := f1
              have F2 : Hid (Fin2 W6 XZ k' sp id ms2 ms I1 R (gN ms2 ms) ql (pOf k' (n2 + N))) := f2
              have HKQ : Hid ((N : Int) - (ql : Int) = ((gN ms2 ms : Nat) : Int)) := hkq
              have C16 : Hid (Calls Try.prog 16 #[.slice a2 n2 c2, .slice (some ⟨A, 0, none⟩) N N, .int .i64 ((N : Int) - (ql : Int))] XZ fun e w' => e = .returned (.bool true) ∧ w' = XZ) := by
                rw [hkq]
                obtain ⟨s1, s2⟩ := gN_sc ms ms2 ((scB_iff ms2).1 HSC.out.symm)
                exact great_calls a2 (some ⟨A, 0, none⟩) n2 c2 N N (gN ms2 ms) ms2 ms XZ (by omega) (by omega) (by omega) ((S2.out.below f1.bl).ms f1.bl.size) ((SA.out.below f1.bl).ms f1.bl.size) ((scB_iff _).2 s1)
                  (by rw [← hNl]; exact s2.elim (fun h => .inl h) (fun h => .inr (scB_not h)))
              clear f1 f2 hql hNl h2l hgle hkq F6 FZ HSC
              refine F1.out.c15.mono ?_
              rintro e Z ⟨rfl, hZ⟩
              rw [hZ]
              clear hZ Z
              go_wp2_with fail
              refine F2.out.c15.mono ?_
              rintro e Z ⟨rfl, hZ⟩
              rw [hZ]
              clear hZ Z
              go_wp2_with fail
              refine C16.out.mono ?_
              rintro e Z ⟨rfl, hZ⟩
              rw [hZ]
              clear hZ Z C16
              obtain ⟨k0, k1⟩ := KX.out XZ F1.out.bl
              go_wp2_with fail
              refine (F1.out.c17 S2.out SA.out (by omega) (by omega) _ HKQ.out).mono ?_
              rintro e Y1 ⟨rfl, hb⟩
              have E1 : Hid (Fin2 wk Y1 k sp id ms2 ms J1 J2 (gN ms2 ms) ql (pOf k (n2 + N))) := F1.out.ext hb
              have E2 : Hid (Fin2 W6 Y1 k' sp id ms2 ms I1 R (gN ms2 ms) ql (pOf k' (n2 + N))) := F2.out.ext hb
              clear hb k0 k1 F1 F2
              obtain ⟨k0, k1⟩ := KX.out Y1 E1.out.bl
              go_wp2_with fail
              refine (E2.out.c17 U2.out UA.out (by omega) (by omega) _ HKQ.out).mono ?_
              rintro e Y2 ⟨rfl, hb⟩
              have D1 : Hid (Fin2 wk Y2 k sp id ms2 ms J1 J2 (gN ms2 ms) ql (pOf k (n2 + N))) := E1.out.ext hb
              have D2 : Hid (Fin2 W6 Y2 k' sp id ms2 ms I1 R (gN ms2 ms) ql (pOf k' (n2 + N))) := E2.out.ext hb
              clear hb k0 k1 E1 E2
              obtain ⟨k0, k1⟩ := KX.out Y2 D1.out.bl
              have e32 := Try.run_eql32_same
              have e32n := Try.run_eql32_nil
              by_cases hz : 0 < n2 + N
              · have hz' : (0 : Int) < (n2 : Int) + (N : Int) := by omega
                have q1 : pOf k (n2 + N) = .pointer (some ⟨k.O, 0, none⟩) := if_pos hz
                have q2 : pOf k' (n2 + N) = .pointer (some ⟨k'.O, 0, none⟩) := if_pos hz
                rw [q1] at D1
                rw [q2] at D2
                clear q1 q2
                go_wp2_with fail
                refine D1.out.c18.mono ?_
                rintro e Y3 ⟨rfl, hb⟩
                have G1 : Hid (Fin2 wk Y3 k sp id ms2 ms J1 J2 (gN ms2 ms) ql (.pointer (some ⟨k.O, 0, none⟩))) := D1.out.ext hb
                have G2 : Hid (Fin2 W6 Y3 k' sp id ms2 ms I1 R (gN ms2 ms) ql (.pointer (some ⟨k'.O, 0, none⟩))) := D2.out.ext hb
                clear hb k0 k1 D1 D2
                obtain ⟨k0, k1⟩ := KX.out Y3 G1.out.bl
                go_wp2_with fail
                refine G2.out.c18.mono ?_
                rintro e Y4 ⟨rfl, hb⟩
                have HF : Hid (Below w.heap.size w Y4) := HBK.out.1.trans ((G1.out.ext hb).bl.mono HBK.out.2)
                clear hb k0 k1
                go_wp2
                go_ret
                exact ⟨rfl, HF.out⟩
              · have hz1' : n2 = 0 := by omega
                have hz2' : N = 0 := by omega
                have hz' : ¬ (0 : Int) < (n2 : Int) + (N : Int) := by omega
                have q1 : pOf k (n2 + N) = .pointer none := if_neg hz
                have q2 : pOf k' (n2 + N) = .pointer none := if_neg hz
                rw [q1] at D1
                rw [q2] at D2
                clear q1 q2
                go_wp2_with fail
                refine D1.out.c18.mono ?_
                rintro e Y3 ⟨rfl, hb⟩
                have G1 : Hid (Fin2 wk Y3 k sp id ms2 ms J1 J2 (gN ms2 ms) ql (.pointer none)) := D1.out.ext hb
                have G2 : Hid (Fin2 W6 Y3 k' sp id ms2 ms I1 R (gN ms2 ms) ql (.pointer none)) := D2.out.ext hb
                clear hb k0 k1 D1 D2
                obtain ⟨k0, k1⟩ := KX.out Y3 G1.out.bl
                go_wp2_with fail
                refine G2.out.c18.mono ?_
                rintro e Y4 ⟨rfl, hb⟩
                have HF : Hid (Below w.heap.size w Y4) := HBK.out.1.trans ((G1.out.ext hb).bl.mono HBK.out.2)
                clear hb k0 k1
                go_wp2
                go_ret
                exact ⟨rfl, HF.out⟩

end Go.Proofs.Qxb6613396a
