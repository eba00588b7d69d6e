/- zzBooks -/
import Derived.Test.Qxb6613396aRead
namespace Go.Proofs.Qxb6613396a
open Go.RowKit
open Go.ChangeMaps (setBlock)
set_option linter.unusedVariables false

/-- a slice at a of n values, f i at place i -/
def Rw (w : World) (a : Option Addr) (n : Nat) (f : Nat → Value) : Prop :=
  0 < n → ∃ b off, a = some ⟨b, off, none⟩ ∧ b < w.heap.size ∧ ∀ i, i < n → w.cell? ⟨b, off + i, none⟩ = some (f i)

theorem Rw.ext {w w' : World} {a : Option Addr} {n : Nat} {f : Nat → Value} (h : Rw w a n f) (b : Below w.heap.size w w') : Rw w' a n f := fun hn => by
  obtain ⟨b1, off, h1, h2, h3⟩ := h hn
  exact ⟨b1, off, h1, Nat.lt_of_lt_of_le h2 b.size, fun i hi => (b.cell (p := ⟨b1, off + i, none⟩) h2).trans (h3 i hi)⟩

def h0 : Hd := ⟨0, 0, 0, 0⟩
def r0 : Rq := ⟨0, 0, 0, 0⟩

/-- what zzBooks asks -/
structure Bks (w : World) (B : Nat) (k : Bk) (sp : Int) (id : ByteArray) (hs hs' : List Hd) (ds qs : List Rq) (v : Value) (x : Option Nat) (ah at' aq ar : Option Addr) : Prop where
  sys : Sys w B k sp id (hs ++ hs') ds qs v x
  gr : hs'.map hT = ds.map qT
  rh : Rw w ah hs.length fun i => .int .u8 (hs.getD i h0).m
  rt : Rw w at' hs.length fun i => .pointer (some ⟨(hs.getD i h0).T, 0, none⟩)
  rq : Rw w aq (ds ++ qs).length fun i => .int .u8 ((ds ++ qs).getD i r0).m
  rr : Rw w ar (ds ++ qs).length fun i => .pointer (some ⟨((ds ++ qs).getD i r0).R, 0, none⟩)

section
variable {w w' : World} {B : Nat} {k : Bk} {sp : Int} {id : ByteArray} {hs hs' : List Hd} {ds qs : List Rq} {v : Value} {x : Option Nat} {ah at' aq ar : Option Addr}

theorem Bks.ext (h : Bks w B k sp id hs hs' ds qs v x ah at' aq ar) (b : Below w.heap.size w w') : Bks w' B k sp id hs hs' ds qs v x ah at' aq ar :=
  ⟨h.sys.ext b, h.gr, h.rh.ext b, h.rt.ext b, h.rq.ext b, h.rr.ext b⟩

/-- the books on a holder -/
structure HolderOk (w : World) (k : Bk) (sp : Int) (id : ByteArray) (T : Nat) (m : Int) : Prop where
  c26 : Calls Try.prog 26 #[.pointer (some ⟨k.O, 0, none⟩), .pointer (some ⟨T, 0, none⟩)] w fun e w' => e = .returned (.int .u8 m) ∧ w' = w
  c27 : Calls Try.prog 27 #[.pointer (some ⟨k.L, 0, none⟩), .pointer (some ⟨T, 0, none⟩)] w fun e w' => e = .returned (.pointer none) ∧ w' = w
  c28 : Calls Try.prog 28 #[.pointer (some ⟨k.L, 0, none⟩), .pointer (some ⟨T, 0, none⟩)] w fun e w' => e = .returned (.int .i64 1) ∧ w' = w
  c29 : Calls Try.prog 29 #[.pointer (some ⟨k.L, 0, none⟩), .pointer (some ⟨T, 0, none⟩), .int .i64 0] w fun e w' => e = .returned (.agg #[.int .i64 sp, .string id]) ∧ Below w.heap.size w w'

theorem Sys.holderOk {hs : List Hd} (h : Sys w B k sp id hs ds qs v x) {y : Hd} (hy : y ∈ hs) : HolderOk w k sp id y.T y.m :=
  ⟨h.mode hy, h.wait0 hy, h.held1 hy, h.heldKey hy⟩

/-- the books on a request that was granted; on one that waits -/
structure GrantOk (w : World) (k : Bk) (sp : Int) (id : ByteArray) (R T : Nat) (m : Int) : Prop where
  c30 : Calls Try.prog 30 #[.pointer (some ⟨R, 0, none⟩)] w fun e w' => e = .returned (.pointer (some ⟨T, 0, none⟩)) ∧ w' = w
  c31 : Calls Try.prog 31 #[.pointer (some ⟨R, 0, none⟩)] w fun e w' => e = .returned (.bool true) ∧ w' = w
  hold : HolderOk w k sp id T m
structure WaitOk (w : World) (k : Bk) (i : Int) (R T : Nat) : Prop where
  c30 : Calls Try.prog 30 #[.pointer (some ⟨R, 0, none⟩)] w fun e w' => e = .returned (.pointer (some ⟨T, 0, none⟩)) ∧ w' = w
  c31 : Calls Try.prog 31 #[.pointer (some ⟨R, 0, none⟩)] w fun e w' => e = .returned (.bool false) ∧ w' = w
  c32 : Calls Try.prog 32 #[.pointer (some ⟨k.O, 0, none⟩), .int .i64 i] w fun e w' => e = .returned (.pointer (some ⟨R, 0, none⟩)) ∧ w' = w
  c26 : Calls Try.prog 26 #[.pointer (some ⟨k.O, 0, none⟩), .pointer (some ⟨T, 0, none⟩)] w fun e w' => e = .returned (.int .u8 0) ∧ w' = w
  c27 : Calls Try.prog 27 #[.pointer (some ⟨k.L, 0, none⟩), .pointer (some ⟨T, 0, none⟩)] w fun e w' => e = .returned (.pointer (some ⟨R, 0, none⟩)) ∧ w' = w
  c28 : Calls Try.prog 28 #[.pointer (some ⟨k.L, 0, none⟩), .pointer (some ⟨T, 0, none⟩)] w fun e w' => e = .returned (.int .i64 0) ∧ w' = w

theorem Bks.grantOk (h : Bks w B k sp id hs hs' ds qs v x ah at' aq ar) {j : Nat} (hj : j < ds.length) : GrantOk w k sp id ((ds ++ qs).getD j r0).R ((ds ++ qs).getD j r0).T ((ds ++ qs).getD j r0).m := by
  have hl := congrArg List.length h.gr
  simp at hl
  have e : (ds ++ qs).getD j r0 = ds[j] := by rw [List.getD_eq_getElem?_getD, List.getElem?_append_left hj, List.getElem?_eq_getElem hj]; rfl
  have hm : ds[j] ∈ ds := List.getElem_mem hj
  rw [e]
  refine ⟨h.sys.reqTx (List.mem_append_left _ hm), h.sys.doneY hm, ?_⟩
  have h1 := congrArg (fun l => l[j]?) h.gr
  simp only [List.getElem?_map, List.getElem?_eq_getElem hj, List.getElem?_eq_getElem (show j < hs'.length by omega), Option.map_some, Option.some.injEq, hT, qT, Prod.mk.injEq] at h1
  rw [← h1.1, ← h1.2]
  exact h.sys.holderOk (List.mem_append_right _ (List.getElem_mem _))

theorem Bks.waitOk (h : Bks w B k sp id hs hs' ds qs v x ah at' aq ar) {j : Nat} (hj : ds.length ≤ j) (hn : j < (ds ++ qs).length) : WaitOk w k ((j : Int) - (ds.length : Int)) ((ds ++ qs).getD j r0).R ((ds ++ qs).getD j r0).T := by
  have hl : j - ds.length < qs.length := by simp at hn; omega
  have e : (ds ++ qs).getD j r0 = qs[j - ds.length] := by rw [List.getD_eq_getElem?_getD, List.getElem?_append_right hj, List.getElem?_eq_getElem hl]; rfl
  have hm : qs[j - ds.length] ∈ qs := List.getElem_mem hl
  rw [e, show (j : Int) - (ds.length : Int) = ((j - ds.length : Nat) : Int) by omega]
  exact ⟨h.sys.reqTx (List.mem_append_right _ hm), h.sys.doneN hm, h.sys.queueAt (List.getElem?_eq_getElem hl), h.sys.mode0 hm, h.sys.wait hm, h.sys.held0 hm⟩
end

theorem Try.run_neq28 (w : World) (sp : Int) (id : ByteArray) : (binOp .neq 28 (.agg #[.int .i64 sp, .string id]) (.agg #[.int .i64 sp, .string id])).run Try.prog w = .ok (.bool false) w := by
  have h := run_equal28 w sp id
  unfold Ky at h
  simp only [binOp]
  simp [h]

theorem Try.sz93 : ∃ j, Try.prog.info? 93 = some j ∧ j.size = 7 := size_of' (by kernel_rfl)
theorem Try.run_neq66 (w : World) (a : Addr) : (binOp .neq 66 (.pointer (some a)) (.pointer (some a))).run Try.prog w = .ok (.bool false) w := by
  obtain ⟨j, hj, _⟩ := Try.sz93
  have h : ∀ d : Nat, (Op.equalIn (d + 1) 66 (.pointer (some a)) (.pointer (some a))).run Try.prog w = .ok true w := fun d => by
    simp [Op.equalIn, run_underlying Try.underlying66, sizeOf, typeInfo, hj, run_sameAddr_same]
  simp only [binOp]
  simp [Op.equal, Op.maxDepth, h 9999]

set_option maxRecDepth 100000 in
set_option maxHeartbeats 6400000 in
theorem books_calls (B : Nat) (k : Bk) (sp : Int) (id : ByteArray) (hs hs' : List Hd) (ds qs : List Rq) (v : Value) (x : Option Nat) (ah at' aq ar : Option Addr) (ch ct cq cr : Nat) (w : World) (nh n kk : Nat)
    (h : Bks w B k sp id hs hs' ds qs v x ah at' aq ar) (hnh : nh = hs.length) (hn : n = (ds ++ qs).length) (hkk : kk = ds.length) (b1 : nh ≤ 4096) (b2 : n ≤ 4096) :
    Calls Try.prog 17 #[.pointer (some ⟨k.L, 0, none⟩), Ky sp id, .pointer (some ⟨k.O, 0, none⟩), .slice ah nh ch, .slice at' nh ct, .slice aq n cq, .slice ar n cr, .int .i64 kk] w fun e w' => e = .returned (.bool true) ∧ Below w.heap.size w w' := by
  obtain ⟨w0, hw0⟩ : ∃ w0, w0 = w.alloc (.cells #[.int .i64 sp, .string id] 28) := ⟨_, rfl⟩
  have hb0 : Below w.heap.size w w0 := by rw [hw0]; exact (Below.refl _ w).alloc (Nat.le_refl _) _
  have HB0 : Hid (Below w.heap.size w w0 ∧ w.heap.size ≤ w0.heap.size) := ⟨hb0, hb0.size⟩
  have hk : w0.heap[w.heap.size]? = some (.cells #[.int .i64 sp, .string id] 28 (0, 0)) := by rw [hw0]; exact heap_alloc_new w _
  have KX : Hid (∀ W, Below w0.heap.size w0 W → W.cell? ⟨w.heap.size, 0, none⟩ = some (.int .i64 sp) ∧ W.cell? ⟨w.heap.size, 1, none⟩ = some (.string id)) := fun W hb => by
    have e := (hb.block _ (lt_of_some hk)).trans hk
    exact ⟨(cell_of e 0).trans rfl, (cell_of e 1).trans rfl⟩
  have h' := h.ext hb0
  have SX : Hid (∀ W, Below w0.heap.size w0 W → Bks W B k sp id hs hs' ds qs v x ah at' aq ar) := fun W hb => h'.ext hb
  have HN : Hid (nh = hs.length ∧ n = (ds ++ qs).length ∧ kk = ds.length) := ⟨hnh, hn, hkk⟩
  have C15 : Hid (Calls Try.prog 15 #[.pointer (some ⟨k.O, 0, none⟩)] w0 fun e w' => e = .returned (.int .i64 ((n : Int) - kk)) ∧ w' = w0) := by
    have := h'.sys.lenQ
    rw [show ((n : Int) - kk) = (qs.length : Int) by rw [hn, hkk, List.length_append]; omega]
    exact this
  have C25 : Hid (Calls Try.prog 25 #[.pointer (some ⟨k.O, 0, none⟩)] w0 fun e w' => e = .returned (.int .i64 ((nh : Int) + kk)) ∧ w' = w0) := by
    have := h'.sys.lenH
    have hl := congrArg List.length h.gr
    simp at hl
    rw [show ((nh : Int) + kk) = ((hs ++ hs').length : Int) by simp [hnh, hkk, hl]]
    exact this
  have hkn : kk ≤ n := by simp at hn; omega
  have n28 := Try.run_neq28
  have n66 := Try.run_neq66
  have HW0 : Hid (w0 = w.alloc (.cells #[.int .i64 sp, .string id] 28)) := hw0
  clear h h' hb0 hk hnh hn hkk hw0
  unfold Ky
  go_enter Try.func17, Try.ntmps17
  go_wp2_with fail
  rw [← HW0.out]
  refine C15.out.mono ?_
  rintro e w1 ⟨rfl, hw1⟩
  rw [hw1]
  clear hw1 w1
  go_wp2_with fail
  refine C25.out.mono ?_
  rintro e w2 ⟨rfl, hw2⟩
  rw [hw2]
  clear hw2 w2
  go_wp2_with fail
  go_loopw [17, 18] (fun i _ wr => ∃ j : Nat, j ≤ nh ∧ i = .int .i64 j ∧ Below w0.heap.size w0 wr) (fun i _ _ => nh - (intOf i).toNat)
  case atStart => exact ⟨0, Nat.zero_le _, rfl, Below.refl _ _⟩
  case round =>
    obtain ⟨j, hj, rfl, hbw⟩ := hrel
    by_cases hlt : j < nh
    · obtain ⟨bh, oh, hah, hbh, hch⟩ := (SX.out wr hbw).rh (by have := HN.out.1; omega)
      obtain ⟨bt, ot, hat, hbt, hct⟩ := (SX.out wr hbw).rt (by have := HN.out.1; omega)
      subst hah hat
      have e1 : wr.cell? ⟨bh, oh + j, none⟩ = some (.int .u8 (hs.getD j h0).m) := hch j (by have := HN.out.1; omega)
      have e2 : wr.cell? ⟨bt, ot + j, none⟩ = some (.pointer (some ⟨(hs.getD j h0).T, 0, none⟩)) := hct j (by have := HN.out.1; omega)
      obtain ⟨T, hT⟩ : ∃ T, T = (hs.getD j h0).T := ⟨_, rfl⟩
      obtain ⟨m, hm⟩ : ∃ m, m = (hs.getD j h0).m := ⟨_, rfl⟩
      have OK : Hid (∀ W, Below w0.heap.size w0 W → HolderOk W k sp id T m) := fun W hb => by
        rw [hT, hm]
        refine (SX.out W hb).sys.holderOk (List.mem_append_left _ ?_)
        have hl : j < hs.length := by have := HN.out.1; omega
        rw [List.getD_eq_getElem?_getD, List.getElem?_eq_getElem hl]
        exact List.getElem_mem hl
      rw [← hm] at e1
      rw [← hT] at e2
      have DN : Hid (∀ n, Below w0.heap.size w0 (wr.drewN n)) := fun n => ⟨hbw.os, hbw.tape, hbw.output, hbw.size, hbw.block⟩
      clear hch hct hT hm hbh hbt hbw
      go_wp2_with fail
      go_quiet (first
        | (go_at_call 26; exact Calls.quiet_of_same (OK.out _ (DN.out _)).c26)
        | (go_at_call 27; exact Calls.quiet_of_same (OK.out _ (DN.out _)).c27))
      obtain ⟨W, hW⟩ : ∃ W, W = wr.drewN nq := ⟨_, rfl⟩
      have hbW : Below w0.heap.size w0 W := by rw [hW]; exact DN.out nq
      rw [← hW]
      clear hW e1 e2
      obtain ⟨k0, k1⟩ := KX.out W hbW
      have hbD : Below w0.heap.size w0 W.drew := hbW.drew
      have HBW : Hid (Below w0.heap.size w0 W ∧ Below w0.heap.size w0 W.drew) := ⟨hbW, hbD⟩
      clear hbW hbD
      go_wp2_with fail
      go_region_held3 (fun x => x.cell? ⟨w.heap.size, 0, none⟩ = some (.int .i64 sp) ∧ x.cell? ⟨w.heap.size, 1, none⟩ = some (.string id))
        (first
          | exact KX.out _ hb2
          | exact KX.out _ HBW.out.1
          | exact KX.out _ HBW.out.2)
        ((first
          | (go_at_call 28; refine (OK.out _ HBW.out.2).c28.mono ?_; rintro e W' ⟨rfl, hW'⟩; subst hW')
          | (go_at_call 29; refine (OK.out _ HBW.out.2).c29.mono ?_; rintro e W' ⟨rfl, hb1⟩; have hb2 : Below w0.heap.size w0 W' := HBW.out.2.trans (hb1.mono HBW.out.2.size))))
      all_goals
        have HB2 : Hid (Below w0.heap.size w0 W') := hb2
        clear hb1 hb2 k0 k1
        go_wp2
        go_roundw
        case rel => exact ⟨j + 1, by omega, by go_num, HB2.out⟩
        case measure => simp [intOf]; omega
    · have hjn : j = nh := by omega
      subst hjn
      obtain ⟨w3, hw3⟩ : ∃ w3, w3 = wr := ⟨_, rfl⟩
      rw [← hw3] at hbw ⊢
      clear hw3 wr hlt hj
      go_wp2_with fail
      go_loopw [19, 20, 21] (fun i _ _ wr => ∃ j : Nat, j ≤ n ∧ i = .int .i64 j ∧ Below w0.heap.size w0 wr) (fun i _ _ _ => n - (intOf i).toNat)
      case atStart => exact ⟨0, Nat.zero_le _, rfl, hbw⟩
      case round =>
        clear hbw
        obtain ⟨i, hi, rfl, hbw⟩ := hrel
        by_cases hlt : i < n
        · obtain ⟨bh, oh, hah, hbh, hch⟩ := (SX.out wr hbw).rq (by have := HN.out.2.1; omega)
          obtain ⟨bt, ot, hat, hbt, hct⟩ := (SX.out wr hbw).rr (by have := HN.out.2.1; omega)
          subst hah hat
          have e1 : wr.cell? ⟨bh, oh + i, none⟩ = some (.int .u8 ((ds ++ qs).getD i r0).m) := hch i (by have := HN.out.2.1; omega)
          have e2 : wr.cell? ⟨bt, ot + i, none⟩ = some (.pointer (some ⟨((ds ++ qs).getD i r0).R, 0, none⟩)) := hct i (by have := HN.out.2.1; omega)
          have GK : Hid (∀ W, Below w0.heap.size w0 W → i < kk → GrantOk W k sp id ((ds ++ qs).getD i r0).R ((ds ++ qs).getD i r0).T ((ds ++ qs).getD i r0).m) := fun W hb hik => (SX.out W hb).grantOk (by have := HN.out.2.2; omega)
          have WK : Hid (∀ W, Below w0.heap.size w0 W → kk ≤ i → WaitOk W k ((i : Int) - (kk : Int)) ((ds ++ qs).getD i r0).R ((ds ++ qs).getD i r0).T) := fun W hb hik => by
            have := (SX.out W hb).waitOk (j := i) (by have := HN.out.2.2; omega) (by have := HN.out.2.1; omega)
            rw [← HN.out.2.2] at this
            exact this
          generalize ((ds ++ qs).getD i r0).R = R at *
          generalize ((ds ++ qs).getD i r0).T = T at *
          generalize ((ds ++ qs).getD i r0).m = m at *
          have DN : Hid (∀ n, Below w0.heap.size w0 (wr.drewN n)) := fun n => ⟨hbw.os, hbw.tape, hbw.output, hbw.size, hbw.block⟩
          have HBR : Hid (Below w0.heap.size w0 wr) := hbw
          clear hch hct hbh hbt hbw
          by_cases hik : i < kk
          · have OK : Hid (∀ W, Below w0.heap.size w0 W → GrantOk W k sp id R T m) := fun W hb => GK.out W hb hik
            clear GK WK
            go_wp2_with fail
            refine (OK.out _ HBR.out).c30.mono ?_
            rintro e W1 ⟨rfl, hW1⟩
            subst hW1
            go_wp2_with fail
            go_quiet (first
              | (go_at_call 26; exact Calls.quiet_of_same (OK.out _ (DN.out _)).hold.c26)
              | (go_at_call 31; exact Calls.quiet_of_same (OK.out _ (DN.out _)).c31)
              | (go_at_call 27; exact Calls.quiet_of_same (OK.out _ (DN.out _)).hold.c27))
            obtain ⟨W, hW⟩ : ∃ W, W = W1.drewN nq := ⟨_, rfl⟩
            have hbW : Below w0.heap.size w0 W := by rw [hW]; exact DN.out nq
            rw [← hW]
            clear hW e1 e2
            obtain ⟨k0, k1⟩ := KX.out W hbW
            have hbD : Below w0.heap.size w0 W.drew := hbW.drew
            have HBW : Hid (Below w0.heap.size w0 W ∧ Below w0.heap.size w0 W.drew) := ⟨hbW, hbD⟩
            clear hbW hbD
            go_wp2_with fail
            go_region_held3 (fun x => x.cell? ⟨w.heap.size, 0, none⟩ = some (.int .i64 sp) ∧ x.cell? ⟨w.heap.size, 1, none⟩ = some (.string id))
              (first
                | exact KX.out _ hb2
                | exact KX.out _ HBW.out.1
                | exact KX.out _ HBW.out.2)
              ((first
                | (go_at_call 28; refine (OK.out _ HBW.out.2).hold.c28.mono ?_; rintro e W' ⟨rfl, hW'⟩; subst hW')
                | (go_at_call 29; refine (OK.out _ HBW.out.2).hold.c29.mono ?_; rintro e W' ⟨rfl, hb1⟩; have hb2 : Below w0.heap.size w0 W' := HBW.out.2.trans (hb1.mono HBW.out.2.size))))
            all_goals
              have HB2 : Hid (Below w0.heap.size w0 W') := hb2
              clear hb1 hb2 k0 k1
              go_wp2
              go_roundw
              case rel => exact ⟨i + 1, by omega, by go_num, HB2.out⟩
              case measure => simp [intOf]; omega
          · have OK : Hid (WaitOk wr k ((i : Int) - (kk : Int)) R T) := WK.out _ HBR.out (by omega)
            clear GK WK
            go_wp2_with fail
            refine OK.out.c30.mono ?_
            rintro e W1 ⟨rfl, hW1⟩
            rw [hW1]
            clear hW1 W1
            go_wp2_with fail
            refine OK.out.c32.mono ?_
            rintro e W1 ⟨rfl, hW1⟩
            rw [hW1]
            clear hW1 W1
            go_wp2_with fail
            refine OK.out.c31.mono ?_
            rintro e W1 ⟨rfl, hW1⟩
            rw [hW1]
            clear hW1 W1
            go_wp2_with fail
            refine OK.out.c27.mono ?_
            rintro e W1 ⟨rfl, hW1⟩
            rw [hW1]
            clear hW1 W1
            go_wp2_with fail
            refine OK.out.c26.mono ?_
            rintro e W1 ⟨rfl, hW1⟩
            rw [hW1]
            clear hW1 W1
            go_wp2_with fail
            refine OK.out.c28.mono ?_
            rintro e W1 ⟨rfl, hW1⟩
            rw [hW1]
            clear hW1 W1
            go_wp2
            go_roundw
            case rel => exact ⟨i + 1, by omega, by go_num, HBR.out⟩
            case measure => simp [intOf]; omega
        · go_wp2
          go_ret
          exact ⟨rfl, HB0.out.1.trans (hbw.mono HB0.out.2)⟩

end Go.Proofs.Qxb6613396a
