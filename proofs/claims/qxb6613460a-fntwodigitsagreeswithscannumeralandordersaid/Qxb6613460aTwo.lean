/- THE WALK OF FnTwoDigitsAgreesWithScanNumeralAndOrder. -/
import Derived.Test.Qxb6613460aRows
import Derived.WalkKit
import Derived.WalkLawsBesides
import Derived.WalkSpells
import Derived.Deep.QuietTactic
import Derived.BigQuiet
namespace Go.Proofs.Qxb6613460a
open Go.RowKit
set_option linter.unusedVariables false

def digB (c : UInt8) : Bool := decide (48 ≤ c.toNat ∧ c.toNat ≤ 57)

theorem isdig_calls (c : UInt8) (w : World) :
    Calls Try.prog 15 #[.int .u8 c.toNat] w fun e w' => e = .returned (.bool (digB c)) ∧ w' = w := by
  by_cases h1 : 48 ≤ c.toNat
  · by_cases h2 : c.toNat ≤ 57
    · have e : Hid (digB c = true) := decide_eq_true ⟨h1, h2⟩
      go_enter Try.func15, Try.ntmps15
      go_wp2
      go_ret
      exact ⟨by rw [e.out]; simp; omega, rfl⟩
    · have e : Hid (digB c = false) := decide_eq_false (by omega)
      go_enter Try.func15, Try.ntmps15
      go_wp2
      go_ret
      exact ⟨by rw [e.out]; simp; omega, rfl⟩
  · have e : Hid (digB c = false) := decide_eq_false (by omega)
    go_enter Try.func15, Try.ntmps15
    go_wp2
    go_ret
    exact ⟨by rw [e.out]; simp, rfl⟩

theorem isdig19_calls (c : UInt8) (w : World) (h1 : 48 ≤ c.toNat) (h2 : c.toNat ≤ 57) :
    Calls Try.prog 19 #[.int .u8 c.toNat] w fun e w' => e = .returned (.bool true) ∧ w' = w := by
  go_enter Try.func19, Try.ntmps19
  go_wp2
  go_ret
  exact ⟨by simp; omega, rfl⟩

theorem text_calls (c d : UInt8) (w : World) :
    Calls Try.prog 7 #[.string ⟨#[c, d]⟩] w fun e w' => e = .returned (.bool (digB c && digB d)) ∧ w' = w := by
  have C := isdig_calls c w
  have D := isdig_calls d w
  cases hc : digB c
  · rw [hc] at C
    clear D
    go_enter Try.func7, Try.ntmps7
    go_wp2_with fail
    refine C.mono ?_
    rintro e w1 ⟨rfl, rfl⟩
    go_wp2
    go_ret
    exact ⟨rfl, rfl⟩
  · rw [hc] at C
    obtain ⟨x, hx⟩ : ∃ x, x = digB d := ⟨_, rfl⟩
    rw [← hx] at D
    rw [← hx]
    clear hx
    go_enter Try.func7, Try.ntmps7
    go_wp2_with fail
    refine C.mono ?_
    rintro e w1 ⟨rfl, rfl⟩
    go_wp2_with fail
    refine D.mono ?_
    rintro e w1 ⟨rfl, rfl⟩
    go_wp2
    go_ret
    exact ⟨by simp, rfl⟩

theorem two_calls (c d : UInt8) (w : World) (h1 : 48 ≤ c.toNat) (h2 : c.toNat ≤ 57) (h3 : 48 ≤ d.toNat) (h4 : d.toNat ≤ 57) :
    Calls Try.prog 8 #[.string ⟨#[c, d]⟩] w fun e w' => e = .returned (.int .i64 (((c.toNat : Int) - 48) * 10 + ((d.toNat : Int) - 48))) ∧ ∃ q, w' = w.drewN q := by
  have g0 : (ByteArray.mk #[c, d])[0]'(Nat.zero_lt_succ 1) = c := rfl
  have g1 : (ByteArray.mk #[c, d])[1]'(Nat.lt_succ_self 1) = d := rfl
  go_enter Try.func8, Try.ntmps8
  go_wp2
  go_quiet (fail)
  go_wp2
  go_ret
  exact ⟨rfl, _, rfl⟩

set_option maxHeartbeats 400000 in
theorem scan_calls (c d : UInt8) (m : Int) (w : World) (h1 : 48 ≤ c.toNat) (h2 : c.toNat ≤ 57) (h3 : 48 ≤ d.toNat) (h4 : d.toNat ≤ 57) (hm : (m == 0) = true ∨ ((m == 0) = false ∧ m = 2)) :
    Calls Try.prog 17 #[.string ⟨#[c, d]⟩, .int .i64 m] w fun e w' => e = .returned (.tuple #[.int .i64 (((c.toNat : Int) - 48) * 10 + ((d.toNat : Int) - 48)), .string ⟨#[]⟩, .bool true]) ∧ ∃ q, w' = w.drewN q := by
  have g0 : (ByteArray.mk #[c, d])[0]'(Nat.zero_lt_succ 1) = c := rfl
  have g1 : (ByteArray.mk #[c, d])[1]'(Nat.lt_succ_self 1) = d := rfl
  rcases hm with hm | ⟨hm, hm2⟩
  · go_enter Try.func17, Try.ntmps17
    go_wp2
    refine wp_loop_rounds 3 ?_
    rw [rounds_succ]
    go_wp2_with (go_at_call 19; refine (isdig19_calls c _ h1 h2).mono ?_; rintro e w1 ⟨rfl, rfl⟩)
    rw [rounds_succ]
    go_wp2_with (go_at_call 19; refine (isdig19_calls d _ h3 h4).mono ?_; rintro e w1 ⟨rfl, rfl⟩)
    rw [rounds_succ]
    go_wp2
    go_quiet (fail)
    go_wp2
    go_ret3
    exact ⟨rfl, _, rfl⟩
  · subst hm2
    go_enter Try.func17, Try.ntmps17
    go_wp2
    refine wp_loop_rounds 3 ?_
    rw [rounds_succ]
    go_wp2_with (go_at_call 19; refine (isdig19_calls c _ h1 h2).mono ?_; rintro e w1 ⟨rfl, rfl⟩)
    rw [rounds_succ]
    go_wp2_with (go_at_call 19; refine (isdig19_calls d _ h3 h4).mono ?_; rintro e w1 ⟨rfl, rfl⟩)
    rw [rounds_succ]
    go_wp2
    go_quiet (fail)
    go_wp2
    go_ret3
    exact ⟨rfl, _, rfl⟩

def val (c d : UInt8) : Int := ((c.toNat : Int) - 48) * 10 + ((d.toNat : Int) - 48)

theorem zscan_calls (c d : UInt8) (m : Int) (w : World) (h1 : 48 ≤ c.toNat) (h2 : c.toNat ≤ 57) (h3 : 48 ≤ d.toNat) (h4 : d.toNat ≤ 57) (hm : (m == 0) = true ∨ ((m == 0) = false ∧ m = 2)) :
    Calls Try.prog 9 #[.string ⟨#[c, d]⟩, .int .i64 m] w fun e w' => e = .returned (.tuple #[.int .i64 (val c d), .string ⟨#[]⟩, .bool true]) ∧ ∃ q, w' = w.drewN q := by
  have C := scan_calls c d m w h1 h2 h3 h4 hm
  rw [show ((c.toNat : Int) - 48) * 10 + ((d.toNat : Int) - 48) = val c d from rfl] at C
  obtain ⟨v, hv⟩ : ∃ v, v = val c d := ⟨_, rfl⟩
  rw [← hv] at C
  rw [← hv]
  have HC : Hid (Calls Try.prog 17 #[.string ⟨#[c, d]⟩, .int .i64 m] w fun e w' => e = .returned (.tuple #[.int .i64 v, .string ⟨#[]⟩, .bool true]) ∧ ∃ q, w' = w.drewN q) := C
  clear C hv hm
  go_enter Try.func9, Try.ntmps9
  go_wp2_with fail
  refine HC.out.mono ?_
  rintro e w1 ⟨rfl, q, rfl⟩
  go_wp2
  go_ret3
  exact ⟨rfl, _, rfl⟩

theorem bytes_calls (s t : ByteArray) (w : World) (hs : s.size ≤ maxLen) (ht : t.size ≤ maxLen) :
    Calls Try.prog 6 #[.string s, .string t] w fun e w' => (∃ b : Bool, e = .returned (.bool b)) ∧ w' = w := by
  unfold maxLen at hs ht
  by_cases k2 : s.size ≤ 1048576
  · by_cases k3 : t.size ≤ 1048576
    · by_cases k4 : s.size + t.size ≤ 1048576
      all_goals (go_enter Try.func6, Try.ntmps6; go_wp2; go_ret; exact ⟨⟨_, rfl⟩, rfl⟩)
    · go_enter Try.func6, Try.ntmps6; go_wp2; go_ret; exact ⟨⟨_, rfl⟩, rfl⟩
  · go_enter Try.func6, Try.ntmps6; go_wp2; go_ret; exact ⟨⟨_, rfl⟩, rfl⟩

theorem early (s t : ByteArray) (w : World) (hs : s.size ≤ maxLen) (ht : t.size ≤ maxLen) (h : ¬ (s.size = 2 ∧ t.size = 2)) :
    Calls Try.prog 3 #[.string s, .string t] w fun e w' => e = .returned (.bool true) ∧ w' = w := by
  have B := bytes_calls s t w hs ht
  unfold maxLen at hs ht
  by_cases k : ((s.size : Int) != 2) = true
  · clear h
    go_enter Try.func3, Try.ntmps3
    go_wp2_with fail
    refine B.mono ?_
    rintro e w' ⟨⟨b, rfl⟩, rfl⟩
    cases b
    all_goals (go_wp2; go_ret; exact ⟨rfl, rfl⟩)
  · have k' : ((s.size : Int) != 2) = false := by simpa using k
    have hk : s.size = 2 := by
      have : (s.size : Int) = 2 := by simpa using k'
      omega
    have k2 : ((t.size : Int) != 2) = true := by
      rw [bne_iff_ne]
      intro e
      exact h ⟨hk, by omega⟩
    clear h k hk
    go_enter Try.func3, Try.ntmps3
    go_wp2_with fail
    refine B.mono ?_
    rintro e w' ⟨⟨b, rfl⟩, rfl⟩
    cases b
    all_goals (go_wp2; go_ret; exact ⟨rfl, rfl⟩)

theorem notdig (c d e f : UInt8) (w : World) (h : (digB c && digB d) = false ∨ ((digB c && digB d) = true ∧ (digB e && digB f) = false)) :
    Calls Try.prog 3 #[.string ⟨#[c, d]⟩, .string ⟨#[e, f]⟩] w fun e w' => e = .returned (.bool true) ∧ w' = w := by
  have B := bytes_calls ⟨#[c, d]⟩ ⟨#[e, f]⟩ w (by show 2 ≤ maxLen; unfold maxLen; omega) (by show 2 ≤ maxLen; unfold maxLen; omega)
  have C := text_calls c d w
  have D := text_calls e f w
  rcases h with h | ⟨h, h'⟩
  · rw [h] at C
    clear h D
    go_enter Try.func3, Try.ntmps3
    go_wp2_with fail
    refine B.mono ?_
    rintro e w' ⟨⟨b, rfl⟩, rfl⟩
    cases b
    · go_wp2; go_ret; exact ⟨rfl, rfl⟩
    · go_wp2_with fail
      refine C.mono ?_
      rintro e w' ⟨rfl, rfl⟩
      go_wp2; go_ret; exact ⟨rfl, rfl⟩
  · rw [h] at C
    rw [h'] at D
    clear h h'
    go_enter Try.func3, Try.ntmps3
    go_wp2_with fail
    refine B.mono ?_
    rintro e w' ⟨⟨b, rfl⟩, rfl⟩
    cases b
    · go_wp2; go_ret; exact ⟨rfl, rfl⟩
    · go_wp2_with fail
      refine C.mono ?_
      rintro e w' ⟨rfl, rfl⟩
      go_wp2_with fail
      refine D.mono ?_
      rintro e w' ⟨rfl, rfl⟩
      go_wp2; go_ret; exact ⟨rfl, rfl⟩

theorem less_val (c d e f : UInt8) (h1 : 48 ≤ c.toNat) (h2 : c.toNat ≤ 57) (h3 : 48 ≤ d.toNat) (h4 : d.toNat ≤ 57) (h5 : 48 ≤ e.toNat) (h6 : e.toNat ≤ 57) (h7 : 48 ≤ f.toNat) (h8 : f.toNat ≤ 57) :
    Op.bytesLess [c, d] [e, f] = decide (val c d < val e f) := by
  unfold val
  simp only [Op.bytesLess, UInt8.lt_iff_toNat_lt]
  rw [Bool.eq_iff_iff]
  simp only [Bool.or_eq_true, Bool.and_eq_true, decide_eq_true_eq, beq_iff_eq, ← UInt8.toNat_inj, Bool.false_eq_true, and_false, or_false]
  omega

theorem same_val (c d e f : UInt8) (h1 : 48 ≤ c.toNat) (h2 : c.toNat ≤ 57) (h3 : 48 ≤ d.toNat) (h4 : d.toNat ≤ 57) (h5 : 48 ≤ e.toNat) (h6 : e.toNat ≤ 57) (h7 : 48 ≤ f.toNat) (h8 : f.toNat ≤ 57) :
    ((c == e && d == f) == (val c d == val e f)) = true := by
  rw [beq_iff_eq, Bool.eq_iff_iff]
  simp only [Bool.and_eq_true, beq_iff_eq, ← UInt8.toNat_inj]
  unfold val
  omega

set_option maxHeartbeats 1000000 in
theorem digits_main (c d e f : UInt8) (w : World) (h1 : 48 ≤ c.toNat) (h2 : c.toNat ≤ 57) (h3 : 48 ≤ d.toNat) (h4 : d.toNat ≤ 57) (h5 : 48 ≤ e.toNat) (h6 : e.toNat ≤ 57) (h7 : 48 ≤ f.toNat) (h8 : f.toNat ≤ 57) :
    Calls Try.prog 3 #[.string ⟨#[c, d]⟩, .string ⟨#[e, f]⟩] w fun e w' => e = .returned (.bool true) ∧ ∃ q, w' = w.drewN q := by
  have B := bytes_calls ⟨#[c, d]⟩ ⟨#[e, f]⟩ w (by show 2 ≤ maxLen; unfold maxLen; omega) (by show 2 ≤ maxLen; unfold maxLen; omega)
  have C := text_calls c d w
  have D := text_calls e f w
  rw [show digB c = true from decide_eq_true ⟨h1, h2⟩, show digB d = true from decide_eq_true ⟨h3, h4⟩] at C
  rw [show digB e = true from decide_eq_true ⟨h5, h6⟩, show digB f = true from decide_eq_true ⟨h7, h8⟩] at D
  have E := fun w => two_calls c d w h1 h2 h3 h4
  have F := fun w => two_calls e f w h5 h6 h7 h8
  have G := fun w => zscan_calls c d 2 w h1 h2 h3 h4 (.inr ⟨rfl, rfl⟩)
  have H := fun w => zscan_calls c d 0 w h1 h2 h3 h4 (.inl rfl)
  have ev : ((c.toNat : Int) - 48) * 10 + ((d.toNat : Int) - 48) = val c d := rfl
  have ev' : ((e.toNat : Int) - 48) * 10 + ((f.toNat : Int) - 48) = val e f := rfl
  rw [ev] at E
  rw [ev'] at F
  obtain ⟨x, hx⟩ : ∃ x, x = val c d := ⟨_, rfl⟩
  obtain ⟨y, hy⟩ : ∃ y, y = val e f := ⟨_, rfl⟩
  rw [← hx] at E G H
  rw [← hy] at F
  clear ev ev'
  have HE : Hid (∀ w, Calls Try.prog 8 #[.string ⟨#[c, d]⟩] w fun e w' => e = .returned (.int .i64 x) ∧ ∃ q, w' = w.drewN q) := E
  have HF : Hid (∀ w, Calls Try.prog 8 #[.string ⟨#[e, f]⟩] w fun e w' => e = .returned (.int .i64 y) ∧ ∃ q, w' = w.drewN q) := F
  have HG : Hid (∀ w, Calls Try.prog 9 #[.string ⟨#[c, d]⟩, .int .i64 2] w fun e w' => e = .returned (.tuple #[.int .i64 x, .string ⟨#[]⟩, .bool true]) ∧ ∃ q, w' = w.drewN q) := G
  have HH : Hid (∀ w, Calls Try.prog 9 #[.string ⟨#[c, d]⟩, .int .i64 0] w fun e w' => e = .returned (.tuple #[.int .i64 x, .string ⟨#[]⟩, .bool true]) ∧ ∃ q, w' = w.drewN q) := H
  clear E F G H
  have HX : Hid (x = val c d) := hx
  have HY : Hid (y = val e f) := hy
  clear hx hy
  go_enter Try.func3, Try.ntmps3
  go_wp2_with fail
  refine B.mono ?_
  rintro _ w' ⟨⟨b, rfl⟩, rfl⟩
  cases b
  · go_wp2; go_ret; exact ⟨rfl, 0, rfl⟩
  go_wp2_with fail
  refine C.mono ?_
  rintro _ w' ⟨rfl, rfl⟩
  go_wp2_with fail
  refine D.mono ?_
  rintro _ w' ⟨rfl, rfl⟩
  clear B C D
  go_wp2_with fail
  refine (HE.out _).mono ?_
  rintro _ w1 ⟨rfl, q1, rfl⟩
  go_wp2_with fail
  refine (HF.out _).mono ?_
  rintro _ w1 ⟨rfl, q2, rfl⟩
  go_wp2_with fail
  refine (HG.out _).mono ?_
  rintro _ w1 ⟨rfl, q3, rfl⟩
  go_wp2_with fail
  refine (HH.out _).mono ?_
  rintro _ w1 ⟨rfl, q4, rfl⟩
  go_wp2
  · go_ret
    refine ⟨?_, _, rfl⟩
    show Ending.returned (.bool ((c == e && d == f) == (x == y))) = _
    rw [HX.out, HY.out, same_val c d e f h1 h2 h3 h4 h5 h6 h7 h8]
  · have hne : ¬ Op.bytesLess [c, d] [e, f] = decide (x < y) := by assumption
    exact absurd (by rw [HX.out, HY.out]; exact less_val c d e f h1 h2 h3 h4 h5 h6 h7 h8) hne

end Go.Proofs.Qxb6613460a
