/-
  THE SHELL OF A PROOF OF 'Rows.FnTwoDigitsAgreesWithScanNumeralAndOrderSaid' ('example.com/jetway/jetway/zzlaws_internal_textcast_b1.FnTwoDigitsAgreesWithScanNumeralAndOrder'), WRITTEN BY PROGRAM (proof-skeleton.mjs) off the guide's own print for that function. Not trusted: Lean checks it.
  The hole is filled.
-/
import Derived.Test.Qxb6613460aRows
import Derived.Test.Qxb6613460aTwo
import Derived.WalkKit
import Derived.ProofKit
import Derived.OpenShut
import Derived.ShutString
namespace Go.Proofs.Qxb6613460a.fnTwoDigitsAgreesWithScanNumeralAndOrder
open Go.ChangeShapes Go.WideShapes Go.ChangeAt Go.RowKit
open Go.ChangeMaps (open_string shut_string)
set_option linter.unusedVariables false      -- a walk need not use every 'w<i>' (that an integer argument fits its kind)

theorem own : ownKnob Try.prog.godebug = none := by kernel_rfl

theorem grown_drewN {a w : World} (h : Grown a w) : ∀ q, Grown a (w.drewN q)
  | 0 => h
  | q + 1 => (grown_drewN h q).drew

theorem two_bytes (s : ByteArray) (h : s.size = 2) : ∃ c d, s = ⟨#[c, d]⟩ := by
  obtain ⟨⟨l⟩⟩ := s
  have hl : l.length = 2 := h
  match l, hl with
  | [c, d], _ => exact ⟨c, d, rfl⟩

/-! ### STEP 1: THE WALK -/
theorem walk (a0 : ByteArray) (a1 : ByteArray) (w0 : a0.size ≤ maxLen) (w1 : a1.size ≤ maxLen) (w : World) :
    Calls Try.prog 3 #[.string a0, .string a1] w fun e w' => e = .returned (.bool true) ∧ Grown w w' := by
  by_cases h : a0.size = 2 ∧ a1.size = 2
  · obtain ⟨c, d, rfl⟩ := two_bytes a0 h.1
    obtain ⟨e, f, rfl⟩ := two_bytes a1 h.2
    by_cases h1 : (digB c && digB d) = true
    · by_cases h2 : (digB e && digB f) = true
      · rw [Bool.and_eq_true] at h1 h2
        have hc := of_decide_eq_true h1.1
        have hd := of_decide_eq_true h1.2
        have he := of_decide_eq_true h2.1
        have hf := of_decide_eq_true h2.2
        refine (digits_main c d e f w hc.1 hc.2 hd.1 hd.2 he.1 he.2 hf.1 hf.2).mono fun _ w' ⟨g1, q, g2⟩ => ⟨g1, ?_⟩
        rw [g2]
        exact grown_drewN (Grown.refl _) q
      · refine (notdig c d e f w (.inr ⟨h1, by simpa using h2⟩)).mono fun _ w' ⟨g1, g2⟩ => ⟨g1, ?_⟩
        rw [g2]
        exact Grown.refl _
    · refine (notdig c d e f w (.inl (by simpa using h1))).mono fun _ w' ⟨g1, g2⟩ => ⟨g1, ?_⟩
      rw [g2]
      exact Grown.refl _
  · refine (early a0 a1 w w0 w1 h).mono fun _ w' ⟨g1, g2⟩ => ⟨g1, ?_⟩
    rw [g2]
    exact Grown.refl _

/-! ### THE ROW's STEP: WRITTEN OUT: LEAVE IT -/
set_option maxRecDepth 100000 in
theorem lifted (os : Os) (started : os.Started) (H : Type) (enc : TypeId × Value → H) :
    ReturnsInHanded {} Try.checked os 3 .any (Rows.fnTwoDigitsAgreesWithScanNumeralAndOrderSpec.pre6 enc Try.prog Try.f3 Rows.fnTwoDigitsAgreesWithScanNumeralAndOrderRow.domain false) (Rows.fnTwoDigitsAgreesWithScanNumeralAndOrderSpec.post enc Try.prog Try.f3 false true false false) := by
  refine returnsInHanded_of_change (C := Try.checked) own started (by kernel_rfl) Try.func3
    (ChangeSpec.witness6 (enc := enc) (C := Try.checked) false ⟨#[], #[.string ByteArray.empty, .string ByteArray.empty], []⟩ 8 (by kernel_rfl) (by kernel_rfl) (by kernel_rfl) (by kernel_rfl)) ?_
  intro W base args ds gs before hval0 hW hcnd _
  have hval : ∀ (j : Nat) t v, Try.f3.params[j]? = some t → args[j]? = some v → Value.okWide Try.prog W .any base t v := hval0
  have hW' := hW
  obtain ⟨p, q, hA0, hV, rfl, hfz, hnd⟩ := hW
  have hA : DataW.TrodAll enc Try.prog W 0 (fun _ => true) true Try.f3.params.toList args.toList ds p := hA0
  rw [Try.params3] at hA hval
  obtain ⟨v0, vs0, d0, ds0, p0, q0, hargs, rfl, rfl, h0, r0⟩ := trodAll_cons hA
  obtain ⟨v1, vs1, d1, ds1, p1, q1, rfl, rfl, rfl, h1, r1⟩ := trodAll_cons r0
  obtain ⟨rfl, rfl, rfl⟩ := trodAll_nil r1
  obtain rfl : args = #[v0, v1] := by cases args; simp_all
  obtain ⟨rfl, rfl⟩ := trodVars_none hV
  obtain ⟨a0, rfl, rfl, rfl, w0⟩ := open_string Try.underlying9 (hval 0 9 v0 rfl rfl) h0
  obtain ⟨a1, rfl, rfl, rfl, w1⟩ := open_string Try.underlying9 (hval 1 9 v1 rfl rfl) h1
  clear hA0 hval0
  simp only [List.append_nil] at hW'
  refine (walk a0 a1 w0 w1 W).mono fun e W' ⟨he, hg⟩ => ?_
  subst he
  exact ⟨_, rfl, post_of_same (pa := []) (pv := []) hW' (fun _ _ _ => (trodAll_cons_mk (shut_bool Try.underlying4 _) trodAll_mk0)) (fun sp _ => (trodAll_cons_mk (shut_string Try.underlying9 w0) (trodAll_cons_mk (shut_string Try.underlying9 w1) trodAll_mk0))) (fun _ _ => rfl) rfl
    (hg.frame _) hg.2.1 (ok_one (by kernel_rfl) rfl (okWide_bool_mk Try.underlying4 _))⟩

theorem over : Rows.fnTwoDigitsAgreesWithScanNumeralAndOrderRow.holds Try.pinned (OpenSpec.ofChange Rows.fnTwoDigitsAgreesWithScanNumeralAndOrderSpec) :=
  OpenClaim.holds_of_wide 3 Try.f3 rfl rfl rfl rfl rfl rfl rfl ⟨rfl, rfl, rfl, rfl, rfl⟩ rfl rfl rfl rfl rfl (by kernel_rfl) Try.func3 (by kernel_rfl)
    (of_decide_eq_true (by kernel_rfl)) (by unfold Func.isWrapper; first | (rw [if_pos (by decide +kernel)]; kernel_rfl) | (rw [if_neg (by decide +kernel)]; exact ⟨rfl, rfl⟩))
    (fun os started H enc _ => lifted os started H enc)

/-- ████ THE STATEMENT ████ -/
theorem proved : Rows.FnTwoDigitsAgreesWithScanNumeralAndOrderSaid :=
  over
#print axioms proved
end Go.Proofs.Qxb6613460a.fnTwoDigitsAgreesWithScanNumeralAndOrder
