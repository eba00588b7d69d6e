/- modesOK, setCompatible, greatestPrefix, zzBytes; the requests that go ahead -/
import Derived.Test.Qxb6613396aBooks
namespace Go.Proofs.Qxb6613396a
open Go.RowKit
set_option linter.unusedVariables false

/-- may these locks all stand at once? -/
def Sc (l : List Int) : Prop := (∀ m ∈ l, m ≠ 2) ∨ l.length ≤ 1
def scB (l : List Int) : Bool := l.all (fun m => !(m == 2)) || decide (l.length ≤ 1)
theorem scB_iff (l : List Int) : scB l = true ↔ Sc l := by
  unfold scB Sc
  simp
theorem scB_not {l : List Int} (h : ¬ Sc l) : scB l = false := by
  cases hb : scB l
  · rfl
  · exact absurd ((scB_iff l).1 hb) h

theorem okM_true {ms : List Int} {m : Int} (h : okM ms m = true) : ms = [] ∨ (m ≠ 2 ∧ ∀ a ∈ ms, a ≠ 2) := by
  cases ms with
  | nil => exact .inl rfl
  | cons b r =>
    refine .inr ?_
    unfold okM at h
    rw [List.all_eq_true] at h
    have h1 := h b (by simp)
    simp at h1
    refine ⟨h1.1, fun a ha => ?_⟩
    have h2 := h a ha
    simp at h2
    exact h2.2
theorem okM_false {ms : List Int} {m : Int} (h : okM ms m = false) : ms ≠ [] ∧ (m = 2 ∨ ∃ a ∈ ms, a = 2) := by
  unfold okM at h
  rw [List.all_eq_false] at h
  obtain ⟨a, ha, h1⟩ := h
  refine ⟨fun e => (by rw [e] at ha; cases ha), ?_⟩
  simp at h1
  by_cases hm : m = 2
  · exact .inl hm
  · exact .inr ⟨a, ha, h1 hm⟩

theorem gN_sc : ∀ (qs ms : List Int), Sc ms → Sc (ms ++ qs.take (gN ms qs)) ∧ (gN ms qs = qs.length ∨ ¬ Sc (ms ++ qs.take (gN ms qs + 1)))
  | [], ms, h => by simpa [gN] using h
  | m :: r, ms, h => by
    unfold gN
    cases hk : okM ms m with
    | true =>
      have h' : Sc (ms ++ [m]) := by
        rcases okM_true hk with rfl | ⟨h1, h2⟩
        · exact .inr (by simp)
        · refine .inl fun a ha => ?_
          rcases List.mem_append.1 ha with ha | ha
          · exact h2 a ha
          · simp at ha; rw [ha]; exact h1
      obtain ⟨i1, i2⟩ := gN_sc r (ms ++ [m]) h'
      simp only [if_true, List.take_succ_cons, List.length_cons]
      rw [show ∀ t, ms ++ m :: t = (ms ++ [m]) ++ t from fun t => by simp]
      refine ⟨i1, ?_⟩
      rcases i2 with i2 | i2
      · exact .inl (by omega)
      · refine .inr ?_
        rw [show ∀ t, ms ++ m :: t = (ms ++ [m]) ++ t from fun t => by simp]
        exact i2
    | false =>
      simp only [Bool.false_eq_true, if_false, List.take_zero, List.append_nil, Nat.zero_add]
      refine ⟨h, .inr ?_⟩
      obtain ⟨h1, h2⟩ := okM_false hk
      rintro (h3 | h3)
      · rcases h2 with h2 | ⟨a, ha, h2⟩
        · exact h3 m (by simp) h2
        · exact h3 a (by simp [ha]) h2
      · simp at h3
        exact h1 h3

/-- first then rest, or all at once -/
theorem gN_split : ∀ (fs rs ms : List Int), gN ms (fs ++ rs) = gN ms fs + gN (ms ++ fs.take (gN ms fs)) (fs.drop (gN ms fs) ++ rs)
  | [], rs, ms => by simp [gN]
  | f :: r, rs, ms => by
    simp only [List.cons_append, gN]
    cases hk : okM ms f with
    | true =>
      simp only [if_true, List.take_succ_cons, List.drop_succ_cons]
      have e : ms ++ f :: r.take (gN (ms ++ [f]) r) = (ms ++ [f]) ++ r.take (gN (ms ++ [f]) r) := by simp
      rw [gN_split r rs (ms ++ [f]), e]
      omega
    | false => simp [gN, hk]

def eN (ms : List Int) : Nat → Nat
  | 0 => 0
  | k + 1 => eN ms k + (if ms.getD k 0 = 2 then 1 else 0)
def sN (ms : List Int) : Nat → Nat
  | 0 => 0
  | k + 1 => sN ms k + (if ms.getD k 0 = 2 then 0 else 1)
theorem eN_sN (ms : List Int) : ∀ k, eN ms k + sN ms k = k
  | 0 => rfl
  | k + 1 => by
    have := eN_sN ms k
    unfold eN sN
    split <;> omega
theorem eN_zero (ms : List Int) : ∀ k, k ≤ ms.length → (eN ms k = 0 ↔ ∀ m ∈ ms.take k, m ≠ 2)
  | 0, _ => by simp [eN]
  | k + 1, hk => by
    have ih := eN_zero ms k (by omega)
    have hl : k < ms.length := by omega
    have hg : ms.getD k 0 = ms[k] := by rw [List.getD_eq_getElem?_getD, List.getElem?_eq_getElem hl]; rfl
    rw [List.take_add_one, List.getElem?_eq_getElem hl]
    unfold eN
    rw [hg]
    constructor
    · intro h m hm
      rcases List.mem_append.1 hm with hm | hm
      · exact ih.1 (by omega) m hm
      · simp at hm
        subst hm
        intro e
        rw [if_pos e] at h
        omega
    · intro h
      rw [if_neg (h _ (List.mem_append_right _ (by simp))), ih.2 (fun m hm => h m (List.mem_append_left _ hm))]

theorem sc_eq (ms qs : List Int) (k : Nat) (hk : k ≤ qs.length) : scB (ms ++ qs.take k) = (decide (eN ms ms.length + eN qs k = 0) || (decide (eN ms ms.length + eN qs k = 1) && decide (sN ms ms.length + sN qs k = 0))) := by
  have h1 := eN_sN ms ms.length
  have h2 := eN_sN qs k
  have z1 := eN_zero ms ms.length (Nat.le_refl _)
  have z2 := eN_zero qs k hk
  rw [List.take_length] at z1
  have : Sc (ms ++ qs.take k) ↔ (eN ms ms.length + eN qs k = 0 ∨ (eN ms ms.length + eN qs k = 1 ∧ sN ms ms.length + sN qs k = 0)) := by
    have hl : (ms ++ qs.take k).length = ms.length + k := by simp; omega
    constructor
    · rintro (h | h)
      · exact .inl (by rw [z1.2 (fun m hm => h m (by simp [hm])), z2.2 (fun m hm => h m (List.mem_append_right _ hm))])
      · rw [hl] at h; omega
    · rintro (h | h)
      · refine .inl fun m hm => ?_
        rcases List.mem_append.1 hm with hm | hm
        · exact z1.1 (by omega) m hm
        · exact z2.1 (by omega) m hm
      · exact .inr (by rw [hl]; omega)
  rw [← Bool.decide_and, ← Bool.decide_or, Bool.eq_iff_iff, scB_iff, this]
  simp

def Ms (w : World) (a : Option Addr) (n : Nat) (ms : List Int) : Prop := ms.length = n ∧ Rw w a n fun i => .int .u8 (ms.getD i 0)

/-- some bool -/
def ABool (e : Ending) : Prop := ∃ b, e = .returned (.bool b)

set_option maxRecDepth 20000 in
theorem modesOK_calls (a : Option Addr) (n c : Nat) (ms : List Int) (w : World) (hn : n ≤ 4096) (h : Ms w a n ms) : Calls Try.prog 6 #[.slice a n c] w fun e w' => ABool e ∧ w' = w := by
  have H : Hid (Ms w a n ms) := h
  clear h
  go_enter Try.func6, Try.ntmps6
  go_wp2
  go_loop [3] (fun i => ∃ k : Nat, k ≤ n ∧ i = .int .i64 k) (fun i => n - (intOf i).toNat)
  case atStart => exact ⟨0, Nat.zero_le _, rfl⟩
  case round =>
    obtain ⟨k, hk, rfl⟩ := hrel
    by_cases hlt : k < n
    · obtain ⟨b, o, ha, hb, hc⟩ := H.out.2 (by omega)
      subst ha
      have e1 : w.cell? ⟨b, o + k, none⟩ = some (.int .u8 (ms.getD k 0)) := hc k hlt
      generalize ms.getD k 0 = m at *
      clear hc hb
      by_cases h1 : m = 1
      · subst h1
        go_wp2
        go_round
        case rel => exact ⟨k + 1, by omega, by go_num⟩
        case measure => simp [intOf]; omega
      · by_cases h2 : m = 2
        · subst h2
          go_wp2
          go_round
          case rel => exact ⟨k + 1, by omega, by go_num⟩
          case measure => simp [intOf]; omega
        · have h1' : (m != 1) = true := by simpa using h1
          have h2' : (m != 2) = true := by simpa using h2
          go_wp2
          go_ret
          exact ⟨⟨_, rfl⟩, rfl⟩
    · go_wp2
      go_ret
      exact ⟨⟨_, rfl⟩, rfl⟩

/-- where the counts stand in setCompatible -/
theorem addI (a b : Nat) : ((a : Int) + b) = ((a + b : Nat) : Int) := by omega

set_option maxRecDepth 20000 in
set_option maxHeartbeats 800000 in
theorem setC_calls (a b : Option Addr) (n c m d k : Nat) (ms qs : List Int) (w : World) (hn : n ≤ 4096) (hm : m ≤ 4096) (hk : k ≤ m) (h1 : Ms w a n ms) (h2 : Ms w b m qs) :
    Calls Try.prog 7 #[.slice a n c, .slice b m d, .int .i64 k] w fun e w' => e = .returned (.bool (scB (ms ++ qs.take k))) ∧ w' = w := by
  have H1 : Hid (Ms w a n ms) := h1
  have H2 : Hid (Ms w b m qs) := h2
  have H3 : Hid (scB (ms ++ qs.take k) = (decide (eN ms n + eN qs k = 0) || (decide (eN ms n + eN qs k = 1) && decide (sN ms n + sN qs k = 0)))) := by
    have := sc_eq ms qs k (by rw [h2.1]; exact hk)
    rw [h1.1] at this
    exact this
  have be : ∀ j, eN ms j ≤ j ∧ sN ms j ≤ j := fun j => by have := eN_sN ms j; omega
  have bf : ∀ j, eN qs j ≤ j ∧ sN qs j ≤ j := fun j => by have := eN_sN qs j; omega
  have BE : Hid (∀ j, eN ms j ≤ j ∧ sN ms j ≤ j) := be
  have BF : Hid (∀ j, eN qs j ≤ j ∧ sN qs j ≤ j) := bf
  clear h1 h2 be bf
  go_enter Try.func7, Try.ntmps7
  go_wp2
  go_loop [7, 8, 9] (fun e s i => ∃ j ee ss : Nat, j ≤ n ∧ i = .int .i64 j ∧ e = .int .i64 ee ∧ s = .int .i64 ss ∧ Hid (ee = eN ms j ∧ ss = sN ms j)) (fun _ _ i => n - (intOf i).toNat)
  case atStart => exact ⟨0, 0, 0, Nat.zero_le _, rfl, rfl, rfl, ⟨rfl, rfl⟩⟩
  case round =>
    obtain ⟨j, ee, ss, hj, rfl, rfl, rfl, he⟩ := hrel
    have b1 : ee ≤ 4096 ∧ ss ≤ 4096 := by have := BE.out j; have := he.out.1; have := he.out.2; omega
    obtain ⟨b1, b2⟩ := b1
    by_cases hlt : j < n
    · obtain ⟨bb, o, ha, hb, hc⟩ := H1.out.2 (by omega)
      subst ha
      have e1 : w.cell? ⟨bb, o + j, none⟩ = some (.int .u8 (ms.getD j 0)) := hc j hlt
      have HE : Hid (eN ms (j + 1) = ee + (if ms.getD j 0 = 2 then 1 else 0) ∧ sN ms (j + 1) = ss + (if ms.getD j 0 = 2 then 0 else 1)) := by rw [he.out.1, he.out.2]; exact ⟨rfl, rfl⟩
      generalize ms.getD j 0 = x at *
      clear hc hb he
      by_cases hx : x = 2
      · subst hx
        go_wp2
        go_round
        case rel => exact ⟨j + 1, ee + 1, ss, by omega, by go_num, by go_num, rfl, ⟨by rw [HE.out.1]; simp, by rw [HE.out.2]; simp⟩⟩
        case measure => simp [intOf]; omega
      · have hx' : (x == 2) = false := by simpa using hx
        go_wp2
        go_round
        case rel => exact ⟨j + 1, ee, ss + 1, by omega, by go_num, rfl, by go_num, ⟨by rw [HE.out.1]; simp [hx], by rw [HE.out.2]; simp [hx]⟩⟩
        case measure => simp [intOf]; omega
    · have hjn : j = n := by omega
      subst hjn
      go_wp2
      go_loop [7, 8, 10] (fun e s i => ∃ t e2 s2 : Nat, t ≤ k ∧ i = .int .i64 t ∧ e = .int .i64 e2 ∧ s = .int .i64 s2 ∧ Hid (e2 = ee + eN qs t ∧ s2 = ss + sN qs t)) (fun _ _ i => k - (intOf i).toNat)
      case atStart => exact ⟨0, ee, ss, Nat.zero_le _, rfl, rfl, rfl, ⟨rfl, rfl⟩⟩
      case round =>
        obtain ⟨t, e2, s2, ht, rfl, rfl, rfl, hf⟩ := hrel
        have b3 : e2 ≤ 8192 ∧ s2 ≤ 8192 := by have := BF.out t; have := hf.out.1; have := hf.out.2; omega
        obtain ⟨b3, b4⟩ := b3
        by_cases htk : t < k
        · obtain ⟨bb, o, ha, hb, hc⟩ := H2.out.2 (by omega)
          subst ha
          have e1 : w.cell? ⟨bb, o + t, none⟩ = some (.int .u8 (qs.getD t 0)) := hc t (by omega)
          have HE : Hid (ee + eN qs (t + 1) = e2 + (if qs.getD t 0 = 2 then 1 else 0) ∧ ss + sN qs (t + 1) = s2 + (if qs.getD t 0 = 2 then 0 else 1)) := by rw [hf.out.1, hf.out.2, Nat.add_assoc, Nat.add_assoc]; exact ⟨rfl, rfl⟩
          generalize qs.getD t 0 = x at *
          clear hc hb hf
          have htm : t < m := by omega
          by_cases hx : x = 2
          · subst hx
            go_wp2
            go_round
            case rel => exact ⟨t + 1, e2 + 1, s2, by omega, by go_num, by go_num, rfl, ⟨by rw [HE.out.1]; simp, by rw [HE.out.2]; simp⟩⟩
            case measure => simp [intOf]; omega
          · have hx' : (x == 2) = false := by simpa using hx
            go_wp2
            go_round
            case rel => exact ⟨t + 1, e2, s2 + 1, by omega, by go_num, rfl, by go_num, ⟨by rw [HE.out.1]; simp [hx], by rw [HE.out.2]; simp [hx]⟩⟩
            case measure => simp [intOf]; omega
        · have htk' : t = k := by omega
          subst htk'
          have E : Hid (scB (ms ++ qs.take t) = (decide (e2 = 0) || (decide (e2 = 1) && decide (s2 = 0)))) := by
            rw [H3.out, hf.out.1, hf.out.2, he.out.1, he.out.2]; rfl
          clear hf he H3
          by_cases h0 : e2 = 0
          · subst h0
            go_wp2
            go_ret
            refine ⟨?_, rfl⟩
            rw [E.out]; simp
          · have h0' : ¬ ((e2 : Int) = 0) := by omega
            by_cases h1 : e2 = 1
            · subst h1
              by_cases h2 : s2 = 0
              · subst h2
                go_wp2
                go_ret
                refine ⟨?_, rfl⟩
                rw [E.out]; simp
              · have h2' : ¬ ((s2 : Int) = 0) := by omega
                go_wp2
                go_ret
                refine ⟨?_, rfl⟩
                rw [E.out]; simp [h2]
            · have h1' : ¬ ((e2 : Int) = 1) := by omega
              go_wp2
              go_ret
              refine ⟨?_, rfl⟩
              rw [E.out]; simp [h0, h1]

theorem great_calls (a b : Option Addr) (n c m d k : Nat) (ms qs : List Int) (w : World) (hn : n ≤ 4096) (hm : m ≤ 4096) (hk : k ≤ m) (h1 : Ms w a n ms) (h2 : Ms w b m qs) (g1 : scB (ms ++ qs.take k) = true) (g2 : k = m ∨ scB (ms ++ qs.take (k + 1)) = false) :
    Calls Try.prog 16 #[.slice a n c, .slice b m d, .int .i64 k] w fun e w' => e = .returned (.bool true) ∧ w' = w := by
  have C1 := setC_calls a b n c m d k ms qs w hn hm hk h1 h2
  rw [g1] at C1
  have H1 : Hid (Calls Try.prog 7 #[.slice a n c, .slice b m d, .int .i64 k] w fun e w' => e = .returned (.bool true) ∧ w' = w) := C1
  by_cases hkm : k = m
  · subst hkm
    clear C1 h1 h2 g1 g2
    go_enter Try.func16, Try.ntmps16
    go_wp2_with fail
    refine H1.out.mono ?_
    rintro e w1 ⟨rfl, hw⟩
    subst hw
    go_wp2
    go_ret
    exact ⟨rfl, rfl⟩
  · have C2 := setC_calls a b n c m d (k + 1) ms qs w hn hm (by omega) h1 h2
    rw [g2.resolve_left hkm] at C2
    have H2 : Hid (Calls Try.prog 7 #[.slice a n c, .slice b m d, .int .i64 ((k : Int) + 1)] w fun e w' => e = .returned (.bool false) ∧ w' = w) := C2
    have hkm' : ¬ ((k : Int) = m) := by omega
    clear C1 C2 h1 h2 g1 g2
    go_enter Try.func16, Try.ntmps16
    go_wp2_with fail
    refine H1.out.mono ?_
    rintro e w1 ⟨rfl, hw⟩
    subst hw
    go_wp2_with fail
    refine H2.out.mono ?_
    rintro e w2 ⟨rfl, hw⟩
    subst hw
    go_wp2
    go_ret
    exact ⟨rfl, rfl⟩

set_option maxHeartbeats 1600000 in
theorem bytes19_calls (sp : Int) (id : ByteArray) (a b : Option Addr) (n c m d : Nat) (w : World) (h0 : id.size ≤ maxLen) (h1 : n ≤ maxLen) (h2 : m ≤ maxLen) :
    Calls Try.prog 19 #[.int .i64 sp, .string id, .slice a n c, .slice b m d] w fun e w' => ABool e ∧ w' = w := by
  unfold maxLen at h0 h1 h2
  obtain ⟨s, hs⟩ : ∃ s, s = id.size := ⟨_, rfl⟩
  rw [← hs] at h0
  by_cases c1 : s ≤ 1048576
  · by_cases c2 : n ≤ 1048576
    · by_cases c3 : s + n ≤ 1048576
      · by_cases c4 : m ≤ 1048576
        · by_cases c5 : s + n + m ≤ 1048576
          all_goals
            go_enter Try.func19, Try.ntmps19
            go_wp2
            go_ret
            exact ⟨⟨_, rfl⟩, rfl⟩
        · go_enter Try.func19, Try.ntmps19
          go_wp2
          go_ret
          exact ⟨⟨_, rfl⟩, rfl⟩
      · go_enter Try.func19, Try.ntmps19
        go_wp2
        go_ret
        exact ⟨⟨_, rfl⟩, rfl⟩
    · go_enter Try.func19, Try.ntmps19
      go_wp2
      go_ret
      exact ⟨⟨_, rfl⟩, rfl⟩
  · go_enter Try.func19, Try.ntmps19
    go_wp2
    go_ret
    exact ⟨⟨_, rfl⟩, rfl⟩

end Go.Proofs.Qxb6613396a
