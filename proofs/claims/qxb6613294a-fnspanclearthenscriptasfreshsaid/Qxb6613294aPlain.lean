/- THE PLAIN LAWS OF THE SPAN: no Go in sight. -/
import Derived.IntWalk
namespace Go.Proofs.Qxb6613294a
open Go.RowKit (wrap64)

theorem w64_range (x : Int) : -9223372036854775808 ≤ wrap64 x ∧ wrap64 x ≤ 9223372036854775807 := by
  unfold wrap64; omega
theorem w64_in (x : Int) (h1 : -9223372036854775808 ≤ x) (h2 : x ≤ 9223372036854775807) : wrap64 x = x := by
  unfold wrap64; omega

/-- add j at the part n, or a new part at the end -/
def upd (j n : Int) : List (Int × Int) → List (Int × Int)
  | [] => [(j, n)]
  | p :: r => if p.2 = n then (wrap64 (p.1 + j), p.2) :: r else p :: upd j n r

def addP (ps : List (Int × Int)) (j n : Int) : List (Int × Int) := if j = 0 then ps else upd j n ps

/-- what the script leaves in a fresh span behind k rounds -/
def bld (js ns : List Int) : Nat → List (Int × Int)
  | 0 => []
  | k + 1 => addP (bld js ns k) (js.getD k 0) (ns.getD k 0)

theorem upd_len (j n : Int) : ∀ ps : List (Int × Int), (upd j n ps).length ≤ ps.length + 1
  | [] => by simp [upd]
  | p :: r => by
    have := upd_len j n r
    unfold upd
    split <;> simp <;> omega

theorem addP_len (ps : List (Int × Int)) (j n : Int) : (addP ps j n).length ≤ ps.length + 1 := by
  unfold addP
  split
  · omega
  · exact upd_len j n ps

theorem bld_len (js ns : List Int) : ∀ k, (bld js ns k).length ≤ k
  | 0 => by simp [bld]
  | k + 1 => by
    have := bld_len js ns k
    have := addP_len (bld js ns k) (js.getD k 0) (ns.getD k 0)
    unfold bld; omega

/-- the search: no part below k bears n -/
def noneB (ps : List (Int × Int)) (n : Int) (k : Nat) : Prop := ∀ i, i < k → (ps.getD i (0, 0)).2 ≠ n

theorem upd_hit (j n : Int) : ∀ (ps : List (Int × Int)) (k : Nat), k < ps.length → noneB ps n k → (ps.getD k (0, 0)).2 = n →
    upd j n ps = ps.set k (wrap64 ((ps.getD k (0, 0)).1 + j), (ps.getD k (0, 0)).2)
  | [], k, h, _, _ => by simp at h
  | p :: r, 0, _, _, he => by
    simp at he
    simp [upd, he]
  | p :: r, k + 1, h, hn, he => by
    have h0 : p.2 ≠ n := by
      have := hn 0 (by omega)
      simpa using this
    have hr : noneB r n k := fun i hi => by
      have := hn (i + 1) (by omega)
      simpa using this
    have ih := upd_hit j n r k (by simpa using h) hr (by simpa using he)
    simp [upd, h0, ih]

theorem upd_miss (j n : Int) : ∀ (ps : List (Int × Int)), noneB ps n ps.length → upd j n ps = ps ++ [(j, n)]
  | [], _ => by simp [upd]
  | p :: r, hn => by
    have h0 : p.2 ≠ n := by
      have := hn 0 (by simp)
      simpa using this
    have hr : noneB r n r.length := fun i hi => by
      have := hn (i + 1) (by simp; omega)
      simpa using this
    simp [upd, h0, upd_miss j n r hr]

/-- is round i the first that brings its n with a j that is not 0? -/
def firstB (js ns : List Int) (i : Nat) : Bool :=
  decide (js.getD i 0 ≠ 0 ∧ ∀ k, k < i → ¬ (js.getD k 0 ≠ 0 ∧ ns.getD k 0 = ns.getD i 0))

/-- the n's, in the order in which they come -/
def firsts (js ns : List Int) : Nat → List Int
  | 0 => []
  | k + 1 => if firstB js ns k = true then firsts js ns k ++ [ns.getD k 0] else firsts js ns k

/-- the sum of the j's that came with n -/
def sumTo (js ns : List Int) (n : Int) : Nat → Int
  | 0 => 0
  | k + 1 => if ns.getD k 0 = n then wrap64 (sumTo js ns n k + js.getD k 0) else sumTo js ns n k

theorem sumTo_range (js ns : List Int) (n : Int) : ∀ k, -9223372036854775808 ≤ sumTo js ns n k ∧ sumTo js ns n k ≤ 9223372036854775807
  | 0 => by simp [sumTo]
  | k + 1 => by
    unfold sumTo
    split
    · exact w64_range _
    · exact sumTo_range js ns n k

theorem mem_firsts (js ns : List Int) (n : Int) : ∀ k, n ∈ firsts js ns k ↔ ∃ i, i < k ∧ js.getD i 0 ≠ 0 ∧ ns.getD i 0 = n
  | 0 => by simp [firsts]
  | k + 1 => by
    have ih := mem_firsts js ns n k
    unfold firsts
    by_cases hf : firstB js ns k = true
    · rw [if_pos hf]
      have hf' : js.getD k 0 ≠ 0 ∧ ∀ i, i < k → ¬ (js.getD i 0 ≠ 0 ∧ ns.getD i 0 = ns.getD k 0) := of_decide_eq_true hf
      rw [List.mem_append, ih, List.mem_singleton]
      constructor
      · rintro (⟨i, hi, h1, h2⟩ | rfl)
        · exact ⟨i, by omega, h1, h2⟩
        · exact ⟨k, by omega, hf'.1, rfl⟩
      · rintro ⟨i, hi, h1, h2⟩
        by_cases hik : i = k
        · subst hik; exact .inr h2.symm
        · exact .inl ⟨i, by omega, h1, h2⟩
    · rw [if_neg hf, ih]
      have hf' : ¬ (js.getD k 0 ≠ 0 ∧ ∀ i, i < k → ¬ (js.getD i 0 ≠ 0 ∧ ns.getD i 0 = ns.getD k 0)) := fun h => hf (decide_eq_true h)
      constructor
      · rintro ⟨i, hi, h1, h2⟩
        exact ⟨i, by omega, h1, h2⟩
      · rintro ⟨i, hi, h1, h2⟩
        by_cases hik : i = k
        · subst hik
          by_cases hex : ∃ m, m < i ∧ js.getD m 0 ≠ 0 ∧ ns.getD m 0 = ns.getD i 0
          · obtain ⟨m, hm, h3, h4⟩ := hex
            exact ⟨m, hm, h3, h4.trans h2⟩
          · exact absurd ⟨h1, fun m hm hh => hex ⟨m, hm, hh.1, hh.2⟩⟩ hf'
        · exact ⟨i, by omega, h1, h2⟩

theorem firstB_iff (js ns : List Int) (k : Nat) : firstB js ns k = true ↔ js.getD k 0 ≠ 0 ∧ ns.getD k 0 ∉ firsts js ns k := by
  rw [mem_firsts]
  unfold firstB
  rw [decide_eq_true_iff]
  constructor
  · rintro ⟨h1, h2⟩
    exact ⟨h1, fun ⟨i, hi, h3, h4⟩ => h2 i hi ⟨h3, h4⟩⟩
  · rintro ⟨h1, h2⟩
    exact ⟨h1, fun i hi hh => h2 ⟨i, hi, hh.1, hh.2⟩⟩

theorem firsts_nodup (js ns : List Int) : ∀ k, (firsts js ns k).Nodup
  | 0 => by simp [firsts]
  | k + 1 => by
    have ih := firsts_nodup js ns k
    unfold firsts
    by_cases hf : firstB js ns k = true
    · rw [if_pos hf]
      have := ((firstB_iff js ns k).1 hf).2
      rw [List.nodup_append]
      refine ⟨ih, by simp, ?_⟩
      intro a ha b hb
      have hb' : b = ns.getD k 0 := List.mem_singleton.1 hb
      intro e
      rw [e, hb'] at ha
      exact this ha
    · rw [if_neg hf]; exact ih

theorem sumTo_zero (js ns : List Int) (n : Int) : ∀ k, n ∉ firsts js ns k → sumTo js ns n k = 0
  | 0, _ => rfl
  | k + 1, h => by
    have hk : n ∉ firsts js ns k := by
      rw [mem_firsts] at h ⊢
      exact fun ⟨i, hi, h1⟩ => h ⟨i, by omega, h1⟩
    have ih := sumTo_zero js ns n k hk
    unfold sumTo
    by_cases he : ns.getD k 0 = n
    · rw [if_pos he, ih]
      have hz : js.getD k 0 = 0 := by
        apply Classical.byContradiction
        intro hne
        rw [mem_firsts] at h
        exact h ⟨k, by omega, hne, he⟩
      rw [hz]
      exact w64_in _ (by omega) (by omega)
    · rw [if_neg he, ih]

theorem upd_map_mem (j n : Int) (f g : Int → Int) (hg : ∀ m, m ≠ n → g m = f m) (hn : g n = wrap64 (f n + j)) : ∀ (l : List Int), l.Nodup → n ∈ l →
    upd j n (l.map fun m => (f m, m)) = l.map fun m => (g m, m)
  | [], _, h => by simp at h
  | a :: r, hd, h => by
    have hd' := List.nodup_cons.1 hd
    by_cases ha : a = n
    · subst ha
      simp only [List.map_cons, upd, if_true, hn, List.cons.injEq, true_and]
      apply List.map_congr_left
      intro m hm
      rw [hg m (fun e => hd'.1 (e ▸ hm))]
    · have hm : n ∈ r := by
        rcases List.mem_cons.1 h with h | h
        · exact absurd h.symm ha
        · exact h
      simp only [List.map_cons, upd]
      rw [if_neg ha, upd_map_mem j n f g hg hn r hd'.2 hm, hg a ha]

theorem upd_map_not (j n : Int) (f g : Int → Int) (hg : ∀ m, m ≠ n → g m = f m) (hn : g n = j) : ∀ (l : List Int), n ∉ l →
    upd j n (l.map fun m => (f m, m)) = (l ++ [n]).map fun m => (g m, m)
  | [], _ => by simp [upd, hn]
  | a :: r, h => by
    have ha : a ≠ n := fun e => h (by simp [e])
    have hr : n ∉ r := fun e => h (by simp [e])
    simp only [List.map_cons, upd, List.cons_append]
    rw [if_neg ha, upd_map_not j n f g hg hn r hr, hg a ha]

/-- WHAT THE SCRIPT LEAVES -/
theorem bld_eq (js ns : List Int) (hj : ∀ i, -9223372036854775808 ≤ js.getD i 0 ∧ js.getD i 0 ≤ 9223372036854775807) :
    ∀ k, bld js ns k = (firsts js ns k).map fun n => (sumTo js ns n k, n)
  | 0 => by simp [bld, firsts]
  | k + 1 => by
    have ih := bld_eq js ns hj k
    unfold bld addP
    by_cases hz : js.getD k 0 = 0
    · have hf : ¬ firstB js ns k = true := by
        rw [firstB_iff]; exact fun h => h.1 hz
      have e : firsts js ns (k + 1) = firsts js ns k := by
        show (if firstB js ns k = true then _ else _) = _
        rw [if_neg hf]
      rw [if_pos hz, ih, e]
      apply List.map_congr_left
      intro m _
      have es : sumTo js ns m (k + 1) = sumTo js ns m k := by
        show (if ns.getD k 0 = m then _ else _) = _
        by_cases he : ns.getD k 0 = m
        · have := sumTo_range js ns m k
          rw [if_pos he, hz, w64_in _ (by omega) (by omega), Int.add_zero]
        · rw [if_neg he]
      rw [es]
    · rw [if_neg hz, ih]
      have hoth : ∀ m, m ≠ ns.getD k 0 → sumTo js ns m (k + 1) = sumTo js ns m k := fun m hm => by
        show (if ns.getD k 0 = m then _ else _) = _
        rw [if_neg (fun e => hm e.symm)]
      have hown : sumTo js ns (ns.getD k 0) (k + 1) = wrap64 (sumTo js ns (ns.getD k 0) k + js.getD k 0) := by
        show (if ns.getD k 0 = ns.getD k 0 then _ else _) = _
        rw [if_pos rfl]
      by_cases hm : ns.getD k 0 ∈ firsts js ns k
      · have hf : ¬ firstB js ns k = true := by
          rw [firstB_iff]; exact fun h => h.2 hm
        have e : firsts js ns (k + 1) = firsts js ns k := by
          show (if firstB js ns k = true then _ else _) = _
          rw [if_neg hf]
        rw [e]
        exact upd_map_mem _ _ (fun m => sumTo js ns m k) (fun m => sumTo js ns m (k + 1)) hoth hown _ (firsts_nodup js ns k) hm
      · have hf : firstB js ns k = true := (firstB_iff js ns k).2 ⟨hz, hm⟩
        have e : firsts js ns (k + 1) = firsts js ns k ++ [ns.getD k 0] := by
          show (if firstB js ns k = true then _ else _) = _
          rw [if_pos hf]
        rw [e]
        refine upd_map_not _ _ (fun m => sumTo js ns m k) (fun m => sumTo js ns m (k + 1)) hoth ?_ _ hm
        show sumTo js ns (ns.getD k 0) (k + 1) = _
        rw [hown, sumTo_zero js ns _ k hm, Int.zero_add]
        exact w64_in _ (hj k).1 (hj k).2

theorem firsts_prefix (js ns : List Int) (i : Nat) : ∀ d, firsts js ns i <+: firsts js ns (i + d)
  | 0 => List.prefix_refl _
  | d + 1 => by
    have ih := firsts_prefix js ns i d
    show firsts js ns i <+: (if firstB js ns (i + d) = true then _ else _)
    split
    · exact ih.trans (List.prefix_append _ _)
    · exact ih

/-- THE CHECK's LAW: at a first round i the part number (firsts i).length is what the check asks -/
theorem part_at (js ns : List Int) (hj : ∀ i, -9223372036854775808 ≤ js.getD i 0 ∧ js.getD i 0 ≤ 9223372036854775807) (i B : Nat) (hi : i < B) (hf : firstB js ns i = true) :
    (firsts js ns i).length < (bld js ns B).length ∧ (bld js ns B).getD (firsts js ns i).length (0, 0) = (sumTo js ns (ns.getD i 0) B, ns.getD i 0) := by
  obtain ⟨d, rfl⟩ : ∃ d, B = (i + 1) + d := ⟨B - (i + 1), by omega⟩
  have hp := firsts_prefix js ns (i + 1) d
  have e : firsts js ns (i + 1) = firsts js ns i ++ [ns.getD i 0] := by
    show (if firstB js ns i = true then _ else _) = _
    rw [if_pos hf]
  rw [e] at hp
  obtain ⟨t, ht⟩ := hp
  rw [bld_eq js ns hj, ← ht]
  constructor
  · simp
  · simp [List.getD]

theorem len_all (js ns : List Int) (hj : ∀ i, -9223372036854775808 ≤ js.getD i 0 ∧ js.getD i 0 ≤ 9223372036854775807) (B : Nat) :
    (bld js ns B).length = (firsts js ns B).length := by
  rw [bld_eq js ns hj]; simp

theorem firsts_step_yes (js ns : List Int) (i : Nat) (hf : firstB js ns i = true) : (firsts js ns (i + 1)).length = (firsts js ns i).length + 1 := by
  show (if firstB js ns i = true then _ else _ : List Int).length = _
  rw [if_pos hf]; simp
theorem firsts_step_no (js ns : List Int) (i : Nat) (hf : firstB js ns i = false) : (firsts js ns (i + 1)).length = (firsts js ns i).length := by
  show (if firstB js ns i = true then _ else _ : List Int).length = _
  rw [if_neg (by simp [hf])]
theorem firsts_len (js ns : List Int) : ∀ k, (firsts js ns k).length ≤ k
  | 0 => by simp [firsts]
  | k + 1 => by
    have := firsts_len js ns k
    unfold firsts
    split <;> simp <;> omega

end Go.Proofs.Qxb6613294a
