import Derived.Test.Qxb6602558aLe2
namespace Go.Proofs.Qxb6602558a
set_option linter.unusedVariables false

section
variable {T : ByteArray} {lv ou q op un : Int}

/-- What a stop says. -/
theorem stop_some {i v : Nat} (hi : i ≤ T.size) (h : stopAt T lv ou q op un i = some v) :
    (v = i + run T i ∧ (bt T v = 10 ∨ bt T v = 13)) ∨
    (v = i ∧ (bt T (i + run T i) = 110 ∨ bt T (i + run T i) = 114 ∨ bt T (i + run T i) = 34 ∨ ((bt T (i + run T i) : Int) = q ∧ q ≠ 0)) ∧ bt T (i + run T i) ≠ 10 ∧ bt T (i + run T i) ≠ 13) := by
  unfold stopAt at h
  by_cases h1 : bt T (i + run T i) = 10 ∨ bt T (i + run T i) = 13
  · rw [if_pos h1] at h
    cases h
    exact .inl ⟨rfl, h1⟩
  rw [if_neg h1] at h
  by_cases h2 : 0 < run T i ∧ (run T i : Int) = lv ∧ (bt T (i + run T i) = 110 ∨ bt T (i + run T i) = 114)
  · rw [if_pos h2] at h
    cases h
    exact .inr ⟨rfl, by omega, by omega, by omega⟩
  rw [if_neg h2] at h
  by_cases h3 : (bt T (i + run T i) : Int) = q ∧ q ≠ 0
  · rw [if_pos h3] at h
    have : v = i := by
      split at h
      · split at h
        · cases h
        · cases h; rfl
      · split at h
        · cases h; rfl
        · cases h
    exact .inr ⟨this, by omega, by omega, by omega⟩
  rw [if_neg h3] at h
  split at h
  · cases h
    exact .inr ⟨rfl, by omega, by omega, by omega⟩
  · cases h

/-- What going on says. -/
theorem stop_none {i : Nat} (hi : i < T.size) (h : stopAt T lv ou q op un i = none) :
    nextAt T q op un i ≤ T.size + 1 ∧ ∀ p, i ≤ p → p < nextAt T q op un i → bt T p ≠ 10 ∧ bt T p ≠ 13 := by
  obtain ⟨s1, s2, s3⟩ := run_spec T i (by omega)
  unfold stopAt at h
  by_cases h1 : bt T (i + run T i) = 10 ∨ bt T (i + run T i) = 13
  · rw [if_pos h1] at h
    cases h
  rw [if_neg h1] at h
  by_cases h2 : 0 < run T i ∧ (run T i : Int) = lv ∧ (bt T (i + run T i) = 110 ∨ bt T (i + run T i) = 114)
  · rw [if_pos h2] at h
    cases h
  rw [if_neg h2] at h
  have plainly : ∀ p, i ≤ p → p < i + (run T i + 1) → bt T p ≠ 10 ∧ bt T p ≠ 13 := by
    intro p hp1 hp2
    by_cases e : p = i + run T i
    · subst e; omega
    · have := s1 (p - i) (by omega)
      rw [show i + (p - i) = p from by omega] at this
      omega
  by_cases h3 : (bt T (i + run T i) : Int) = q ∧ q ≠ 0
  · rw [if_pos h3] at h
    by_cases h4 : roleV op un (run T i) = 1
    · rw [if_pos h4] at h
      by_cases h5 : dqB T i (run T i) = true
      · have hlt : i + run T i < T.size := bt_pos (by omega)
        obtain ⟨d1, d2⟩ := dq_facts hlt h5
        unfold nextAt
        rw [if_pos ⟨h3.1, h3.2, h4⟩]
        refine ⟨by omega, fun p hp1 hp2 => ?_⟩
        by_cases e : p < i + (run T i + 1)
        · exact plainly p hp1 e
        · have h6 := d2 (p - (i + run T i + 1)) (by omega)
          rw [show i + run T i + 1 + (p - (i + run T i + 1)) = p from by omega] at h6
          rw [h6]
          exact plainly _ (by omega) (by omega)
      · rw [if_neg h5] at h
        cases h
    · unfold nextAt
      rw [if_neg (by omega)]
      exact ⟨by omega, plainly⟩
  · unfold nextAt
    rw [if_neg (by omega)]
    exact ⟨by omega, plainly⟩

theorem run_zero {i : Nat} (h : bt T i ≠ 92) : run T i = 0 := run_eq T i 0 (fun j hj => absurd hj (by omega)) h

theorem stop_break {i : Nat} (h : bt T i = 10 ∨ bt T i = 13) : stopAt T lv ou q op un i = some i := by
  unfold stopAt
  rw [run_zero (by omega), Nat.add_zero, if_pos h]

/-- All that the three laws want, by one induction on what is left. -/
theorem lineE_all (m i : Nat) (hm : T.size + 1 - i ≤ m) (hi : i ≤ T.size + 1) :
    (i ≤ T.size → i ≤ lineE T lv ou q op un i) ∧ lineE T lv ou q op un i ≤ T.size ∧ lineE T lv ou q op un (lineE T lv ou q op un i) = lineE T lv ou q op un i ∧
    (∀ p, i ≤ p → p < lineE T lv ou q op un i → bt T p ≠ 10 ∧ bt T p ≠ 13) ∧
    (lineE T lv ou q op un i < T.size → ((bt T (lineE T lv ou q op un i) = 10 ∨ bt T (lineE T lv ou q op un i) = 13) ∨
      (bt T (lineE T lv ou q op un i + run T (lineE T lv ou q op un i)) = 110 ∨ bt T (lineE T lv ou q op un i + run T (lineE T lv ou q op un i)) = 114 ∨ bt T (lineE T lv ou q op un i + run T (lineE T lv ou q op un i)) = 34 ∨
        ((bt T (lineE T lv ou q op un i + run T (lineE T lv ou q op un i)) : Int) = q ∧ q ≠ 0)))) := by
  induction m generalizing i with
  | zero =>
    have he := lineE_end T lv ou q op un i (by omega)
    rw [he]
    exact ⟨fun h => by omega, by omega, lineE_end T lv ou q op un T.size (by omega), fun p hp1 hp2 => absurd hp2 (by omega), fun h => absurd h (by omega)⟩
  | succ m ih =>
    by_cases hlt : i < T.size
    · cases hst : stopAt T lv ou q op un i with
      | none =>
        obtain ⟨n1, n2⟩ := stop_none hlt hst
        have n3 := nextAt_lt T q op un i
        obtain ⟨a1, a2, a3, a4, a5⟩ := ih (nextAt T q op un i) (by omega) n1
        rw [lineE_none hlt hst]
        refine ⟨fun _ => ?_, a2, a3, fun p hp1 hp2 => ?_, a5⟩
        · by_cases e : nextAt T q op un i ≤ T.size
          · have := a1 e; omega
          · have : lineE T lv ou q op un (nextAt T q op un i) = T.size := lineE_end _ _ _ _ _ _ _ (by omega)
            omega
        · by_cases e : p < nextAt T q op un i
          · exact n2 p hp1 e
          · exact a4 p (by omega) hp2
      | some v =>
        have hv := lineE_some hlt hst
        obtain ⟨s1, s2, s3⟩ := run_spec T i (by omega)
        rcases stop_some (by omega) hst with ⟨h1, h2⟩ | ⟨h1, h2, h3, h4⟩
        · have hvs : v < T.size := bt_pos (by omega)
          rw [hv]
          refine ⟨fun _ => by omega, by omega, lineE_some hvs (stop_break h2), fun p hp1 hp2 => ?_, fun _ => .inl h2⟩
          have := s1 (p - i) (by omega)
          rw [show i + (p - i) = p from by omega] at this
          omega
        · subst h1
          rw [hv]
          exact ⟨fun _ => by omega, by omega, hv, fun p hp1 hp2 => absurd hp2 (by omega), fun _ => .inr h2⟩
    · have he := lineE_end T lv ou q op un i (by omega)
      rw [he]
      exact ⟨fun h => by omega, by omega, lineE_end T lv ou q op un T.size (by omega), fun p hp1 hp2 => absurd hp2 (by omega), fun h => absurd h (by omega)⟩

/-- No quote is read, no escaped break is looked for: the first raw break. -/
theorem lineE_first (hl : lv ≤ 0) (ho : ou ≤ 0) (k : Nat) (hk : k ≤ T.size) (hend : k = T.size ∨ bt T k = 10 ∨ bt T k = 13) (m i : Nat) (hm : T.size + 1 - i ≤ m) (hi : i ≤ k ∨ (k = T.size ∧ i = T.size + 1))
    (hno : ∀ p, i ≤ p → p < k → bt T p ≠ 10 ∧ bt T p ≠ 13) : lineE T lv ou 0 op un i = k := by
  induction m generalizing i with
  | zero => rw [lineE_end _ _ _ _ _ _ _ (by omega)]; omega
  | succ m ih =>
    by_cases hlt : i < T.size
    · obtain ⟨s1, s2, s3⟩ := run_spec T i (by omega)
      have hik : i + run T i ≤ k := by
        by_cases e : k < i + run T i
        · have := s1 (k - i) (by omega)
          rw [show i + (k - i) = k from by omega] at this
          omega
        · omega
      by_cases h1 : bt T (i + run T i) = 10 ∨ bt T (i + run T i) = 13
      · have : ¬ i + run T i < k := fun e => by have := hno _ (by omega) e; omega
        rw [lineE_some hlt (r := i + run T i) (if_pos h1)]
        omega
      · have hst : stopAt T lv ou 0 op un i = none := by
          unfold stopAt
          rw [if_neg h1, if_neg (by omega), if_neg (by omega), if_neg (by omega)]
        have hnx : nextAt T 0 op un i = i + (run T i + 1) := by unfold nextAt; rw [if_neg (by omega)]
        rw [lineE_none hlt hst, hnx]
        refine ih _ (by omega) ?_ (fun p hp1 hp2 => hno p (by omega) hp2)
        by_cases e : i + run T i = k
        · rw [e] at h1; omega
        · omega
    · rw [lineE_end _ _ _ _ _ _ _ (by omega)]; omega
end
end Go.Proofs.Qxb6602558a
