import Derived.Test.Qxb6602723aNr1
import Derived.Deep.DeepCutAuto
import Derived.Deep.LoopGhost
namespace Go.Proofs.Qxb6602723a
open Go.RowKit
set_option linter.unusedVariables false

def bt (T : ByteArray) (j : Nat) : Int := if h : j < T.size then (T[j].toNat : Int) else 0
theorem bt_lt {T : ByteArray} {j : Nat} (h : j < T.size) : bt T j = T[j].toNat := dif_pos h

/-- The state behind the first k bytes, read from state s. -/
def F (T : ByteArray) (s : Int) : Nat → Int
  | 0 => s
  | k + 1 => rule (F T s k) (bt T k)

theorem rule_18 (c : Int) : rule 18 c = 18 := rfl
theorem F_18 {T : ByteArray} {s : Int} {k : Nat} (h : F T s k = 18) (n : Nat) (hn : k ≤ n) : F T s n = 18 := by
  induction n with
  | zero => have : k = 0 := by omega
            subst this; exact h
  | succ n ih =>
    by_cases e : k = n + 1
    · subst e; exact h
    · show rule (F T s n) (bt T n) = 18
      rw [ih (by omega)]; rfl

/-- From before an element as from before a value. -/
theorem rule_01 (c : Int) : rule 1 c = rule 0 c := by
  unfold rule
  simp
theorem F_01 (T : ByteArray) (k : Nat) (hk : 0 < k) : F T 1 k = F T 0 k := by
  induction k with
  | zero => omega
  | succ k ih =>
    show rule (F T 1 k) _ = rule (F T 0 k) _
    by_cases e : k = 0
    · subst e; exact rule_01 _
    · rw [ih (by omega)]

/-- Where the reader of the int part begins: at place k the next byte decides. -/
def AtInt (T : ByteArray) (k : Nat) : Prop := k < T.size ∧ (bt T k = 48 → F T 0 (k + 1) = 11) ∧ (bt T k ≠ 48 → isD (bt T k) = true → F T 0 (k + 1) = 12) ∧ (isD (bt T k) = false → F T 0 (k + 1) = 18)
def AtDot (T : ByteArray) (k : Nat) : Prop := k < T.size ∧ (bt T k = 46 → F T 0 (k + 1) = 13) ∧ (bt T k = 101 ∨ bt T k = 69 → F T 0 (k + 1) = 15) ∧ (bt T k ≠ 46 → bt T k ≠ 101 → bt T k ≠ 69 → F T 0 (k + 1) = 18)
def AtExp (T : ByteArray) (k : Nat) : Prop := k < T.size ∧ (bt T k = 101 ∨ bt T k = 69 → F T 0 (k + 1) = 15) ∧ (bt T k ≠ 101 → bt T k ≠ 69 → F T 0 (k + 1) = 18)

theorem F_succ (T : ByteArray) (k : Nat) : F T 0 (k + 1) = rule (F T 0 k) (bt T k) := rfl

theorem atInt_of {T : ByteArray} {k : Nat} (hk : k < T.size) (h : (F T 0 k = 0 ∧ bt T k ≠ 45) ∨ F T 0 k = 10) : AtInt T k := by
  refine ⟨hk, fun h1 => ?_, fun h1 h2 => ?_, fun h1 => ?_⟩
  · rw [F_succ, h1]; rcases h with ⟨h, _⟩ | h <;> rw [h] <;> rfl
  · have := of_isD h2
    rw [F_succ]; rcases h with ⟨h, _⟩ | h <;> rw [h] <;> unfold rule <;> (repeat (first | rw [if_pos (by omega)] | rw [if_neg (by omega)]))
  · have := of_not_isD h1
    rw [F_succ]; rcases h with ⟨h, _⟩ | h <;> rw [h] <;> unfold rule <;> (repeat (first | rw [if_pos (by omega)] | rw [if_neg (by omega)]))

theorem atDot_of {T : ByteArray} {k : Nat} (hk : k < T.size) (h : F T 0 k = 11 ∨ (F T 0 k = 12 ∧ isD (bt T k) = false)) : AtDot T k := by
  refine ⟨hk, fun h1 => ?_, fun h1 => ?_, fun h1 h2 h3 => ?_⟩
  · rw [F_succ, h1]; rcases h with h | ⟨h, _⟩ <;> rw [h] <;> rfl
  · rw [F_succ]; rcases h with h | ⟨h, _⟩ <;> rw [h] <;> rcases h1 with h1 | h1 <;> rw [h1] <;> rfl
  · rw [F_succ]
    rcases h with h | ⟨h, h4⟩
    · rw [h]; unfold rule; (repeat (first | rw [if_pos (by omega)] | rw [if_neg (by omega)]))
    · have := of_not_isD h4
      rw [h]; unfold rule; (repeat (first | rw [if_pos (by omega)] | rw [if_neg (by omega)]))

theorem atExp_of {T : ByteArray} {k : Nat} (hk : k < T.size) (h : (AtDot T k ∧ bt T k ≠ 46) ∨ (F T 0 k = 14 ∧ isD (bt T k) = false)) : AtExp T k := by
  rcases h with ⟨h, h2⟩ | ⟨h, h2⟩
  · exact ⟨hk, h.2.2.1, fun a b => h.2.2.2 h2 a b⟩
  · refine ⟨hk, fun h1 => ?_, fun a b => ?_⟩
    · rw [F_succ, h]; rcases h1 with h1 | h1 <;> rw [h1] <;> rfl
    · have := of_not_isD h2
      rw [F_succ, h]; unfold rule; (repeat (first | rw [if_pos (by omega)] | rw [if_neg (by omega)]))

/-- A digit goes on: the int part, the fraction, the exponent. -/
theorem go_digit {T : ByteArray} {k : Nat} {s t : Int} (h : F T 0 k = s) (hd : isD (bt T k) = true) (hst : (s = 12 ∧ t = 12) ∨ (s = 13 ∧ t = 14) ∨ (s = 14 ∧ t = 14) ∨ (s = 15 ∧ t = 17) ∨ (s = 16 ∧ t = 17) ∨ (s = 17 ∧ t = 17)) : F T 0 (k + 1) = t := by
  have := of_isD hd
  rw [F_succ, h]
  rcases hst with ⟨rfl, rfl⟩ | ⟨rfl, rfl⟩ | ⟨rfl, rfl⟩ | ⟨rfl, rfl⟩ | ⟨rfl, rfl⟩ | ⟨rfl, rfl⟩ <;> unfold rule <;> (repeat (first | rw [if_pos (by omega)] | rw [if_neg (by omega)]))

/-- No digit where one is wanted: invalid. -/
theorem no_digit {T : ByteArray} {k : Nat} {s : Int} (h : F T 0 k = s) (hd : isD (bt T k) = false) (hs : s = 13 ∨ (s = 15 ∧ bt T k ≠ 43 ∧ bt T k ≠ 45) ∨ s = 16 ∨ s = 17) : F T 0 (k + 1) = 18 := by
  have := of_not_isD hd
  rw [F_succ, h]
  rcases hs with rfl | ⟨rfl, _, _⟩ | rfl | rfl <;> unfold rule <;> (repeat (first | rw [if_pos (by omega)] | rw [if_neg (by omega)]))

theorem sign_of {T : ByteArray} {k : Nat} (h : F T 0 k = 15) (hc : bt T k = 43 ∨ bt T k = 45) : F T 0 (k + 1) = 16 := by
  rw [F_succ, h]; rcases hc with h1 | h1 <;> rw [h1] <;> rfl
end Go.Proofs.Qxb6602723a
