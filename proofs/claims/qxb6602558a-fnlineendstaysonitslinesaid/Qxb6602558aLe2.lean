import Derived.Test.Qxb6602558aLe1
namespace Go.Proofs.Qxb6602558a
open Go.RowKit

/-! ### the plain line end: no Go in sight -/
def runF (b : Nat → Nat) : Nat → Nat → Nat
  | 0, _ => 0
  | f + 1, i => if b i = 92 then runF b f (i + 1) + 1 else 0

def run (T : ByteArray) (i : Nat) : Nat := runF (bt T) (T.size - i) i

theorem runF_eq (b : Nat → Nat) (f i r : Nat) (hf : r ≤ f) (h1 : ∀ j, j < r → b (i + j) = 92) (h2 : b (i + r) ≠ 92) : runF b f i = r := by
  induction f generalizing i r with
  | zero => simp [runF]; omega
  | succ f ih =>
    cases r with
    | zero => simp only [runF]; rw [if_neg (by simpa using h2)]
    | succ r =>
      simp only [runF]
      have h0 := h1 0 (by omega)
      rw [if_pos (by simpa using h0)]
      rw [ih (i + 1) r (by omega) (fun j hj => by have := h1 (j + 1) (by omega); rw [← this]; congr 1; omega) (by rw [show i + 1 + r = i + (r + 1) from by omega]; exact h2)]

theorem bt_pos {T : ByteArray} {j : Nat} (h : bt T j ≠ 0) : j < T.size := by
  by_cases e : j < T.size
  · exact e
  · exact absurd (bt_ge e) h

theorem run_eq (T : ByteArray) (i r : Nat) (h1 : ∀ j, j < r → bt T (i + j) = 92) (h2 : bt T (i + r) ≠ 92) : run T i = r := by
  refine runF_eq _ _ _ _ ?_ h1 h2
  cases r with
  | zero => omega
  | succ r =>
    have := h1 r (by omega)
    have := bt_pos (T := T) (j := i + r) (by omega)
    omega

theorem runF_spec (b : Nat → Nat) (f i : Nat) : (∀ j, j < runF b f i → b (i + j) = 92) ∧ runF b f i ≤ f ∧ (runF b f i < f → b (i + runF b f i) ≠ 92) := by
  induction f generalizing i with
  | zero => simp [runF]
  | succ f ih =>
    simp only [runF]
    by_cases h : b i = 92
    · rw [if_pos h]
      obtain ⟨h1, h2, h3⟩ := ih (i + 1)
      refine ⟨fun j hj => ?_, by omega, fun hl => ?_⟩
      · cases j with
        | zero => simpa using h
        | succ j => have := h1 j (by omega); rw [← this]; congr 1; omega
      · have := h3 (by omega)
        rw [show i + (runF b f (i + 1) + 1) = i + 1 + runF b f (i + 1) from by omega]
        exact this
    · rw [if_neg h]
      exact ⟨fun j hj => absurd hj (by omega), by omega, fun _ => by simpa using h⟩

theorem run_spec (T : ByteArray) (i : Nat) (hi : i ≤ T.size) : (∀ j, j < run T i → bt T (i + j) = 92) ∧ i + run T i ≤ T.size ∧ bt T (i + run T i) ≠ 92 := by
  obtain ⟨h1, h2, h3⟩ := runF_spec (bt T) (T.size - i) i
  refine ⟨h1, by unfold run; omega, ?_⟩
  by_cases h : runF (bt T) (T.size - i) i < T.size - i
  · exact h3 h
  · unfold run
    rw [bt_ge (by omega)]
    decide

def stopAt (T : ByteArray) (lv ou q op un : Int) (i : Nat) : Option Nat :=
  if bt T (i + run T i) = 10 ∨ bt T (i + run T i) = 13 then some (i + run T i)
  else if 0 < run T i ∧ (run T i : Int) = lv ∧ (bt T (i + run T i) = 110 ∨ bt T (i + run T i) = 114) then some i
  else if (bt T (i + run T i) : Int) = q ∧ q ≠ 0 then
    (if roleV op un (run T i) = 1 then (if dqB T i (run T i) = true then none else some i) else if roleV op un (run T i) = 2 then some i else none)
  else if bt T (i + run T i) = 34 ∧ (run T i : Int) < ou then some i else none

def nextAt (T : ByteArray) (q op un : Int) (i : Nat) : Nat :=
  if (bt T (i + run T i) : Int) = q ∧ q ≠ 0 ∧ roleV op un (run T i) = 1 then i + 2 * (run T i + 1) else i + (run T i + 1)

theorem nextAt_lt (T : ByteArray) (q op un : Int) (i : Nat) : i < nextAt T q op un i := by
  unfold nextAt
  split <;> omega

def lineF (T : ByteArray) (lv ou q op un : Int) : Nat → Nat → Nat
  | 0, _ => T.size
  | f + 1, i => if i < T.size then (match stopAt T lv ou q op un i with | some r => r | none => lineF T lv ou q op un f (nextAt T q op un i)) else T.size

theorem lineF_end (T : ByteArray) (lv ou q op un : Int) (f i : Nat) (h : T.size ≤ i) : lineF T lv ou q op un f i = T.size := by
  cases f with
  | zero => rfl
  | succ f => rw [lineF, if_neg (by omega)]

theorem lineF_fuel (T : ByteArray) (lv ou q op un : Int) (f g i : Nat) (hf : T.size - i ≤ f) (hg : T.size - i ≤ g) : lineF T lv ou q op un f i = lineF T lv ou q op un g i := by
  induction f generalizing g i with
  | zero => rw [lineF_end _ _ _ _ _ _ _ _ (by omega), lineF_end _ _ _ _ _ _ _ _ (by omega)]
  | succ f ih =>
    cases g with
    | zero => rw [lineF_end _ _ _ _ _ _ _ _ (by omega), lineF_end _ _ _ _ _ _ _ _ (by omega)]
    | succ g =>
      rw [lineF, lineF]
      by_cases h : i < T.size
      · rw [if_pos h, if_pos h]
        cases stopAt T lv ou q op un i with
        | some r => rfl
        | none => have := nextAt_lt T q op un i; exact ih g _ (by omega) (by omega)
      · rw [if_neg h, if_neg h]

def lineE (T : ByteArray) (lv ou q op un : Int) (i : Nat) : Nat := lineF T lv ou q op un T.size i

theorem lineE_end (T : ByteArray) (lv ou q op un : Int) (i : Nat) (h : T.size ≤ i) : lineE T lv ou q op un i = T.size := lineF_end _ _ _ _ _ _ _ _ h

theorem lineE_some {T : ByteArray} {lv ou q op un : Int} {i r : Nat} (h : i < T.size) (hs : stopAt T lv ou q op un i = some r) : lineE T lv ou q op un i = r := by
  unfold lineE
  obtain ⟨n, hn⟩ : ∃ n, T.size = n + 1 := ⟨T.size - 1, by omega⟩
  rw [hn, lineF, if_pos h, hs]

theorem lineE_none {T : ByteArray} {lv ou q op un : Int} {i : Nat} (h : i < T.size) (hs : stopAt T lv ou q op un i = none) : lineE T lv ou q op un i = lineE T lv ou q op un (nextAt T q op un i) := by
  unfold lineE
  have h2 := nextAt_lt T q op un i
  obtain ⟨n, hn⟩ : ∃ n, T.size = n + 1 := ⟨T.size - 1, by omega⟩
  rw [lineF_fuel T lv ou q op un T.size (n + 1) i (by omega) (by omega)]
  rw [lineF, if_pos h, hs]
  exact lineF_fuel _ _ _ _ _ _ _ _ _ (by omega) (by omega)

theorem toList_ext_eq {A B : ByteArray} (h : A.toList = B.toList) : A = B := by
  rw [ByteArray.toList_eq, ByteArray.toList_eq] at h
  cases A with | mk a => cases B with | mk b =>
  have := Array.toList_inj.1 h
  simp only at this
  rw [this]

theorem dq_facts {T : ByteArray} {i r : Nat} (h : i + r < T.size) (hd : dqB T i r = true) : i + 2 * (r + 1) ≤ T.size ∧ ∀ j, j < r + 1 → bt T (i + r + 1 + j) = bt T (i + j) := by
  unfold dqB hasP at hd
  simp only [Bool.and_eq_true, decide_eq_true_eq, beq_iff_eq] at hd
  obtain ⟨_, h2, h3⟩ := hd
  have e1 : (T.extract i (i + r + 1)).size = r + 1 := by simp; omega
  have e2 : (T.extract (i + r + 1) T.size).size = T.size - (i + r + 1) := by simp
  rw [e1] at h3
  have hle : i + 2 * (r + 1) ≤ T.size := by omega
  refine ⟨hle, fun j hj => ?_⟩
  have h4 := toList_ext_eq h3
  have s1 : ((T.extract (i + r + 1) T.size).extract 0 (r + 1)).size = r + 1 := by simp; omega
  have h5 : ((T.extract (i + r + 1) T.size).extract 0 (r + 1))[j]'(by omega) = (T.extract i (i + r + 1))[j]'(by omega) := by
    simp only [h4]
  rw [bt_lt (by omega), bt_lt (by omega)]
  simp only [ByteArray.getElem_extract] at h5
  have h6 := congrArg UInt8.toNat h5
  simpa using h6
end Go.Proofs.Qxb6602558a
