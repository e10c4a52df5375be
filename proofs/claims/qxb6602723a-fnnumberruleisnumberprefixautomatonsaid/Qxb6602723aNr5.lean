import Derived.Test.Qxb6602723aNr2
namespace Go.Proofs.Qxb6602723a
open Go.RowKit
set_option linter.unusedVariables false

/-- A text that leaves a reader in state st. -/
structure IsRep (st : Int) (s : ByteArray) : Prop where
  size : s.size ≤ 16
  cls : 0 < s.size → F s 0 s.size = st
  next : ∀ c, rule (F s 0 s.size) c = rule st c

theorem isRep_of {st : Int} {s : ByteArray} (h1 : s.size ≤ 16) (h2 : F s 0 s.size = st) : IsRep st s := ⟨h1, fun _ => h2, fun c => by rw [h2]⟩

def isN (s : Int) : Bool := decide (s = 0 ∨ s = 1 ∨ s = 10 ∨ s = 11 ∨ s = 12 ∨ s = 13 ∨ s = 14 ∨ s = 15 ∨ s = 16 ∨ s = 17)
theorem rep_0_0 : IsRep 0 { data := #[] } := ⟨by decide, fun h => absurd h (by decide), fun c => rfl⟩
theorem rep_1_0 : IsRep 1 { data := #[] } := ⟨by decide, fun h => absurd h (by decide), fun c => (rule_01 c).symm⟩
theorem rep_10_0 : IsRep 10 { data := #[45] } := isRep_of (by decide) (by decide)
theorem rep_11_0 : IsRep 11 { data := #[48] } := isRep_of (by decide) (by decide)
theorem rep_11_1 : IsRep 11 { data := #[45, 48] } := isRep_of (by decide) (by decide)
theorem rep_12_0 : IsRep 12 { data := #[55] } := isRep_of (by decide) (by decide)
theorem rep_12_1 : IsRep 12 { data := #[45, 49, 50] } := isRep_of (by decide) (by decide)
theorem rep_12_2 : IsRep 12 { data := #[57, 48] } := isRep_of (by decide) (by decide)
theorem rep_13_0 : IsRep 13 { data := #[48, 46] } := isRep_of (by decide) (by decide)
theorem rep_13_1 : IsRep 13 { data := #[45, 51, 46] } := isRep_of (by decide) (by decide)
theorem rep_14_0 : IsRep 14 { data := #[48, 46, 53] } := isRep_of (by decide) (by decide)
theorem rep_14_1 : IsRep 14 { data := #[45, 49, 50, 46, 51, 52] } := isRep_of (by decide) (by decide)
theorem rep_15_0 : IsRep 15 { data := #[49, 101] } := isRep_of (by decide) (by decide)
theorem rep_15_1 : IsRep 15 { data := #[48, 46, 53, 69] } := isRep_of (by decide) (by decide)
theorem rep_15_2 : IsRep 15 { data := #[45, 48, 101] } := isRep_of (by decide) (by decide)
theorem rep_16_0 : IsRep 16 { data := #[49, 101, 43] } := isRep_of (by decide) (by decide)
theorem rep_16_1 : IsRep 16 { data := #[50, 69, 45] } := isRep_of (by decide) (by decide)
theorem rep_17_0 : IsRep 17 { data := #[49, 101, 53] } := isRep_of (by decide) (by decide)
theorem rep_17_1 : IsRep 17 { data := #[45, 51, 46, 50, 101, 45, 49, 48] } := isRep_of (by decide) (by decide)

set_option maxHeartbeats 1000000 in
theorem representative_0 (k : Nat) (hk : k < 3) (w : World) : Calls Try.prog 9 #[.int .u8 0, .int .i64 k] w fun e w' => ∃ (s : ByteArray) (ok : Bool), e = .returned (.tuple #[.string s, .bool ok]) ∧ (ok = true → IsRep 0 s) ∧ (k = 0 → ok = true) ∧ w = w' := by
  rcases (show k = 0 ∨ k = 1 ∨ k = 2 from by omega) with rfl | rfl | rfl
  · go_enter Try.func9, Try.ntmps9
    go_wp2
    go_ret2
    exact ⟨_, _, rfl, fun _ => rep_0_0, fun _ => rfl, rfl⟩
  · go_enter Try.func9, Try.ntmps9
    go_wp2
    go_ret2
    exact ⟨_, _, rfl, fun h => (by cases h), fun h => absurd h (by decide), rfl⟩
  · go_enter Try.func9, Try.ntmps9
    go_wp2
    go_ret2
    exact ⟨_, _, rfl, fun h => (by cases h), fun h => absurd h (by decide), rfl⟩

set_option maxHeartbeats 1000000 in
theorem representative_1 (k : Nat) (hk : k < 3) (w : World) : Calls Try.prog 9 #[.int .u8 1, .int .i64 k] w fun e w' => ∃ (s : ByteArray) (ok : Bool), e = .returned (.tuple #[.string s, .bool ok]) ∧ (ok = true → IsRep 1 s) ∧ (k = 0 → ok = true) ∧ w = w' := by
  rcases (show k = 0 ∨ k = 1 ∨ k = 2 from by omega) with rfl | rfl | rfl
  · go_enter Try.func9, Try.ntmps9
    go_wp2
    go_ret2
    exact ⟨_, _, rfl, fun _ => rep_1_0, fun _ => rfl, rfl⟩
  · go_enter Try.func9, Try.ntmps9
    go_wp2
    go_ret2
    exact ⟨_, _, rfl, fun h => (by cases h), fun h => absurd h (by decide), rfl⟩
  · go_enter Try.func9, Try.ntmps9
    go_wp2
    go_ret2
    exact ⟨_, _, rfl, fun h => (by cases h), fun h => absurd h (by decide), rfl⟩

set_option maxHeartbeats 1000000 in
theorem representative_10 (k : Nat) (hk : k < 3) (w : World) : Calls Try.prog 9 #[.int .u8 10, .int .i64 k] w fun e w' => ∃ (s : ByteArray) (ok : Bool), e = .returned (.tuple #[.string s, .bool ok]) ∧ (ok = true → IsRep 10 s) ∧ (k = 0 → ok = true) ∧ w = w' := by
  rcases (show k = 0 ∨ k = 1 ∨ k = 2 from by omega) with rfl | rfl | rfl
  · go_enter Try.func9, Try.ntmps9
    go_wp2
    go_ret2
    exact ⟨_, _, rfl, fun _ => rep_10_0, fun _ => rfl, rfl⟩
  · go_enter Try.func9, Try.ntmps9
    go_wp2
    go_ret2
    exact ⟨_, _, rfl, fun h => (by cases h), fun h => absurd h (by decide), rfl⟩
  · go_enter Try.func9, Try.ntmps9
    go_wp2
    go_ret2
    exact ⟨_, _, rfl, fun h => (by cases h), fun h => absurd h (by decide), rfl⟩

set_option maxHeartbeats 1000000 in
theorem representative_11 (k : Nat) (hk : k < 3) (w : World) : Calls Try.prog 9 #[.int .u8 11, .int .i64 k] w fun e w' => ∃ (s : ByteArray) (ok : Bool), e = .returned (.tuple #[.string s, .bool ok]) ∧ (ok = true → IsRep 11 s) ∧ (k = 0 → ok = true) ∧ w = w' := by
  rcases (show k = 0 ∨ k = 1 ∨ k = 2 from by omega) with rfl | rfl | rfl
  · go_enter Try.func9, Try.ntmps9
    go_wp2
    go_ret2
    exact ⟨_, _, rfl, fun _ => rep_11_0, fun _ => rfl, rfl⟩
  · go_enter Try.func9, Try.ntmps9
    go_wp2
    go_ret2
    exact ⟨_, _, rfl, fun _ => rep_11_1, fun _ => rfl, rfl⟩
  · go_enter Try.func9, Try.ntmps9
    go_wp2
    go_ret2
    exact ⟨_, _, rfl, fun h => (by cases h), fun h => absurd h (by decide), rfl⟩

set_option maxHeartbeats 1000000 in
theorem representative_12 (k : Nat) (hk : k < 3) (w : World) : Calls Try.prog 9 #[.int .u8 12, .int .i64 k] w fun e w' => ∃ (s : ByteArray) (ok : Bool), e = .returned (.tuple #[.string s, .bool ok]) ∧ (ok = true → IsRep 12 s) ∧ (k = 0 → ok = true) ∧ w = w' := by
  rcases (show k = 0 ∨ k = 1 ∨ k = 2 from by omega) with rfl | rfl | rfl
  · go_enter Try.func9, Try.ntmps9
    go_wp2
    go_ret2
    exact ⟨_, _, rfl, fun _ => rep_12_0, fun _ => rfl, rfl⟩
  · go_enter Try.func9, Try.ntmps9
    go_wp2
    go_ret2
    exact ⟨_, _, rfl, fun _ => rep_12_1, fun _ => rfl, rfl⟩
  · go_enter Try.func9, Try.ntmps9
    go_wp2
    go_ret2
    exact ⟨_, _, rfl, fun _ => rep_12_2, fun _ => rfl, rfl⟩

set_option maxHeartbeats 1000000 in
theorem representative_13 (k : Nat) (hk : k < 3) (w : World) : Calls Try.prog 9 #[.int .u8 13, .int .i64 k] w fun e w' => ∃ (s : ByteArray) (ok : Bool), e = .returned (.tuple #[.string s, .bool ok]) ∧ (ok = true → IsRep 13 s) ∧ (k = 0 → ok = true) ∧ w = w' := by
  rcases (show k = 0 ∨ k = 1 ∨ k = 2 from by omega) with rfl | rfl | rfl
  · go_enter Try.func9, Try.ntmps9
    go_wp2
    go_ret2
    exact ⟨_, _, rfl, fun _ => rep_13_0, fun _ => rfl, rfl⟩
  · go_enter Try.func9, Try.ntmps9
    go_wp2
    go_ret2
    exact ⟨_, _, rfl, fun _ => rep_13_1, fun _ => rfl, rfl⟩
  · go_enter Try.func9, Try.ntmps9
    go_wp2
    go_ret2
    exact ⟨_, _, rfl, fun h => (by cases h), fun h => absurd h (by decide), rfl⟩

set_option maxHeartbeats 1000000 in
theorem representative_14 (k : Nat) (hk : k < 3) (w : World) : Calls Try.prog 9 #[.int .u8 14, .int .i64 k] w fun e w' => ∃ (s : ByteArray) (ok : Bool), e = .returned (.tuple #[.string s, .bool ok]) ∧ (ok = true → IsRep 14 s) ∧ (k = 0 → ok = true) ∧ w = w' := by
  rcases (show k = 0 ∨ k = 1 ∨ k = 2 from by omega) with rfl | rfl | rfl
  · go_enter Try.func9, Try.ntmps9
    go_wp2
    go_ret2
    exact ⟨_, _, rfl, fun _ => rep_14_0, fun _ => rfl, rfl⟩
  · go_enter Try.func9, Try.ntmps9
    go_wp2
    go_ret2
    exact ⟨_, _, rfl, fun _ => rep_14_1, fun _ => rfl, rfl⟩
  · go_enter Try.func9, Try.ntmps9
    go_wp2
    go_ret2
    exact ⟨_, _, rfl, fun h => (by cases h), fun h => absurd h (by decide), rfl⟩

set_option maxHeartbeats 1000000 in
theorem representative_15 (k : Nat) (hk : k < 3) (w : World) : Calls Try.prog 9 #[.int .u8 15, .int .i64 k] w fun e w' => ∃ (s : ByteArray) (ok : Bool), e = .returned (.tuple #[.string s, .bool ok]) ∧ (ok = true → IsRep 15 s) ∧ (k = 0 → ok = true) ∧ w = w' := by
  rcases (show k = 0 ∨ k = 1 ∨ k = 2 from by omega) with rfl | rfl | rfl
  · go_enter Try.func9, Try.ntmps9
    go_wp2
    go_ret2
    exact ⟨_, _, rfl, fun _ => rep_15_0, fun _ => rfl, rfl⟩
  · go_enter Try.func9, Try.ntmps9
    go_wp2
    go_ret2
    exact ⟨_, _, rfl, fun _ => rep_15_1, fun _ => rfl, rfl⟩
  · go_enter Try.func9, Try.ntmps9
    go_wp2
    go_ret2
    exact ⟨_, _, rfl, fun _ => rep_15_2, fun _ => rfl, rfl⟩

set_option maxHeartbeats 1000000 in
theorem representative_16 (k : Nat) (hk : k < 3) (w : World) : Calls Try.prog 9 #[.int .u8 16, .int .i64 k] w fun e w' => ∃ (s : ByteArray) (ok : Bool), e = .returned (.tuple #[.string s, .bool ok]) ∧ (ok = true → IsRep 16 s) ∧ (k = 0 → ok = true) ∧ w = w' := by
  rcases (show k = 0 ∨ k = 1 ∨ k = 2 from by omega) with rfl | rfl | rfl
  · go_enter Try.func9, Try.ntmps9
    go_wp2
    go_ret2
    exact ⟨_, _, rfl, fun _ => rep_16_0, fun _ => rfl, rfl⟩
  · go_enter Try.func9, Try.ntmps9
    go_wp2
    go_ret2
    exact ⟨_, _, rfl, fun _ => rep_16_1, fun _ => rfl, rfl⟩
  · go_enter Try.func9, Try.ntmps9
    go_wp2
    go_ret2
    exact ⟨_, _, rfl, fun h => (by cases h), fun h => absurd h (by decide), rfl⟩

set_option maxHeartbeats 1000000 in
theorem representative_17 (k : Nat) (hk : k < 3) (w : World) : Calls Try.prog 9 #[.int .u8 17, .int .i64 k] w fun e w' => ∃ (s : ByteArray) (ok : Bool), e = .returned (.tuple #[.string s, .bool ok]) ∧ (ok = true → IsRep 17 s) ∧ (k = 0 → ok = true) ∧ w = w' := by
  rcases (show k = 0 ∨ k = 1 ∨ k = 2 from by omega) with rfl | rfl | rfl
  · go_enter Try.func9, Try.ntmps9
    go_wp2
    go_ret2
    exact ⟨_, _, rfl, fun _ => rep_17_0, fun _ => rfl, rfl⟩
  · go_enter Try.func9, Try.ntmps9
    go_wp2
    go_ret2
    exact ⟨_, _, rfl, fun _ => rep_17_1, fun _ => rfl, rfl⟩
  · go_enter Try.func9, Try.ntmps9
    go_wp2
    go_ret2
    exact ⟨_, _, rfl, fun h => (by cases h), fun h => absurd h (by decide), rfl⟩

theorem representative_any (st : Int) (hn : isN st = true) (k : Nat) (hk : k < 3) (w : World) : Calls Try.prog 9 #[.int .u8 st, .int .i64 k] w fun e w' => ∃ (s : ByteArray) (ok : Bool), e = .returned (.tuple #[.string s, .bool ok]) ∧ (ok = true → IsRep st s) ∧ (k = 0 → ok = true) ∧ w = w' := by
  rcases of_decide_eq_true hn with rfl | rfl | rfl | rfl | rfl | rfl | rfl | rfl | rfl | rfl
  · exact representative_0 k hk w
  · exact representative_1 k hk w
  · exact representative_10 k hk w
  · exact representative_11 k hk w
  · exact representative_12 k hk w
  · exact representative_13 k hk w
  · exact representative_14 k hk w
  · exact representative_15 k hk w
  · exact representative_16 k hk w
  · exact representative_17 k hk w

set_option maxHeartbeats 1000000 in
theorem isNumber_any (s : Int) (w : World) : Calls Try.prog 8 #[.int .u8 s] w fun e w' => e = .returned (.bool (isN s)) ∧ w = w' := by
  rcases (show s = 0 ∨ s = 1 ∨ s = 10 ∨ s = 11 ∨ s = 12 ∨ s = 13 ∨ s = 14 ∨ s = 15 ∨ s = 16 ∨ s = 17 ∨ (s ≠ 0 ∧ s ≠ 1 ∧ s ≠ 10 ∧ s ≠ 11 ∧ s ≠ 12 ∧ s ≠ 13 ∧ s ≠ 14 ∧ s ≠ 15 ∧ s ≠ 16 ∧ s ≠ 17) from by omega) with rfl | rfl | rfl | rfl | rfl | rfl | rfl | rfl | rfl | rfl | h
  · go_enter Try.func8, Try.ntmps8
    go_wp2
    go_ret
    exact ⟨rfl, rfl⟩
  · go_enter Try.func8, Try.ntmps8
    go_wp2
    go_ret
    exact ⟨rfl, rfl⟩
  · go_enter Try.func8, Try.ntmps8
    go_wp2
    go_ret
    exact ⟨rfl, rfl⟩
  · go_enter Try.func8, Try.ntmps8
    go_wp2
    go_ret
    exact ⟨rfl, rfl⟩
  · go_enter Try.func8, Try.ntmps8
    go_wp2
    go_ret
    exact ⟨rfl, rfl⟩
  · go_enter Try.func8, Try.ntmps8
    go_wp2
    go_ret
    exact ⟨rfl, rfl⟩
  · go_enter Try.func8, Try.ntmps8
    go_wp2
    go_ret
    exact ⟨rfl, rfl⟩
  · go_enter Try.func8, Try.ntmps8
    go_wp2
    go_ret
    exact ⟨rfl, rfl⟩
  · go_enter Try.func8, Try.ntmps8
    go_wp2
    go_ret
    exact ⟨rfl, rfl⟩
  · go_enter Try.func8, Try.ntmps8
    go_wp2
    go_ret
    exact ⟨rfl, rfl⟩
  · have s0 : (s == 0) = false := beq_eq_false_iff_ne.2 (by omega)
    have s1 : (s == 1) = false := beq_eq_false_iff_ne.2 (by omega)
    have s10 : (s == 10) = false := beq_eq_false_iff_ne.2 (by omega)
    have s11 : (s == 11) = false := beq_eq_false_iff_ne.2 (by omega)
    have s12 : (s == 12) = false := beq_eq_false_iff_ne.2 (by omega)
    have s13 : (s == 13) = false := beq_eq_false_iff_ne.2 (by omega)
    have s14 : (s == 14) = false := beq_eq_false_iff_ne.2 (by omega)
    have s15 : (s == 15) = false := beq_eq_false_iff_ne.2 (by omega)
    have s16 : (s == 16) = false := beq_eq_false_iff_ne.2 (by omega)
    have s17 : (s == 17) = false := beq_eq_false_iff_ne.2 (by omega)
    have hv : Hid (isN s = false) := decide_eq_false (by omega)
    clear h
    go_enter Try.func8, Try.ntmps8
    go_wp2
    go_ret
    exact ⟨ret_bool hv.out.symm, rfl⟩

theorem rule_none {s : Int} (h : isN s = false) (c : Int) : rule s c = 18 := by
  have h2 := of_decide_eq_false h
  unfold rule
  rw [if_neg (by omega), if_neg (by omega), if_neg (by omega), if_neg (by omega), if_neg (by omega)]

/-- One byte more. -/
def snoc (s : ByteArray) (c : UInt8) : ByteArray := ⟨(s.data.toList ++ [c]).toArray⟩
theorem snoc_size (s : ByteArray) (c : UInt8) : (snoc s c).size = s.size + 1 := by
  show (s.data.toList ++ [c]).toArray.size = s.data.size + 1
  simp
theorem snoc_old (s : ByteArray) (c : UInt8) (j : Nat) (h : j < s.size) : bt (snoc s c) j = bt s j := by
  have h2 : j < s.data.size := h
  rw [bt_lt h, bt_lt (by rw [snoc_size]; omega)]
  have e : (snoc s c)[j]'(by rw [snoc_size]; omega) = s[j] := by
    show ((s.data.toList ++ [c]).toArray)[j]'(by simp; omega) = s.data[j]
    rw [List.getElem_toArray, List.getElem_append_left (by simpa using h2)]
    simp
  rw [e]
theorem snoc_new (s : ByteArray) (c : UInt8) : bt (snoc s c) s.size = c.toNat := by
  rw [bt_lt (by rw [snoc_size]; omega)]
  have e : (snoc s c)[s.size]'(by rw [snoc_size]; omega) = c := by
    show ((s.data.toList ++ [c]).toArray)[s.data.size]'(by simp) = c
    simp
  rw [e]
theorem F_snoc (s : ByteArray) (c : UInt8) : F (snoc s c) 0 (snoc s c).size = rule (F s 0 s.size) c.toNat := by
  rw [snoc_size, F_succ, snoc_new]
  have h : ∀ k, k ≤ s.size → F (snoc s c) 0 k = F s 0 k := by
    intro k hk
    induction k with
    | zero => rfl
    | succ k ih => rw [F_succ, F_succ, ih (by omega), snoc_old s c k (by omega)]
  rw [h _ (Nat.le_refl _)]
end Go.Proofs.Qxb6602723a
