import Derived.Test.Qxb6602558aLe3
import Derived.Test.Qxb6602558aLe4
namespace Go.Proofs.Qxb6602558a
open Go.RowKit
set_option linter.unusedVariables false

theorem zzLineEnd_any (T : ByteArray) (x : Int) (i0 : Nat) (hx : x = i0) (lv ou q op un : Int) (o : Bool) (orr : Int) (w : World) (hs : T.size ≤ 1048576) (hi0 : i0 ≤ T.size) (hq : 0 ≤ q) (hun : 0 < q → un ≠ 0) :
    Calls Try.prog 22 #[.string T, .int .i64 x, .int .i64 lv, .int .i64 ou, .int .u8 q, .int .i64 op, .int .i64 un, .bool o, .int .i64 orr] w
      fun e w' => e = .returned (.int .i64 (lineE T lv ou q op un i0)) ∧ Newer w w' := by
  subst hx
  go_enter Try.func22, Try.ntmps22
  go_wp2_with (go_at_call 28; refine (lineEnd_any T i0 lv ou q op un o orr _ hs hi0 hq hun).mono ?_; rintro e w' ⟨rfl, hn⟩)
  go_ret
  exact ⟨rfl, ((Newer.refl w).alloc _ _).trans hn⟩

section
variable (T : ByteArray) (i lv ou q op un : Int) (o : Bool) (orr : Int) (w : World)

theorem bytes21_yes (h : T.size ≤ 1048576) : Calls Try.prog 21 #[.string T, .int .i64 i, .int .i64 lv, .int .i64 ou, .int .u8 q, .int .i64 op, .int .i64 un, .bool o, .int .i64 orr] w fun e w' => e = .returned (.bool true) ∧ w = w' := by
  go_enter Try.func21, Try.ntmps21
  go_wp2
  go_ret
  exact ⟨rfl, rfl⟩
theorem bytes21_no (h : 1048576 < T.size) : Calls Try.prog 21 #[.string T, .int .i64 i, .int .i64 lv, .int .i64 ou, .int .u8 q, .int .i64 op, .int .i64 un, .bool o, .int .i64 orr] w fun e w' => e = .returned (.bool false) ∧ w = w' := by
  go_enter Try.func21, Try.ntmps21
  go_wp2
  go_ret
  exact ⟨rfl, rfl⟩
theorem bytes23_yes (h : T.size ≤ 1048576) : Calls Try.prog 23 #[.string T, .int .i64 i, .int .i64 lv, .int .i64 ou, .int .u8 q, .int .i64 op, .int .i64 un, .bool o, .int .i64 orr] w fun e w' => e = .returned (.bool true) ∧ w = w' := by
  go_enter Try.func23, Try.ntmps23
  go_wp2
  go_ret
  exact ⟨rfl, rfl⟩
theorem bytes23_no (h : 1048576 < T.size) : Calls Try.prog 23 #[.string T, .int .i64 i, .int .i64 lv, .int .i64 ou, .int .u8 q, .int .i64 op, .int .i64 un, .bool o, .int .i64 orr] w fun e w' => e = .returned (.bool false) ∧ w = w' := by
  go_enter Try.func23, Try.ntmps23
  go_wp2
  go_ret
  exact ⟨rfl, rfl⟩
theorem bytes24_yes (h : T.size ≤ 1048576) : Calls Try.prog 24 #[.string T, .int .i64 i, .int .i64 lv, .int .i64 ou, .int .u8 q, .int .i64 op, .int .i64 un, .bool o, .int .i64 orr] w fun e w' => e = .returned (.bool true) ∧ w = w' := by
  go_enter Try.func24, Try.ntmps24
  go_wp2
  go_ret
  exact ⟨rfl, rfl⟩
theorem bytes24_no (h : 1048576 < T.size) : Calls Try.prog 24 #[.string T, .int .i64 i, .int .i64 lv, .int .i64 ou, .int .u8 q, .int .i64 op, .int .i64 un, .bool o, .int .i64 orr] w fun e w' => e = .returned (.bool false) ∧ w = w' := by
  go_enter Try.func24, Try.ntmps24
  go_wp2
  go_ret
  exact ⟨rfl, rfl⟩

/-! ### the second law: reading again from where a line ended ends it there -/
theorem idem_out (h : 1048576 < T.size ∨ i < 0 ∨ (T.size : Int) < i) : Calls Try.prog 7 #[.string T, .int .i64 i, .int .i64 lv, .int .i64 ou, .int .u8 q, .int .i64 op, .int .i64 un, .bool o, .int .i64 orr] w fun e w' => e = .returned (.bool true) ∧ w = w' := by
  by_cases hb : 1048576 < T.size
  · go_enter Try.func7, Try.ntmps7
    go_wp2_with (go_at_call 23; refine (bytes23_no _ _ _ _ _ _ _ _ _ _ hb).mono ?_; rintro e w' ⟨rfl, rfl⟩)
    go_ret
    exact ⟨rfl, rfl⟩
  · have hb' : T.size ≤ 1048576 := by omega
    by_cases hi : i < 0
    · have e1 : decide (i < 0) = true := decide_eq_true hi
      go_enter Try.func7, Try.ntmps7
      go_wp2_with (go_at_call 23; refine (bytes23_yes _ _ _ _ _ _ _ _ _ _ hb').mono ?_; rintro e w' ⟨rfl, rfl⟩)
      go_ret
      exact ⟨rfl, rfl⟩
    · have e1 : decide (i < 0) = false := decide_eq_false hi
      have e2 : decide ((T.size : Int) < i) = true := decide_eq_true (by omega)
      go_enter Try.func7, Try.ntmps7
      go_wp2_with (go_at_call 23; refine (bytes23_yes _ _ _ _ _ _ _ _ _ _ hb').mono ?_; rintro e w' ⟨rfl, rfl⟩)
      go_ret
      exact ⟨rfl, rfl⟩

theorem idem_zero (hb : T.size ≤ 1048576) (hi : 0 ≤ i) (hi2 : i ≤ (T.size : Int)) (h1 : (un == 0) = true) (h2 : (q != 0) = true) : Calls Try.prog 7 #[.string T, .int .i64 i, .int .i64 lv, .int .i64 ou, .int .u8 q, .int .i64 op, .int .i64 un, .bool o, .int .i64 orr] w fun e w' => e = .returned (.bool true) ∧ w = w' := by
  have e1 : decide (i < 0) = false := decide_eq_false (by omega)
  have e2 : decide ((T.size : Int) < i) = false := decide_eq_false (by omega)
  go_enter Try.func7, Try.ntmps7
  go_wp2_with (go_at_call 23; refine (bytes23_yes _ _ _ _ _ _ _ _ _ _ hb).mono ?_; rintro e w' ⟨rfl, rfl⟩)
  go_ret
  exact ⟨rfl, rfl⟩
end

set_option maxRecDepth 20000 in
theorem idem_main (T : ByteArray) (i0 : Nat) (lv ou q op un : Int) (o : Bool) (orr : Int) (w : World) (hb : T.size ≤ 1048576) (hi0 : i0 ≤ T.size) (hq : 0 ≤ q) (hqu : (un == 0) = false ∨ ((un == 0) = true ∧ (q != 0) = false)) :
    Calls Try.prog 7 #[.string T, .int .i64 i0, .int .i64 lv, .int .i64 ou, .int .u8 q, .int .i64 op, .int .i64 un, .bool o, .int .i64 orr] w fun e w' => e = .returned (.bool true) ∧ Newer w w' := by
  have e1 : decide ((i0 : Int) < 0) = false := decide_eq_false (by omega)
  have e2 : decide ((T.size : Int) < (i0 : Int)) = false := decide_eq_false (by omega)
  have hun : 0 < q → un ≠ 0 := by
    intro h
    rcases hqu with h1 | ⟨_, h2⟩
    · exact beq_eq_false_iff_ne.1 h1
    · rw [bne_eq_false_iff_eq] at h2; omega
  obtain ⟨a1, a2, a3, _, _⟩ := lineE_all (T := T) (lv := lv) (ou := ou) (q := q) (op := op) (un := un) (T.size + 1 - i0) i0 (Nat.le_refl _) (by omega)
  have a1' := a1 hi0
  have H1 : Hid (∀ w, Calls Try.prog 22 #[.string T, .int .i64 i0, .int .i64 lv, .int .i64 ou, .int .u8 q, .int .i64 op, .int .i64 un, .bool o, .int .i64 orr] w fun e w' => e = .returned (.int .i64 (lineE T lv ou q op un i0)) ∧ Newer w w') :=
    fun w => zzLineEnd_any T _ i0 rfl lv ou q op un o orr w hb hi0 hq hun
  have H2 : Hid (∀ w, Calls Try.prog 22 #[.string T, .int .i64 (lineE T lv ou q op un i0), .int .i64 lv, .int .i64 ou, .int .u8 q, .int .i64 op, .int .i64 un, .bool o, .int .i64 orr] w fun e w' => e = .returned (.int .i64 (lineE T lv ou q op un i0)) ∧ Newer w w') :=
    fun w => by have h := zzLineEnd_any T _ (lineE T lv ou q op un i0) rfl lv ou q op un o orr w hb a2 hq hun; rw [a3] at h; exact h
  clear a1 a3 hun
  generalize lineE T lv ou q op un i0 = r at *
  have e3 : decide ((r : Int) < (i0 : Int)) = false := decide_eq_false (by omega)
  have e4 : decide ((T.size : Int) < (r : Int)) = false := decide_eq_false (by omega)
  rcases hqu with h1 | ⟨h1, h2⟩
  all_goals
    go_enter Try.func7, Try.ntmps7
    go_wp2_with (go_at_call 23; refine (bytes23_yes _ _ _ _ _ _ _ _ _ _ hb).mono ?_; rintro e w' ⟨rfl, rfl⟩)
    refine (H1.out _).mono ?_
    rintro e w1 ⟨rfl, hn1⟩
    go_wp2_with fail
    refine (H2.out _).mono ?_
    rintro e w2 ⟨rfl, hn2⟩
    go_wp2_with fail
    go_ret
    exact ⟨rfl, hn1.trans hn2⟩
end Go.Proofs.Qxb6602558a
