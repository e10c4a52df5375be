import Derived.Test.Qxb6602723aNr3
namespace Go.Proofs.Qxb6602723a
open Go.RowKit
set_option linter.unusedVariables false

theorem classify_any (T : ByteArray) (w : World) (hs : T.size ≤ 1048577) :
    Calls Try.prog 10 #[.string T] w fun e w' => e = .returned (.int .u8 (F T 0 T.size)) ∧ w = w' := by
  by_cases h : T.size = 0
  · exact classify_empty T w h
  · exact classify_main T w hs (by omega)

theorem bytes11_yes (T : ByteArray) (w : World) (h : T.size ≤ 1048576) : Calls Try.prog 11 #[.string T] w fun e w' => e = .returned (.bool true) ∧ w = w' := by
  go_enter Try.func11, Try.ntmps11
  go_wp2
  go_ret
  exact ⟨rfl, rfl⟩
theorem bytes11_no (T : ByteArray) (w : World) (h : 1048576 < T.size) : Calls Try.prog 11 #[.string T] w fun e w' => e = .returned (.bool false) ∧ w = w' := by
  go_enter Try.func11, Try.ntmps11
  go_wp2
  go_ret
  exact ⟨rfl, rfl⟩

theorem run_out (T : ByteArray) (w : World) (h : 1048576 < T.size) : Calls Try.prog 4 #[.string T] w fun e w' => e = .returned (.bool true) ∧ w = w' := by
  go_enter Try.func4, Try.ntmps4
  go_wp2_with (go_at_call 11; refine (bytes11_no _ _ h).mono ?_; rintro e w' ⟨rfl, rfl⟩)
  go_ret
  exact ⟨rfl, rfl⟩

set_option maxHeartbeats 1000000 in
theorem run_main (T : ByteArray) (w : World) (h : T.size ≤ 1048576) : Calls Try.prog 4 #[.string T] w fun e w' => e = .returned (.bool true) ∧ w = w' := by
  have H10 : Hid (Calls Try.prog 10 #[.string T] w fun e w' => e = .returned (.int .u8 (F T 0 T.size)) ∧ w = w') := classify_any T w (by omega)
  go_enter Try.func4, Try.ntmps4
  go_wp2_with (go_at_call 11; refine (bytes11_yes _ _ h).mono ?_; rintro e w' ⟨rfl, rfl⟩)
  go_loop [3, 4, 5] (fun v e i => ∃ k : Nat, k ≤ T.size ∧ i = .int .i64 k ∧ v = .int .u8 (F T 0 k) ∧ e = .int .u8 (F T 1 k)) (fun _ _ i => T.size - (intOf i).toNat)
  case atStart => exact ⟨0, by omega, rfl, rfl, rfl⟩
  case round =>
    obtain ⟨k, hk, rfl, rfl, rfl⟩ := hrel
    by_cases hlt : k < T.size
    · have HB : Hid (bt T k = T[k].toNat) := bt_lt hlt
      have H0 : Hid (F T 0 (k + 1) = rule (F T 0 k) (T[k].toNat : Int)) := by show rule _ _ = _; rw [HB.out]
      have H1 : Hid (F T 1 (k + 1) = rule (F T 1 k) (T[k].toNat : Int)) := by show rule _ _ = _; rw [HB.out]
      clear H10
      generalize F T 0 k = f0 at *
      generalize F T 1 k = f1 at *
      go_wp2_with (go_at_call 7; refine (zzNumberRule_any _ _ _).mono ?_; rintro e w' ⟨rfl, rfl⟩)
      go_round
      case rel => exact ⟨k + 1, by omega, by go_num, by rw [H0.out], by rw [H1.out]⟩
      case measure => simp [intOf]; omega
    · have hkn : k = T.size := by omega
      subst hkn
      by_cases h0 : T.size = 0
      · have e0 : ((T.size : Int) == 0) = true := beq_t (by omega)
        have e1 : (F T 0 T.size == 0) = true := beq_t (by rw [h0]; rfl)
        have e2 : (F T 1 T.size == 1) = true := beq_t (by rw [h0]; rfl)
        clear H10
        go_wp2
        go_ret
        exact ⟨rfl, rfl⟩
      · have e0 : ((T.size : Int) == 0) = false := beq_f (by omega)
        have HF : Hid (F T 1 T.size = F T 0 T.size) := F_01 T T.size (by omega)
        have e2 : (F T 1 T.size == F T 0 T.size) = true := beq_t HF.out
        have e1 : (F T 0 T.size == F T 0 T.size) = true := beq_t rfl
        go_wp2_with (go_at_call 10; refine H10.out.mono ?_; rintro e w' ⟨rfl, rfl⟩)
        go_ret
        exact ⟨rfl, rfl⟩
end Go.Proofs.Qxb6602723a
