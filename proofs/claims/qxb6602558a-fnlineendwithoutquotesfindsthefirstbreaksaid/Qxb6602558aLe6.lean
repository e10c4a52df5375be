import Derived.Test.Qxb6602558aLe5
namespace Go.Proofs.Qxb6602558a
open Go.RowKit
set_option linter.unusedVariables false

/-! ### the first law: the first raw break -/
section
variable (T : ByteArray) (i lv ou q op un : Int) (o : Bool) (orr : Int) (w : World)
theorem first_out (h : 1048576 < T.size ∨ i < 0 ∨ (T.size : Int) < i) : Calls Try.prog 6 #[.string T, .int .i64 i, .int .i64 lv, .int .i64 ou, .int .u8 q, .int .i64 op, .int .i64 un, .bool o, .int .i64 orr] w fun e w' => e = .returned (.bool true) ∧ w = w' := by
  by_cases hb : 1048576 < T.size
  · go_enter Try.func6, Try.ntmps6
    go_wp2_with (go_at_call 21; refine (bytes21_no _ _ _ _ _ _ _ _ _ _ hb).mono ?_; rintro e w' ⟨rfl, rfl⟩)
    go_ret
    exact ⟨rfl, rfl⟩
  · have hb' : T.size ≤ 1048576 := by omega
    by_cases hi : i < 0
    · have e1 : decide (i < 0) = true := decide_eq_true hi
      go_enter Try.func6, Try.ntmps6
      go_wp2_with (go_at_call 21; refine (bytes21_yes _ _ _ _ _ _ _ _ _ _ hb').mono ?_; rintro e w' ⟨rfl, rfl⟩)
      go_ret
      exact ⟨rfl, rfl⟩
    · have e1 : decide (i < 0) = false := decide_eq_false hi
      have e2 : decide ((T.size : Int) < i) = true := decide_eq_true (by omega)
      go_enter Try.func6, Try.ntmps6
      go_wp2_with (go_at_call 21; refine (bytes21_yes _ _ _ _ _ _ _ _ _ _ hb').mono ?_; rintro e w' ⟨rfl, rfl⟩)
      go_ret
      exact ⟨rfl, rfl⟩

theorem first_quoted (hb : T.size ≤ 1048576) (hi : 0 ≤ i) (hi2 : i ≤ (T.size : Int)) (h : (q != 0) = true ∨ ((q != 0) = false ∧ decide (0 < lv) = true) ∨ ((q != 0) = false ∧ decide (0 < lv) = false ∧ decide (0 < ou) = true)) :
    Calls Try.prog 6 #[.string T, .int .i64 i, .int .i64 lv, .int .i64 ou, .int .u8 q, .int .i64 op, .int .i64 un, .bool o, .int .i64 orr] w fun e w' => e = .returned (.bool true) ∧ w = w' := by
  have e1 : decide (i < 0) = false := decide_eq_false (by omega)
  have e2 : decide ((T.size : Int) < i) = false := decide_eq_false (by omega)
  rcases h with h | ⟨h, h2⟩ | ⟨h, h2, h3⟩
  all_goals
    go_enter Try.func6, Try.ntmps6
    go_wp2_with (go_at_call 21; refine (bytes21_yes _ _ _ _ _ _ _ _ _ _ hb).mono ?_; rintro e w' ⟨rfl, rfl⟩)
    go_ret
    exact ⟨rfl, rfl⟩
end

theorem first_main (T : ByteArray) (i0 : Nat) (lv ou q op un : Int) (o : Bool) (orr : Int) (w : World) (hb : T.size ≤ 1048576) (hi0 : i0 ≤ T.size) (h1 : (q != 0) = false) (h2 : decide (0 < lv) = false) (h3 : decide (0 < ou) = false) :
    Calls Try.prog 6 #[.string T, .int .i64 i0, .int .i64 lv, .int .i64 ou, .int .u8 q, .int .i64 op, .int .i64 un, .bool o, .int .i64 orr] w fun e w' => e = .returned (.bool true) ∧ Newer w w' := by
  have hq0 : q = 0 := by rw [bne_eq_false_iff_eq] at h1; exact h1
  subst hq0
  have hl : lv ≤ 0 := by have := of_decide_eq_false h2; omega
  have ho : ou ≤ 0 := by have := of_decide_eq_false h3; omega
  have H22 : Hid (∀ k : Nat, k ≤ T.size → i0 ≤ k → (k = T.size ∨ bt T k = 10 ∨ bt T k = 13) → (∀ p, i0 ≤ p → p < k → bt T p ≠ 10 ∧ bt T p ≠ 13) →
      ∀ w, Calls Try.prog 22 #[.string T, .int .i64 i0, .int .i64 lv, .int .i64 ou, .int .u8 0, .int .i64 op, .int .i64 un, .bool o, .int .i64 orr] w fun e w' => e = .returned (.int .i64 k) ∧ Newer w w') := by
    intro k hk hik hend hno w
    have h := zzLineEnd_any T _ i0 rfl lv ou 0 op un o orr w hb hi0 (by omega) (fun h => absurd h (by omega))
    rw [lineE_first hl ho k hk hend _ i0 (Nat.le_refl _) (.inl hik) hno] at h
    exact h
  have e1 : decide ((i0 : Int) < 0) = false := decide_eq_false (by omega)
  have e2 : decide ((T.size : Int) < (i0 : Int)) = false := decide_eq_false (by omega)
  go_enter Try.func6, Try.ntmps6
  go_wp2_with (go_at_call 21; refine (bytes21_yes _ _ _ _ _ _ _ _ _ _ hb).mono ?_; rintro e w' ⟨rfl, rfl⟩)
  go_loop [19] (fun v => ∃ k : Nat, i0 ≤ k ∧ k ≤ T.size ∧ v = .int .i64 k ∧ ∀ p, i0 ≤ p → p < k → bt T p ≠ 10 ∧ bt T p ≠ 13) (fun v => T.size - (intOf v).toNat)
  case atStart => exact ⟨i0, Nat.le_refl _, hi0, rfl, fun p hp1 hp2 => absurd hp2 (by omega)⟩
  case round =>
    obtain ⟨k, hk1, hk2, rfl, hno⟩ := hrel
    have HNo : Hid (∀ p, i0 ≤ p → p < k → bt T p ≠ 10 ∧ bt T p ≠ 13) := hno
    clear hno
    by_cases hlt : k < T.size
    · have hbk : Hid (bt T k = T[k].toNat) := bt_lt hlt
      by_cases h10 : ((T[k].toNat : Int) != 10) = true
      · by_cases h13 : ((T[k].toNat : Int) != 13) = true
        · go_wp2
          go_round
          case rel =>
            refine ⟨k + 1, by omega, by omega, by go_num, fun p hp1 hp2 => ?_⟩
            by_cases e : p = k
            · subst e
              rw [hbk.out]
              have g1 := bne_iff_ne.1 h10
              have g2 := bne_iff_ne.1 h13
              omega
            · exact HNo.out p hp1 (by omega)
          case measure => simp [intOf]; omega
        · have h13' : ((T[k].toNat : Int) != 13) = false := by simpa using h13
          have H := H22.out k hk2 hk1 (.inr (.inr (by rw [hbk.out]; rw [bne_eq_false_iff_eq] at h13'; omega))) HNo.out
          have HH : Hid _ := H
          clear H h13
          go_wp2_with (go_at_call 22; refine (HH.out _).mono ?_; rintro e w1 ⟨rfl, hn1⟩)
          go_ret
          exact ⟨rfl, hn1⟩
      · have h10' : ((T[k].toNat : Int) != 10) = false := by simpa using h10
        have H := H22.out k hk2 hk1 (.inr (.inl (by rw [hbk.out]; rw [bne_eq_false_iff_eq] at h10'; omega))) HNo.out
        have HH : Hid _ := H
        clear H h10
        go_wp2_with (go_at_call 22; refine (HH.out _).mono ?_; rintro e w1 ⟨rfl, hn1⟩)
        go_ret
        exact ⟨rfl, hn1⟩
    · have H := H22.out k hk2 hk1 (.inl (by omega)) HNo.out
      have HH : Hid _ := H
      clear H
      go_wp2_with (go_at_call 22; refine (HH.out _).mono ?_; rintro e w1 ⟨rfl, hn1⟩)
      go_ret
      exact ⟨rfl, hn1⟩
end Go.Proofs.Qxb6602558a
