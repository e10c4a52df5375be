import Derived.Test.Qxb6602558aLe5
import Derived.Deep.DeepCutAuto
namespace Go.Proofs.Qxb6602558a
open Go.RowKit
set_option linter.unusedVariables false

/-! ### the third law: the end lies on its line -/
section
variable (T : ByteArray) (i lv ou q op un : Int) (o : Bool) (orr : Int) (w : World)
theorem stays_out (h : 1048576 < T.size ∨ i < 0 ∨ (T.size : Int) < i) : Calls Try.prog 8 #[.string T, .int .i64 i, .int .i64 lv, .int .i64 ou, .int .u8 q, .int .i64 op, .int .i64 un, .bool o, .int .i64 orr] w fun e w' => e = .returned (.bool true) ∧ w = w' := by
  by_cases hb : 1048576 < T.size
  · go_enter Try.func8, Try.ntmps8
    go_wp2_with (go_at_call 24; refine (bytes24_no _ _ _ _ _ _ _ _ _ _ hb).mono ?_; rintro e w' ⟨rfl, rfl⟩)
    go_ret
    exact ⟨rfl, rfl⟩
  · have hb' : T.size ≤ 1048576 := by omega
    by_cases hi : i < 0
    · have e1 : decide (i < 0) = true := decide_eq_true hi
      go_enter Try.func8, Try.ntmps8
      go_wp2_with (go_at_call 24; refine (bytes24_yes _ _ _ _ _ _ _ _ _ _ hb').mono ?_; rintro e w' ⟨rfl, rfl⟩)
      go_ret
      exact ⟨rfl, rfl⟩
    · have e1 : decide (i < 0) = false := decide_eq_false hi
      have e2 : decide ((T.size : Int) < i) = true := decide_eq_true (by omega)
      go_enter Try.func8, Try.ntmps8
      go_wp2_with (go_at_call 24; refine (bytes24_yes _ _ _ _ _ _ _ _ _ _ hb').mono ?_; rintro e w' ⟨rfl, rfl⟩)
      go_ret
      exact ⟨rfl, rfl⟩

theorem stays_zero (hb : T.size ≤ 1048576) (hi : 0 ≤ i) (hi2 : i ≤ (T.size : Int)) (h1 : (un == 0) = true) (h2 : (q != 0) = true) : Calls Try.prog 8 #[.string T, .int .i64 i, .int .i64 lv, .int .i64 ou, .int .u8 q, .int .i64 op, .int .i64 un, .bool o, .int .i64 orr] w fun e w' => e = .returned (.bool true) ∧ w = w' := by
  have e1 : decide (i < 0) = false := decide_eq_false (by omega)
  have e2 : decide ((T.size : Int) < i) = false := decide_eq_false (by omega)
  go_enter Try.func8, Try.ntmps8
  go_wp2_with (go_at_call 24; refine (bytes24_yes _ _ _ _ _ _ _ _ _ _ hb).mono ?_; rintro e w' ⟨rfl, rfl⟩)
  go_ret
  exact ⟨rfl, rfl⟩
end

/-- What is known of the end. -/
structure EndIs (T : ByteArray) (q : Int) (i r : Nat) : Prop where
  lo : i ≤ r
  hi : r ≤ T.size
  no : ∀ p, i ≤ p → p < r → bt T p ≠ 10 ∧ bt T p ≠ 13
  at_ : r < T.size → (bt T r = 10 ∨ bt T r = 13) ∨ (bt T (r + run T r) = 110 ∨ bt T (r + run T r) = 114 ∨ bt T (r + run T r) = 34 ∨ ((bt T (r + run T r) : Int) = q ∧ q ≠ 0)) ∧ bt T (r + run T r) ≠ 10 ∧ bt T (r + run T r) ≠ 13

theorem EndIs.tail {T : ByteArray} {q : Int} {i r : Nat} (h : EndIs T q i r) (hr : r < T.size) : ∃ m, r ≤ m ∧ m < T.size ∧ (∀ j, r ≤ j → j < m → bt T j = 92) ∧ bt T m ≠ 92 ∧
    ((bt T m = 10 ∧ m = r) ∨ (bt T m = 13 ∧ m = r) ∨ (bt T m = 110) ∨ bt T m = 114 ∨ bt T m = 34 ∨ (bt T m ≠ 10 ∧ bt T m ≠ 13 ∧ bt T m ≠ 110 ∧ bt T m ≠ 114 ∧ bt T m ≠ 34 ∧ (bt T m : Int) = q ∧ q ≠ 0)) := by
  obtain ⟨s1, s2, s3⟩ := run_spec T r (by omega)
  by_cases hbr : bt T r = 10 ∨ bt T r = 13
  · refine ⟨r, Nat.le_refl _, hr, fun j h1 h2 => absurd h2 (by omega), by omega, by omega⟩
  · have ha := h.at_ hr
    have hms : r + run T r < T.size := bt_pos (by omega)
    refine ⟨r + run T r, by omega, hms, fun j h1 h2 => ?_, s3, ?_⟩
    · have := s1 (j - r) (by omega)
      rw [show r + (j - r) = j from by omega] at this
      exact this
    · omega

theorem lineE_endIs (T : ByteArray) (lv ou q op un : Int) (i : Nat) (hi : i ≤ T.size) : EndIs T q i (lineE T lv ou q op un i) := by
  obtain ⟨a1, a2, a3, a4, a5⟩ := lineE_all (T := T) (lv := lv) (ou := ou) (q := q) (op := op) (un := un) (T.size + 1 - i) i (Nat.le_refl _) (by omega)
  refine ⟨a1 hi, a2, a4, fun hr => ?_⟩
  clear a4 a5 a1
  generalize lineE T lv ou q op un i = r at *
  cases hst : stopAt T lv ou q op un r with
  | none =>
    obtain ⟨n1, n2⟩ := stop_none hr hst
    have n3 := nextAt_lt T q op un r
    have n4 := lineE_none hr hst
    rw [a3] at n4
    obtain ⟨b1, _⟩ := lineE_all (T := T) (lv := lv) (ou := ou) (q := q) (op := op) (un := un) _ (nextAt T q op un r) (Nat.le_refl _) n1
    by_cases e : nextAt T q op un r ≤ T.size
    · have := b1 e; omega
    · have := lineE_end T lv ou q op un (nextAt T q op un r) (by omega); omega
  | some v =>
    have hv := lineE_some hr hst
    rw [a3] at hv
    subst hv
    rcases stop_some (by omega) hst with ⟨_, h2⟩ | ⟨_, h2, h3, h4⟩
    · exact .inl h2
    · exact .inr ⟨h2, h3, h4⟩

set_option maxRecDepth 20000 in
set_option maxHeartbeats 2000000 in
theorem stays_main (T : ByteArray) (i0 : Nat) (lv ou q op un : Int) (o : Bool) (orr : Int) (w : World) (hb : T.size ≤ 1048576) (hi0 : i0 ≤ T.size) (hq : 0 ≤ q) (hqu : (un == 0) = false ∨ ((un == 0) = true ∧ (q != 0) = false)) :
    Calls Try.prog 8 #[.string T, .int .i64 i0, .int .i64 lv, .int .i64 ou, .int .u8 q, .int .i64 op, .int .i64 un, .bool o, .int .i64 orr] w fun e w' => e = .returned (.bool true) ∧ Newer w w' := by
  have e1 : decide ((i0 : Int) < 0) = false := decide_eq_false (by omega)
  have e2 : decide ((T.size : Int) < (i0 : Int)) = false := decide_eq_false (by omega)
  have hun : 0 < q → un ≠ 0 := by
    intro h
    rcases hqu with h1 | ⟨_, h2⟩
    · exact beq_eq_false_iff_ne.1 h1
    · rw [bne_eq_false_iff_eq] at h2; omega
  have HI : Hid (EndIs T q i0 (lineE T lv ou q op un i0)) := lineE_endIs T lv ou q op un i0 hi0
  have H1 : Hid (∀ w, Calls Try.prog 22 #[.string T, .int .i64 i0, .int .i64 lv, .int .i64 ou, .int .u8 q, .int .i64 op, .int .i64 un, .bool o, .int .i64 orr] w fun e w' => e = .returned (.int .i64 (lineE T lv ou q op un i0)) ∧ Newer w w') :=
    fun w => zzLineEnd_any T _ i0 rfl lv ou q op un o orr w hb hi0 hq hun
  clear hun
  generalize lineE T lv ou q op un i0 = r at *
  have hr1 := HI.out.lo
  have hr2 := HI.out.hi
  have e3 : decide ((r : Int) < (i0 : Int)) = false := decide_eq_false (by omega)
  have e4 : decide ((T.size : Int) < (r : Int)) = false := decide_eq_false (by omega)
  have HT := HI.out.tail
  have HNo : Hid (∀ p, i0 ≤ p → p < r → bt T p ≠ 10 ∧ bt T p ≠ 13) := HI.out.no
  clear HI
  rcases hqu with h1 | ⟨h1, h2⟩
  all_goals
    go_enter Try.func8, Try.ntmps8
    go_wp2_with (first
      | (go_at_call 24; refine (bytes24_yes _ _ _ _ _ _ _ _ _ _ hb).mono ?_; rintro e w' ⟨rfl, rfl⟩)
      | (go_at_call 22; refine (H1.out _).mono ?_; rintro e w1 ⟨rfl, hn1⟩))
    clear H1
    go_loop [20] (fun v => ∃ p : Nat, i0 ≤ p ∧ p ≤ r ∧ v = .int .i64 p) (fun v => r - (intOf v).toNat)
    case atStart => exact ⟨i0, Nat.le_refl _, hr1, rfl⟩
    case round =>
      obtain ⟨p, hp1, hp2, rfl⟩ := hrel
      by_cases hlt : p < r
      · have hps : p < T.size := by omega
        obtain ⟨g1, g2⟩ := HNo.out p hp1 hlt
        rw [bt_lt hps] at g1 g2
        have f1 : ((T[p].toNat : Int) == 10) = false := beq_eq_false_iff_ne.2 (by omega)
        have f2 : ((T[p].toNat : Int) == 13) = false := beq_eq_false_iff_ne.2 (by omega)
        clear g1 g2 HT
        go_wp2
        go_round
        case rel => exact ⟨p + 1, by omega, by omega, by go_num⟩
        case measure => simp [intOf]; omega
      · by_cases hre : r < T.size
        · have f3 : ((r : Int) == (T.size : Int)) = false := beq_eq_false_iff_ne.2 (by omega)
          obtain ⟨m, hm1, hm2, hm3, hm4, hm5⟩ := HT hre
          have HM : Hid (∀ j, r ≤ j → j < m → bt T j = 92) := hm3
          have HC : Hid ((bt T m = 10 ∧ m = r) ∨ (bt T m = 13 ∧ m = r) ∨ (bt T m = 110) ∨ bt T m = 114 ∨ bt T m = 34 ∨ (bt T m ≠ 10 ∧ bt T m ≠ 13 ∧ bt T m ≠ 110 ∧ bt T m ≠ 114 ∧ bt T m ≠ 34 ∧ (bt T m : Int) = q ∧ q ≠ 0)) := hm5
          have HB : Hid (bt T m ≠ 92) := hm4
          clear HT hm3 hm4 hm5 HNo
          go_wp2
          go_loop [21] (fun v => ∃ k : Nat, r ≤ k ∧ k ≤ m ∧ v = .int .i64 k) (fun v => m - (intOf v).toNat)
          case atStart => exact ⟨r, Nat.le_refl _, hm1, rfl⟩
          case round =>
            obtain ⟨k, hk1, hk2, rfl⟩ := hrel
            have hks : k < T.size := by omega
            by_cases hlk : k < m
            · have f4 : ((T[k].toNat : Int) == 92) = true := by
                have := HM.out k hk1 hlk
                rw [bt_lt hks] at this
                exact beq_iff_eq.2 (by omega)
              go_wp2
              go_round
              case rel => exact ⟨k + 1, by omega, by omega, by go_num⟩
              case measure => simp [intOf]; omega
            · have hkm : k = m := by omega
              subst hkm
              have hb0 := HB.out
              have hc0 := HC.out
              rw [bt_lt hks] at hb0 hc0
              have f4 : ((T[k].toNat : Int) == 92) = false := beq_eq_false_iff_ne.2 (by omega)
              have f5 : ((k : Int) == (T.size : Int)) = false := beq_eq_false_iff_ne.2 (by omega)
              clear HB HC HM hb0
              rcases hc0 with ⟨g, gk⟩ | ⟨g, gk⟩ | g | g | g | ⟨g1, g2, g3, g4, g5, g6, g7⟩
              · have f6 : ((T[k].toNat : Int) == 10) = true := beq_iff_eq.2 (by omega)
                have f7 : ((k : Int) == (r : Int)) = true := beq_iff_eq.2 (by omega)
                clear g gk
                go_wp2
                go_ret
                exact ⟨rfl, hn1⟩
              · have f6 : ((T[k].toNat : Int) == 10) = false := beq_eq_false_iff_ne.2 (by omega)
                have f8 : ((T[k].toNat : Int) == 13) = true := beq_iff_eq.2 (by omega)
                have f7 : ((k : Int) == (r : Int)) = true := beq_iff_eq.2 (by omega)
                clear g gk
                go_wp2
                go_ret
                exact ⟨rfl, hn1⟩
              · have f6 : ((T[k].toNat : Int) == 10) = false := beq_eq_false_iff_ne.2 (by omega)
                have f8 : ((T[k].toNat : Int) == 13) = false := beq_eq_false_iff_ne.2 (by omega)
                have f9 : ((T[k].toNat : Int) == 110) = true := beq_iff_eq.2 (by omega)
                clear g
                go_wp2
                go_ret
                exact ⟨rfl, hn1⟩
              · have f6 : ((T[k].toNat : Int) == 10) = false := beq_eq_false_iff_ne.2 (by omega)
                have f8 : ((T[k].toNat : Int) == 13) = false := beq_eq_false_iff_ne.2 (by omega)
                have f9 : ((T[k].toNat : Int) == 110) = false := beq_eq_false_iff_ne.2 (by omega)
                have f10 : ((T[k].toNat : Int) == 114) = true := beq_iff_eq.2 (by omega)
                clear g
                go_wp2
                go_ret
                exact ⟨rfl, hn1⟩
              · have f6 : ((T[k].toNat : Int) == 10) = false := beq_eq_false_iff_ne.2 (by omega)
                have f8 : ((T[k].toNat : Int) == 13) = false := beq_eq_false_iff_ne.2 (by omega)
                have f9 : ((T[k].toNat : Int) == 110) = false := beq_eq_false_iff_ne.2 (by omega)
                have f10 : ((T[k].toNat : Int) == 114) = false := beq_eq_false_iff_ne.2 (by omega)
                have f11 : ((T[k].toNat : Int) == 34) = true := beq_iff_eq.2 (by omega)
                clear g
                go_wp2
                go_ret
                exact ⟨rfl, hn1⟩
              · have f6 : ((T[k].toNat : Int) == 10) = false := beq_eq_false_iff_ne.2 (by omega)
                have f8 : ((T[k].toNat : Int) == 13) = false := beq_eq_false_iff_ne.2 (by omega)
                have f9 : ((T[k].toNat : Int) == 110) = false := beq_eq_false_iff_ne.2 (by omega)
                have f10 : ((T[k].toNat : Int) == 114) = false := beq_eq_false_iff_ne.2 (by omega)
                have f11 : ((T[k].toNat : Int) == 34) = false := beq_eq_false_iff_ne.2 (by omega)
                have f12 : (q != 0) = true := bne_iff_ne.2 g7
                have f13 : ((T[k].toNat : Int) == q) = true := beq_iff_eq.2 g6
                clear g1 g2 g3 g4 g5 g6 g7
                first
                  | exact Bool.noConfusion (f12.symm.trans h2)
                  | (go_wp2; go_ret; exact ⟨rfl, hn1⟩)
        · have f3 : ((r : Int) == (T.size : Int)) = true := beq_iff_eq.2 (by omega)
          clear HT HNo
          go_wp2
          go_ret
          exact ⟨rfl, hn1⟩
end Go.Proofs.Qxb6602558a
