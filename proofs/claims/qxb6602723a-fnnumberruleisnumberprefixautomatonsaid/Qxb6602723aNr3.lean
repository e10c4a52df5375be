import Derived.Test.Qxb6602723aNr2
namespace Go.Proofs.Qxb6602723a
open Go.RowKit
set_option linter.unusedVariables false

theorem beq_t {a b : Int} (h : a = b) : (a == b) = true := beq_iff_eq.2 h
theorem beq_f {a b : Int} (h : a ≠ b) : (a == b) = false := beq_eq_false_iff_ne.2 h

theorem or_left {a b c : Prop} (h : (a ∧ b) ∨ c) : a ∨ c := by
  rcases h with ⟨h, _⟩ | h
  · exact .inl h
  · exact .inr h

theorem classify_empty (T : ByteArray) (w : World) (h0 : T.size = 0) :
    Calls Try.prog 10 #[.string T] w fun e w' => e = .returned (.int .u8 (F T 0 T.size)) ∧ w = w' := by
  have hv : Hid (F T 0 T.size = 0) := by show F T 0 T.size = 0; rw [h0]; rfl
  go_enter Try.func10, Try.ntmps10
  go_wp2
  go_ret
  exact ⟨ret_int hv.out.symm, rfl⟩

def Cut1 (T : ByteArray) (w : World) (s : Value) (wc : World) : Prop := ∃ k : Nat, s = .int .i64 k ∧ AtInt T k ∧ w = wc
def Cut2 (T : ByteArray) (w : World) (s : Value) (wc : World) : Prop := ∃ k : Nat, s = .int .i64 k ∧ AtDot T k ∧ w = wc
def Cut3 (T : ByteArray) (w : World) (s : Value) (wc : World) : Prop := ∃ k : Nat, s = .int .i64 k ∧ AtExp T k ∧ w = wc
def Cut4 (T : ByteArray) (w : World) (s : Value) (wc : World) : Prop := ∃ k : Nat, s = .int .i64 k ∧ k < T.size ∧ ((F T 0 k = 15 ∧ bt T k ≠ 43 ∧ bt T k ≠ 45) ∨ F T 0 k = 16) ∧ w = wc

def sgB (T : ByteArray) (j : Nat) : Bool := decide (bt T j = 43 ∨ bt T j = 45)
def SgCut (T : ByteArray) (j : Nat) (w : World) (s : Value) (wc : World) : Prop := s = .bool (sgB T j) ∧ w = wc
theorem sg_no {T : ByteArray} {j : Nat} (h : sgB T j = false) : bt T j ≠ 43 ∧ bt T j ≠ 45 := by
  have h2 := of_decide_eq_false h
  exact ⟨fun h => h2 (.inl h), fun h => h2 (.inr h)⟩
theorem sg_cases (T : ByteArray) (j : Nat) (hj : j < T.size) : (((T[j].toNat : Int) == 43) = true ∧ sgB T j = true) ∨ (((T[j].toNat : Int) == 43) = false ∧ ((T[j].toNat : Int) == 45) = true ∧ sgB T j = true) ∨ (((T[j].toNat : Int) == 43) = false ∧ ((T[j].toNat : Int) == 45) = false ∧ sgB T j = false) := by
  have hb := bt_lt hj
  unfold sgB
  rw [hb]
  by_cases h1 : (T[j].toNat : Int) = 43
  · exact .inl ⟨beq_t h1, decide_eq_true (.inl h1)⟩
  · by_cases h2 : (T[j].toNat : Int) = 45
    · exact .inr (.inl ⟨beq_f h1, beq_t h2, decide_eq_true (.inr h2)⟩)
    · exact .inr (.inr ⟨beq_f h1, beq_f h2, decide_eq_false (by omega)⟩)

set_option maxRecDepth 20000 in
set_option maxHeartbeats 4000000 in
theorem classify_main (T : ByteArray) (w : World) (hs : T.size ≤ 1048577) (h0 : 0 < T.size) :
    Calls Try.prog 10 #[.string T] w fun e w' => e = .returned (.int .u8 (F T 0 T.size)) ∧ w = w' := by
  have hn0 : ((T.size : Int) == 0) = false := beq_f (by omega)
  go_enter Try.func10, Try.ntmps10
  go_upto_if 12 with fail
  go_cut [4] (fun s wc => Cut1 T w s wc)
  case first =>
    have hb0 : bt T 0 = T[0].toNat := bt_lt h0
    by_cases hm : ((T[0].toNat : Int) == 45) = true
    · have hF : F T 0 1 = 10 := by
        have : bt T 0 = 45 := by rw [hb0]; exact beq_iff_eq.1 hm
        rw [F_succ, this]; rfl
      have HF : Hid (F T 0 1 = 10) := hF
      clear hF hb0
      by_cases h1 : T.size = 1
      · have hv : Hid (F T 0 T.size = 10) := by show F T 0 T.size = 10; rw [h1]; exact HF.out
        have e1 : ((1 : Int) == (T.size : Int)) = true := beq_t (by omega)
        go_wp2
        go_ret
        exact ⟨ret_int hv.out.symm, rfl⟩
      · have e1 : ((1 : Int) == (T.size : Int)) = false := beq_f (by omega)
        go_wp2
        go_meet
        case rel => exact ⟨1, rfl, atInt_of (by omega) (.inr HF.out), rfl⟩
    · have hm' : ((T[0].toNat : Int) == 45) = false := by simpa using hm
      have HA : Hid (AtInt T 0) := atInt_of h0 (.inl ⟨rfl, by rw [hb0]; exact beq_eq_false_iff_ne.1 hm'⟩)
      clear hm hb0
      go_wp2
      go_meet
      case rel => exact ⟨0, rfl, HA.out, rfl⟩
  case rest =>
    obtain ⟨k, rfl, hA, hw⟩ := hcut
    subst hw
    have hk := hA.1
    have hbk : bt T k = T[k].toNat := bt_lt hk
    have HA : Hid (AtInt T k) := hA
    clear hA
    go_upto_if 21 with fail
    go_cut [4] (fun s wc => Cut2 T w s wc)
    case first =>
      by_cases hm : ((T[k].toNat : Int) == 48) = true
      · have HF : Hid (F T 0 (k + 1) = 11) := HA.out.2.1 (by rw [hbk]; exact beq_iff_eq.1 hm)
        clear hbk
        by_cases h1 : T.size = k + 1
        · have hv : Hid (F T 0 T.size = 11) := by show F T 0 T.size = 11; rw [h1]; exact HF.out
          have e1 : ((k : Int) + 1 == (T.size : Int)) = true := beq_t (by omega)
          go_wp2
          go_ret
          exact ⟨ret_int hv.out.symm, rfl⟩
        · have e1 : ((k : Int) + 1 == (T.size : Int)) = false := beq_f (by omega)
          go_wp2
          go_meet
          case rel => exact ⟨k + 1, by go_num, atDot_of (by omega) (.inl HF.out), rfl⟩
      · have hm' : ((T[k].toNat : Int) == 48) = false := by simpa using hm
        clear hm
        by_cases hd : isD (T[k].toNat : Int) = true
        · have HF : Hid (F T 0 (k + 1) = 12) := HA.out.2.2.1 (by rw [hbk]; exact beq_eq_false_iff_ne.1 hm') (by rw [hbk]; exact hd)
          have HB : Hid (bt T k = T[k].toNat) := hbk
          clear hbk HA
          go_wp2_with (go_at_call 19; refine (digit_any _ _).mono ?_; rintro e w' ⟨rfl, rfl⟩)
          go_loop [4] (fun v => ∃ j : Nat, k ≤ j ∧ j ≤ T.size ∧ v = .int .i64 j ∧ (j = k ∨ F T 0 j = 12)) (fun v => T.size - (intOf v).toNat)
          case atStart => exact ⟨k, Nat.le_refl _, by omega, rfl, .inl rfl⟩
          case round =>
            obtain ⟨j, hj1, hj2, rfl, hj3⟩ := hrel
            have HJ : Hid (j = k ∨ F T 0 j = 12) := hj3
            clear hj3
            by_cases hlt : j < T.size
            · have hbj : bt T j = T[j].toNat := bt_lt hlt
              have HBJ : Hid (bt T j = T[j].toNat) := hbj
              clear hbj
              by_cases hdj : isD (T[j].toNat : Int) = true
              · have HN : Hid (F T 0 (j + 1) = 12) := by
                  rcases HJ.out with h | h
                  · subst h; exact HF.out
                  · exact go_digit h (by rw [HBJ.out]; exact hdj) (.inl ⟨rfl, rfl⟩)
                go_wp2_with (go_at_call 19; refine (digit_any _ _).mono ?_; rintro e w' ⟨rfl, rfl⟩)
                go_round
                case rel => exact ⟨j + 1, by omega, by omega, by go_num, .inr HN.out⟩
                case measure => simp [intOf]; omega
              · have hdj' : isD (T[j].toNat : Int) = false := by simpa using hdj
                clear hdj
                have HN : Hid (AtDot T j) := by
                  rcases HJ.out with h | h
                  · subst h; rw [hd] at hdj'; cases hdj'
                  · exact atDot_of hlt (.inr ⟨h, by rw [HBJ.out]; exact hdj'⟩)
                have e1 : ((j : Int) == (T.size : Int)) = false := beq_f (by omega)
                go_wp2_with (go_at_call 19; refine (digit_any _ _).mono ?_; rintro e w' ⟨rfl, rfl⟩)
                go_meet
                case rel => exact ⟨j, rfl, HN.out, rfl⟩
            · have hv : Hid (F T 0 T.size = 12) := by
                rcases HJ.out with h | h
                · omega
                · rw [show T.size = j from by omega]; exact h
              have e1 : ((j : Int) == (T.size : Int)) = true := beq_t (by omega)
              go_wp2
              go_ret
              exact ⟨ret_int hv.out.symm, rfl⟩
        · have hd' : isD (T[k].toNat : Int) = false := by simpa using hd
          have hv : Hid (F T 0 T.size = 18) := F_18 (HA.out.2.2.2 (by rw [hbk]; exact hd')) _ (by omega)
          clear hbk HA hd
          go_wp2_with (go_at_call 19; refine (digit_any _ _).mono ?_; rintro e w' ⟨rfl, rfl⟩)
          go_ret
          exact ⟨ret_int hv.out.symm, rfl⟩
    case rest =>
      clear hbk HA hk
      obtain ⟨k, rfl, hA, hw⟩ := hcut
      subst hw
      have hk := hA.1
      have hbk : bt T k = T[k].toNat := bt_lt hk
      have HA : Hid (AtDot T k) := hA
      clear hA
      go_upto_if 48 with fail
      go_cut [4] (fun s wc => Cut3 T w s wc)
      case first =>
        by_cases hm : ((T[k].toNat : Int) == 46) = true
        · have HF : Hid (F T 0 (k + 1) = 13) := HA.out.2.1 (by rw [hbk]; exact beq_iff_eq.1 hm)
          clear hbk HA
          by_cases h1 : T.size = k + 1
          · have hv : Hid (F T 0 T.size = 13) := by show F T 0 T.size = 13; rw [h1]; exact HF.out
            have e1 : ((k : Int) + 1 == (T.size : Int)) = true := beq_t (by omega)
            go_wp2
            go_ret
            exact ⟨ret_int hv.out.symm, rfl⟩
          · have e1 : ((k : Int) + 1 == (T.size : Int)) = false := beq_f (by omega)
            have hk1 : k + 1 < T.size := by omega
            have HB1 : Hid (bt T (k + 1) = T[k + 1].toNat) := bt_lt hk1
            by_cases hd : isD (T[k + 1].toNat : Int) = true
            · go_wp2_with (go_at_call 19; refine (digit_any _ _).mono ?_; rintro e w' ⟨rfl, rfl⟩)
              go_loop [4] (fun v => ∃ j : Nat, k + 1 ≤ j ∧ j ≤ T.size ∧ v = .int .i64 j ∧ ((j = k + 1 ∧ F T 0 j = 13) ∨ F T 0 j = 14)) (fun v => T.size - (intOf v).toNat)
              case atStart => exact ⟨k + 1, Nat.le_refl _, by omega, by go_num, .inl ⟨rfl, HF.out⟩⟩
              case round =>
                obtain ⟨j, hj1, hj2, rfl, hj3⟩ := hrel
                have HJ : Hid ((j = k + 1 ∧ F T 0 j = 13) ∨ F T 0 j = 14) := hj3
                clear hj3
                by_cases hlt : j < T.size
                · have HBJ : Hid (bt T j = T[j].toNat) := bt_lt hlt
                  by_cases hdj : isD (T[j].toNat : Int) = true
                  · have HN : Hid (F T 0 (j + 1) = 14) := by
                      rcases HJ.out with ⟨_, h⟩ | h
                      · exact go_digit h (by rw [HBJ.out]; exact hdj) (.inr (.inl ⟨rfl, rfl⟩))
                      · exact go_digit h (by rw [HBJ.out]; exact hdj) (.inr (.inr (.inl ⟨rfl, rfl⟩)))
                    go_wp2_with (go_at_call 19; refine (digit_any _ _).mono ?_; rintro e w' ⟨rfl, rfl⟩)
                    go_round
                    case rel => exact ⟨j + 1, by omega, by omega, by go_num, .inr HN.out⟩
                    case measure => simp [intOf]; omega
                  · have hdj' : isD (T[j].toNat : Int) = false := by simpa using hdj
                    clear hdj
                    have HN : Hid (AtExp T j) := by
                      rcases HJ.out with ⟨h, _⟩ | h
                      · subst h; rw [hd] at hdj'; cases hdj'
                      · exact atExp_of hlt (.inr ⟨h, by rw [HBJ.out]; exact hdj'⟩)
                    have e2 : ((j : Int) == (T.size : Int)) = false := beq_f (by omega)
                    go_wp2_with (go_at_call 19; refine (digit_any _ _).mono ?_; rintro e w' ⟨rfl, rfl⟩)
                    go_meet
                    case rel => exact ⟨j, rfl, HN.out, rfl⟩
                · have hv : Hid (F T 0 T.size = 14) := by
                    rcases HJ.out with ⟨h, _⟩ | h
                    · omega
                    · rw [show T.size = j from by omega]; exact h
                  have e2 : ((j : Int) == (T.size : Int)) = true := beq_t (by omega)
                  go_wp2
                  go_ret
                  exact ⟨ret_int hv.out.symm, rfl⟩
            · have hd' : isD (T[k + 1].toNat : Int) = false := by simpa using hd
              have hv : Hid (F T 0 T.size = 18) := F_18 (no_digit HF.out (by rw [HB1.out]; exact hd') (.inl rfl)) _ (by omega)
              clear hd
              go_wp2_with (go_at_call 19; refine (digit_any _ _).mono ?_; rintro e w' ⟨rfl, rfl⟩)
              go_ret
              exact ⟨ret_int hv.out.symm, rfl⟩
        · have hm' : ((T[k].toNat : Int) == 46) = false := by simpa using hm
          have HE : Hid (AtExp T k) := atExp_of hk (.inl ⟨HA.out, by rw [hbk]; exact beq_eq_false_iff_ne.1 hm'⟩)
          clear hm hbk HA
          go_wp2
          go_meet
          case rel => exact ⟨k, rfl, HE.out, rfl⟩
      case rest =>
        clear hbk HA hk
        obtain ⟨k, rfl, hA, hw⟩ := hcut
        subst hw
        have hk := hA.1
        have hbk : bt T k = T[k].toNat := bt_lt hk
        have HA : Hid (AtExp T k) := hA
        clear hA
        by_cases hm : bt T k = 101 ∨ bt T k = 69
        · have HF : Hid (F T 0 (k + 1) = 15) := HA.out.2.1 hm
          rw [hbk] at hm
          clear hbk HA
          by_cases h1 : T.size = k + 1
          · have hv : Hid (F T 0 T.size = 15) := by show F T 0 T.size = 15; rw [h1]; exact HF.out
            have e1 : ((k : Int) + 1 == (T.size : Int)) = true := beq_t (by omega)
            rcases hm with hm | hm
            · have e2 : ((T[k].toNat : Int) == 101) = true := beq_t hm
              clear hm
              go_wp2
              go_ret
              exact ⟨ret_int hv.out.symm, rfl⟩
            · have e2 : ((T[k].toNat : Int) == 101) = false := beq_f (by omega)
              have e3 : ((T[k].toNat : Int) == 69) = true := beq_t hm
              clear hm
              go_wp2
              go_ret
              exact ⟨ret_int hv.out.symm, rfl⟩
          · have e1 : ((k : Int) + 1 == (T.size : Int)) = false := beq_f (by omega)
            have hk1 : k + 1 < T.size := by omega
            have hm2 : (((T[k].toNat : Int) == 101) = true) ∨ (((T[k].toNat : Int) == 101) = false ∧ ((T[k].toNat : Int) == 69) = true) := by
              rcases hm with hm | hm
              · exact .inl (beq_t hm)
              · exact .inr ⟨beq_f (by omega), beq_t hm⟩
            clear hm
            have HB1 : Hid (bt T (k + 1) = T[k + 1].toNat) := bt_lt hk1
            rcases hm2 with e2 | ⟨e2, e3⟩
            · go_upto_region 33 with fail
              go_cut [97] (fun s wc => SgCut T (k + 1) w s wc)
              case first =>
                rcases sg_cases T (k + 1) hk1 with ⟨g1, hg⟩ | ⟨g1, g2, hg⟩ | ⟨g1, g2, hg⟩
                · have HG : Hid (sgB T (k + 1) = true) := hg
                  clear hg
                  go_wp2
                  go_meet
                  case rel => exact ⟨by rw [HG.out], rfl⟩
                · have HG : Hid (sgB T (k + 1) = true) := hg
                  clear hg
                  go_wp2
                  go_meet
                  case rel => exact ⟨by rw [HG.out], rfl⟩
                · have HG : Hid (sgB T (k + 1) = false) := hg
                  clear hg
                  go_wp2
                  go_meet
                  case rel => exact ⟨by rw [HG.out], rfl⟩
              case rest =>
                obtain ⟨rfl, hw⟩ := hcut
                subst hw
                go_upto_if 97 with fail
                go_cut [4] (fun s wc => Cut4 T w s wc)
                case first =>
                  by_cases hsg : sgB T (k + 1) = true
                  · have HG : Hid (F T 0 (k + 1 + 1) = 16) := sign_of HF.out (of_decide_eq_true hsg)
                    rw [hsg]
                    clear hsg
                    by_cases h2 : T.size = k + 1 + 1
                    · have hv : Hid (F T 0 T.size = 16) := by show F T 0 T.size = 16; rw [h2]; exact HG.out
                      have e5 : ((k : Int) + 1 + 1 == (T.size : Int)) = true := beq_t (by omega)
                      go_wp2
                      go_ret
                      exact ⟨ret_int hv.out.symm, rfl⟩
                    · have e5 : ((k : Int) + 1 + 1 == (T.size : Int)) = false := beq_f (by omega)
                      go_wp2
                      go_meet
                      case rel => exact ⟨k + 1 + 1, by go_num, by omega, .inr HG.out, rfl⟩
                  · have hsg' : sgB T (k + 1) = false := by simpa using hsg
                    have HC : Hid (bt T (k + 1) ≠ 43 ∧ bt T (k + 1) ≠ 45) := sg_no hsg'
                    rw [hsg']
                    clear hsg hsg'
                    go_wp2
                    go_meet
                    case rel => exact ⟨k + 1, by go_num, by omega, .inl ⟨HF.out, HC.out⟩, rfl⟩
                case rest =>
                  clear HB1 HF h1 e1
                  obtain ⟨k, rfl, hk, hA, hw⟩ := hcut
                  subst hw
                  have HA : Hid ((F T 0 k = 15 ∧ bt T k ≠ 43 ∧ bt T k ≠ 45) ∨ F T 0 k = 16) := hA
                  have HB1 : Hid (bt T k = T[k].toNat) := bt_lt hk
                  clear hA
                  by_cases hd : isD (T[k].toNat : Int) = true
                  · go_wp2_with (go_at_call 19; refine (digit_any _ _).mono ?_; rintro e w' ⟨rfl, rfl⟩)
                    go_loop [4] (fun v => ∃ j : Nat, k ≤ j ∧ j ≤ T.size ∧ v = .int .i64 j ∧ ((j = k ∧ (F T 0 j = 15 ∨ F T 0 j = 16)) ∨ F T 0 j = 17)) (fun v => T.size - (intOf v).toNat)
                    case atStart => exact ⟨k, Nat.le_refl _, by omega, rfl, .inl ⟨rfl, or_left HA.out⟩⟩
                    case round =>
                      obtain ⟨j, hj1, hj2, rfl, hj3⟩ := hrel
                      have HJ : Hid ((j = k ∧ (F T 0 j = 15 ∨ F T 0 j = 16)) ∨ F T 0 j = 17) := hj3
                      clear hj3
                      by_cases hlt : j < T.size
                      · have HBJ : Hid (bt T j = T[j].toNat) := bt_lt hlt
                        by_cases hdj : isD (T[j].toNat : Int) = true
                        · have HN : Hid (F T 0 (j + 1) = 17) := by
                            have hbd : isD (bt T j) = true := by rw [HBJ.out]; exact hdj
                            rcases HJ.out with ⟨_, h | h⟩ | h
                            · exact go_digit h hbd (by omega)
                            · exact go_digit h hbd (by omega)
                            · exact go_digit h hbd (by omega)
                          go_wp2_with (go_at_call 19; refine (digit_any _ _).mono ?_; rintro e w' ⟨rfl, rfl⟩)
                          go_round
                          case rel => exact ⟨j + 1, by omega, by omega, by go_num, .inr HN.out⟩
                          case measure => simp [intOf]; omega
                        · have hdj' : isD (T[j].toNat : Int) = false := by simpa using hdj
                          clear hdj
                          have hv : Hid (F T 0 T.size = 18) := by
                            rcases HJ.out with ⟨h, _⟩ | h
                            · subst h; rw [hd] at hdj'; cases hdj'
                            · exact F_18 (no_digit h (by rw [HBJ.out]; exact hdj') (by omega)) _ (by omega)
                          have e5 : ((j : Int) == (T.size : Int)) = false := beq_f (by omega)
                          go_wp2_with (go_at_call 19; refine (digit_any _ _).mono ?_; rintro e w' ⟨rfl, rfl⟩)
                          go_ret
                          exact ⟨ret_int hv.out.symm, rfl⟩
                      · have hv : Hid (F T 0 T.size = 17) := by
                          rcases HJ.out with ⟨h, _⟩ | h
                          · omega
                          · rw [show T.size = j from by omega]; exact h
                        have e5 : ((j : Int) == (T.size : Int)) = true := beq_t (by omega)
                        go_wp2
                        go_ret
                        exact ⟨ret_int hv.out.symm, rfl⟩
                  · have hd' : isD (T[k].toNat : Int) = false := by simpa using hd
                    have hv : Hid (F T 0 T.size = 18) := by
                      have hbd : isD (bt T k) = false := by rw [HB1.out]; exact hd'
                      rcases HA.out with ⟨h, g⟩ | h
                      · exact F_18 (no_digit h hbd (.inr (.inl ⟨rfl, g⟩))) _ (by omega)
                      · exact F_18 (no_digit h hbd (by omega)) _ (by omega)
                    clear hd
                    go_wp2_with (go_at_call 19; refine (digit_any _ _).mono ?_; rintro e w' ⟨rfl, rfl⟩)
                    go_ret
                    exact ⟨ret_int hv.out.symm, rfl⟩
            · go_upto_region 33 with fail
              go_cut [97] (fun s wc => SgCut T (k + 1) w s wc)
              case first =>
                rcases sg_cases T (k + 1) hk1 with ⟨g1, hg⟩ | ⟨g1, g2, hg⟩ | ⟨g1, g2, hg⟩
                · have HG : Hid (sgB T (k + 1) = true) := hg
                  clear hg
                  go_wp2
                  go_meet
                  case rel => exact ⟨by rw [HG.out], rfl⟩
                · have HG : Hid (sgB T (k + 1) = true) := hg
                  clear hg
                  go_wp2
                  go_meet
                  case rel => exact ⟨by rw [HG.out], rfl⟩
                · have HG : Hid (sgB T (k + 1) = false) := hg
                  clear hg
                  go_wp2
                  go_meet
                  case rel => exact ⟨by rw [HG.out], rfl⟩
              case rest =>
                obtain ⟨rfl, hw⟩ := hcut
                subst hw
                go_upto_if 97 with fail
                go_cut [4] (fun s wc => Cut4 T w s wc)
                case first =>
                  by_cases hsg : sgB T (k + 1) = true
                  · have HG : Hid (F T 0 (k + 1 + 1) = 16) := sign_of HF.out (of_decide_eq_true hsg)
                    rw [hsg]
                    clear hsg
                    by_cases h2 : T.size = k + 1 + 1
                    · have hv : Hid (F T 0 T.size = 16) := by show F T 0 T.size = 16; rw [h2]; exact HG.out
                      have e5 : ((k : Int) + 1 + 1 == (T.size : Int)) = true := beq_t (by omega)
                      go_wp2
                      go_ret
                      exact ⟨ret_int hv.out.symm, rfl⟩
                    · have e5 : ((k : Int) + 1 + 1 == (T.size : Int)) = false := beq_f (by omega)
                      go_wp2
                      go_meet
                      case rel => exact ⟨k + 1 + 1, by go_num, by omega, .inr HG.out, rfl⟩
                  · have hsg' : sgB T (k + 1) = false := by simpa using hsg
                    have HC : Hid (bt T (k + 1) ≠ 43 ∧ bt T (k + 1) ≠ 45) := sg_no hsg'
                    rw [hsg']
                    clear hsg hsg'
                    go_wp2
                    go_meet
                    case rel => exact ⟨k + 1, by go_num, by omega, .inl ⟨HF.out, HC.out⟩, rfl⟩
                case rest =>
                  clear HB1 HF h1 e1
                  obtain ⟨k, rfl, hk, hA, hw⟩ := hcut
                  subst hw
                  have HA : Hid ((F T 0 k = 15 ∧ bt T k ≠ 43 ∧ bt T k ≠ 45) ∨ F T 0 k = 16) := hA
                  have HB1 : Hid (bt T k = T[k].toNat) := bt_lt hk
                  clear hA
                  by_cases hd : isD (T[k].toNat : Int) = true
                  · go_wp2_with (go_at_call 19; refine (digit_any _ _).mono ?_; rintro e w' ⟨rfl, rfl⟩)
                    go_loop [4] (fun v => ∃ j : Nat, k ≤ j ∧ j ≤ T.size ∧ v = .int .i64 j ∧ ((j = k ∧ (F T 0 j = 15 ∨ F T 0 j = 16)) ∨ F T 0 j = 17)) (fun v => T.size - (intOf v).toNat)
                    case atStart => exact ⟨k, Nat.le_refl _, by omega, rfl, .inl ⟨rfl, or_left HA.out⟩⟩
                    case round =>
                      obtain ⟨j, hj1, hj2, rfl, hj3⟩ := hrel
                      have HJ : Hid ((j = k ∧ (F T 0 j = 15 ∨ F T 0 j = 16)) ∨ F T 0 j = 17) := hj3
                      clear hj3
                      by_cases hlt : j < T.size
                      · have HBJ : Hid (bt T j = T[j].toNat) := bt_lt hlt
                        by_cases hdj : isD (T[j].toNat : Int) = true
                        · have HN : Hid (F T 0 (j + 1) = 17) := by
                            have hbd : isD (bt T j) = true := by rw [HBJ.out]; exact hdj
                            rcases HJ.out with ⟨_, h | h⟩ | h
                            · exact go_digit h hbd (by omega)
                            · exact go_digit h hbd (by omega)
                            · exact go_digit h hbd (by omega)
                          go_wp2_with (go_at_call 19; refine (digit_any _ _).mono ?_; rintro e w' ⟨rfl, rfl⟩)
                          go_round
                          case rel => exact ⟨j + 1, by omega, by omega, by go_num, .inr HN.out⟩
                          case measure => simp [intOf]; omega
                        · have hdj' : isD (T[j].toNat : Int) = false := by simpa using hdj
                          clear hdj
                          have hv : Hid (F T 0 T.size = 18) := by
                            rcases HJ.out with ⟨h, _⟩ | h
                            · subst h; rw [hd] at hdj'; cases hdj'
                            · exact F_18 (no_digit h (by rw [HBJ.out]; exact hdj') (by omega)) _ (by omega)
                          have e5 : ((j : Int) == (T.size : Int)) = false := beq_f (by omega)
                          go_wp2_with (go_at_call 19; refine (digit_any _ _).mono ?_; rintro e w' ⟨rfl, rfl⟩)
                          go_ret
                          exact ⟨ret_int hv.out.symm, rfl⟩
                      · have hv : Hid (F T 0 T.size = 17) := by
                          rcases HJ.out with ⟨h, _⟩ | h
                          · omega
                          · rw [show T.size = j from by omega]; exact h
                        have e5 : ((j : Int) == (T.size : Int)) = true := beq_t (by omega)
                        go_wp2
                        go_ret
                        exact ⟨ret_int hv.out.symm, rfl⟩
                  · have hd' : isD (T[k].toNat : Int) = false := by simpa using hd
                    have hv : Hid (F T 0 T.size = 18) := by
                      have hbd : isD (bt T k) = false := by rw [HB1.out]; exact hd'
                      rcases HA.out with ⟨h, g⟩ | h
                      · exact F_18 (no_digit h hbd (.inr (.inl ⟨rfl, g⟩))) _ (by omega)
                      · exact F_18 (no_digit h hbd (by omega)) _ (by omega)
                    clear hd
                    go_wp2_with (go_at_call 19; refine (digit_any _ _).mono ?_; rintro e w' ⟨rfl, rfl⟩)
                    go_ret
                    exact ⟨ret_int hv.out.symm, rfl⟩
        · have hv : Hid (F T 0 T.size = 18) := F_18 (HA.out.2.2 (fun h => hm (.inl h)) (fun h => hm (.inr h))) _ (by omega)
          have e2 : ((T[k].toNat : Int) == 101) = false := beq_f (fun h => hm (.inl (by rw [hbk]; exact h)))
          have e3 : ((T[k].toNat : Int) == 69) = false := beq_f (fun h => hm (.inr (by rw [hbk]; exact h)))
          clear hm hbk HA
          go_wp2
          go_ret
          exact ⟨ret_int hv.out.symm, rfl⟩
end Go.Proofs.Qxb6602723a
