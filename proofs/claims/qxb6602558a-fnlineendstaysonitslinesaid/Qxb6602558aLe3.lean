import Derived.Test.Qxb6602558aLe2
import Derived.RowKit3
namespace Go.Proofs.Qxb6602558a
open Go.RowKit
set_option linter.unusedVariables false

theorem bt_ext (T : ByteArray) (i j : Nat) (hi : i ≤ T.size) : bt (T.extract i T.size) j = bt T (i + j) := by
  have hs : (T.extract i T.size).size = T.size - i := by simp
  by_cases h : j < T.size - i
  · rw [bt_lt (by omega), ext_at T i _ j (by omega)]
  · rw [bt_ge (by omega), bt_ge (by omega)]

theorem backslashes_at (T : ByteArray) (i : Nat) (w : World) (hs : T.size ≤ 1048576) (hi : i ≤ T.size) :
    Calls Try.prog 34 #[.string (T.extract i T.size)] w fun e w' => e = .returned (.int .i64 (run T i)) ∧ w = w' := by
  refine (backslashes_any (T.extract i T.size) w (by simp; omega)).mono ?_
  rintro e w' ⟨r, rfl, _, h2, h3, rfl⟩
  rw [run_eq T i r (fun j hj => by rw [← bt_ext T i j hi]; exact h2 j hj) (by rw [← bt_ext T i r hi]; exact h3)]
  exact ⟨rfl, rfl⟩

/-- New memory alone. -/
structure Newer (w w' : World) : Prop where
  grown : Grown w w'
  below : Below w.heap.size w w'

theorem Newer.refl (w : World) : Newer w w := ⟨Grown.refl _, Below.refl _ _⟩
theorem Newer.alloc {w w' : World} (h : Newer w w') (c : Array Value) (t : TypeId) : Newer w (w'.alloc (.cells c t)) := ⟨h.grown.alloc c t, h.below.alloc h.below.size _⟩
theorem Newer.trans {a b c : World} (h : Newer a b) (k : Newer b c) : Newer a c :=
  ⟨⟨World.keptBut_trans h.grown.1 k.grown.1, fun x => (k.grown.2.1 x).trans (h.grown.2.1 x), Nat.le_trans h.grown.2.2 k.grown.2.2⟩, h.below.trans (k.below.mono h.below.size)⟩

theorem box_cells {w wr : World} {a b c d e : Value} {t : TypeId} (h : Newer (w.alloc (.cells #[a, b, c, d, e] t)) wr) :
    wr.cell? ⟨w.heap.size, 0, none⟩ = some a ∧ wr.cell? ⟨w.heap.size, 1, none⟩ = some b ∧ wr.cell? ⟨w.heap.size, 2, none⟩ = some c ∧ wr.cell? ⟨w.heap.size, 3, none⟩ = some d ∧ wr.cell? ⟨w.heap.size, 4, none⟩ = some e := by
  have hc : ∀ j, wr.cell? ⟨w.heap.size, j, none⟩ = (w.alloc (.cells #[a, b, c, d, e] t)).cell? ⟨w.heap.size, j, none⟩ := fun j => h.below.cell (by simp)
  refine ⟨?_, ?_, ?_, ?_, ?_⟩ <;> rw [hc] <;> simp [World.cell?_alloc_at]

def stopV (lv ou q : Int) (i r c : Nat) (ρ : Int) (d : Bool) : Option Nat :=
  if c = 10 ∨ c = 13 then some (i + r)
  else if 0 < r ∧ (r : Int) = lv ∧ (c = 110 ∨ c = 114) then some i
  else if (c : Int) = q ∧ q ≠ 0 then (if ρ = 1 then (if d = true then none else some i) else if ρ = 2 then some i else none)
  else if c = 34 ∧ (r : Int) < ou then some i else none

def nextV (q : Int) (i r c : Nat) (ρ : Int) : Nat := if (c : Int) = q ∧ q ≠ 0 ∧ ρ = 1 then i + 2 * (r + 1) else i + (r + 1)

theorem stop_is (T : ByteArray) (lv ou q op un : Int) (i : Nat) : stopAt T lv ou q op un i = stopV lv ou q i (run T i) (bt T (i + run T i)) (roleV op un (run T i)) (dqB T i (run T i)) := rfl
theorem next_is (T : ByteArray) (q op un : Int) (i : Nat) : nextAt T q op un i = nextV q i (run T i) (bt T (i + run T i)) (roleV op un (run T i)) := rfl

def NB (c r : Nat) (lv : Int) : Prop := r ≤ 0 ∨ (0 < r ∧ (r : Int) ≠ lv) ∨ (0 < r ∧ (r : Int) ≤ lv ∧ lv ≤ (r : Int) ∧ c ≠ 110 ∧ c ≠ 114)

section
variable {lv ou q : Int} {i r c : Nat} {ρ : Int} {d : Bool}
theorem stop_A (h : c = 10 ∨ c = 13) : stopV lv ou q i r c ρ d = some (i + r) := if_pos h
theorem stop_B (h1 : c ≠ 10) (h2 : c ≠ 13) (h : 0 < r ∧ (r : Int) = lv ∧ (c = 110 ∨ c = 114)) : stopV lv ou q i r c ρ d = some i := by
  unfold stopV; rw [if_neg (by omega), if_pos h]
theorem nb_not (h : NB c r lv) : ¬ (0 < r ∧ (r : Int) = lv ∧ (c = 110 ∨ c = 114)) := by unfold NB at h; omega
theorem stop_Q (h1 : c ≠ 10) (h2 : c ≠ 13) (hn : NB c r lv) (h : (c : Int) = q ∧ q ≠ 0) : stopV lv ou q i r c ρ d = (if ρ = 1 then (if d = true then none else some i) else if ρ = 2 then some i else none) := by
  unfold stopV; rw [if_neg (by omega), if_neg (nb_not hn), if_pos h]
theorem stop_D (h1 : c ≠ 10) (h2 : c ≠ 13) (hn : NB c r lv) (h : (c : Int) ≠ q ∨ q = 0) : stopV lv ou q i r c ρ d = (if c = 34 ∧ (r : Int) < ou then some i else none) := by
  unfold stopV; rw [if_neg (by omega), if_neg (nb_not hn), if_neg (by omega)]
theorem next_Q (h : (c : Int) = q ∧ q ≠ 0 ∧ ρ = 1) : nextV q i r c ρ = i + 2 * (r + 1) := if_pos h
theorem next_D (h : ¬ ((c : Int) = q ∧ q ≠ 0 ∧ ρ = 1)) : nextV q i r c ρ = i + (r + 1) := if_neg h
end

/-- The ways of one round, each with its tests decided. -/
theorem ways (c r : Nat) (lv ou q : Int) (hq : 0 ≤ q) :
    (10 ≤ c ∧ c ≤ 10) ∨ (13 ≤ c ∧ c ≤ 13) ∨ (c ≠ 10 ∧ c ≠ 13 ∧
      ((0 < r ∧ (r : Int) ≤ lv ∧ lv ≤ (r : Int) ∧ 110 ≤ c ∧ c ≤ 110) ∨ (0 < r ∧ (r : Int) ≤ lv ∧ lv ≤ (r : Int) ∧ 114 ≤ c ∧ c ≤ 114) ∨
       (NB c r lv ∧ (((c : Int) ≤ q ∧ q ≤ (c : Int) ∧ 0 < q) ∨ (((c : Int) ≠ q ∨ ((c : Int) ≤ q ∧ q ≤ (c : Int) ∧ q ≤ 0)) ∧ ((34 ≤ c ∧ c ≤ 34 ∧ (r : Int) < ou) ∨ (34 ≤ c ∧ c ≤ 34 ∧ ou ≤ (r : Int)) ∨ c ≠ 34)))))) := by
  unfold NB
  omega

set_option maxRecDepth 20000 in
set_option maxHeartbeats 4000000 in
theorem lineEnd_any (T : ByteArray) (i0 : Nat) (lv ou q op un : Int) (o : Bool) (orr : Int) (w : World) (hs : T.size ≤ 1048576) (hi0 : i0 ≤ T.size) (hq : 0 ≤ q) (hun : 0 < q → un ≠ 0) :
    Calls Try.prog 28 #[.string T, .int .i64 i0, .int .i64 lv, .int .i64 ou, .agg #[.int .u8 q, .int .i64 op, .int .i64 un, .bool o, .int .i64 orr]] w
      fun e w' => e = .returned (.int .i64 (lineE T lv ou q op un i0)) ∧ Newer w w' := by
  go_enter Try.func28, Try.ntmps28
  go_wp2
  go_loopw [1] (fun v wr => ∃ k : Nat, k ≤ T.size + 1 ∧ v = .int .i64 k ∧ lineE T lv ou q op un k = lineE T lv ou q op un i0 ∧ Newer (w.alloc (.cells #[.int .u8 q, .int .i64 op, .int .i64 un, .bool o, .int .i64 orr] 70)) wr) (fun v _ => T.size + 1 - (intOf v).toNat)
  case atStart => exact ⟨i0, by omega, rfl, rfl, Newer.refl _⟩
  case round =>
    obtain ⟨k, hk, rfl, he, hnw⟩ := hrel
    have HE : Hid (lineE T lv ou q op un k = lineE T lv ou q op un i0) := he
    clear he
    obtain ⟨b0, b1, b2, b3, b4⟩ := box_cells hnw
    have HW : Hid (Newer w wr) := ((Newer.refl w).alloc _ _).trans hnw
    have HN : Hid (Newer (w.alloc (.cells #[.int .u8 q, .int .i64 op, .int .i64 un, .bool o, .int .i64 orr] 70)) wr) := hnw
    clear hnw
    by_cases hlt : k < T.size
    · have hr2 := (run_spec T k (by omega)).2.1
      have H34 : Hid (∀ w, Calls Try.prog 34 #[.string (T.extract k T.size)] w fun e w' => e = .returned (.int .i64 (run T k)) ∧ w = w') := fun w => backslashes_at T k w hs (by omega)
      have H35 : Hid (∀ w, Calls Try.prog 35 #[.string T, .int .i64 ((k : Int) + (run T k : Int))] w fun e w' => e = .returned (.int .u8 (bt T (k + run T k))) ∧ w = w') := fun w => byteAt_any T _ _ (by omega) w
      have H36 : Hid (un ≠ 0 → ∀ w, Calls Try.prog 36 #[.agg #[.int .u8 q, .int .i64 op, .int .i64 un, .bool o, .int .i64 orr], .int .i64 (run T k)] w fun e w' => e = .returned (.int .i64 (roleV op un (run T k))) ∧ ∃ c t, w' = w.alloc (.cells c t)) := fun h w => role_any q op un o orr _ w h
      have H37 : Hid (bt T (k + run T k) ≠ 0 → ∀ w, Calls Try.prog 37 #[.string T, .int .i64 k, .int .i64 (run T k)] w fun e w' => e = .returned (.bool (dqB T k (run T k))) ∧ w = w') := fun h w => doubled_any T k _ w hs (bt_pos h)
      have HSome : Hid (∀ v, stopAt T lv ou q op un k = some v → lineE T lv ou q op un i0 = v) := fun v h => by rw [← HE.out]; exact lineE_some hlt h
      have HNone : Hid (stopAt T lv ou q op un k = none → lineE T lv ou q op un (nextAt T q op un k) = lineE T lv ou q op un i0) := fun h => by rw [← HE.out]; exact (lineE_none hlt h).symm
      have HD : Hid (bt T (k + run T k) ≠ 0 → dqB T k (run T k) = true → k + 2 * (run T k + 1) ≤ T.size) := fun h h2 => (dq_facts (bt_pos h) h2).1
      rw [stop_is] at HSome HNone
      rw [next_is] at HNone
      have hcb : Hid (bt T (k + run T k) ≠ 0 → k + run T k < T.size) := bt_pos
      have hrc := role_cases op un (run T k)
      generalize dqB T k (run T k) = d at *
      generalize roleV op un (run T k) = ρ at *
      generalize bt T (k + run T k) = c at *
      generalize run T k = r at *
      clear HE
      rcases ways c r lv ou q hq with ⟨h1, h2⟩ | ⟨h1, h2⟩ | ⟨n10, n13, ⟨h1, h2, h3, h4, h5⟩ | ⟨h1, h2, h3, h4, h5⟩ | ⟨hnb, ⟨h1, h2, h3⟩ | ⟨hne, hdd⟩⟩⟩
      · have HV : Hid (lineE T lv ou q op un i0 = k + r) := HSome.out _ (stop_A (by omega))
        clear HSome HNone HD H36 H37 hrc
        have e10 : ((c : Int) == 10) = true := beq_iff_eq.2 (by omega)
        go_wp2_with (first
          | (go_at_call 34; refine (H34.out _).mono ?_; rintro e w' ⟨rfl, rfl⟩)
          | (go_at_call 35; refine (H35.out _).mono ?_; rintro e w' ⟨rfl, rfl⟩))
        go_ret
        exact ⟨ret_int (by rw [HV.out]; omega), HW.out⟩
      · have HV : Hid (lineE T lv ou q op un i0 = k + r) := HSome.out _ (stop_A (by omega))
        clear HSome HNone HD H36 H37 hrc
        have e10 : ((c : Int) == 10) = false := beq_eq_false_iff_ne.2 (by omega)
        have e13 : ((c : Int) == 13) = true := beq_iff_eq.2 (by omega)
        go_wp2_with (first
          | (go_at_call 34; refine (H34.out _).mono ?_; rintro e w' ⟨rfl, rfl⟩)
          | (go_at_call 35; refine (H35.out _).mono ?_; rintro e w' ⟨rfl, rfl⟩))
        go_ret
        exact ⟨ret_int (by rw [HV.out]; omega), HW.out⟩
      · have HV : Hid (lineE T lv ou q op un i0 = k) := HSome.out _ (stop_B (by omega) (by omega) (by omega))
        clear HSome HNone HD H36 H37 hrc
        have e10 : ((c : Int) == 10) = false := beq_eq_false_iff_ne.2 (by omega)
        have e13 : ((c : Int) == 13) = false := beq_eq_false_iff_ne.2 (by omega)
        have er : decide ((0 : Int) < (r : Int)) = true := decide_eq_true (by omega)
        have el : ((r : Int) == lv) = true := beq_iff_eq.2 (by omega)
        have e110 : ((c : Int) == 110) = true := beq_iff_eq.2 (by omega)
        go_wp2_with (first
          | (go_at_call 34; refine (H34.out _).mono ?_; rintro e w' ⟨rfl, rfl⟩)
          | (go_at_call 35; refine (H35.out _).mono ?_; rintro e w' ⟨rfl, rfl⟩))
        go_ret
        exact ⟨ret_int (by rw [HV.out]), HW.out⟩
      · have HV : Hid (lineE T lv ou q op un i0 = k) := HSome.out _ (stop_B (by omega) (by omega) (by omega))
        clear HSome HNone HD H36 H37 hrc
        have e10 : ((c : Int) == 10) = false := beq_eq_false_iff_ne.2 (by omega)
        have e13 : ((c : Int) == 13) = false := beq_eq_false_iff_ne.2 (by omega)
        have er : decide ((0 : Int) < (r : Int)) = true := decide_eq_true (by omega)
        have el : ((r : Int) == lv) = true := beq_iff_eq.2 (by omega)
        have e110 : ((c : Int) == 110) = false := beq_eq_false_iff_ne.2 (by omega)
        have e114 : ((c : Int) == 114) = true := beq_iff_eq.2 (by omega)
        go_wp2_with (first
          | (go_at_call 34; refine (H34.out _).mono ?_; rintro e w' ⟨rfl, rfl⟩)
          | (go_at_call 35; refine (H35.out _).mono ?_; rintro e w' ⟨rfl, rfl⟩))
        go_ret
        exact ⟨ret_int (by rw [HV.out]), HW.out⟩
      · have hc0 : c ≠ 0 := by omega
        have hun0 := hun h3
        have hcl := hcb.out hc0
        rw [stop_Q n10 n13 hnb (by omega)] at HSome HNone
        have HDD := HD.out hc0
        have H37' := H37.out hc0
        have H36' := H36.out hun0
        clear HD H37 H36 hcb
        have e10 : ((c : Int) == 10) = false := beq_eq_false_iff_ne.2 (by omega)
        have e13 : ((c : Int) == 13) = false := beq_eq_false_iff_ne.2 (by omega)
        have eq : ((c : Int) == q) = true := beq_iff_eq.2 (by omega)
        have ez : (q != 0) = true := by first | exact bne_iff_ne.2 (by omega) | (rw [bne_eq_false_iff_eq]; omega)
        rcases hrc with hρ | hρ | hρ
        · have HV : Hid (lineE T lv ou q op un (k + (r + 1)) = lineE T lv ou q op un i0) := by
            have h := HNone.out (by rw [hρ]; rfl)
            rw [next_D (by rw [hρ]; simp)] at h
            exact h
          have H36'' : Hid (∀ w, Calls Try.prog 36 #[.agg #[.int .u8 q, .int .i64 op, .int .i64 un, .bool o, .int .i64 orr], .int .i64 r] w fun e w' => e = .returned (.int .i64 0) ∧ ∃ c t, w' = w.alloc (.cells c t)) := by rw [hρ] at H36'; exact H36'
          clear HSome HNone HDD H37' H36' hρ
          unfold NB at hnb
          rcases hnb with g1 | ⟨g1, g2⟩ | ⟨g1, g2, g3, g4, g5⟩
          · have er : decide ((0 : Int) < (r : Int)) = false := decide_eq_false (by omega)
            go_wp2_with (first
              | (go_at_call 34; refine (H34.out _).mono ?_; rintro e w' ⟨rfl, rfl⟩)
              | (go_at_call 35; refine (H35.out _).mono ?_; rintro e w' ⟨rfl, rfl⟩)
              | (go_at_call 36; refine (H36''.out _).mono ?_; rintro e w' ⟨rfl, cc, tt, rfl⟩))
            go_roundw
            case rel => exact ⟨k + (r + 1), by omega, by go_num, HV.out, HN.out.alloc _ _⟩
            case measure => simp [intOf]; omega
          · have er : decide ((0 : Int) < (r : Int)) = true := decide_eq_true (by omega)
            have el : ((r : Int) == lv) = false := beq_eq_false_iff_ne.2 (by omega)
            go_wp2_with (first
              | (go_at_call 34; refine (H34.out _).mono ?_; rintro e w' ⟨rfl, rfl⟩)
              | (go_at_call 35; refine (H35.out _).mono ?_; rintro e w' ⟨rfl, rfl⟩)
              | (go_at_call 36; refine (H36''.out _).mono ?_; rintro e w' ⟨rfl, cc, tt, rfl⟩))
            go_roundw
            case rel => exact ⟨k + (r + 1), by omega, by go_num, HV.out, HN.out.alloc _ _⟩
            case measure => simp [intOf]; omega
          · have er : decide ((0 : Int) < (r : Int)) = true := decide_eq_true (by omega)
            have el : ((r : Int) == lv) = true := beq_iff_eq.2 (by omega)
            have e110 : ((c : Int) == 110) = false := beq_eq_false_iff_ne.2 (by omega)
            have e114 : ((c : Int) == 114) = false := beq_eq_false_iff_ne.2 (by omega)
            go_wp2_with (first
              | (go_at_call 34; refine (H34.out _).mono ?_; rintro e w' ⟨rfl, rfl⟩)
              | (go_at_call 35; refine (H35.out _).mono ?_; rintro e w' ⟨rfl, rfl⟩)
              | (go_at_call 36; refine (H36''.out _).mono ?_; rintro e w' ⟨rfl, cc, tt, rfl⟩))
            go_roundw
            case rel => exact ⟨k + (r + 1), by omega, by go_num, HV.out, HN.out.alloc _ _⟩
            case measure => simp [intOf]; omega
        · cases hdq : d
          · have HV : Hid (lineE T lv ou q op un i0 = k) := HSome.out _ (by rw [hρ, hdq]; rfl)
            have H36'' : Hid (∀ w, Calls Try.prog 36 #[.agg #[.int .u8 q, .int .i64 op, .int .i64 un, .bool o, .int .i64 orr], .int .i64 r] w fun e w' => e = .returned (.int .i64 1) ∧ ∃ c t, w' = w.alloc (.cells c t)) := by rw [hρ] at H36'; exact H36'
            have H37'' : Hid (∀ w, Calls Try.prog 37 #[.string T, .int .i64 k, .int .i64 r] w fun e w' => e = .returned (.bool false) ∧ w = w') := by rw [hdq] at H37'; exact H37'
            clear HSome HNone HDD H37' H36' hρ hdq
            unfold NB at hnb
            rcases hnb with g1 | ⟨g1, g2⟩ | ⟨g1, g2, g3, g4, g5⟩
            · have er : decide ((0 : Int) < (r : Int)) = false := decide_eq_false (by omega)
              go_wp2_with (first
                | (go_at_call 34; refine (H34.out _).mono ?_; rintro e w' ⟨rfl, rfl⟩)
                | (go_at_call 35; refine (H35.out _).mono ?_; rintro e w' ⟨rfl, rfl⟩)
                | (go_at_call 36; refine (H36''.out _).mono ?_; rintro e w' ⟨rfl, cc, tt, rfl⟩)
                | (go_at_call 37; refine (H37''.out _).mono ?_; rintro e w' ⟨rfl, rfl⟩))
              go_ret
              exact ⟨ret_int (by rw [HV.out]), HW.out.alloc _ _⟩
            · have er : decide ((0 : Int) < (r : Int)) = true := decide_eq_true (by omega)
              have el : ((r : Int) == lv) = false := beq_eq_false_iff_ne.2 (by omega)
              go_wp2_with (first
                | (go_at_call 34; refine (H34.out _).mono ?_; rintro e w' ⟨rfl, rfl⟩)
                | (go_at_call 35; refine (H35.out _).mono ?_; rintro e w' ⟨rfl, rfl⟩)
                | (go_at_call 36; refine (H36''.out _).mono ?_; rintro e w' ⟨rfl, cc, tt, rfl⟩)
                | (go_at_call 37; refine (H37''.out _).mono ?_; rintro e w' ⟨rfl, rfl⟩))
              go_ret
              exact ⟨ret_int (by rw [HV.out]), HW.out.alloc _ _⟩
            · have er : decide ((0 : Int) < (r : Int)) = true := decide_eq_true (by omega)
              have el : ((r : Int) == lv) = true := beq_iff_eq.2 (by omega)
              have e110 : ((c : Int) == 110) = false := beq_eq_false_iff_ne.2 (by omega)
              have e114 : ((c : Int) == 114) = false := beq_eq_false_iff_ne.2 (by omega)
              go_wp2_with (first
                | (go_at_call 34; refine (H34.out _).mono ?_; rintro e w' ⟨rfl, rfl⟩)
                | (go_at_call 35; refine (H35.out _).mono ?_; rintro e w' ⟨rfl, rfl⟩)
                | (go_at_call 36; refine (H36''.out _).mono ?_; rintro e w' ⟨rfl, cc, tt, rfl⟩)
                | (go_at_call 37; refine (H37''.out _).mono ?_; rintro e w' ⟨rfl, rfl⟩))
              go_ret
              exact ⟨ret_int (by rw [HV.out]), HW.out.alloc _ _⟩
          · have hle := HDD hdq
            have HV : Hid (lineE T lv ou q op un (k + 2 * (r + 1)) = lineE T lv ou q op un i0) := by
              have h := HNone.out (by rw [hρ, hdq]; rfl)
              rw [next_Q ⟨by omega, by omega, hρ⟩] at h
              exact h
            have H36'' : Hid (∀ w, Calls Try.prog 36 #[.agg #[.int .u8 q, .int .i64 op, .int .i64 un, .bool o, .int .i64 orr], .int .i64 r] w fun e w' => e = .returned (.int .i64 1) ∧ ∃ c t, w' = w.alloc (.cells c t)) := by rw [hρ] at H36'; exact H36'
            have H37'' : Hid (∀ w, Calls Try.prog 37 #[.string T, .int .i64 k, .int .i64 r] w fun e w' => e = .returned (.bool true) ∧ w = w') := by rw [hdq] at H37'; exact H37'
            clear HSome HNone HDD H37' H36' hρ hdq
            unfold NB at hnb
            rcases hnb with g1 | ⟨g1, g2⟩ | ⟨g1, g2, g3, g4, g5⟩
            · have er : decide ((0 : Int) < (r : Int)) = false := decide_eq_false (by omega)
              go_wp2_with (first
                | (go_at_call 34; refine (H34.out _).mono ?_; rintro e w' ⟨rfl, rfl⟩)
                | (go_at_call 35; refine (H35.out _).mono ?_; rintro e w' ⟨rfl, rfl⟩)
                | (go_at_call 36; refine (H36''.out _).mono ?_; rintro e w' ⟨rfl, cc, tt, rfl⟩)
                | (go_at_call 37; refine (H37''.out _).mono ?_; rintro e w' ⟨rfl, rfl⟩))
              go_roundw
              case rel => exact ⟨k + 2 * (r + 1), by omega, by go_num, HV.out, HN.out.alloc _ _⟩
              case measure => simp [intOf]; omega
            · have er : decide ((0 : Int) < (r : Int)) = true := decide_eq_true (by omega)
              have el : ((r : Int) == lv) = false := beq_eq_false_iff_ne.2 (by omega)
              go_wp2_with (first
                | (go_at_call 34; refine (H34.out _).mono ?_; rintro e w' ⟨rfl, rfl⟩)
                | (go_at_call 35; refine (H35.out _).mono ?_; rintro e w' ⟨rfl, rfl⟩)
                | (go_at_call 36; refine (H36''.out _).mono ?_; rintro e w' ⟨rfl, cc, tt, rfl⟩)
                | (go_at_call 37; refine (H37''.out _).mono ?_; rintro e w' ⟨rfl, rfl⟩))
              go_roundw
              case rel => exact ⟨k + 2 * (r + 1), by omega, by go_num, HV.out, HN.out.alloc _ _⟩
              case measure => simp [intOf]; omega
            · have er : decide ((0 : Int) < (r : Int)) = true := decide_eq_true (by omega)
              have el : ((r : Int) == lv) = true := beq_iff_eq.2 (by omega)
              have e110 : ((c : Int) == 110) = false := beq_eq_false_iff_ne.2 (by omega)
              have e114 : ((c : Int) == 114) = false := beq_eq_false_iff_ne.2 (by omega)
              go_wp2_with (first
                | (go_at_call 34; refine (H34.out _).mono ?_; rintro e w' ⟨rfl, rfl⟩)
                | (go_at_call 35; refine (H35.out _).mono ?_; rintro e w' ⟨rfl, rfl⟩)
                | (go_at_call 36; refine (H36''.out _).mono ?_; rintro e w' ⟨rfl, cc, tt, rfl⟩)
                | (go_at_call 37; refine (H37''.out _).mono ?_; rintro e w' ⟨rfl, rfl⟩))
              go_roundw
              case rel => exact ⟨k + 2 * (r + 1), by omega, by go_num, HV.out, HN.out.alloc _ _⟩
              case measure => simp [intOf]; omega
        · have HV : Hid (lineE T lv ou q op un i0 = k) := HSome.out _ (by rw [hρ]; rfl)
          have H36'' : Hid (∀ w, Calls Try.prog 36 #[.agg #[.int .u8 q, .int .i64 op, .int .i64 un, .bool o, .int .i64 orr], .int .i64 r] w fun e w' => e = .returned (.int .i64 2) ∧ ∃ c t, w' = w.alloc (.cells c t)) := by rw [hρ] at H36'; exact H36'
          clear HSome HNone HDD H37' H36' hρ
          unfold NB at hnb
          rcases hnb with g1 | ⟨g1, g2⟩ | ⟨g1, g2, g3, g4, g5⟩
          · have er : decide ((0 : Int) < (r : Int)) = false := decide_eq_false (by omega)
            go_wp2_with (first
              | (go_at_call 34; refine (H34.out _).mono ?_; rintro e w' ⟨rfl, rfl⟩)
              | (go_at_call 35; refine (H35.out _).mono ?_; rintro e w' ⟨rfl, rfl⟩)
              | (go_at_call 36; refine (H36''.out _).mono ?_; rintro e w' ⟨rfl, cc, tt, rfl⟩))
            go_ret
            exact ⟨ret_int (by rw [HV.out]), HW.out.alloc _ _⟩
          · have er : decide ((0 : Int) < (r : Int)) = true := decide_eq_true (by omega)
            have el : ((r : Int) == lv) = false := beq_eq_false_iff_ne.2 (by omega)
            go_wp2_with (first
              | (go_at_call 34; refine (H34.out _).mono ?_; rintro e w' ⟨rfl, rfl⟩)
              | (go_at_call 35; refine (H35.out _).mono ?_; rintro e w' ⟨rfl, rfl⟩)
              | (go_at_call 36; refine (H36''.out _).mono ?_; rintro e w' ⟨rfl, cc, tt, rfl⟩))
            go_ret
            exact ⟨ret_int (by rw [HV.out]), HW.out.alloc _ _⟩
          · have er : decide ((0 : Int) < (r : Int)) = true := decide_eq_true (by omega)
            have el : ((r : Int) == lv) = true := beq_iff_eq.2 (by omega)
            have e110 : ((c : Int) == 110) = false := beq_eq_false_iff_ne.2 (by omega)
            have e114 : ((c : Int) == 114) = false := beq_eq_false_iff_ne.2 (by omega)
            go_wp2_with (first
              | (go_at_call 34; refine (H34.out _).mono ?_; rintro e w' ⟨rfl, rfl⟩)
              | (go_at_call 35; refine (H35.out _).mono ?_; rintro e w' ⟨rfl, rfl⟩)
              | (go_at_call 36; refine (H36''.out _).mono ?_; rintro e w' ⟨rfl, cc, tt, rfl⟩))
            go_ret
            exact ⟨ret_int (by rw [HV.out]), HW.out.alloc _ _⟩
      · rw [stop_D n10 n13 hnb (by omega)] at HSome HNone
        have e10 : ((c : Int) == 10) = false := beq_eq_false_iff_ne.2 (by omega)
        have e13 : ((c : Int) == 13) = false := beq_eq_false_iff_ne.2 (by omega)
        clear HD H37 H36 hcb hrc
        rcases hne with hne | ⟨hne, hne2, hne3⟩
        · have eq : ((c : Int) == q) = false := beq_eq_false_iff_ne.2 (by omega)
          rcases hdd with ⟨d1, d2, d3⟩ | ⟨d1, d2, d3⟩ | d1
          · have e34 : ((c : Int) == 34) = true := beq_iff_eq.2 (by omega)
            have eo : decide ((r : Int) < ou) = true := decide_eq_true (by omega)
            have HV : Hid (lineE T lv ou q op un i0 = k) := HSome.out _ (if_pos (by omega))
            clear HSome HNone
            unfold NB at hnb
            rcases hnb with g1 | ⟨g1, g2⟩ | ⟨g1, g2, g3, g4, g5⟩
            · have er : decide ((0 : Int) < (r : Int)) = false := decide_eq_false (by omega)
              go_wp2_with (first
                | (go_at_call 34; refine (H34.out _).mono ?_; rintro e w' ⟨rfl, rfl⟩)
                | (go_at_call 35; refine (H35.out _).mono ?_; rintro e w' ⟨rfl, rfl⟩))
              go_ret
              exact ⟨ret_int (by rw [HV.out]), HW.out⟩
            · have er : decide ((0 : Int) < (r : Int)) = true := decide_eq_true (by omega)
              have el : ((r : Int) == lv) = false := beq_eq_false_iff_ne.2 (by omega)
              go_wp2_with (first
                | (go_at_call 34; refine (H34.out _).mono ?_; rintro e w' ⟨rfl, rfl⟩)
                | (go_at_call 35; refine (H35.out _).mono ?_; rintro e w' ⟨rfl, rfl⟩))
              go_ret
              exact ⟨ret_int (by rw [HV.out]), HW.out⟩
            · have er : decide ((0 : Int) < (r : Int)) = true := decide_eq_true (by omega)
              have el : ((r : Int) == lv) = true := beq_iff_eq.2 (by omega)
              have e110 : ((c : Int) == 110) = false := beq_eq_false_iff_ne.2 (by omega)
              have e114 : ((c : Int) == 114) = false := beq_eq_false_iff_ne.2 (by omega)
              go_wp2_with (first
                | (go_at_call 34; refine (H34.out _).mono ?_; rintro e w' ⟨rfl, rfl⟩)
                | (go_at_call 35; refine (H35.out _).mono ?_; rintro e w' ⟨rfl, rfl⟩))
              go_ret
              exact ⟨ret_int (by rw [HV.out]), HW.out⟩
          · have e34 : ((c : Int) == 34) = true := beq_iff_eq.2 (by omega)
            have eo : decide ((r : Int) < ou) = false := decide_eq_false (by omega)
            have HV : Hid (lineE T lv ou q op un (k + (r + 1)) = lineE T lv ou q op un i0) := by
              have h := HNone.out (if_neg (by omega))
              rw [next_D (by omega)] at h
              exact h
            clear HSome HNone
            unfold NB at hnb
            rcases hnb with g1 | ⟨g1, g2⟩ | ⟨g1, g2, g3, g4, g5⟩
            · have er : decide ((0 : Int) < (r : Int)) = false := decide_eq_false (by omega)
              go_wp2_with (first
                | (go_at_call 34; refine (H34.out _).mono ?_; rintro e w' ⟨rfl, rfl⟩)
                | (go_at_call 35; refine (H35.out _).mono ?_; rintro e w' ⟨rfl, rfl⟩))
              go_roundw
              case rel => exact ⟨k + (r + 1), by omega, by go_num, HV.out, HN.out⟩
              case measure => simp [intOf]; omega
            · have er : decide ((0 : Int) < (r : Int)) = true := decide_eq_true (by omega)
              have el : ((r : Int) == lv) = false := beq_eq_false_iff_ne.2 (by omega)
              go_wp2_with (first
                | (go_at_call 34; refine (H34.out _).mono ?_; rintro e w' ⟨rfl, rfl⟩)
                | (go_at_call 35; refine (H35.out _).mono ?_; rintro e w' ⟨rfl, rfl⟩))
              go_roundw
              case rel => exact ⟨k + (r + 1), by omega, by go_num, HV.out, HN.out⟩
              case measure => simp [intOf]; omega
            · have er : decide ((0 : Int) < (r : Int)) = true := decide_eq_true (by omega)
              have el : ((r : Int) == lv) = true := beq_iff_eq.2 (by omega)
              have e110 : ((c : Int) == 110) = false := beq_eq_false_iff_ne.2 (by omega)
              have e114 : ((c : Int) == 114) = false := beq_eq_false_iff_ne.2 (by omega)
              go_wp2_with (first
                | (go_at_call 34; refine (H34.out _).mono ?_; rintro e w' ⟨rfl, rfl⟩)
                | (go_at_call 35; refine (H35.out _).mono ?_; rintro e w' ⟨rfl, rfl⟩))
              go_roundw
              case rel => exact ⟨k + (r + 1), by omega, by go_num, HV.out, HN.out⟩
              case measure => simp [intOf]; omega
          · have e34 : ((c : Int) == 34) = false := beq_eq_false_iff_ne.2 (by omega)
            have HV : Hid (lineE T lv ou q op un (k + (r + 1)) = lineE T lv ou q op un i0) := by
              have h := HNone.out (if_neg (by omega))
              rw [next_D (by omega)] at h
              exact h
            clear HSome HNone
            unfold NB at hnb
            rcases hnb with g1 | ⟨g1, g2⟩ | ⟨g1, g2, g3, g4, g5⟩
            · have er : decide ((0 : Int) < (r : Int)) = false := decide_eq_false (by omega)
              go_wp2_with (first
                | (go_at_call 34; refine (H34.out _).mono ?_; rintro e w' ⟨rfl, rfl⟩)
                | (go_at_call 35; refine (H35.out _).mono ?_; rintro e w' ⟨rfl, rfl⟩))
              go_roundw
              case rel => exact ⟨k + (r + 1), by omega, by go_num, HV.out, HN.out⟩
              case measure => simp [intOf]; omega
            · have er : decide ((0 : Int) < (r : Int)) = true := decide_eq_true (by omega)
              have el : ((r : Int) == lv) = false := beq_eq_false_iff_ne.2 (by omega)
              go_wp2_with (first
                | (go_at_call 34; refine (H34.out _).mono ?_; rintro e w' ⟨rfl, rfl⟩)
                | (go_at_call 35; refine (H35.out _).mono ?_; rintro e w' ⟨rfl, rfl⟩))
              go_roundw
              case rel => exact ⟨k + (r + 1), by omega, by go_num, HV.out, HN.out⟩
              case measure => simp [intOf]; omega
            · have er : decide ((0 : Int) < (r : Int)) = true := decide_eq_true (by omega)
              have el : ((r : Int) == lv) = true := beq_iff_eq.2 (by omega)
              have e110 : ((c : Int) == 110) = false := beq_eq_false_iff_ne.2 (by omega)
              have e114 : ((c : Int) == 114) = false := beq_eq_false_iff_ne.2 (by omega)
              go_wp2_with (first
                | (go_at_call 34; refine (H34.out _).mono ?_; rintro e w' ⟨rfl, rfl⟩)
                | (go_at_call 35; refine (H35.out _).mono ?_; rintro e w' ⟨rfl, rfl⟩))
              go_roundw
              case rel => exact ⟨k + (r + 1), by omega, by go_num, HV.out, HN.out⟩
              case measure => simp [intOf]; omega
        · have eq : ((c : Int) == q) = true := beq_iff_eq.2 (by omega)
          have ez : (q != 0) = false := by first | exact bne_iff_ne.2 (by omega) | (rw [bne_eq_false_iff_eq]; omega)
          rcases hdd with ⟨d1, d2, d3⟩ | ⟨d1, d2, d3⟩ | d1
          · omega
          · omega
          · have e34 : ((c : Int) == 34) = false := beq_eq_false_iff_ne.2 (by omega)
            have HV : Hid (lineE T lv ou q op un (k + (r + 1)) = lineE T lv ou q op un i0) := by
              have h := HNone.out (if_neg (by omega))
              rw [next_D (by omega)] at h
              exact h
            clear HSome HNone
            unfold NB at hnb
            rcases hnb with g1 | ⟨g1, g2⟩ | ⟨g1, g2, g3, g4, g5⟩
            · have er : decide ((0 : Int) < (r : Int)) = false := decide_eq_false (by omega)
              go_wp2_with (first
                | (go_at_call 34; refine (H34.out _).mono ?_; rintro e w' ⟨rfl, rfl⟩)
                | (go_at_call 35; refine (H35.out _).mono ?_; rintro e w' ⟨rfl, rfl⟩))
              go_roundw
              case rel => exact ⟨k + (r + 1), by omega, by go_num, HV.out, HN.out⟩
              case measure => simp [intOf]; omega
            · have er : decide ((0 : Int) < (r : Int)) = true := decide_eq_true (by omega)
              have el : ((r : Int) == lv) = false := beq_eq_false_iff_ne.2 (by omega)
              go_wp2_with (first
                | (go_at_call 34; refine (H34.out _).mono ?_; rintro e w' ⟨rfl, rfl⟩)
                | (go_at_call 35; refine (H35.out _).mono ?_; rintro e w' ⟨rfl, rfl⟩))
              go_roundw
              case rel => exact ⟨k + (r + 1), by omega, by go_num, HV.out, HN.out⟩
              case measure => simp [intOf]; omega
            · have er : decide ((0 : Int) < (r : Int)) = true := decide_eq_true (by omega)
              have el : ((r : Int) == lv) = true := beq_iff_eq.2 (by omega)
              have e110 : ((c : Int) == 110) = false := beq_eq_false_iff_ne.2 (by omega)
              have e114 : ((c : Int) == 114) = false := beq_eq_false_iff_ne.2 (by omega)
              go_wp2_with (first
                | (go_at_call 34; refine (H34.out _).mono ?_; rintro e w' ⟨rfl, rfl⟩)
                | (go_at_call 35; refine (H35.out _).mono ?_; rintro e w' ⟨rfl, rfl⟩))
              go_roundw
              case rel => exact ⟨k + (r + 1), by omega, by go_num, HV.out, HN.out⟩
              case measure => simp [intOf]; omega
    · have hv : Hid (lineE T lv ou q op un k = T.size) := lineE_end _ _ _ _ _ _ _ (by omega)
      go_wp2
      go_ret
      exact ⟨ret_int (by rw [← HE.out, hv.out]), HW.out⟩
end Go.Proofs.Qxb6602558a
