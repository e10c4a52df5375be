import Derived.Test.Qxb6602558aRows
import Derived.WalkKit
import Derived.Below
import Derived.WalkSpells
import Derived.WalkLawsBesides
namespace Go.Proofs.Qxb6602558a
open Go.RowKit

/-- The byte at place j, 0 beyond the end. -/
def bt (T : ByteArray) (j : Nat) : Nat := if h : j < T.size then T[j].toNat else 0

theorem bt_lt {T : ByteArray} {j : Nat} (h : j < T.size) : bt T j = T[j].toNat := dif_pos h
theorem bt_ge {T : ByteArray} {j : Nat} (h : ¬ j < T.size) : bt T j = 0 := dif_neg h

theorem ret_int {k : IntKind} {a b : Int} (h : a = b) : Ending.returned (.int k a) = .returned (.int k b) := by rw [h]
theorem ret_bool {a b : Bool} (h : a = b) : Ending.returned (.bool a) = .returned (.bool b) := by rw [h]

theorem all_succ {p : Nat → Prop} {k : Nat} (h : ∀ j, j < k → p j) (hk : p k) : ∀ j, j < k + 1 → p j := by
  intro j hj
  by_cases e : j = k
  · subst e; exact hk
  · exact h j (by omega)

set_option maxHeartbeats 400000 in
theorem backslashes_any (s : ByteArray) (w : World) (hs : s.size ≤ 1048576) :
    Calls Try.prog 34 #[.string s] w fun e w' => ∃ r : Nat, e = .returned (.int .i64 r) ∧ r ≤ s.size ∧ (∀ j, j < r → bt s j = 92) ∧ bt s r ≠ 92 ∧ w = w' := by
  go_enter Try.func34, Try.ntmps34
  go_wp2
  go_loop [3] (fun n => ∃ k : Nat, k ≤ s.size ∧ n = .int .i64 k ∧ ∀ j, j < k → bt s j = 92) (fun n => s.size - (intOf n).toNat)
  case atStart => exact ⟨0, Nat.zero_le _, rfl, fun j hj => absurd hj (by omega)⟩
  case round =>
    obtain ⟨k, hk, rfl, hall⟩ := hrel
    have HA : Hid (∀ j, j < k → bt s j = 92) := hall
    clear hall
    by_cases hlt : k < s.size
    · go_wp2
      · have hb : (↑s[k].toNat == (92 : Int)) = true := by assumption
        have hb2 : bt s k = 92 := by
          have h := beq_iff_eq.1 hb
          rw [bt_lt hlt]; omega
        go_round
        case rel => exact ⟨k + 1, by omega, by go_num, all_succ HA.out hb2⟩
        case measure => simp [intOf]; omega
      · have hb : (↑s[k].toNat == (92 : Int)) = false := by assumption
        have hb2 : bt s k ≠ 92 := by rw [bt_lt hlt]; intro h; rw [h] at hb; simp at hb
        go_ret
        exact ⟨k, rfl, hk, HA.out, hb2, rfl⟩
    · go_wp2
      go_ret
      exact ⟨k, rfl, hk, HA.out, by rw [bt_ge hlt]; decide, rfl⟩

theorem byteAt_any (T : ByteArray) (x : Int) (j : Nat) (hx : x = j) (w : World) :
    Calls Try.prog 35 #[.string T, .int .i64 x] w fun e w' => e = .returned (.int .u8 (bt T j)) ∧ w = w' := by
  subst hx
  by_cases h : j < T.size
  · have hb : Hid (bt T j = T[j].toNat) := bt_lt h
    go_enter Try.func35, Try.ntmps35
    go_wp2
    go_ret
    exact ⟨ret_int (by rw [hb.out]), rfl⟩
  · have hb : Hid (bt T j = 0) := bt_ge h
    go_enter Try.func35, Try.ntmps35
    go_wp2
    go_ret
    exact ⟨ret_int (by rw [hb.out]; rfl), rfl⟩

def roleV (op un run : Int) : Int := if ((wrap64 (run - op)).tmod un != 0) = true then 2 else if ((wrap64 ((wrap64 (run - op)).tdiv un)).tmod 2 == 0) = true then 1 else 0

theorem role_cases (op un run : Int) : roleV op un run = 0 ∨ roleV op un run = 1 ∨ roleV op un run = 2 := by
  unfold roleV
  split
  · exact .inr (.inr rfl)
  · split
    · exact .inr (.inl rfl)
    · exact .inl rfl

theorem role_two {op un run : Int} (h : ((wrap64 (run - op)).tmod un != 0) = true) : roleV op un run = 2 := if_pos h
theorem role_one {op un run : Int} (h : ((wrap64 (run - op)).tmod un != 0) = false) (h2 : ((wrap64 ((wrap64 (run - op)).tdiv un)).tmod 2 == 0) = true) : roleV op un run = 1 := by
  unfold roleV
  rw [if_neg (by rw [h]; decide), if_pos h2]
theorem role_zero {op un run : Int} (h : ((wrap64 (run - op)).tmod un != 0) = false) (h2 : ((wrap64 ((wrap64 (run - op)).tdiv un)).tmod 2 == 0) = false) : roleV op un run = 0 := by
  unfold roleV
  rw [if_neg (by rw [h]; decide), if_neg (by rw [h2]; decide)]

theorem role_any (q op un : Int) (o : Bool) (orr run : Int) (w : World) (hu : un ≠ 0) :
    Calls Try.prog 36 #[.agg #[.int .u8 q, .int .i64 op, .int .i64 un, .bool o, .int .i64 orr], .int .i64 run] w fun e w' => e = .returned (.int .i64 (roleV op un run)) ∧ ∃ c t, w' = w.alloc (.cells c t) := by
  go_enter Try.func36, Try.ntmps36
  go_wp2
  · have h := role_two ‹_›
    go_ret
    exact ⟨ret_int h.symm, _, _, rfl⟩
  · have h := role_one ‹_› ‹_›
    go_ret
    exact ⟨ret_int h.symm, _, _, rfl⟩
  · have h := role_zero ‹_› ‹_›
    go_ret
    exact ⟨ret_int h.symm, _, _, rfl⟩

def hasP (s p : ByteArray) : Bool := decide (p.size ≤ s.size) && ((s.extract 0 p.size).toList == p.toList)

theorem hasPrefix_lite (s p : ByteArray) (w : World) :
    Calls Try.prog 40 #[.string s, .string p] w fun e w' => e = .returned (.bool (hasP s p)) ∧ w = w' := by
  by_cases h : p.size ≤ s.size
  · have hp : Hid (hasP s p = ((s.extract 0 p.size).toList == p.toList)) := by show hasP s p = _; unfold hasP; rw [decide_eq_true h, Bool.true_and]
    go_enter Try.func40, Try.ntmps40
    go_wp2
    go_ret
    exact ⟨ret_bool hp.out.symm, rfl⟩
  · have hp : Hid (hasP s p = false) := by show hasP s p = _; unfold hasP; rw [decide_eq_false h, Bool.false_and]
    go_enter Try.func40, Try.ntmps40
    go_wp2
    go_ret
    exact ⟨ret_bool hp.out.symm, rfl⟩

theorem hasPrefix_any (s p : ByteArray) (w : World) :
    Calls Try.prog 30 #[.string s, .string p] w fun e w' => e = .returned (.bool (hasP s p)) ∧ w = w' := by
  go_enter Try.func30, Try.ntmps30
  go_wp2_with (go_at_call 40; refine (hasPrefix_lite _ _ _).mono ?_; rintro e w' ⟨rfl, rfl⟩)
  go_ret
  exact ⟨rfl, rfl⟩

def dqB (T : ByteArray) (i r : Nat) : Bool := decide (bt T (i + r) = 39) && hasP (T.extract (i + r + 1) T.size) (T.extract i (i + r + 1))

theorem ext_at (T : ByteArray) (i e r : Nat) (h2 : i + r < T.size) (hr : r < (T.extract i e).size) : ((T.extract i e)[r]'hr).toNat = bt T (i + r) := by
  rw [bt_lt h2, ByteArray.getElem_extract]

theorem dq_yes {T : ByteArray} {i r : Nat} (h : i + r < T.size) (hr : r < (T.extract i (i + r + 1)).size) (h3 : (((T.extract i (i + r + 1))[r]'hr).toNat : Int) = 39) : dqB T i r = hasP (T.extract (i + r + 1) T.size) (T.extract i (i + r + 1)) := by
  rw [ext_at T i _ r h hr] at h3
  unfold dqB
  rw [decide_eq_true (by omega), Bool.true_and]

theorem dq_no {T : ByteArray} {i r : Nat} (h : i + r < T.size) (hr : r < (T.extract i (i + r + 1)).size) (h3 : ¬ (((T.extract i (i + r + 1))[r]'hr).toNat : Int) = 39) : dqB T i r = false := by
  rw [ext_at T i _ r h hr] at h3
  unfold dqB
  rw [decide_eq_false (by omega), Bool.false_and]

theorem doubled_any (T : ByteArray) (i r : Nat) (w : World) (hs : T.size ≤ 1048576) (h : i + r < T.size) :
    Calls Try.prog 37 #[.string T, .int .i64 i, .int .i64 r] w fun e w' => e = .returned (.bool (dqB T i r)) ∧ w = w' := by
  go_enter Try.func37, Try.ntmps37
  go_wp2_with (go_at_call 30; refine (hasPrefix_any _ _ _).mono ?_; rintro e w' ⟨rfl, rfl⟩)
  · have hd := dq_yes h _ ‹_›
    go_ret
    exact ⟨ret_bool hd.symm, rfl⟩
  · have hd := dq_no h _ ‹_›
    go_ret
    exact ⟨ret_bool hd.symm, rfl⟩
end Go.Proofs.Qxb6602558a
