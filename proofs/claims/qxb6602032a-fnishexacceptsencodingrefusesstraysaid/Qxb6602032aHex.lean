import Derived.Test.Qxb6602032aRows
import Derived.WalkKit
import Derived.Below
import Derived.WalkSpells
import Derived.WalkLawsBesides
namespace Go.Proofs.Qxb6602032a
open Go.RowKit

def hexB (n : Int) : Bool := decide ((48 ≤ n ∧ n ≤ 57) ∨ (97 ≤ n ∧ n ≤ 102) ∨ (65 ≤ n ∧ n ≤ 70))

theorem hexB_true {n : Int} (h : (48 ≤ n ∧ n ≤ 57) ∨ (97 ≤ n ∧ n ≤ 102) ∨ (65 ≤ n ∧ n ≤ 70)) : hexB n = true := decide_eq_true h
theorem hexB_false {n : Int} (h : ¬ ((48 ≤ n ∧ n ≤ 57) ∨ (97 ≤ n ∧ n ≤ 102) ∨ (65 ≤ n ∧ n ≤ 70))) : hexB n = false := decide_eq_false h

def allHex (l : List Int) : Bool := l.all hexB

theorem ret_bool {a b : Bool} (h : a = b) : Ending.returned (.bool a) = .returned (.bool b) := by rw [h]

theorem take_succ_getD (zs : List Int) (k : Nat) (h : k < zs.length) : zs.take (k + 1) = zs.take k ++ [zs.getD k 0] := by
  rw [List.take_succ_eq_append_getElem h]
  simp [List.getD, h]

theorem allHex_snoc (zs : List Int) (k : Nat) (h : k < zs.length) : allHex (zs.take (k + 1)) = (allHex (zs.take k) && hexB (zs.getD k 0)) := by
  rw [take_succ_getD zs k h]
  simp [allHex]

theorem allHex_false (zs : List Int) (k n : Nat) (hn : n ≤ zs.length) (h : k < n) (hb : hexB (zs.getD k 0) = false) : allHex (zs.take n) = false := by
  unfold allHex
  rw [List.all_eq_false]
  refine ⟨zs.getD k 0, ?_, by rw [hb]; decide⟩
  rw [List.mem_take_iff_getElem]
  refine ⟨k, by omega, ?_⟩
  have : k < zs.length := by omega
  simp [List.getD, this]

set_option maxHeartbeats 400000 in
theorem isHex_any (a : Option Addr) (len cap : Nat) (zs : List Int) (w : World) (hlen : len ≤ 1048577) (hz : len ≤ zs.length) (hc : ∀ j, j < len → ∃ x, a = some x ∧ w.cell? (x.add j) = some (.int .u8 (zs.getD j 0))) :
    Calls Try.prog 12 #[.slice a len cap] w fun e w' => e = .returned (.bool (allHex (zs.take len))) ∧ w = w' := by
  go_enter Try.func12, Try.ntmps12
  go_wp2
  go_loop [7] (fun i => ∃ k : Nat, k ≤ len ∧ i = .int .i64 k ∧ allHex (zs.take k) = true) (fun i => len - (intOf i).toNat)
  case atStart => exact ⟨0, Nat.zero_le _, rfl, rfl⟩
  case round =>
    obtain ⟨k, hk, rfl, hall⟩ := hrel
    have HA : Hid (allHex (zs.take k) = true) := hall
    clear hall
    by_cases hlt : k < len
    · obtain ⟨x, rfl, hx⟩ := hc k hlt
      clear hc
      have HS := allHex_snoc zs k (by omega)
      have HF := allHex_false zs k len (by omega) hlt
      rw [HA.out, Bool.true_and] at HS
      obtain ⟨c, hcd⟩ : ∃ c, c = zs.getD k 0 := ⟨_, rfl⟩
      rw [← hcd] at hx HS HF
      clear hcd
      have HS' : Hid (allHex (zs.take (k + 1)) = hexB c) := HS
      have HF' : Hid (hexB c = false → allHex (zs.take len) = false) := HF
      clear HS HF
      rcases (show c < 48 ∨ (48 ≤ c ∧ c ≤ 57) ∨ (58 ≤ c ∧ c ≤ 64) ∨ (65 ≤ c ∧ c ≤ 70) ∨ (71 ≤ c ∧ c ≤ 96) ∨ (97 ≤ c ∧ c ≤ 102) ∨ 103 ≤ c from by omega) with h | ⟨h1, h2⟩ | ⟨h1, h2⟩ | ⟨h1, h2⟩ | ⟨h1, h2⟩ | ⟨h1, h2⟩ | h
      all_goals go_wp2
      all_goals first
        | (go_ret; exact ⟨ret_bool (HF'.out (hexB_false (by omega))).symm, rfl⟩)
        | (rename_i hb; simp at hb; omega)
        | (go_round
           case rel => exact ⟨k + 1, by omega, by go_num, by rw [HS'.out]; exact hexB_true (by omega)⟩
           case measure => simp [intOf]; omega)
    · have : k = len := by omega
      subst this
      go_wp2
      go_ret
      exact ⟨ret_bool HA.out.symm, rfl⟩

theorem zzIsHex_any (a : Option Addr) (len cap : Nat) (zs : List Int) (w : World) (hlen : len ≤ 1048577) (hz : len ≤ zs.length) (hc : ∀ j, j < len → ∃ x, a = some x ∧ w.cell? (x.add j) = some (.int .u8 (zs.getD j 0))) :
    Calls Try.prog 8 #[.slice a len cap] w fun e w' => e = .returned (.bool (allHex (zs.take len))) ∧ w = w' := by
  have H := isHex_any a len cap zs w hlen hz hc
  clear hc
  go_enter Try.func8, Try.ntmps8
  go_wp2_with (go_at_call 12; refine H.mono ?_; rintro e w' ⟨rfl, rfl⟩)
  go_ret
  exact ⟨rfl, rfl⟩

theorem zzBytes_yes (a : Option Addr) (len cap : Nat) (w : World) (hlen : len ≤ 1048576) :
    Calls Try.prog 6 #[.slice a len cap] w fun e w' => e = .returned (.bool true) ∧ w = w' := by
  go_enter Try.func6, Try.ntmps6
  go_wp2
  go_ret
  exact ⟨rfl, rfl⟩

theorem zzBytes_no (a : Option Addr) (len cap : Nat) (w : World) (hlen : 1048576 < len) :
    Calls Try.prog 6 #[.slice a len cap] w fun e w' => e = .returned (.bool false) ∧ w = w' := by
  go_enter Try.func6, Try.ntmps6
  go_wp2
  go_ret
  exact ⟨rfl, rfl⟩

def alphabet : List Int := [48, 49, 50, 51, 52, 53, 54, 55, 56, 57, 97, 98, 99, 100, 101, 102, 65, 66, 67, 68, 69, 70]

theorem alpha_at : ∀ k : Fin 22, ((({ data := #[48, 49, 50, 51, 52, 53, 54, 55, 56, 57, 97, 98, 99, 100, 101, 102, 65, 66, 67, 68, 69, 70] } : ByteArray)[k.val]'(k.isLt)).toNat : Int) = alphabet[k.val]'(k.isLt) := by decide
theorem alpha_hex : ∀ k : Fin 22, hexB (alphabet[k.val]'(k.isLt)) = true := by decide

theorem alpha_hit (k : Nat) (c : Int) (h : k < 22) (hk : k < ByteArray.size { data := #[48, 49, 50, 51, 52, 53, 54, 55, 56, 57, 97, 98, 99, 100, 101, 102, 65, 66, 67, 68, 69, 70] })
    (hh : (((({ data := #[48, 49, 50, 51, 52, 53, 54, 55, 56, 57, 97, 98, 99, 100, 101, 102, 65, 66, 67, 68, 69, 70] } : ByteArray)[k]'hk).toNat : Int) == c) = true) : hexB c = true := by
  have e := alpha_at ⟨k, h⟩
  have f := alpha_hex ⟨k, h⟩
  simp only [beq_iff_eq] at hh
  rw [← hh]
  exact (congrArg hexB e).trans f

theorem alpha_miss (k : Nat) (c : Int) (h : k < 22) (hk : k < ByteArray.size { data := #[48, 49, 50, 51, 52, 53, 54, 55, 56, 57, 97, 98, 99, 100, 101, 102, 65, 66, 67, 68, 69, 70] })
    (hh : (((({ data := #[48, 49, 50, 51, 52, 53, 54, 55, 56, 57, 97, 98, 99, 100, 101, 102, 65, 66, 67, 68, 69, 70] } : ByteArray)[k]'hk).toNat : Int) == c) = false) (hn : c ∉ alphabet.take k) : c ∉ alphabet.take (k + 1) := by
  have e := alpha_at ⟨k, h⟩
  rw [List.take_succ_eq_append_getElem (by exact h)]
  intro hm
  rcases List.mem_append.1 hm with hm | hm
  · exact hn hm
  · rw [List.mem_singleton] at hm
    have := beq_eq_false_iff_ne.1 hh
    exact this (e.trans hm.symm)

theorem alpha_none (c : Int) (k : Nat) (hk : 22 ≤ k) (hn : c ∉ alphabet.take k) : hexB c = false := by
  rw [List.take_of_length_le (by exact hk)] at hn
  simp [alphabet] at hn
  exact hexB_false (by omega)

set_option maxHeartbeats 400000 in
theorem inHex_any (c : Int) (w : World) :
    Calls Try.prog 7 #[.int .u8 c] w fun e w' => e = .returned (.bool (hexB c)) ∧ w = w' := by
  go_enter Try.func7, Try.ntmps7
  go_wp2
  go_loop [3] (fun i => ∃ k : Nat, k ≤ 22 ∧ i = .int .i64 k ∧ c ∉ alphabet.take k) (fun i => 22 - (intOf i).toNat)
  case atStart => exact ⟨0, by omega, rfl, by simp⟩
  case round =>
    obtain ⟨k, hk, rfl, hall⟩ := hrel
    have HA : Hid (c ∉ alphabet.take k) := hall
    clear hall
    by_cases hlt : k < 22
    · go_wp2
      · have hh := alpha_hit k c hlt _ ‹_›
        go_ret
        exact ⟨ret_bool hh.symm, rfl⟩
      · have hh := alpha_miss k c hlt _ ‹_› HA.out
        go_round
        case rel => exact ⟨k + 1, by omega, by go_num, hh⟩
        case measure => simp [intOf]; omega
    · go_wp2
      go_ret
      exact ⟨ret_bool (alpha_none c k (by omega) HA.out).symm, rfl⟩
end Go.Proofs.Qxb6602032a
