import Derived.Test.Qxb6602032aCopy
import Derived.Deep.DeepCutAuto
import Derived.Deep.LoopGhost
namespace Go.Proofs.Qxb6602032a
open Go.RowKit

def dig (v : Int) (up : Bool) : Int := if v < 10 then 48 + v else if up then 65 + (v - 10) else 97 + (v - 10)

theorem dig_hex (v : Int) (up : Bool) (h0 : 0 ≤ v) (h1 : v < 16) : hexB (dig v up) = true := by
  unfold dig
  apply hexB_true
  cases up <;> simp <;> split <;> omega

theorem dig_range (v : Int) (up : Bool) (h0 : 0 ≤ v) (h1 : v < 16) : 0 ≤ dig v up ∧ dig v up ≤ 255 := by
  unfold dig
  cases up <;> simp <;> split <;> omega

theorem ret_int {k : IntKind} {a b : Int} (h : a = b) : Ending.returned (.int k a) = .returned (.int k b) := by rw [h]

theorem digit_any (v : Int) (up : Bool) (w : World) (h0 : 0 ≤ v) (h1 : v < 16) :
    Calls Try.prog 11 #[.int .u8 v, .bool up] w fun e w' => e = .returned (.int .u8 (dig v up)) ∧ w = w' := by
  by_cases hv : v < 10
  · have hd : Hid (dig v up = 48 + v) := by unfold dig; exact if_pos hv
    go_enter Try.func11, Try.ntmps11
    go_wp2
    go_ret
    exact ⟨ret_int hd.out.symm, rfl⟩
  · cases up
    · have hd : Hid (dig v false = 97 + (v - 10)) := by show dig v _ = _; unfold dig; rw [if_neg hv]; simp
      go_enter Try.func11, Try.ntmps11
      go_wp2
      go_ret
      exact ⟨ret_int hd.out.symm, rfl⟩
    · have hd : Hid (dig v true = 65 + (v - 10)) := by show dig v _ = _; unfold dig; rw [if_neg hv]; simp
      go_enter Try.func11, Try.ntmps11
      go_wp2
      go_ret
      exact ⟨ret_int hd.out.symm, rfl⟩

theorem zzBytes10_yes (a : Option Addr) (len cap : Nat) (up : Bool) (w : World) (hlen : len ≤ 1048576) :
    Calls Try.prog 10 #[.slice a len cap, .bool up] w fun e w' => e = .returned (.bool true) ∧ w = w' := by
  go_enter Try.func10, Try.ntmps10
  go_wp2
  go_ret
  exact ⟨rfl, rfl⟩

theorem zzBytes10_no (a : Option Addr) (len cap : Nat) (up : Bool) (w : World) (hlen : 1048576 < len) :
    Calls Try.prog 10 #[.slice a len cap, .bool up] w fun e w' => e = .returned (.bool false) ∧ w = w' := by
  go_enter Try.func10, Try.ntmps10
  go_wp2
  go_ret
  exact ⟨rfl, rfl⟩

theorem enc_big (a0 : Option Addr) (len0 cap0 : Nat) (up : Bool) (w : World) (h : 524288 < len0) :
    Calls Try.prog 5 #[.slice a0 len0 cap0, .bool up] w fun e w' => e = .returned (.bool true) ∧ w = w' := by
  by_cases hb : 1048576 < len0
  · go_enter Try.func5, Try.ntmps5
    go_wp2_with (go_at_call 10; refine (zzBytes10_no _ _ _ _ _ hb).mono ?_; rintro e w' ⟨rfl, rfl⟩)
    go_ret
    exact ⟨rfl, rfl⟩
  · go_enter Try.func5, Try.ntmps5
    go_wp2_with (go_at_call 10; refine (zzBytes10_yes _ _ _ _ _ (by omega)).mono ?_; rintro e w' ⟨rfl, rfl⟩)
    go_ret
    exact ⟨rfl, rfl⟩

/-- An owned row of bytes, cell by cell, whatever its value's shape. -/
theorem owned_cell {w : World} {B g n cap : Nat} {ys : List Int} (h : w.ownsRow B 5 1 (.slice (some ⟨g, 0, none⟩) n cap) n (ys.map (Value.int .u8))) (j : Nat) (hj : j < n) :
    w.cell? ⟨g, j, none⟩ = some (.int .u8 (ys.getD j 0)) := by
  have hl := h.1
  have hj2 : j < ys.length := by simp at hl; omega
  rw [h.cellAt j (by omega)]
  simp [hj2]

theorem below_app {B g : Nat} {w wr w4 : World} {o : Obj} (hb : Below B w wr) (hB : B ≤ w.heap.size) (hg : (wr.alloc o).grownBy w4 (some g)) (hgB : B ≤ g) : Below B w w4 := by
  have h1 := hb.size
  refine (hb.alloc (by omega) o).grown hg (by simp; omega) ?_
  intro k hk
  simp at hk
  omega

def DataIs (len : Nat) (zs : List Int) (w : World) (s : Value) (wc : World) : Prop :=
  ∃ a c, s = .slice a len c ∧ (∀ j, j < len → ∃ g, a = some ⟨g, 0, none⟩ ∧ g < wc.heap.size ∧ wc.cell? ⟨g, j, none⟩ = some (.int .u8 (zs.getD j 0))) ∧ Below w.heap.size w wc

set_option maxRecDepth 20000 in
set_option maxHeartbeats 1600000 in
theorem enc_walk (a0 : Option Addr) (len cap : Nat) (zs : List Int) (up : Bool) (w : World) (hlen : len ≤ 524288) (hz : len ≤ zs.length) (hb : ∀ i, i < len → 0 ≤ zs.getD i 0 ∧ zs.getD i 0 ≤ 255)
    (h0 : (a0 = none ∧ len = 0 ∧ cap = 0) ∨ ∃ x, a0 = some x ∧ ∀ i, i < len → w.cell? (x.add i) = some (.int .u8 (zs.getD i 0))) :
    Calls Try.prog 5 #[.slice a0 len cap, .bool up] w fun e w' => e = .returned (.bool true) ∧ Below w.heap.size w w' := by
  have hne := fun (w : World) (a : Option Addr) (n c : Nat) => run_neq_slice_nil_any (P := Try.prog) w 22 5 a n c 0 0 Try.underlying22
  obtain ⟨i0, hi, hz0, hz1, hz2⟩ := info_parts Try.info5
  go_enter Try.func5, Try.ntmps5
  go_upto_if 21 with (go_at_call 10; refine (zzBytes10_yes _ _ _ _ _ (by omega)).mono ?_; rintro e w' ⟨rfl, rfl⟩)
  go_cut [0] (fun s wc => DataIs len zs w s wc)
  case first =>
    rcases h0 with ⟨rfl, rfl, rfl⟩ | ⟨x, rfl, hc⟩
    · go_wp2
      go_meet
      case rel => exact ⟨none, 0, rfl, fun j hj => absurd hj (by omega), Below.refl _ _⟩
    · have hx : ∀ i, i < len → (x.add i).block < w.heap.size := fun i hi => World.block_lt_of_cell? _ _ (hc i hi)
      go_wp2_with (first
        | (at_make; refine wpList_make_full _ rfl _ _ 22 rfl w.heap.size 5 i0 (.int .u8 0) 1 Try.underlying22 hi hz0 hz1 _ _ _ _ len rfl rfl rfl rfl (by rw [hz2]; omega) (by unfold maxLen; omega) (Nat.le_refl _) ?_; intro w1 hown1 hgrow1; have hb1 : Below w.heap.size w w1 := (Below.refl _ _).grown hgrow1 (Nat.le_refl _) (by simp); have hc1 : ∀ i, i < len → w1.cell? (x.add i) = some (.int .u8 (zs.getD i 0)) := fun i hi => (hb1.cell (hx i hi)).trans (hc i hi))
        | (with_reducible refine at_copy ?_; refine copy_full rfl (.tmp 25) (.tmp 26) 22 22 rfl 5 Try.underlying22 Try.size5 w.heap.size len len (some x) cap rfl rfl w.heap.size _ hown1 ((zs.take len).map (Value.int .u8)) (by simp; omega) (fun _ => ⟨x, rfl, cells_src hc1 hz⟩) (ints_oneCell _ _) w hb1 ?_; intro w2 hown2 hb2))
      go_meet
      case rel => exact ⟨some ⟨w.heap.size, 0, none⟩, len, rfl, fun j hj => ⟨_, rfl, (hown2.lt _ rfl).2, row_cell hown2 j hj hz⟩, hb2⟩
  case rest =>
    obtain ⟨a, c, rfl, hcell, hbel⟩ := hcut
    clear h0
    go_wp2_with (at_make; refine wpList_make_own _ rfl _ _ 22 rfl wc.heap.size 5 i0 (.int .u8 0) 1 Try.underlying22 hi hz0 hz1 .i64 .i64 _ (2 * len) rfl rfl (by omega) (by rw [hz2]; omega) (by unfold maxLen; omega) (Nat.le_refl _) ?_; intro w3 hown3 hgrow3)
    have hb3 : Below wc.heap.size wc w3 := (Below.refl _ _).grown hgrow3 (Nat.le_refl _) (by simp)
    clear hgrow3
    go_loopw [6, 7] (fun v i wr => ∃ (k : Nat) (ys : List Int), k ≤ len ∧ i = .int .i64 k ∧ v = .slice (some ⟨wc.heap.size, 0, none⟩) (2 * k) (2 * len) ∧ allHex ys = true ∧ wr.ownsRow wc.heap.size 5 1 (.slice (some ⟨wc.heap.size, 0, none⟩) (2 * k) (2 * len)) (2 * k) (ys.map (Value.int .u8)) ∧ Below wc.heap.size wc wr) (fun _ i _ => len - (intOf i).toNat)
    case atStart => exact ⟨0, [], Nat.zero_le _, rfl, rfl, rfl, hown3, hb3⟩
    case round =>
      obtain ⟨k, ys, hk, rfl, rfl, hys, hown, hbr⟩ := hrel
      have HY : Hid (allHex ys = true) := hys
      clear hys hown3 hb3
      by_cases hlt : k < len
      · obtain ⟨g, rfl, hg, hcg⟩ := hcell k hlt
        have hcr : wr.cell? ⟨g, k, none⟩ = some (.int .u8 (zs.getD k 0)) := (hbr.cell (by exact hg)).trans hcg
        obtain ⟨hc0, hc1⟩ := hb k hlt
        obtain ⟨d, hd⟩ : ∃ d, d = zs.getD k 0 := ⟨_, rfl⟩
        rw [← hd] at hcr hc0 hc1
        clear hcell hcg hd
        have hq0 : 0 ≤ d / 16 ∧ d / 16 < 16 := by omega
        have hq1 : 0 ≤ d % 16 ∧ d % 16 < 16 := by omega
        have hx0 := dig_hex (d / 16) up hq0.1 hq0.2
        have hx1 := dig_hex (d % 16) up hq1.1 hq1.2
        have HX : Hid (allHex (ys ++ [dig (d / 16) up] ++ [dig (d % 16) up]) = true) := by
          show allHex _ = true
          unfold allHex
          simp only [List.all_append, List.all_cons, List.all_nil, hx0, hx1, Bool.and_true]
          exact HY.out
        clear hx0 hx1 hq0 hq1
        go_wp2_with fail
        refine (digit_any _ _ _ (by omega) (by omega)).mono ?_
        rintro e w' ⟨rfl, rfl⟩
        obtain ⟨q0, hq0⟩ : ∃ q, q = dig (d / 16) up := ⟨_, rfl⟩
        rw [← hq0]
        rw [← hq0] at HX
        clear hq0
        go_wp2_with (at_builtin; refine wpList_append_fits _ rfl (.tmp 49) (.tmp 53) 22 rfl wc.heap.size 5 i0 1 Try.underlying22 hi hz1 wc.heap.size (2 * k) (2 * len) _ rfl (hown.alloc _) ⟨wr.heap.size, 0, none⟩ 1 1 [.int .u8 q0] rfl rfl (cell_one_new _ _ _) (by intro u hu; simp at hu; subst hu; rfl) (by omega) ?_; intro w4 hown4 hgrow4)
        have hb4 := below_app hbr (Nat.le_refl _) hgrow4 (Nat.le_refl _)
        clear hown hbr hgrow4 hcr
        refine (digit_any _ _ _ (by omega) (by omega)).mono ?_
        rintro e w' ⟨rfl, rfl⟩
        obtain ⟨q1, hq1⟩ : ∃ q, q = dig (d % 16) up := ⟨_, rfl⟩
        rw [← hq1]
        rw [← hq1] at HX
        clear hq1
        go_wp2_with (at_builtin; refine wpList_append_fits _ rfl (.tmp 55) (.tmp 59) 22 rfl wc.heap.size 5 i0 1 Try.underlying22 hi hz1 wc.heap.size (2 * k + 1) (2 * len) _ rfl (hown4.alloc _) ⟨w4.heap.size, 0, none⟩ 1 1 [.int .u8 q1] rfl rfl (cell_one_new _ _ _) (by intro u hu; simp at hu; subst hu; rfl) (by omega) ?_; intro w5 hown5 hgrow5)
        have hb5 := below_app hb4 (Nat.le_refl _) hgrow5 (Nat.le_refl _)
        clear hown4 hgrow5 hb4
        go_roundw
        case rel => exact ⟨k + 1, ys ++ [q0] ++ [q1], by omega, by go_num, rfl, HX.out, by rw [show 2 * (k + 1) = 2 * k + 1 + 1 from by omega]; simpa using hown5, hb5⟩
        case measure => simp [intOf]; omega
      · have hkl : k = len := by omega
        subst hkl
        obtain ⟨wE, hwE⟩ : ∃ x : World, x = wr := ⟨_, rfl⟩
        subst hwE
        have h8 : Hid (Calls Try.prog 8 #[.slice (some ⟨wc.heap.size, 0, none⟩) (2 * k) (2 * k)] wE fun e w' => e = .returned (.bool (allHex (ys.take (2 * k)))) ∧ wE = w') :=
          zzIsHex_any (some ⟨wc.heap.size, 0, none⟩) (2 * k) (2 * k) ys wE (by omega) (by have := hown.1; simp at this; omega) (fun j hj => ⟨_, rfl, by rw [add_zero']; exact owned_cell hown j hj⟩)
        have hall : (allHex (ys.take (2 * k))) = true := by
          rw [List.take_of_length_le (by have := hown.1; simp at this; omega)]
          exact HY.out
        have hbw : Below w.heap.size w wE := hbel.trans (hbr.mono hbel.size)
        clear hcell hb HY
        go_wp2_with (first
          | (go_at_call 8; refine h8.out.mono ?_; rintro e w' ⟨rfl, rfl⟩)
          | (at_make; refine wpList_make_own _ rfl _ _ 22 rfl wE.heap.size 5 i0 (.int .u8 0) 1 Try.underlying22 hi hz0 hz1 .i64 .i64 _ (2 * k + 1) rfl rfl (by omega) (by rw [hz2]; omega) (by unfold maxLen; omega) (Nat.le_refl _) ?_; intro w6 hown6 hgrow6))
        have hb6 : Below wE.heap.size wE w6 := (Below.refl _ _).grown hgrow6 (Nat.le_refl _) (by simp)
        have hec : ∀ j, j < 2 * k → wE.cell? ⟨wc.heap.size, j, none⟩ = some (.int .u8 (ys.getD j 0)) := fun j hj => owned_cell hown j hj
        have heg : wc.heap.size < wE.heap.size := (hown.lt _ rfl).2
        clear hgrow6 hown h8 hall hbr
        go_loopw [10, 11] (fun v i wx => ∃ (m : Nat) (xs : List Int), m ≤ k ∧ i = .int .i64 m ∧ v = .slice (some ⟨wE.heap.size, 0, none⟩) m (2 * k + 1) ∧ wx.ownsRow wE.heap.size 5 1 (.slice (some ⟨wE.heap.size, 0, none⟩) m (2 * k + 1)) m (xs.map (Value.int .u8)) ∧ Below wE.heap.size wE wx) (fun _ i _ => k - (intOf i).toNat)
        case atStart => exact ⟨0, [], Nat.zero_le _, rfl, rfl, hown6, hb6⟩
        case round =>
          obtain ⟨m, xs, hm, rfl, rfl, hown, hbr⟩ := hrel
          clear hown6 hb6
          by_cases hlt : m < k
          · have hcr := (hbr.cell (p := ⟨wc.heap.size, m, none⟩) heg).trans (hec m (by omega))
            obtain ⟨d, hd⟩ : ∃ d, d = ys.getD m 0 := ⟨_, rfl⟩
            rw [← hd] at hcr
            clear hec hd
            go_wp2_with (at_builtin; refine wpList_append_fits _ rfl (.tmp 74) (.tmp 79) 22 rfl wE.heap.size 5 i0 1 Try.underlying22 hi hz1 wE.heap.size m (2 * k + 1) _ rfl (hown.alloc _) ⟨wr.heap.size, 0, none⟩ 1 1 [.int .u8 d] rfl rfl (cell_one_new _ _ _) (by intro u hu; simp at hu; subst hu; rfl) (by omega) ?_; intro w7 hown7 hgrow7)
            have hb7 := below_app hbr (Nat.le_refl _) hgrow7 (Nat.le_refl _)
            clear hgrow7 hown
            go_roundw
            case rel => exact ⟨m + 1, xs ++ [d], by omega, by go_num, rfl, by simpa using hown7, hb7⟩
            case measure => simp [intOf]; omega
          · have hkm : m = k := by omega
            subst hkm
            go_wp2_with (at_builtin; refine wpList_append_fits _ rfl (.tmp 81) (.tmp 82) 22 rfl wE.heap.size 5 i0 1 Try.underlying22 hi hz1 wE.heap.size m (2 * m + 1) _ rfl (hown.alloc _) ⟨wr.heap.size, 0, none⟩ 1 1 [.int .u8 103] rfl rfl (cell_one_new _ _ _) (by intro u hu; simp at hu; subst hu; rfl) (by omega) ?_; intro w7 hown7 hgrow7)
            have hb7 := below_app hbr (Nat.le_refl _) hgrow7 (Nat.le_refl _)
            clear hgrow7 hown hbr
            go_loopw [10, 12] (fun v i wx => ∃ (n : Nat) (xs : List Int), m ≤ n ∧ n ≤ 2 * m ∧ i = .int .i64 n ∧ v = .slice (some ⟨wE.heap.size, 0, none⟩) (n + 1) (2 * m + 1) ∧ 103 ∈ xs ∧ wx.ownsRow wE.heap.size 5 1 (.slice (some ⟨wE.heap.size, 0, none⟩) (n + 1) (2 * m + 1)) (n + 1) (xs.map (Value.int .u8)) ∧ Below wE.heap.size wE wx) (fun _ i _ => 2 * m - (intOf i).toNat)
            case atStart => exact ⟨m, xs ++ [103], Nat.le_refl _, by omega, rfl, rfl, by simp, by simpa using hown7, hb7⟩
            case round =>
              obtain ⟨n, xs3, hn0, hn1, rfl, rfl, hin, hown, hbr⟩ := hrel
              have HI : Hid (103 ∈ xs3) := hin
              clear hown7 hb7 hin
              by_cases hlt : n < 2 * m
              · have hcr := (hbr.cell (p := ⟨wc.heap.size, n, none⟩) heg).trans (hec n (by omega))
                obtain ⟨d, hd⟩ : ∃ d, d = ys.getD n 0 := ⟨_, rfl⟩
                rw [← hd] at hcr
                clear hec hd
                go_wp2_with (at_builtin; refine wpList_append_fits _ rfl (.tmp 92) (.tmp 97) 22 rfl wE.heap.size 5 i0 1 Try.underlying22 hi hz1 wE.heap.size (n + 1) (2 * m + 1) _ rfl (hown.alloc _) ⟨wr.heap.size, 0, none⟩ 1 1 [.int .u8 d] rfl rfl (cell_one_new _ _ _) (by intro u hu; simp at hu; subst hu; rfl) (by omega) ?_; intro w8 hown8 hgrow8)
                have hb8 := below_app hbr (Nat.le_refl _) hgrow8 (Nat.le_refl _)
                clear hgrow8 hown
                go_roundw
                case rel => exact ⟨n + 1, xs3 ++ [d], by omega, by omega, by go_num, rfl, List.mem_append_left _ HI.out, by simpa using hown8, hb8⟩
                case measure => simp [intOf]; omega
              · have hnm : n = 2 * m := by omega
                subst hnm
                have hl3 := hown.1
                simp at hl3
                have hbad : allHex (xs3.take (2 * m + 1)) = false := by
                  rw [List.take_of_length_le (by omega)]
                  unfold allHex
                  rw [List.all_eq_false]
                  exact ⟨103, HI.out, by decide⟩
                have h8 : Hid (Calls Try.prog 8 #[.slice (some ⟨wE.heap.size, 0, none⟩) (2 * m + 1) (2 * m + 1)] wr fun e w' => e = .returned (.bool (allHex (xs3.take (2 * m + 1)))) ∧ wr = w') :=
                  zzIsHex_any (some ⟨wE.heap.size, 0, none⟩) (2 * m + 1) (2 * m + 1) xs3 wr (by omega) (by omega) (fun j hj => ⟨_, rfl, by rw [add_zero']; exact owned_cell hown j hj⟩)
                have hbf : Below w.heap.size w wr := hbw.trans (hbr.mono hbw.size)
                clear hown hec hbr hl3
                go_wp2_with (go_at_call 8; refine h8.out.mono ?_; rintro e w' ⟨rfl, rfl⟩)
                go_ret
                exact ⟨rfl, hbf⟩
end Go.Proofs.Qxb6602032a
