import Derived.Test.Qxb6602723aNr4
import Derived.Test.Qxb6602723aNr5
import Derived.Lib.AppendStr
import Derived.Laws.IdiomStrings
import Derived.Maps.AppendAt
import Derived.Deep.RegionWith
namespace Go.Proofs.Qxb6602723a
open Go.RowKit
set_option linter.unusedVariables false

theorem Try.info5 : (Try.prog.info? 5).map (fun i => (i.zero, i.size, i.bytes)) = some (some (.int .u8 0), 1, 1) := by kernel_rfl

theorem auto_none (st c : Int) (w : World) (h : isN st = false) :
    Calls Try.prog 3 #[.int .u8 st, .int .u8 c] w fun e w' => e = .returned (.bool true) ∧ w = w' := by
  have hr := rule_none h c
  go_enter Try.func3, Try.ntmps3
  go_wp2_with (first
    | (go_at_call 7; refine (zzNumberRule_any _ _ _).mono ?_; rintro e w' ⟨rfl, rfl⟩)
    | (go_at_call 8; refine (isNumber_any _ _).mono ?_; rintro e w' ⟨rfl, rfl⟩))
  go_ret
  exact ⟨rfl, rfl⟩

theorem own_shape {w : World} {B : Nat} {e : TypeId} {v : Value} {n : Nat} {xs : List Value} (h : w.ownsRow B e 1 v n xs) (hn : 0 < n) : ∃ g cap, v = .slice (some ⟨g, 0, none⟩) n cap ∧ ∀ j, j < n → w.cell? ⟨g, j, none⟩ = xs[j]? := by
  rcases h.2 with ⟨_, h2⟩ | ⟨g, cap, cur, h2, _⟩
  · omega
  · subst h2
    exact ⟨g, cap, rfl, fun j hj => h.cellAt j (by omega)⟩

theorem snoc_cells (s : ByteArray) (c : Int) (h0 : 0 ≤ c) (h1 : c ≤ 255) (j : Nat) (hj : j < (s.data.toList ++ [UInt8.ofNat c.toNat]).length) :
    (Lib.strCells s ++ [Value.int .u8 c])[j]? = some (.int .u8 ((s.data.toList ++ [UInt8.ofNat c.toNat])[j].toNat : Int)) := by
  have e : [Value.int .u8 c] = [UInt8.ofNat c.toNat].map (fun b => Value.int .u8 b.toNat) := by
    have e1 : ((UInt8.ofNat c.toNat).toNat : Int) = c := by simp; omega
    simp only [List.map_cons, List.map_nil, e1]
  rw [e]
  unfold Lib.strCells
  rw [← List.map_append, List.getElem?_map, List.getElem?_eq_getElem hj]
  rfl

theorem conv_own {w : World} {B : Nat} {v : Value} {s : ByteArray} {c : Int} (h : w.ownsRow B 5 1 v (0 + s.size + 1) ([] ++ Lib.strCells s ++ [Value.int .u8 c])) (h0 : 0 ≤ c) (h1 : c ≤ 255) :
    (convert 27 9 v).run Try.prog w = .ok (.string (snoc s (UInt8.ofNat c.toNat))) w := by
  obtain ⟨g, cap, rfl, hc⟩ := own_shape h (by omega)
  have hl : (s.data.toList ++ [UInt8.ofNat c.toNat]).length = 0 + s.size + 1 := by
    have : s.data.toList.length = s.size := rfl
    rw [List.length_append, this]; simp
  rw [← hl]
  refine run_convert_bytes_back (P := Try.prog) w 27 9 5 ⟨g, 0, none⟩ cap _ Try.underlying27 Try.underlying5 Try.underlying9 ?_
  intro j hj
  have ha : (⟨g, 0, none⟩ : Addr).add j = ⟨g, j, none⟩ := by
    unfold Addr.add
    by_cases e : j = 0
    · subst e; rfl
    · simp [e]
  rw [ha, hc j (by omega), List.nil_append]
  exact snoc_cells s c h0 h1 j hj

theorem below_two {B : Nat} {w wr w3 w4 w5 : World} {o : Obj} {r4 r5 : Option Nat} (hb : Below B w wr) (h3 : wr.grownBy w3 none) (h4 : w3.grownBy w4 r4) (h5 : (w4.alloc o).grownBy w5 r5) (hr4 : ∀ k, r4 = some k → wr.heap.size ≤ k) (hr5 : ∀ k, r5 = some k → wr.heap.size ≤ k) (hB : B ≤ wr.heap.size) : Below B w w5 := by
  have s3 := h3.size
  have s4 := h4.size
  have b3 := hb.grown h3 hB (by simp)
  have b4 := b3.grown h4 (by omega) (fun k hk => Nat.le_trans hB (hr4 k hk))
  exact (b4.alloc (by omega) o).grown h5 (by simp; omega) (fun k hk => Nat.le_trans hB (hr5 k hk))

set_option maxRecDepth 20000 in
set_option maxHeartbeats 2000000 in
theorem auto_main (st c : Int) (w : World) (h : isN st = true) (h0 : 0 ≤ c) (h1 : c ≤ 255) :
    Calls Try.prog 3 #[.int .u8 st, .int .u8 c] w fun e w' => e = .returned (.bool true) ∧ Below w.heap.size w w' := by
  obtain ⟨i0, hi, hz0, hz1, hz2⟩ := info_parts Try.info5
  have HR : Hid (isN st = true) := h
  go_enter Try.func3, Try.ntmps3
  go_wp2_with (first
    | (go_at_call 7; refine (zzNumberRule_any _ _ _).mono ?_; rintro e w' ⟨rfl, rfl⟩)
    | (go_at_call 8; refine (isNumber_any _ _).mono ?_; rintro e w' ⟨rfl, rfl⟩))
  clear h
  go_loopw [6, 7] (fun s k wr => ∃ (n m : Nat), n ≤ 3 ∧ k = .int .i64 n ∧ s = .int .i64 m ∧ m ≤ n ∧ (0 < n → 0 < m) ∧ Below w.heap.size w wr) (fun _ k _ => 3 - (intOf k).toNat)
  case atStart => exact ⟨0, 0, by omega, rfl, rfl, by omega, by omega, Below.refl _ _⟩
  case round =>
    obtain ⟨n, m, hn, rfl, rfl, hm, hnm, hb⟩ := hrel
    have HNM : Hid (0 < n → 0 < m) := hnm
    have HB : Hid (Below w.heap.size w wr) := hb
    have hbs := hb.size
    clear hnm hb
    by_cases hlt : n < 3
    · go_wp2_with fail
      refine (representative_any st HR.out n hlt _).mono ?_
      rintro e w' ⟨s, ok, rfl, hok, hz, rfl⟩
      cases ok
      · have hn0 : 0 < n := by
          rcases Nat.eq_zero_or_pos n with h | h
          · exact absurd (hz h) (by decide)
          · exact h
        clear hok hz
        go_wp2
        go_roundw
        case rel => exact ⟨n + 1, m, by omega, by go_num, rfl, by omega, fun _ => HNM.out hn0, HB.out⟩
        case measure => simp [intOf]; omega
      · have hrep := hok rfl
        have hsz := hrep.size
        have HC : Hid (∀ w, Calls Try.prog 10 #[.string (snoc s (UInt8.ofNat c.toNat))] w fun e w' => e = .returned (.int .u8 (rule st c)) ∧ w = w') := by
          intro w
          have h := classify_any (snoc s (UInt8.ofNat c.toNat)) w (by rw [snoc_size]; omega)
          rw [F_snoc, hrep.next] at h
          have e : ((UInt8.ofNat c.toNat).toNat : Int) = c := by simp; omega
          rw [e] at h
          exact h
        have HL : Hid (0 < s.size → ∀ w, Calls Try.prog 10 #[.string s] w fun e w' => e = .returned (.int .u8 st) ∧ w = w') := by
          intro hp w
          have h := classify_any s w (by omega)
          rw [hrep.cls hp] at h
          exact h
        clear hok hz hrep
        go_wp2_with (first
          | (go_at_call_of 10 (Value.string s); refine (HL.out (by assumption) _).mono ?_; rintro e w' ⟨rfl, rfl⟩)
          | (at_make; refine wpList_make_own _ rfl _ _ 27 rfl wr.heap.size 5 i0 (.int .u8 0) 1 Try.underlying27 hi hz0 hz1 .i64 .i64 _ (s.size + 1) rfl rfl (by omega) (by rw [hz2]; omega) (by unfold maxLen; omega) (Nat.le_refl _) ?_; intro w3 hown3 hgrow3; have hb3 : wr.heap.size ≤ w3.heap.size := hgrow3.size)
          | (at_builtin; refine Lib.wpList_append_own_string _ rfl (.tmp 46) (.tmp 47) 27 9 rfl wr.heap.size 5 i0 Try.underlying27 Try.underlying9 hi hz0 hz1 hz2 (.slice (some ⟨wr.heap.size, 0, none⟩) 0 (s.size + 1)) 0 [] rfl hown3 s rfl (by unfold maxLen; omega) (by omega) hb3 ?_; intro v4 w4 hown4 hgrow4 hnil4; have hb4 : wr.heap.size ≤ w4.heap.size := Nat.le_trans hb3 hgrow4.size)
          | (at_builtin; refine wpList_append_own _ rfl (.tmp 49) (.tmp 51) 27 rfl wr.heap.size 5 i0 (.int .u8 0) 1 1 Try.underlying27 hi hz0 hz1 hz2 rfl (by decide) v4 _ _ rfl (hown4.alloc _) ⟨w4.heap.size, 0, none⟩ 1 1 [.int .u8 c] rfl rfl (cell_one_new _ _ _) (by intro u hu; simp at hu; subst hu; rfl) (by unfold maxLen; omega) (by omega) (by simp; omega) ?_; intro v5 w5 hown5 hgrow5 hnil5; have hconv := conv_own hown5 h0 h1; have hb5 := below_two HB.out hgrow3 hgrow4 hgrow5 (fun k hk => by cases hk; exact Nat.le_refl _) (fun k hk => (hown4.lt k hk).1) hbs; clear hgrow3 hgrow4 hgrow5 hnil4 hnil5 hown3 hown4 hown5)
          | (go_at_call_of 10 (Value.string (snoc s (UInt8.ofNat c.toNat))); refine (HC.out _).mono ?_; rintro e w' ⟨rfl, rfl⟩))
        all_goals
          go_roundw
          case rel => exact ⟨n + 1, m + 1, by omega, by go_num, by go_num, by omega, fun _ => by omega, by assumption⟩
          case measure => simp [intOf]; omega
    · have hm0 := HNM.out (by omega)
      have e3 : decide ((0 : Int) < (m : Int)) = true := decide_eq_true (by omega)
      go_wp2
      go_ret
      exact ⟨rfl, HB.out⟩
end Go.Proofs.Qxb6602723a
