import Derived.Test.Qxb6603343aRows
import Derived.Test.Qxb6603343aG3
import Derived.WalkKit
import Derived.Below
import Derived.WalkSpells
import Derived.WalkLawsBesides
import Derived.Deep.QuietTactic
import Derived.BigQuiet
import Derived.Deep.LoopGhost
import Derived.Deep.DeepCutAuto
namespace Go.Proofs.Qxb6603343a
open Go.RowKit
set_option linter.unusedVariables false

theorem ret_bool {a b : Bool} (h : a = b) : Ending.returned (.bool a) = .returned (.bool b) := by rw [h]
theorem beq_t {a b : Int} (h : a = b) : (a == b) = true := beq_iff_eq.2 h
theorem beq_f {a b : Int} (h : a ≠ b) : (a == b) = false := beq_eq_false_iff_ne.2 h
theorem bne_t {a b : Int} (h : a ≠ b) : (a != b) = true := bne_iff_ne.2 h
theorem bne_f {a b : Int} (h : a = b) : (a != b) = false := by rw [bne_eq_false_iff_eq]; exact h

/-- A slice value that reads as the list of numbers l, below block B. -/
def RowZ (w : World) (B : Nat) (rv : Value) (l : List Int) : Prop :=
  l.length ≤ maxLen ∧ ∃ ra rc, rv = .slice ra l.length rc ∧ ∀ j, j < l.length → ∃ y : Addr, ra = some y ∧ (y.add j).block < B ∧ w.cell? (y.add j) = some (.int .i64 (l.getD j 0))

/-- A slice value that reads as the list of lists G, below block B. -/
def GraphZ (w : World) (B : Nat) (v : Value) (G : List (List Int)) : Prop :=
  G.length ≤ maxLen ∧ ∃ a c, v = .slice a G.length c ∧ ∀ i, i < G.length → ∃ (x : Addr) (rv : Value), a = some x ∧ (x.add i).block < B ∧ w.cell? (x.add i) = some rv ∧ RowZ w B rv (G.getD i [])

theorem RowZ.keep {w w' : World} {B : Nat} {rv : Value} {l : List Int} (h : RowZ w B rv l) (hb : Below B w w') : RowZ w' B rv l := by
  obtain ⟨h1, ra, rc, h2, h3⟩ := h
  refine ⟨h1, ra, rc, h2, fun j hj => ?_⟩
  obtain ⟨y, e, hy, hc⟩ := h3 j hj
  exact ⟨y, e, hy, (hb.cell hy).trans hc⟩

theorem GraphZ.keep {w w' : World} {B : Nat} {v : Value} {G : List (List Int)} (h : GraphZ w B v G) (hb : Below B w w') : GraphZ w' B v G := by
  obtain ⟨h1, a, c, h2, h3⟩ := h
  refine ⟨h1, a, c, h2, fun i hi => ?_⟩
  obtain ⟨x, rv, e, hx, hc, hr⟩ := h3 i hi
  exact ⟨x, rv, e, hx, (hb.cell hx).trans hc, hr.keep hb⟩

theorem RowZ.wide {w : World} {B B' : Nat} {rv : Value} {l : List Int} (h : RowZ w B rv l) (hb : B ≤ B') : RowZ w B' rv l := by
  obtain ⟨h1, ra, rc, h2, h3⟩ := h
  refine ⟨h1, ra, rc, h2, fun j hj => ?_⟩
  obtain ⟨y, e, hy, hc⟩ := h3 j hj
  exact ⟨y, e, by omega, hc⟩

theorem GraphZ.wide {w : World} {B B' : Nat} {v : Value} {G : List (List Int)} (h : GraphZ w B v G) (hb : B ≤ B') : GraphZ w B' v G := by
  obtain ⟨h1, a, c, h2, h3⟩ := h
  refine ⟨h1, a, c, h2, fun i hi => ?_⟩
  obtain ⟨x, rv, e, hx, hc, hr⟩ := h3 i hi
  exact ⟨x, rv, e, by omega, hc, hr.wide hb⟩

/-- It hands back a bool of which p holds. -/
def Says (p : Bool → Prop) (e : Ending) : Prop := ∃ b, e = .returned (.bool b) ∧ p b
theorem Says.mk {p : Bool → Prop} {b : Bool} (h : p b) : Says p (.returned (.bool b)) := ⟨b, rfl, h⟩
def Any_ (_ : Bool) : Prop := True
def Short (G : List (List Int)) : Prop := ∀ i, i < G.length → (G.getD i []).length ≤ 1048576
def IfShort (G : List (List Int)) (b : Bool) : Prop := b = true → Short G
def InRangeZ (G : List (List Int)) : Prop := ∀ i, i < G.length → ∀ j, j < (G.getD i []).length → 0 ≤ (G.getD i []).getD j 0 ∧ (G.getD i []).getD j 0 < G.length
def IfRange (G : List (List Int)) (b : Bool) : Prop := b = true → InRangeZ G

/-! ### 6: the bound on the total length: some bool -/
set_option maxHeartbeats 1000000 in
theorem bytes6 {w : World} {B : Nat} {v : Value} {G : List (List Int)} (hG : GraphZ w B v G) : Calls Try.prog 6 #[v] w fun e w' => Says Any_ e ∧ w = w' := by
  obtain ⟨hn, a, c, rfl, hrow⟩ := hG
  unfold maxLen at hn
  have HR : Hid (∀ i, i < G.length → ∃ (x : Addr) (rv : Value), a = some x ∧ (x.add i).block < B ∧ w.cell? (x.add i) = some rv ∧ RowZ w B rv (G.getD i [])) := hrow
  clear hrow
  generalize hgl : G.length = n at *
  by_cases hbig : 1048576 < n
  · go_enter Try.func6, Try.ntmps6
    go_wp2
    go_ret
    exact ⟨Says.mk trivial, rfl⟩
  · go_enter Try.func6, Try.ntmps6
    go_wp2
    go_loop [3, 4] (fun s k => ∃ (m : Int) (i : Nat), 0 ≤ m ∧ m ≤ 1048576 ∧ i ≤ n ∧ s = .int .i64 m ∧ k = .int .i64 i) (fun _ k => n - (intOf k).toNat)
    case atStart => exact ⟨_, 0, by omega, by omega, by omega, rfl, rfl⟩
    case round =>
      obtain ⟨m, i, hm0, hm1, hi, rfl, rfl⟩ := hrel
      by_cases hlt : i < n
      · obtain ⟨x, rv, rfl, hxB, hc, hl, ra, rc, rfl, _⟩ := HR.out i hlt
        unfold maxLen at hl
        generalize (G.getD i []).length = L at *
        by_cases h1 : 1048576 < L
        · go_wp2
          go_ret
          exact ⟨Says.mk trivial, rfl⟩
        · by_cases h2 : 1048576 < m + L
          · go_wp2
            go_ret
            exact ⟨Says.mk trivial, rfl⟩
          · go_wp2
            go_round
            case rel => exact ⟨m + L, i + 1, by omega, by omega, by omega, rfl, by go_num⟩
            case measure => simp [intOf]; omega
      · go_wp2
        go_ret
        exact ⟨Says.mk trivial, rfl⟩

/-! ### 7: within the bytes: where it says yes every row is short -/
set_option maxHeartbeats 1000000 in
theorem within7 {w : World} {B : Nat} {v : Value} {G : List (List Int)} (hG : GraphZ w B v G) (hbig : G.length ≤ 1024) : Calls Try.prog 7 #[v] w fun e w' => Says (IfShort G) e ∧ w = w' := by
  obtain ⟨hn, a, c, rfl, hrow⟩ := hG
  clear hn
  have HR : Hid (∀ i, i < G.length → ∃ (x : Addr) (rv : Value), a = some x ∧ (x.add i).block < B ∧ w.cell? (x.add i) = some rv ∧ RowZ w B rv (G.getD i [])) := hrow
  clear hrow
  generalize hgl : G.length = n at *
  go_enter Try.func7, Try.ntmps7
  go_wp2
  go_loop [3, 4] (fun s k => ∃ (m : Int) (i : Nat), 0 ≤ m ∧ m ≤ 1048576 ∧ i ≤ n ∧ s = .int .i64 m ∧ k = .int .i64 i ∧ ∀ j, j < i → (G.getD j []).length ≤ 1048576) (fun _ k => n - (intOf k).toNat)
  case atStart => exact ⟨_, 0, by omega, by omega, by omega, rfl, rfl, fun j hj => absurd hj (by omega)⟩
  case round =>
    obtain ⟨m, i, hm0, hm1, hi, rfl, rfl, hsh⟩ := hrel
    have HS : Hid (∀ j, j < i → (G.getD j []).length ≤ 1048576) := hsh
    clear hsh
    by_cases hlt : i < n
    · obtain ⟨x, rv, rfl, hxB, hc, hl, ra, rc, rfl, _⟩ := HR.out i hlt
      unfold maxLen at hl
      have HL : Hid ((G.getD i []).length = (G.getD i []).length) := rfl
      obtain ⟨L, hL⟩ : ∃ L, L = (G.getD i []).length := ⟨_, rfl⟩
      rw [← hL] at hc hl
      have HLL : Hid (L = (G.getD i []).length) := hL
      clear hL HL
      by_cases h1 : 1048576 < L
      · go_wp2
        go_ret
        exact ⟨Says.mk (fun h => by cases h), rfl⟩
      · by_cases h2 : 1048576 < m + L * 8
        · go_wp2
          go_ret
          exact ⟨Says.mk (fun h => by cases h), rfl⟩
        · go_wp2
          go_round
          case rel =>
            refine ⟨m + L * 8, i + 1, by omega, by omega, by omega, rfl, by go_num, fun j hj => ?_⟩
            by_cases e : j = i
            · subst e; rw [← HLL.out]; omega
            · exact HS.out j (by omega)
          case measure => simp [intOf]; omega
    · go_wp2
      go_ret
      exact ⟨Says.mk (fun _ j hj => HS.out j (by omega)), rfl⟩

/-! ### 8: the edges are in range -/
set_option maxHeartbeats 1000000 in
theorem range8 {w : World} {B : Nat} {v : Value} {G : List (List Int)} (hG : GraphZ w B v G) (hbig : G.length ≤ 1024) : Calls Try.prog 8 #[v] w fun e w' => Says (IfRange G) e ∧ w = w' := by
  obtain ⟨hn, a, c, rfl, hrow⟩ := hG
  clear hn
  have HR : Hid (∀ i, i < G.length → ∃ (x : Addr) (rv : Value), a = some x ∧ (x.add i).block < B ∧ w.cell? (x.add i) = some rv ∧ RowZ w B rv (G.getD i [])) := hrow
  clear hrow
  have HP : Hid (∀ b, IfRange G b = IfRange G b) := fun _ => rfl
  generalize hgl : G.length = n at *
  go_enter Try.func8, Try.ntmps8
  go_wp2
  go_loop [3] (fun k => ∃ (i : Nat), i ≤ n ∧ k = .int .i64 i ∧ ∀ i', i' < i → ∀ j, j < (G.getD i' []).length → 0 ≤ (G.getD i' []).getD j 0 ∧ (G.getD i' []).getD j 0 < n) (fun k => n - (intOf k).toNat)
  case atStart => exact ⟨0, by omega, rfl, fun j hj => absurd hj (by omega)⟩
  case round =>
    obtain ⟨i, hi, rfl, hsh⟩ := hrel
    have HS : Hid (∀ i', i' < i → ∀ j, j < (G.getD i' []).length → 0 ≤ (G.getD i' []).getD j 0 ∧ (G.getD i' []).getD j 0 < n) := hsh
    clear hsh
    by_cases hlt : i < n
    · obtain ⟨x, rv, rfl, hxB, hc, hl, ra, rc, rfl, hcells⟩ := HR.out i hlt
      unfold maxLen at hl
      have HC : Hid (∀ j, j < (G.getD i []).length → ∃ y : Addr, ra = some y ∧ (y.add j).block < B ∧ w.cell? (y.add j) = some (.int .i64 ((G.getD i []).getD j 0))) := hcells
      clear hcells
      obtain ⟨row, hrow⟩ : ∃ row, row = G.getD i [] := ⟨_, rfl⟩
      rw [← hrow] at hc hl HC
      have HRow : Hid (row = G.getD i []) := hrow
      clear hrow
      go_wp2
      go_loop [4] (fun e => ∃ (j : Nat), j ≤ row.length ∧ e = .int .i64 j ∧ ∀ j', j' < j → 0 ≤ row.getD j' 0 ∧ row.getD j' 0 < n) (fun e => row.length - (intOf e).toNat)
      case atStart => exact ⟨0, by omega, rfl, fun j hj => absurd hj (by omega)⟩
      case round =>
        obtain ⟨j, hj, rfl, hjs⟩ := hrel
        have HJ : Hid (∀ j', j' < j → 0 ≤ row.getD j' 0 ∧ row.getD j' 0 < n) := hjs
        clear hjs
        by_cases hlj : j < row.length
        · obtain ⟨y, rfl, hyB, hcy⟩ := HC.out j hlj
          obtain ⟨t, ht⟩ : ∃ t, t = row.getD j 0 := ⟨_, rfl⟩
          rw [← ht] at hcy
          have HT : Hid (t = row.getD j 0) := ht
          clear ht
          by_cases h1 : t < 0
          · have e1 : decide (t < 0) = true := decide_eq_true h1
            go_wp2
            go_ret
            exact ⟨Says.mk (fun h => by cases h), rfl⟩
          · have e1 : decide (t < 0) = false := decide_eq_false h1
            by_cases h2 : (n : Int) ≤ t
            · have e2 : decide ((n : Int) ≤ t) = true := decide_eq_true h2
              go_wp2
              go_ret
              exact ⟨Says.mk (fun h => by cases h), rfl⟩
            · have e2 : decide ((n : Int) ≤ t) = false := decide_eq_false h2
              go_wp2
              go_round
              case rel =>
                refine ⟨j + 1, by omega, by go_num, fun j' hj' => ?_⟩
                by_cases e : j' = j
                · subst e; rw [← HT.out]; omega
                · exact HJ.out j' (by omega)
              case measure => simp [intOf]; omega
        · have hjr : j = row.length := by omega
          go_wp2
          go_round
          case rel =>
            refine ⟨i + 1, by omega, by go_num, fun i' hi' j' hj' => ?_⟩
            by_cases e : i' = i
            · subst e
              rw [← HRow.out] at hj' ⊢
              exact HJ.out j' (by omega)
            · exact HS.out i' (by omega) j' hj'
          case measure => simp [intOf]; omega
    · go_wp2
      go_ret
      exact ⟨Says.mk (fun _ i' hi' j hj => by rw [hgl]; exact HS.out i' (by omega) j hj), rfl⟩
end Go.Proofs.Qxb6603343a
