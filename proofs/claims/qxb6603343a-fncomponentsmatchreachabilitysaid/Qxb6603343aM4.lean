import Derived.Test.Qxb6603343aM3
namespace Go.Proofs.Qxb6603343a
open Go.RowKit
set_option linter.unusedVariables false

/-- Slice values that own rows of numbers, each its list. -/
def RowsAt (wr : World) (B : Nat) (rvs : List Value) (L : List (List Nat)) : Prop :=
  rvs.length = L.length ∧ ∀ (k : Nat) (rv : Value) (c : List Nat), rvs[k]? = some rv → L[k]? = some c → wr.ownsRow B 3 1 rv c.length (ints c)

theorem RowsAt.nil (wr : World) (B : Nat) : RowsAt wr B [] [] := ⟨rfl, fun k rv c h => by simp at h⟩

theorem RowsAt.mem {wr : World} {B : Nat} {rvs : List Value} {L : List (List Nat)} (h : RowsAt wr B rvs L) {rv : Value} (hr : rv ∈ rvs) : ∃ c, c ∈ L ∧ wr.ownsRow B 3 1 rv c.length (ints c) := by
  obtain ⟨k, hk, e⟩ := List.getElem_of_mem hr
  have hk2 : k < L.length := by rw [← h.1]; exact hk
  exact ⟨L[k], List.getElem_mem hk2, h.2 k rv L[k] (by rw [List.getElem?_eq_getElem hk, e]) (List.getElem?_eq_getElem hk2)⟩

theorem RowsAt.kept {wr w' : World} {B : Nat} {rvs : List Value} {L : List (List Nat)} {row : Option Nat} (h : RowsAt wr B rvs L) (hg : wr.grownBy w' row) (hne : ∀ rv ∈ rvs, rv.ownBlock = none ∨ rv.ownBlock ≠ row) : RowsAt w' B rvs L :=
  ⟨h.1, fun k rv c h1 h2 => (h.2 k rv c h1 h2).kept hg (hne rv (List.mem_of_getElem? h1))⟩

theorem RowsAt.alloc {wr : World} {B : Nat} {rvs : List Value} {L : List (List Nat)} (h : RowsAt wr B rvs L) (o : Obj) : RowsAt (wr.alloc o) B rvs L :=
  ⟨h.1, fun k rv c h1 h2 => (h.2 k rv c h1 h2).alloc o⟩

theorem RowsAt.lt {wr : World} {B : Nat} {rvs : List Value} {L : List (List Nat)} (h : RowsAt wr B rvs L) : ∀ rv ∈ rvs, ∀ b, rv.ownBlock = some b → b < wr.heap.size := by
  intro rv hr b hb
  obtain ⟨c, _, ho⟩ := h.mem hr
  exact (ho.lt b hb).2

theorem RowsAt.snoc {wr : World} {B : Nat} {rvs : List Value} {L : List (List Nat)} (h : RowsAt wr B rvs L) {rv : Value} {c : List Nat} (ho : wr.ownsRow B 3 1 rv c.length (ints c)) : RowsAt wr B (rvs ++ [rv]) (L ++ [c]) := by
  refine ⟨by simp [h.1], fun k rv' c' h1 h2 => ?_⟩
  by_cases e : k < rvs.length
  · rw [List.getElem?_append_left e] at h1
    rw [List.getElem?_append_left (by rw [← h.1]; exact e)] at h2
    exact h.2 k rv' c' h1 h2
  · by_cases e2 : k = rvs.length
    · subst e2
      rw [List.getElem?_append_right (Nat.le_refl _)] at h1
      rw [List.getElem?_append_right (by rw [h.1]; exact Nat.le_refl _)] at h2
      simp at h1
      rw [h.1] at h2
      simp at h2
      rw [← h1, ← h2]; exact ho
    · rw [List.getElem?_eq_none (by simp; omega)] at h1; cases h1

/-- Rows of other element types lie in other blocks. -/
theorem own_ne {w : World} {B1 B2 : Nat} {e1 e2 : TypeId} {s1 s2 : Nat} {v1 v2 : Value} {n1 n2 : Nat} {x1 x2 : List Value} (h1 : w.ownsRow B1 e1 s1 v1 n1 x1) (h2 : w.ownsRow B2 e2 s2 v2 n2 x2) (hne : e1 ≠ e2) : v1.ownBlock = none ∨ v1.ownBlock ≠ v2.ownBlock := by
  rcases h1.2 with ⟨a, _⟩ | ⟨g, cap, cur, a, _, hg, _⟩
  · left; rw [a]; rfl
  · right
    rcases h2.2 with ⟨b, _⟩ | ⟨g2, cap2, cur2, b, _, hg2, _⟩
    · rw [a, b]; intro e; cases e
    · rw [a, b]
      intro e
      have e3 : g = g2 := Option.some.inj e
      rw [e3, hg2] at hg
      have := Option.some.inj hg
      simp only [Obj.cells.injEq] at this
      exact hne this.2.1.symm

/-- From owned rows to a graph that reads. -/
theorem rows_graph {wr : World} {B B2 : Nat} {v : Value} {rvs : List Value} {L : List (List Nat)} (ho : wr.ownsRow B 26 1 v L.length rvs) (hr : RowsAt wr B2 rvs L) (hl : ∀ c ∈ L, c.length ≤ maxLen) (hL : L.length ≤ maxLen) : GraphN wr wr.heap.size v L := by
  have hz : ∀ l : List Nat, ints l = (l.map (fun x : Nat => (x : Int))).map (Value.int .i64) := fun l => by simp [ints]
  refine ⟨by rw [zg_length]; exact hL, ?_⟩
  rcases ho.2 with ⟨h1, h2⟩ | ⟨g, cap, cur, h1, _⟩
  · subst h1
    refine ⟨none, 0, by rw [zg_length, h2], fun i hi => ?_⟩
    rw [zg_length] at hi; omega
  · subst h1
    refine ⟨_, _, by rw [zg_length], fun i hi => ?_⟩
    rw [zg_length] at hi
    have hi2 : i < rvs.length := by rw [hr.1]; exact hi
    have hlt : g < wr.heap.size := (ho.lt _ rfl).2
    refine ⟨⟨g, 0, none⟩, rvs[i], rfl, by rw [addr_lit]; exact hlt, ?_, ?_⟩
    · rw [addr_lit, ho.cellAt i (by omega), List.getElem?_eq_getElem hi2]
    · have hrow := hr.2 i rvs[i] L[i] (List.getElem?_eq_getElem hi2) (List.getElem?_eq_getElem hi)
      have ea : adj L i = L[i] := by unfold adj; simp [List.getD, hi]
      rw [zg_row, ea]
      rw [hz] at hrow
      rcases hrow.2 with ⟨k1, k2⟩ | ⟨g2, cap2, cur2, k1, _⟩
      · rw [k1]
        refine ⟨by rw [List.length_map]; exact hl _ (List.getElem_mem hi), none, 0, by rw [List.length_map, k2], fun j hj => ?_⟩
        rw [List.length_map] at hj; omega
      · rw [k1] at hrow ⊢
        have hlen : (L[i].map (fun x : Nat => (x : Int))).length = L[i].length := List.length_map ..
        rw [← hlen] at hrow ⊢
        exact (own_rowP (S := fun _ => True) hrow (by rw [hlen]; exact hl _ (List.getElem_mem hi)) trivial).rowZ
end Go.Proofs.Qxb6603343a
