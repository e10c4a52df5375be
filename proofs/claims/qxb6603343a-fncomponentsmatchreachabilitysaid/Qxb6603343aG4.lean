/-
  PLAIN: the model's list. No Go in sight.
-/
import Derived.Test.Qxb6603343aG3
namespace Go.Proofs.Qxb6603343a
set_option linter.unusedVariables false

structure MInv (G : List (List Nat)) (i : Nat) (L : List (List Nat)) : Prop where
  cls : ∀ c ∈ L, IsClass G c
  ord : L.Pairwise (fun a b => a.headD 0 < b.headD 0)
  hd : ∀ c ∈ L, c.headD 0 < i
  cov : ∀ x, x < i → ∃ c ∈ L, x ∈ c
  len : L.length ≤ i

theorem minv_start (G : List (List Nat)) : MInv G 0 [] where
  cls := fun c h => nomatch h
  ord := List.Pairwise.nil
  hd := fun c h => nomatch h
  cov := fun x h => absurd h (by omega)
  len := Nat.le_refl _

theorem minv_skip {G : List (List Nat)} {i : Nat} {L : List (List Nat)} (h : MInv G i L) (hi : i < G.length) {j : Nat} (hj : j < i) (hm : Twoway G i j) : MInv G (i + 1) L where
  cls := h.cls
  ord := h.ord
  hd := fun c hc => by have := h.hd c hc; omega
  cov := fun x hx => by
    by_cases e : x = i
    · subst e
      obtain ⟨c, hc, hjc⟩ := h.cov j hj
      exact ⟨c, hc, ((h.cls c hc).of_mem hjc x).2 ⟨hi, hm.symm⟩⟩
    · exact h.cov x (by omega)
  len := by have := h.len; omega

/-- The circle of i so far, from i on. -/
structure CInv (G : List (List Nat)) (i j : Nat) (c : List Nat) : Prop where
  srt : c.Pairwise (· < ·)
  mem : ∀ x, x ∈ c ↔ (i ≤ x ∧ x < j ∧ Twoway G i x)
  len : c.length ≤ j - i

theorem cinv_start (G : List (List Nat)) (i : Nat) : CInv G i i [] where
  srt := List.Pairwise.nil
  mem := fun x => ⟨fun h => (nomatch h), fun h => absurd h.1 (by omega)⟩
  len := Nat.zero_le _

theorem cinv_skip {G : List (List Nat)} {i j : Nat} {c : List Nat} (h : CInv G i j c) (hm : ¬ Twoway G i j) : CInv G i (j + 1) c where
  srt := h.srt
  mem := fun x => by
    rw [h.mem x]
    constructor
    · rintro ⟨a, b, d⟩; exact ⟨a, by omega, d⟩
    · rintro ⟨a, b, d⟩
      have : x ≠ j := fun e => hm (by rw [← e]; exact d)
      exact ⟨a, by omega, d⟩
  len := by have := h.len; omega

theorem cinv_add {G : List (List Nat)} {i j : Nat} {c : List Nat} (h : CInv G i j c) (hij : i ≤ j) (hm : Twoway G i j) : CInv G i (j + 1) (c ++ [j]) where
  srt := by
    rw [List.pairwise_append]
    refine ⟨h.srt, List.pairwise_singleton _ _, fun a ha b hb => ?_⟩
    rw [List.mem_singleton] at hb; subst hb
    exact ((h.mem a).1 ha).2.1
  mem := fun x => by
    rw [List.mem_append, List.mem_singleton, h.mem x]
    constructor
    · rintro (⟨a, b, d⟩ | e)
      · exact ⟨a, by omega, d⟩
      · subst e; exact ⟨hij, by omega, hm⟩
    · rintro ⟨a, b, d⟩
      by_cases e : x = j
      · exact .inr e
      · exact .inl ⟨a, by omega, d⟩
  len := by have := h.len; simp; omega

theorem minv_add {G : List (List Nat)} {i : Nat} {L : List (List Nat)} (h : MInv G i L) (hi : i < G.length) (hno : ∀ j, j < i → ¬ Twoway G i j) {c : List Nat} (hc : CInv G i G.length c) : MInv G (i + 1) (L ++ [c]) := by
  have hic : i ∈ c := (hc.mem i).2 ⟨Nat.le_refl _, hi, Twoway.refl i⟩
  have hcl : IsClass G c := by
    refine ⟨hc.srt, i, hic, fun x => ?_⟩
    rw [hc.mem x]
    constructor
    · rintro ⟨_, b, d⟩; exact ⟨b, d⟩
    · rintro ⟨b, d⟩
      refine ⟨?_, b, d⟩
      by_cases e : x < i
      · exact (hno x e d).elim
      · omega
  have hhd : c.headD 0 = i := by
    cases hcc : c with
    | nil => rw [hcc] at hic; cases hic
    | cons a l =>
      have hs := hc.srt
      have hm := hc.mem a
      rw [hcc] at hic hs hm
      rw [List.pairwise_cons] at hs
      have ha := (hm.1 (List.mem_cons_self ..)).1
      rcases List.mem_cons.1 hic with e | e
      · exact e.symm
      · have := hs.1 i e
        omega
  refine ⟨?_, ?_, ?_, ?_, ?_⟩
  · intro d hd
    rcases List.mem_append.1 hd with a | a
    · exact h.cls d a
    · rw [List.mem_singleton] at a; rw [a]; exact hcl
  · rw [List.pairwise_append]
    refine ⟨h.ord, List.pairwise_singleton _ _, fun a ha b hb => ?_⟩
    rw [List.mem_singleton] at hb; rw [hb, hhd]
    exact h.hd a ha
  · intro d hd
    rcases List.mem_append.1 hd with a | a
    · have := h.hd d a; omega
    · rw [List.mem_singleton] at a; rw [a, hhd]; omega
  · intro x hx
    by_cases e : x = i
    · subst e; exact ⟨c, List.mem_append_right _ (List.mem_singleton.2 rfl), hic⟩
    · obtain ⟨d, hd, hxd⟩ := h.cov x (by omega)
      exact ⟨d, List.mem_append_left _ hd, hxd⟩
  · have := h.len; simp; omega

theorem minv_end {G : List (List Nat)} {L : List (List Nat)} (h : MInv G G.length L) : IsComps G L := ⟨h.cls, h.ord, h.cov⟩

theorem class_len {G : List (List Nat)} {c : List Nat} (h : IsClass G c) : c.length ≤ G.length := by
  obtain ⟨h1, i, _, h3⟩ := h
  have nd : c.Nodup := pairwise_turn (fun a b _ _ hab => Nat.ne_of_lt hab) h1
  exact nodup_le nd (fun x hx => ((h3 x).1 hx).1)
end Go.Proofs.Qxb6603343a
