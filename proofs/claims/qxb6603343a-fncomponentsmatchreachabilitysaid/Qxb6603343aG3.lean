/-
  PLAIN: what the walk leaves, sorted by the heads, is the components' list; the breadth-first walk. No Go in sight.
-/
import Derived.Test.Qxb6603343aG2
namespace Go.Proofs.Qxb6603343a
set_option linter.unusedVariables false

theorem head_mem {c : List Nat} (h : c ≠ []) : c.headD 0 ∈ c := by
  cases c with
  | nil => exact (h rfl).elim
  | cons a l => exact List.mem_cons_self ..

theorem IsClass.ne_nil {G : List (List Nat)} {c : List Nat} (h : IsClass G c) : c ≠ [] := by
  obtain ⟨_, i, hi, _⟩ := h
  intro e; rw [e] at hi; cases hi

theorem comps_of_end {G : List (List Nat)} {st : St} (h : TInv G st) (hn : st.nodes = []) (hall : ∀ v, v < G.length → st.idx v ≠ 0) {L : List (List Nat)} (hp : L.Perm st.comps)
    (hs : L.Pairwise (fun a b => ¬ b.headD 0 < a.headD 0)) : IsComps G L := by
  have hstk := stk_nil h hn
  have hmem : ∀ c, c ∈ L ↔ c ∈ st.comps := fun c => hp.mem_iff
  have hcl : ∀ c ∈ L, IsClass G c := fun c hc => h.cls c ((hmem c).1 hc)
  refine ⟨hcl, ?_, ?_⟩
  · have hd : L.Pairwise (fun a b => ∀ x, x ∈ a → x ∉ b) := (hp.pairwise_iff (fun {a b} hab x hx hxa => hab x hxa hx)).2 h.dis
    have hb := List.Pairwise.and hs hd
    refine pairwise_turn ?_ hb
    intro a b ha hbm ⟨h1, h2⟩
    have ea := head_mem (hcl a ha).ne_nil
    have eb := head_mem (hcl b hbm).ne_nil
    have : a.headD 0 ≠ b.headD 0 := fun e => h2 _ ea (by rw [e]; exact eb)
    omega
  · intro x hx
    obtain ⟨c, hc, hxc⟩ := (h.cov x).2 ⟨hall x hx, by rw [hstk]; exact List.not_mem_nil⟩
    exact ⟨c, (hmem c).2 hc, hxc⟩

/-! ### the breadth-first walk: q: the queue; h: how many of it are passed; e: how many edges of the next are passed -/
structure BInv (G : List (List Nat)) (s : Nat) (q : List Nat) (h e : Nat) : Prop where
  nd : q.Nodup
  rng : ∀ x ∈ q, x < G.length
  rch : ∀ x ∈ q, Reach G s x
  src : s ∈ q
  pass : ∀ i, i < h → ∀ x, q[i]? = some x → ∀ t ∈ adj G x, t ∈ q
  part : ∀ x, q[h]? = some x → ∀ t ∈ (adj G x).take e, t ∈ q

theorem bfs_start {G : List (List Nat)} {s : Nat} (hs : s < G.length) : BInv G s [s] 0 0 where
  nd := by simp
  rng := fun x hx => by rw [List.mem_singleton] at hx; rw [hx]; exact hs
  rch := fun x hx => by rw [List.mem_singleton] at hx; rw [hx]; exact Reach.refl _
  src := List.mem_singleton.2 rfl
  pass := fun i hi => absurd hi (by omega)
  part := fun x _ t ht => by simp at ht

theorem getElem?_snoc {q : List Nat} {t : Nat} {i x : Nat} (h : q[i]? = some x) : (q ++ [t])[i]? = some x := by
  have hi := (List.getElem?_eq_some_iff.1 h).1
  rw [List.getElem?_append_left hi]; exact h

/-- An edge whose end is already in the queue. -/
theorem bfs_skip {G : List (List Nat)} {s : Nat} {q : List Nat} {h e x t : Nat} (b : BInv G s q h e) (hx : q[h]? = some x) (ht : (adj G x)[e]? = some t) (hin : t ∈ q) : BInv G s q h (e + 1) where
  nd := b.nd
  rng := b.rng
  rch := b.rch
  src := b.src
  pass := b.pass
  part := fun y hy u hu => by
    rw [hx] at hy; cases hy
    rw [List.take_add_one, ht] at hu
    rcases List.mem_append.1 hu with a | a
    · exact b.part _ hx u a
    · simp at a; rw [a]; exact hin

/-- An edge whose end is new. -/
theorem bfs_push {G : List (List Nat)} (hG : InRange G) {s : Nat} {q : List Nat} {h e x t : Nat} (b : BInv G s q h e) (hx : q[h]? = some x) (ht : (adj G x)[e]? = some t) (hin : t ∉ q) : BInv G s (q ++ [t]) h (e + 1) where
  nd := by
    rw [List.nodup_append]
    refine ⟨b.nd, by simp, ?_⟩
    intro a ha c hc e
    rw [List.mem_singleton] at hc
    exact hin (by rw [← hc, ← e]; exact ha)
  rng := fun y hy => by
    rcases List.mem_append.1 hy with a | a
    · exact b.rng y a
    · rw [List.mem_singleton] at a; rw [a]
      exact hG x t (List.mem_of_getElem? ht)
  rch := fun y hy => by
    rcases List.mem_append.1 hy with a | a
    · exact b.rch y a
    · rw [List.mem_singleton] at a; rw [a]
      exact (b.rch x (List.mem_of_getElem? hx)).trans (Reach.edge (List.mem_of_getElem? ht))
  src := List.mem_append_left _ b.src
  pass := fun i hi y hy u hu => by
    have hlt : h < q.length := (List.getElem?_eq_some_iff.1 hx).1
    rw [List.getElem?_append_left (by omega)] at hy
    exact List.mem_append_left _ (b.pass i hi y hy u hu)
  part := fun y hy u hu => by
    rw [getElem?_snoc hx] at hy; cases hy
    rw [List.take_add_one, ht] at hu
    rcases List.mem_append.1 hu with a | a
    · exact List.mem_append_left _ (b.part _ hx u a)
    · simp at a; rw [a]; exact List.mem_append_right _ (List.mem_singleton.2 rfl)

/-- All edges of the next are passed. -/
theorem bfs_next {G : List (List Nat)} {s : Nat} {q : List Nat} {h e x : Nat} (b : BInv G s q h e) (hx : q[h]? = some x) (he : e = (adj G x).length) : BInv G s q (h + 1) 0 where
  nd := b.nd
  rng := b.rng
  rch := b.rch
  src := b.src
  pass := fun i hi y hy u hu => by
    by_cases e1 : i = h
    · rw [e1] at hy
      have e2 := hy
      rw [hx] at e2; cases e2
      exact b.part _ hx u (by rw [he, List.take_length]; exact hu)
    · exact b.pass i (by omega) y hy u hu
  part := fun y _ u hu => by simp at hu

/-- The queue is at its end: it holds what can be reached, and no more. -/
theorem bfs_end {G : List (List Nat)} {s : Nat} {q : List Nat} {e : Nat} (b : BInv G s q q.length e) (x : Nat) : x ∈ q ↔ Reach G s x := by
  refine ⟨b.rch x, fun hr => ?_⟩
  refine Reach.closed (S := fun v => v ∈ q) (fun v hv t ht => ?_) b.src hr
  obtain ⟨i, hi, e1⟩ := List.getElem_of_mem hv
  exact b.pass i hi v (by rw [List.getElem?_eq_getElem hi, e1]) t ht

theorem nodup_le {q : List Nat} {n : Nat} (h1 : q.Nodup) (h2 : ∀ x ∈ q, x < n) : q.length ≤ n := by
  have h := List.Nodup.length_le_of_subset (l₂ := List.range n) h1 (fun x hx => List.mem_range.2 (h2 x hx))
  simpa using h
end Go.Proofs.Qxb6603343a
