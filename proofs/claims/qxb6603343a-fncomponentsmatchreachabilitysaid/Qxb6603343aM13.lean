import Derived.Test.Qxb6603343aM12
import Derived.Test.Qxb6603343aM6
namespace Go.Proofs.Qxb6603343a
open Go.RowKit
set_option linter.unusedVariables false

theorem IsComps.len {G L : List (List Nat)} (h : IsComps G L) : L.length ≤ G.length := by
  have h1 : (L.map (fun c => c.headD 0)).Nodup := by
    unfold List.Nodup
    rw [List.pairwise_map]
    exact pairwise_turn (fun a b _ _ hab e => by omega) h.ord
  have h2 := nodup_le (n := G.length) h1 (fun x hx => by
    obtain ⟨c, hc, rfl⟩ := List.mem_map.1 hx
    have ea := head_mem (h.cls c hc).ne_nil
    obtain ⟨_, i, hi, hm⟩ := h.cls c hc
    exact ((hm _).1 ea).1)
  simpa using h2

/-! ### from numbers that are in range to nodes -/
def ng (Z : List (List Int)) : List (List Nat) := Z.map (fun l => l.map Int.toNat)
theorem ng_length (Z : List (List Int)) : (ng Z).length = Z.length := by simp [ng]

theorem range_mem {Z : List (List Int)} (h : InRangeZ Z) {l : List Int} (hl : l ∈ Z) {x : Int} (hx : x ∈ l) : 0 ≤ x ∧ x < Z.length := by
  obtain ⟨i, hi, e1⟩ := List.getElem_of_mem hl
  obtain ⟨j, hj, e2⟩ := List.getElem_of_mem hx
  have e3 : Z.getD i [] = l := by simp [List.getD, hi, e1]
  have := h i hi j (by rw [e3]; exact hj)
  rw [e3] at this
  have e4 : l.getD j 0 = x := by simp [List.getD, hj, e2]
  rw [e4] at this
  exact this

theorem zg_ng {Z : List (List Int)} (h : InRangeZ Z) : zg (ng Z) = Z := by
  unfold zg ng
  rw [List.map_map]
  conv => rhs; rw [← List.map_id Z]
  refine List.map_congr_left (fun l hl => ?_)
  show (l.map Int.toNat).map (fun x : Nat => (x : Int)) = id l
  rw [List.map_map]
  show _ = l
  conv => rhs; rw [← List.map_id l]
  refine List.map_congr_left (fun x hx => ?_)
  have := (range_mem h hl hx).1
  show ((x.toNat : Nat) : Int) = x
  omega

theorem ng_range {Z : List (List Int)} (h : InRangeZ Z) : InRange (ng Z) := by
  intro v t ht
  unfold adj at ht
  by_cases hv : v < (ng Z).length
  · have e : (ng Z).getD v [] = (ng Z)[v] := by simp [List.getD, hv]
    rw [e] at ht
    have hv2 : v < Z.length := by rw [← ng_length]; exact hv
    have e2 : (ng Z)[v] = Z[v].map Int.toNat := by simp [ng]
    rw [e2] at ht
    obtain ⟨x, hx, rfl⟩ := List.mem_map.1 ht
    have := range_mem h (List.getElem_mem hv2) hx
    rw [ng_length]
    omega
  · have e : (ng Z).getD v [] = [] := by
      have : (ng Z)[v]? = none := List.getElem?_eq_none (by omega)
      simp [List.getD, this]
    rw [e] at ht; cases ht

/-! ### 9, both ways -/
structure CloneOut (Z : List (List Int)) (w : World) (e : Ending) (w' : World) : Prop where
  res : ∃ v, e = .returned v ∧ GraphZ w' w'.heap.size v Z
  bel : Below w.heap.size w w'

theorem clone9 {w : World} {v : Value} {Z : List (List Int)} (hG : GraphZ w w.heap.size v Z) (hbig : Z.length ≤ 1024) (hsh : Short Z) : Calls Try.prog 9 #[v] w fun e w' => CloneOut Z w e w' := by
  have hG2 := hG
  obtain ⟨h1, a, c, rfl, h3⟩ := hG2
  cases a with
  | some x =>
    refine (clone_some hG hbig hsh).mono ?_
    rintro e w' ⟨h1, h2⟩
    exact ⟨h1, h2⟩
  | none =>
    have h0 : Z.length = 0 := by
      by_cases h : 0 < Z.length
      · obtain ⟨x, rv, e, _⟩ := h3 0 h
        cases e
      · omega
    rw [h0]
    refine (clone_nil c w).mono ?_
    rintro e w' ⟨he, rfl⟩
    have hZ : Z = [] := List.length_eq_zero_iff.1 h0
    subst hZ
    exact ⟨⟨_, he, h1, none, 0, rfl, fun i hi => absurd hi (by simp)⟩, Below.refl _ _⟩

/-! ### 10 -/
theorem comps10 {w : World} {v : Value} {G : List (List Nat)} (hG : GraphN w w.heap.size v G) (hr : InRange G) (hbig : G.length ≤ 1024) :
    Calls Try.prog 10 #[v] w fun e w' => CompOut G w e w' := by
  have H17 := hide (comps17 hG hr hbig)
  clear hG hr hbig
  go_enter Try.func10, Try.ntmps10
  go_wp2_with fail
  refine H17.out.mono ?_
  rintro e w1 hc
  obtain ⟨v1, L, he, h1, h2⟩ := hc.res
  subst he
  have HC := hide hc
  have H1 := hide h1
  have H2 := hide h2
  clear hc h1 h2
  go_wp2
  go_ret
  exact ⟨⟨_, L, rfl, H1.out, H2.out⟩, HC.out.bel⟩

/-! ### the law -/
structure LawOut (w : World) (e : Ending) (w' : World) : Prop where
  res : e = .returned (.bool true)
  bel : Below w.heap.size w w'

set_option maxRecDepth 20000 in
set_option maxHeartbeats 2000000 in
theorem law3 {w : World} {v : Value} {Z : List (List Int)} (hG : GraphZ w w.heap.size v Z) : Calls Try.prog 3 #[v] w fun e w' => LawOut w e w' := by
  have hG2 := hG
  obtain ⟨hml, a, c, rfl, _⟩ := hG2
  have HG := hide hG
  have H6 := hide (bytes6 hG)
  unfold maxLen at hml
  obtain ⟨n, hn⟩ : ∃ n, n = Z.length := ⟨_, rfl⟩
  have HN := hide hn
  rw [← hn] at HG H6 hml ⊢
  clear hG hn
  go_enter Try.func3, Try.ntmps3
  go_wp2_with fail
  refine H6.out.mono ?_
  rintro e w1 ⟨⟨b, rfl, _⟩, rfl⟩
  cases b with
  | false =>
    go_wp2
    go_ret
    exact ⟨rfl, Below.refl _ _⟩
  | true =>
    by_cases hbig : n ≤ 1024
    · have H7 := hide (within7 (G := Z) HG.out (by rw [← HN.out]; exact hbig))
      have H8 := hide (range8 (G := Z) HG.out (by rw [← HN.out]; exact hbig))
      go_wp2_with fail
      refine H7.out.mono ?_
      rintro e w1 ⟨⟨b, rfl, hb7⟩, rfl⟩
      cases b with
      | false =>
        go_wp2
        go_ret
        exact ⟨rfl, Below.refl _ _⟩
      | true =>
        have HSh := hide (hb7 rfl)
        clear hb7 H7
        go_wp2_with fail
        refine H8.out.mono ?_
        rintro e w1 ⟨⟨b, rfl, hb8⟩, rfl⟩
        cases b with
        | false =>
          go_wp2
          go_ret
          exact ⟨rfl, Below.refl _ _⟩
        | true =>
          have HRg := hide (hb8 rfl)
          clear hb8 H8
          have H9 := hide (clone9 HG.out (by rw [← HN.out]; exact hbig) HSh.out)
          go_wp2_with fail
          refine H9.out.mono ?_
          rintro e w9 h9
          obtain ⟨v9, he, hg9⟩ := h9.res
          subst he
          have HB9 := hide h9.bel
          have hg9n : GraphN w9 w9.heap.size v9 (ng Z) := by
            show GraphZ w9 w9.heap.size v9 (zg (ng Z))
            rw [zg_ng HRg.out]; exact hg9
          have hnr := ng_range HRg.out
          have hnl : (ng Z).length ≤ 1024 := by rw [ng_length, ← HN.out]; exact hbig
          have H10 := hide (comps10 hg9n hnr hnl)
          have HG9 := hide hg9n
          have HNR := hide hnr
          have HNL := hide hnl
          clear h9 hg9 hg9n hnr hnl H9
          go_wp2_with fail
          refine H10.out.mono ?_
          rintro e w10 h10
          obtain ⟨v10, L10, he, hi10, hg10⟩ := h10.res
          subst he
          have HB10 := hide h10.bel
          have HI10 := hide hi10
          have HG10 := hide hg10
          have H11 := hide (model11 ((HG9.out.keep h10.bel).wide h10.bel.size) HNR.out HNL.out)
          clear h10 hi10 hg10 H10
          go_wp2_with fail
          refine H11.out.mono ?_
          rintro e w11 h11
          obtain ⟨v11, L11, he, hi11, hg11⟩ := h11.res
          subst he
          have HB11 := hide h11.bel
          have hL : L11 = L10 := hi11.unique HI10.out
          subst hL
          have hlen := hi11.len
          have H12 := hide (same12 ((HG10.out.keep h11.bel).wide h11.bel.size) hg11 (by have := HNL.out; omega))
          clear h11 hi11 hg11 H11 hlen
          go_wp2_with fail
          refine H12.out.mono ?_
          rintro e w12 ⟨rfl, hb12⟩
          have HB12 := hide hb12
          clear hb12
          go_wp2
          go_ret
          have s9 := HB9.out.size
          have s10 := HB10.out.size
          have s11 := HB11.out.size
          exact ⟨rfl, ((HB9.out.trans (HB10.out.mono s9)).trans (HB11.out.mono (by omega))).trans (HB12.out.mono (by omega))⟩
    · go_wp2
      go_ret
      exact ⟨rfl, Below.refl _ _⟩
end Go.Proofs.Qxb6603343a
