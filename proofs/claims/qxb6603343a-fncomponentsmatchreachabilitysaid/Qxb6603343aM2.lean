import Derived.Test.Qxb6603343aM1
namespace Go.Proofs.Qxb6603343a
open Go.RowKit
set_option linter.unusedVariables false

theorem Try.info3 : (Try.prog.info? 3).map (fun i => (i.zero, i.size, i.bytes)) = some (some (.int .i64 0), 1, 8) := by kernel_rfl
theorem Try.info26 : (Try.prog.info? 26).map (fun i => (i.zero, i.size, i.bytes)) = some (some (.slice none 0 0), 1, 24) := by kernel_rfl

/-- As 'RowZ', the blocks in S. -/
def RowP (w : World) (S : Nat → Prop) (rv : Value) (l : List Int) : Prop :=
  l.length ≤ maxLen ∧ ∃ ra rc, rv = .slice ra l.length rc ∧ ∀ j, j < l.length → ∃ y : Addr, ra = some y ∧ S (y.add j).block ∧ w.cell? (y.add j) = some (.int .i64 (l.getD j 0))

theorem RowP.keep {w w' : World} {S : Nat → Prop} {rv : Value} {l : List Int} (h : RowP w S rv l) (hk : ∀ b, S b → b < w.heap.size → w'.heap[b]? = w.heap[b]?) : RowP w' S rv l := by
  obtain ⟨h1, ra, rc, h2, h3⟩ := h
  refine ⟨h1, ra, rc, h2, fun j hj => ?_⟩
  obtain ⟨y, e, hy, hc⟩ := h3 j hj
  exact ⟨y, e, hy, (World.cell?_of_block (hk _ hy (World.block_lt_of_cell? _ _ hc))).trans hc⟩

theorem RowP.rowZ {w : World} {S : Nat → Prop} {rv : Value} {l : List Int} (h : RowP w S rv l) : RowZ w w.heap.size rv l := by
  obtain ⟨h1, ra, rc, h2, h3⟩ := h
  refine ⟨h1, ra, rc, h2, fun j hj => ?_⟩
  obtain ⟨y, e, hy, hc⟩ := h3 j hj
  exact ⟨y, e, World.block_lt_of_cell? _ _ hc, hc⟩

theorem addr_lit (g j : Nat) : (⟨g, 0, none⟩ : Addr).add j = ⟨g, j, none⟩ := by
  unfold Addr.add
  by_cases h : j = 0
  · subst h; rfl
  · simp [h]

theorem own_rowP {w : World} {N g cap : Nat} {l : List Int} {S : Nat → Prop} (h : w.ownsRow N 3 1 (.slice (some ⟨g, 0, none⟩) l.length cap) l.length (l.map (Value.int .i64))) (hl : l.length ≤ maxLen) (hS : S g) :
    RowP w S (.slice (some ⟨g, 0, none⟩) l.length cap) l := by
  refine ⟨hl, _, _, rfl, fun j hj => ⟨_, rfl, ?_, ?_⟩⟩
  · rw [addr_lit]; exact hS
  · rw [addr_lit, h.cellAt j (by omega)]
    simp [hj]

theorem rowP_nil {w : World} {S : Nat → Prop} {rc : Nat} : RowP w S (.slice none 0 rc) [] := ⟨Nat.zero_le _, none, rc, rfl, fun j hj => absurd hj (by simp)⟩

/-- What the outer loop keeps. -/
def CloneRel (G : List (List Int)) (w : World) (n k : Nat) (wr : World) : Prop :=
  ∃ xs : List Value, wr.ownsRow w.heap.size 26 1 (.slice (some ⟨w.heap.size, 0, none⟩) n n) n xs ∧ (∀ i, i < k → ∃ rv, xs[i]? = some rv ∧ RowP wr (fun b => w.heap.size < b) rv (G.getD i [])) ∧
    (∀ i, k ≤ i → i < n → xs[i]? = some (.slice none 0 0)) ∧ Below w.heap.size w wr

/-- What the inner loop keeps: N: the new row's block. -/
def CopyRel (row : List Int) (N : Nat) (wr : World) (e : Nat) (we : World) : Prop :=
  ∃ ys : List Value, we.ownsRow N 3 1 (.slice (some ⟨N, 0, none⟩) row.length row.length) row.length ys ∧ (∀ j, j < e → ys[j]? = some (.int .i64 (row.getD j 0))) ∧ Below N wr we

theorem clone_nil (c : Nat) (w : World) : Calls Try.prog 9 #[.slice none 0 c] w fun e w' => e = .returned (.slice none 0 0) ∧ w = w' := by
  have heq := fun (w : World) (a : Option Addr) (n c : Nat) => Lib.run_eql_slice_nil (P := Try.prog) w 22 26 a n c 0 0 Try.underlying22
  go_enter Try.func9, Try.ntmps9
  go_wp2
  go_ret
  exact ⟨rfl, rfl⟩

theorem clone_start {G : List (List Int)} {w w1 : World} {n : Nat} (h : w1.ownsRow w.heap.size 26 1 (.slice (some ⟨w.heap.size, 0, none⟩) n n) n (madeCells (Value.slice none 0 0).cells (n * 1)).toList) (hg : w.grownBy w1 none) : CloneRel G w n 0 w1 := by
  refine ⟨_, h, fun i hi => absurd hi (by omega), fun i _ hi => ?_, (Below.refl _ _).grown hg (Nat.le_refl _) (by simp)⟩
  have : (Value.slice none 0 0).cells = #[.slice none 0 0] := rfl
  rw [this, toList_madeCells_one, List.getElem?_replicate]
  rw [if_pos (by omega)]

theorem graph_row {w : World} {B n c : Nat} {x : Addr} {G : List (List Int)} (h : GraphZ w B (.slice (some x) n c) G) {i : Nat} (hi : i < G.length) : ∃ rv, (x.add i).block < B ∧ w.cell? (x.add i) = some rv ∧ RowZ w B rv (G.getD i []) := by
  obtain ⟨_, a, c', he, h3⟩ := h
  obtain ⟨y, rv, e, hx, hc, hr⟩ := h3 i hi
  subst e
  simp only [Value.slice.injEq, Option.some.injEq] at he
  obtain ⟨rfl, _, _⟩ := he
  exact ⟨rv, hx, hc, hr⟩

theorem clone_skip {G : List (List Int)} {w wr : World} {n k : Nat} (h : CloneRel G w n k wr) (hk : k < n) (hr : G.getD k [] = []) : CloneRel G w n (k + 1) wr := by
  obtain ⟨xs, h1, h2, h3, h4⟩ := h
  refine ⟨xs, h1, fun i hi => ?_, fun i a b => h3 i (by omega) b, h4⟩
  by_cases e : i = k
  · subst e
    exact ⟨_, h3 i (Nat.le_refl _) hk, by rw [hr]; exact rowP_nil⟩
  · exact h2 i (by omega)

theorem copy_start {row : List Int} {wr w2 : World} (h : w2.ownsRow wr.heap.size 3 1 (.slice (some ⟨wr.heap.size, 0, none⟩) row.length row.length) row.length (madeCells (Value.int .i64 0).cells (row.length * 1)).toList) (hg : wr.grownBy w2 none) : CopyRel row wr.heap.size wr 0 w2 :=
  ⟨_, h, fun j hj => absurd hj (by omega), (Below.refl _ _).grown hg (Nat.le_refl _) (by simp)⟩

theorem copy_at {row : List Int} {N e : Nat} {wr we : World} (h : CopyRel row N wr e we) (he : e < row.length) : (∃ u, we.cell? ⟨N, e, none⟩ = some u) ∧ we.frozen? ⟨N, e, none⟩ = false := by
  obtain ⟨ys, h1, _, _⟩ := h
  refine ⟨?_, h1.frozenAt e⟩
  have hl : e < ys.length := by have := h1.1; omega
  exact ⟨ys[e], by rw [h1.cellAt e (by omega), List.getElem?_eq_getElem hl]⟩

theorem copy_step {row : List Int} {N e : Nat} {wr we : World} (h : CopyRel row N wr e we) (he : e < row.length) : CopyRel row N wr (e + 1) (we.setCell ⟨N, e, none⟩ (.int .i64 (row.getD e 0))) := by
  obtain ⟨ys, h1, h2, h3⟩ := h
  obtain ⟨s1, s2⟩ := h1.stored e (.int .i64 (row.getD e 0))
  have hl : e < ys.length := by have := h1.1; omega
  refine ⟨_, s1, fun j hj => ?_, h3.setCell (Nat.le_refl _) _⟩
  rw [List.getElem?_set]
  by_cases hje : e = j
  · subst hje; rw [if_pos rfl, if_pos hl]
  · rw [if_neg hje]; exact h2 j (by omega)

theorem copy_end {row : List Int} {N : Nat} {wr we : World} (h : CopyRel row N wr row.length we) : we.ownsRow N 3 1 (.slice (some ⟨N, 0, none⟩) row.length row.length) row.length (row.map (Value.int .i64)) := by
  obtain ⟨ys, h1, h2, h3⟩ := h
  have : ys = row.map (Value.int .i64) := by
    apply List.ext_getElem?
    intro j
    by_cases hj : j < row.length
    · rw [h2 j hj]; simp [hj]
    · have := h1.1
      rw [List.getElem?_eq_none (by omega), List.getElem?_eq_none (by simp; omega)]
  rw [← this]; exact h1

theorem clone_at {G : List (List Int)} {w wr we : World} {n k N : Nat} (h : CloneRel G w n k wr) (hk : k < n) (hb : Below N wr we) (hN : wr.heap.size ≤ N) : (∃ u, we.cell? ⟨w.heap.size, k, none⟩ = some u) ∧ we.frozen? ⟨w.heap.size, k, none⟩ = false := by
  obtain ⟨xs, h1, _, _, _⟩ := h
  have hlt : w.heap.size < wr.heap.size := (h1.lt _ rfl).2
  have hl : k < xs.length := by have := h1.1; omega
  refine ⟨⟨xs[k], ?_⟩, ?_⟩
  · rw [hb.cell (p := ⟨w.heap.size, k, none⟩) (by show w.heap.size < N; omega), h1.cellAt k (by omega), List.getElem?_eq_getElem hl]
  · rw [hb.frozen (p := ⟨w.heap.size, k, none⟩) (by show w.heap.size < N; omega)]
    exact h1.frozenAt k

theorem clone_put {G : List (List Int)} {w wr we : World} {n k : Nat} {row : List Int} (h : CloneRel G w n k wr) (hk : k < n) (hrow : row = G.getD k []) (hl : row.length ≤ maxLen) (hc : CopyRel row wr.heap.size wr row.length we) :
    CloneRel G w n (k + 1) (we.setCell ⟨w.heap.size, k, none⟩ (.slice (some ⟨wr.heap.size, 0, none⟩) row.length row.length)) := by
  have hce := copy_end hc
  obtain ⟨_, _, _, hbe⟩ := hc
  obtain ⟨xs, h1, h2, h3, h4⟩ := h
  have hlt : w.heap.size < wr.heap.size := (h1.lt _ rfl).2
  have h1e : we.ownsRow w.heap.size 26 1 (.slice (some ⟨w.heap.size, 0, none⟩) n n) n xs :=
    h1.kept (w' := we) (row := some wr.heap.size) ⟨hbe.os, hbe.tape, hbe.output, hbe.size, fun b hb hne => hbe.block b hb⟩ (.inr (by show some w.heap.size ≠ some wr.heap.size; intro e; have := Option.some.inj e; omega))
  obtain ⟨s1, s2⟩ := h1e.stored k (.slice (some ⟨wr.heap.size, 0, none⟩) row.length row.length)
  have hkl : k < xs.length := by have := h1.1; omega
  refine ⟨_, s1, fun i hi => ?_, fun i a b => ?_, ?_⟩
  · rw [List.getElem?_set]
    by_cases e : k = i
    · subst e
      refine ⟨_, by rw [if_pos rfl, if_pos hkl], ?_⟩
      rw [← hrow]
      have o1 : (we.setCell ⟨w.heap.size, k, none⟩ (.slice (some ⟨wr.heap.size, 0, none⟩) row.length row.length)).ownsRow wr.heap.size 3 1 (.slice (some ⟨wr.heap.size, 0, none⟩) row.length row.length) row.length (row.map (Value.int .i64)) :=
        hce.kept s2 (.inr (by show some wr.heap.size ≠ some w.heap.size; intro e; have := Option.some.inj e; omega))
      exact own_rowP o1 hl hlt
    · rw [if_neg e]
      obtain ⟨rv, e1, e2⟩ := h2 i (by omega)
      refine ⟨rv, e1, e2.keep fun b hb hbs => ?_⟩
      rw [s2.block b (by have := hbe.size; omega) (by intro e; have := Option.some.inj e; omega)]
      exact hbe.block b hbs
  · rw [List.getElem?_set, if_neg (by omega)]
    exact h3 i (by omega) b
  · exact (h4.trans (hbe.mono (by omega))).setCell (Nat.le_refl _) _

theorem clone_done {G : List (List Int)} {w wr : World} {n : Nat} (h : CloneRel G w n n wr) (hn : G.length = n) (hb : n ≤ 1024) : GraphZ wr wr.heap.size (.slice (some ⟨w.heap.size, 0, none⟩) n n) G := by
  obtain ⟨xs, h1, h2, h3, h4⟩ := h
  have hlt : w.heap.size < wr.heap.size := (h1.lt _ rfl).2
  refine ⟨by unfold maxLen; omega, _, _, by rw [hn], fun i hi => ?_⟩
  obtain ⟨rv, e1, e2⟩ := h2 i (by omega)
  refine ⟨_, rv, rfl, by rw [addr_lit]; exact hlt, ?_, e2.rowZ⟩
  rw [addr_lit, h1.cellAt i (by omega)]; exact e1

set_option maxRecDepth 20000 in
set_option maxHeartbeats 2000000 in
theorem clone_some {w : World} {G : List (List Int)} {x : Addr} {c : Nat} (hG : GraphZ w w.heap.size (.slice (some x) G.length c) G) (hbig : G.length ≤ 1024) (hsh : Short G) :
    Calls Try.prog 9 #[.slice (some x) G.length c] w fun e w' => (∃ v, e = .returned v ∧ GraphZ w' w'.heap.size v G) ∧ Below w.heap.size w w' := by
  have heq := fun (w : World) (a : Option Addr) (n c : Nat) => Lib.run_eql_slice_nil (P := Try.prog) w 22 26 a n c 0 0 Try.underlying22
  have heq2 := fun (w : World) (a : Option Addr) (n c : Nat) => Lib.run_eql_slice_nil (P := Try.prog) w 26 3 a n c 0 0 Try.underlying26
  obtain ⟨i0, hi, hz0, hz1, hz2⟩ := info_parts Try.info26
  obtain ⟨i3, hi3, hy0, hy1, hy2⟩ := info_parts Try.info3
  have HG : Hid (GraphZ w w.heap.size (.slice (some x) G.length c) G) := hG
  have HSH : Hid (Short G) := hsh
  clear hG hsh
  generalize hgl : G.length = n at *
  go_enter Try.func9, Try.ntmps9
  go_wp2_with (at_make; refine wpList_make_full _ rfl _ _ 22 rfl w.heap.size 26 i0 (.slice none 0 0) 1 Try.underlying22 hi hz0 hz1 _ _ _ _ n rfl rfl rfl rfl (by rw [hz2]; omega) (by unfold maxLen; omega) (Nat.le_refl _) ?_; intro w1 hown1 hgrow1)
  have HS : Hid (CloneRel G w n 0 w1) := clone_start hown1 hgrow1
  clear hown1 hgrow1
  go_loopw [4] (fun v wr => ∃ k : Nat, k ≤ n ∧ v = .int .i64 k ∧ CloneRel G w n k wr) (fun v _ => n - (intOf v).toNat)
  case atStart => exact ⟨0, by omega, rfl, HS.out⟩
  case round =>
    obtain ⟨k, hk, rfl, hR⟩ := hrel
    have HR : Hid (CloneRel G w n k wr) := hR
    clear hR HS
    have hbel : Below w.heap.size w wr := by obtain ⟨_, _, _, _, h⟩ := HR.out; exact h
    by_cases hlt : k < n
    · obtain ⟨rv, hxB, hc, hl, ra, rc, rfl, hcells⟩ := graph_row (HG.out.keep hbel) (by omega : k < G.length)
      have hshk := HSH.out k (by omega)
      have HC : Hid (∀ j, j < (G.getD k []).length → ∃ y : Addr, ra = some y ∧ (y.add j).block < w.heap.size ∧ wr.cell? (y.add j) = some (.int .i64 ((G.getD k []).getD j 0))) := hcells
      clear hcells
      obtain ⟨row, hrow⟩ : ∃ row, row = G.getD k [] := ⟨_, rfl⟩
      rw [← hrow] at hc hl HC hshk
      have HRow : Hid (row = G.getD k []) := hrow
      clear hrow
      have hbs := hbel.size
      clear hbel
      cases ra with
      | none =>
        have h0 : row = [] := by
          cases hr : row with
          | nil => rfl
          | cons a l =>
            obtain ⟨y, e, _⟩ := HC.out 0 (by rw [hr]; simp)
            cases e
        have HN : Hid (CloneRel G w n (k + 1) wr) := clone_skip HR.out hlt (by rw [← HRow.out]; exact h0)
        clear h0
        go_wp2
        go_roundw
        case rel => exact ⟨k + 1, by omega, by go_num, HN.out⟩
        case measure => simp [intOf]; omega
      | some y =>
        go_wp2_with (at_make; refine wpList_make_full _ rfl _ _ 26 rfl wr.heap.size 3 i3 (.int .i64 0) 1 Try.underlying26 hi3 hy0 hy1 _ _ _ _ row.length rfl rfl rfl rfl (by rw [hy2]; omega) (by unfold maxLen; omega) (Nat.le_refl _) ?_; intro w2 hown2 hgrow2)
        have HS2 : Hid (CopyRel row wr.heap.size wr 0 w2) := copy_start hown2 hgrow2
        clear hown2 hgrow2
        obtain ⟨wO, hwO⟩ : ∃ u : World, u = wr := ⟨_, rfl⟩
        subst hwO
        go_loopw [7] (fun v we => ∃ e : Nat, e ≤ row.length ∧ v = .int .i64 e ∧ CopyRel row wO.heap.size wO e we) (fun v _ => row.length - (intOf v).toNat)
        case atStart => exact ⟨0, by omega, rfl, HS2.out⟩
        case round =>
          obtain ⟨e, he, rfl, hE⟩ := hrel
          have HE : Hid (CopyRel row wO.heap.size wO e wr) := hE
          have hb2 : Below wO.heap.size wO wr := by obtain ⟨_, _, _, h⟩ := hE; exact h
          clear hE HS2
          by_cases hle : e < row.length
          · obtain ⟨⟨u, hu⟩, hf⟩ := copy_at HE.out hle
            obtain ⟨y', ey, hyB, hcy⟩ := HC.out e hle
            cases ey
            have hcy2 : wr.cell? (y.add e) = some (.int .i64 (row.getD e 0)) := (hb2.cell (by omega)).trans hcy
            have HN : Hid (CopyRel row wO.heap.size wO (e + 1) (wr.setCell ⟨wO.heap.size, e, none⟩ (.int .i64 (row.getD e 0)))) := copy_step HE.out hle
            obtain ⟨t, ht⟩ : ∃ t, t = row.getD e 0 := ⟨_, rfl⟩
            rw [← ht] at hcy2 HN
            clear ht hcy hb2
            go_wp2
            go_roundw
            case rel => exact ⟨e + 1, by omega, by go_num, HN.out⟩
            case measure => simp [intOf]; omega
          · have her : e = row.length := by omega
            subst her
            have HP : Hid (CloneRel G w n (k + 1) (wr.setCell ⟨w.heap.size, k, none⟩ (.slice (some ⟨wO.heap.size, 0, none⟩) row.length row.length))) := clone_put HR.out hlt HRow.out (by unfold maxLen; omega) HE.out
            obtain ⟨⟨u, hu⟩, hf⟩ := clone_at HR.out hlt hb2 (Nat.le_refl _)
            clear hb2 hle
            go_wp2
            go_roundw
            case rel => exact ⟨k + 1, by omega, by go_num, HP.out⟩
            case measure => simp [intOf]; omega
    · have hkn : k = n := by omega
      subst hkn
      have HD : Hid (GraphZ wr wr.heap.size (.slice (some ⟨w.heap.size, 0, none⟩) k k) G) := clone_done HR.out hgl hbig
      clear HR
      go_wp2
      go_ret
      exact ⟨⟨_, rfl, HD.out⟩, hbel⟩
end Go.Proofs.Qxb6603343a
