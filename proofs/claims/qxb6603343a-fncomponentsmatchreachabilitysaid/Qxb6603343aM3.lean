import Derived.Test.Qxb6603343aM2
import Derived.Maps.AppendAt
import Derived.Deep.DeepMust
namespace Go.Proofs.Qxb6603343a
open Go.RowKit
set_option linter.unusedVariables false

theorem Try.info4 : (Try.prog.info? 4).map (fun i => (i.zero, i.size, i.bytes)) = some (some (.bool false), 1, 1) := by kernel_rfl

/-- A graph of nodes, as numbers. -/
def zg (G : List (List Nat)) : List (List Int) := G.map (fun l => l.map (fun x : Nat => (x : Int)))
theorem zg_length (G : List (List Nat)) : (zg G).length = G.length := by simp [zg]
theorem zg_row (G : List (List Nat)) (i : Nat) : (zg G).getD i [] = (adj G i).map (fun x : Nat => (x : Int)) := by
  unfold zg adj
  by_cases h : i < G.length
  · simp [List.getD, h]
  · simp [List.getD, h]

def GraphN (w : World) (B : Nat) (v : Value) (G : List (List Nat)) : Prop := GraphZ w B v (zg G)

theorem GraphN.keep {w w' : World} {B : Nat} {v : Value} {G : List (List Nat)} (h : GraphN w B v G) (hb : Below B w w') : GraphN w' B v G := GraphZ.keep h hb

theorem GraphN.val {w : World} {B : Nat} {v : Value} {G : List (List Nat)} (h : GraphN w B v G) : ∃ a c, v = .slice a G.length c := by
  obtain ⟨_, a, c, h2, _⟩ := h
  rw [zg_length] at h2
  exact ⟨a, c, h2⟩

/-- One row, where the walk wants it. -/
theorem GraphN.row {w : World} {B : Nat} {a : Option Addr} {n c : Nat} {G : List (List Nat)} (h : GraphN w B (.slice a n c) G) {i : Nat} (hi : i < G.length) :
    ∃ (x : Addr) (ra : Option Addr) (rc : Nat), a = some x ∧ w.cell? (x.add i) = some (.slice ra (adj G i).length rc) ∧ (adj G i).length ≤ maxLen ∧
      ∀ j t : Nat, (adj G i)[j]? = some t → ∃ y : Addr, ra = some y ∧ w.cell? (y.add j) = some (.int .i64 (t : Int)) := by
  obtain ⟨_, a', c', he, h3⟩ := h
  obtain ⟨x, rv, e, hx, hc, hl, ra, rc, hr, hcells⟩ := h3 i (by rw [zg_length]; exact hi)
  simp only [Value.slice.injEq] at he
  obtain ⟨rfl, _, _⟩ := he
  rw [zg_row, List.length_map] at hl hr hcells
  refine ⟨x, ra, rc, e, by rw [hc, hr], hl, fun j t ht => ?_⟩
  obtain ⟨hj, e1⟩ := List.getElem?_eq_some_iff.1 ht
  obtain ⟨y, ey, _, hcy⟩ := hcells j hj
  refine ⟨y, ey, ?_⟩
  rw [hcy]
  simp [List.getD, hj, e1]

def seenL (n : Nat) (q : List Nat) : List Value := (List.range n).map (fun t => Value.bool (decide (t ∈ q)))
theorem seenL_get {n : Nat} {q : List Nat} {t : Nat} (h : t < n) : (seenL n q)[t]? = some (.bool (decide (t ∈ q))) := by
  unfold seenL
  simp [h]
theorem seenL_length (n : Nat) (q : List Nat) : (seenL n q).length = n := by simp [seenL]
theorem seenL_set {n : Nat} {q : List Nat} {t : Nat} : (seenL n q).set t (.bool true) = seenL n (q ++ [t]) := by
  apply List.ext_getElem?
  intro i
  rw [List.getElem?_set]
  by_cases h : i < n
  · rw [seenL_get h, seenL_get h, seenL_length]
    by_cases e : t = i
    · subst e; simp [h]
    · rw [if_neg e]
      have : decide (i ∈ q ++ [t]) = decide (i ∈ q) := by
        apply decide_eq_decide.2
        simp
        intro e2; exact (e e2.symm).elim
      rw [this]
  · rw [List.getElem?_eq_none (by rw [seenL_length]; omega), List.getElem?_eq_none (by rw [seenL_length]; omega), seenL_length]
    by_cases e : t = i
    · subst e; rw [if_pos rfl, if_neg h]
    · rw [if_neg e]

def ints (q : List Nat) : List Value := q.map (fun x : Nat => Value.int .i64 (x : Int))

/-- The two rows that the call makes: seen (block O), the queue (block Q). -/
def BfsMem (n : Nat) (O Q : Nat) (w : World) (q : List Nat) (wr : World) : Prop :=
  wr.ownsRow O 4 1 (.slice (some ⟨O, 0, none⟩) n n) n (seenL n q) ∧ wr.ownsRow Q 3 1 (.slice (some ⟨Q, 0, none⟩) q.length n) q.length (ints q) ∧ Below O w wr ∧ O < Q

theorem BfsMem.seenAt {n O Q : Nat} {w wr : World} {q : List Nat} (h : BfsMem n O Q w q wr) {t : Nat} (ht : t < n) : wr.cell? ⟨O, t, none⟩ = some (.bool (decide (t ∈ q))) ∧ wr.frozen? ⟨O, t, none⟩ = false := by
  obtain ⟨h1, _, _, _⟩ := h
  exact ⟨by rw [h1.cellAt t (by omega), seenL_get ht], h1.frozenAt t⟩

theorem BfsMem.queueAt {n O Q : Nat} {w wr : World} {q : List Nat} (h : BfsMem n O Q w q wr) {i x : Nat} (hx : q[i]? = some x) : wr.cell? ⟨Q, i, none⟩ = some (.int .i64 (x : Int)) := by
  obtain ⟨_, h1, _, _⟩ := h
  have hi := (List.getElem?_eq_some_iff.1 hx).1
  rw [h1.cellAt i (by omega)]
  unfold ints
  rw [List.getElem?_map, hx]; rfl

theorem BfsMem.mark {n O Q : Nat} {w wr : World} {q : List Nat} (h : BfsMem n O Q w q wr) (t : Nat) :
    (wr.setCell ⟨O, t, none⟩ (.bool true)).ownsRow O 4 1 (.slice (some ⟨O, 0, none⟩) n n) n (seenL n (q ++ [t])) ∧ (wr.setCell ⟨O, t, none⟩ (.bool true)).ownsRow Q 3 1 (.slice (some ⟨Q, 0, none⟩) q.length n) q.length (ints q) ∧ Below O w (wr.setCell ⟨O, t, none⟩ (.bool true)) := by
  obtain ⟨h1, h2, h3, h4⟩ := h
  obtain ⟨s1, s2⟩ := h1.stored t (.bool true)
  rw [seenL_set] at s1
  exact ⟨s1, h2.kept s2 (.inr (by show some Q ≠ some O; intro e; have := Option.some.inj e; omega)), h3.setCell (Nat.le_refl _) _⟩

theorem BfsMem.push {n O Q : Nat} {w w1 w2 : World} {o : Obj} {q : List Nat} {t : Nat} (h1 : w1.ownsRow O 4 1 (.slice (some ⟨O, 0, none⟩) n n) n (seenL n (q ++ [t]))) (hb : Below O w w1) (hO : O ≤ w1.heap.size) (hQ : O < Q)
    (h2 : w2.ownsRow Q 3 1 (.slice (some ⟨Q, 0, none⟩) (q.length + 1) n) (q.length + 1) (ints q ++ [.int .i64 (t : Int)])) (hg : (w1.alloc o).grownBy w2 (some Q)) : BfsMem n O Q w (q ++ [t]) w2 := by
  refine ⟨(h1.alloc o).kept hg (.inr (by show some O ≠ some Q; intro e; have := Option.some.inj e; omega)), ?_, ?_, hQ⟩
  · have e : (q ++ [t]).length = q.length + 1 := by simp
    have e2 : ints (q ++ [t]) = ints q ++ [.int .i64 (t : Int)] := by simp [ints]
    rw [e, e2]; exact h2
  · refine (hb.alloc hO o).grown hg (by simp; omega) ?_
    intro k hk
    have := Option.some.inj hk
    omega

structure BfsOut (G : List (List Nat)) (s : Nat) (w : World) (e : Ending) (w' : World) : Prop where
  res : ∃ q : List Nat, (∀ t, t ∈ q ↔ Reach G s t) ∧ e = .returned (.slice (some ⟨w.heap.size, 0, none⟩) G.length G.length) ∧ w'.ownsRow w.heap.size 4 1 (.slice (some ⟨w.heap.size, 0, none⟩) G.length G.length) G.length (seenL G.length q)
  bel : Below w.heap.size w w'

theorem made_false (n : Nat) : (madeCells (Value.bool false).cells (n * 1)).toList = seenL n [] := by
  have : (Value.bool false).cells = #[.bool false] := rfl
  rw [this, toList_madeCells_one]
  apply List.ext_getElem?
  intro i
  by_cases h : i < n
  · rw [seenL_get h, List.getElem?_replicate, if_pos (by omega)]; simp
  · rw [List.getElem?_eq_none (by simp; omega), List.getElem?_eq_none (by rw [seenL_length]; omega)]

theorem cell_one_at (w : World) (g : Nat) (x : Value) (t : TypeId) (hg : g = w.heap.size) : ∀ j u, [x][j]? = some u → (w.alloc (.cells #[x] t)).cell? ((⟨g, 0, none⟩ : Addr).add j) = some u := by
  subst hg
  exact cell_one_new w x t
theorem size_setCell (w : World) (a : Addr) (v : Value) : (w.setCell a v).heap.size = w.heap.size := by simp [World.setCell]
theorem one_int (z : Int) : ∀ u ∈ [Value.int .i64 z], u.oneCell' = true := by intro u hu; simp at hu; subst hu; rfl

theorem bfs_mem0 {n : Nat} {w w1 w2 : World} (h1 : w1.ownsRow w.heap.size 4 1 (.slice (some ⟨w.heap.size, 0, none⟩) n n) n (madeCells (Value.bool false).cells (n * 1)).toList) (hg1 : w.grownBy w1 none)
    (h2 : w2.ownsRow w1.heap.size 3 1 (.slice (some ⟨w1.heap.size, 0, none⟩) 0 n) 0 []) (hg2 : w1.grownBy w2 none) : BfsMem n w.heap.size w1.heap.size w [] w2 := by
  rw [made_false] at h1
  have hlt : w.heap.size < w1.heap.size := (h1.lt _ rfl).2
  exact ⟨h1.kept hg2 (.inr (by show some w.heap.size ≠ Option.none; intro e; cases e)), h2, ((Below.refl _ _).grown hg1 (Nat.le_refl _) (by simp)).grown hg2 (by omega) (by simp), hlt⟩

set_option maxRecDepth 20000 in
set_option maxHeartbeats 4000000 in
theorem reach18 {w : World} {v : Value} {G : List (List Nat)} (hG : GraphN w w.heap.size v G) (hr : InRange G) (hbig : G.length ≤ 1024) (s : Nat) (hs : s < G.length) :
    Calls Try.prog 18 #[v, .int .i64 (s : Int)] w fun e w' => BfsOut G s w e w' := by
  obtain ⟨a, c, rfl⟩ := hG.val
  obtain ⟨i0, hi, hz0, hz1, hz2⟩ := info_parts Try.info4
  obtain ⟨i3, hi3, hy0, hy1, hy2⟩ := info_parts Try.info3
  have HG : Hid (GraphN w w.heap.size (.slice a G.length c) G) := hG
  have HR : Hid (InRange G) := hr
  clear hG hr
  have hgl : Hid (G.length = G.length) := rfl
  obtain ⟨n, hn⟩ : ∃ n, n = G.length := ⟨_, rfl⟩
  have HN : Hid (n = G.length) := hn
  rw [← hn] at hs hbig
  have HP : Hid (BfsOut G s w = BfsOut G s w) := rfl
  rw [← hn]
  clear hn hgl
  go_enter Try.func18, Try.ntmps18
  go_wp2_with (first
    | (at_make; refine wpList_make_full _ rfl (.tmp 12) (.tmp 12) 28 rfl w.heap.size 4 i0 (.bool false) 1 Try.underlying28 hi hz0 hz1 _ _ _ _ n rfl rfl rfl rfl (by rw [hz2]; omega) (by unfold maxLen; omega) (Nat.le_refl _) ?_; intro w1 hown1 hgrow1)
    | (at_make; refine wpList_make_own _ rfl _ _ 26 rfl w1.heap.size 3 i3 (.int .i64 0) 1 Try.underlying26 hi3 hy0 hy1 .i64 .i64 _ n rfl rfl rfl (by rw [hy2]; omega) (by unfold maxLen; omega) (Nat.le_refl _) ?_; intro w2 hown2 hgrow2; have hm0 := bfs_mem0 hown1 hgrow1 hown2 hgrow2; obtain ⟨hcs, hfs⟩ := hm0.seenAt hs; obtain ⟨ho1, ho2, ho3⟩ := hm0.mark s; have hQ : w.heap.size < w1.heap.size := hm0.2.2.2; clear hown1 hgrow1 hown2 hgrow2)
    | (at_builtin; refine wpList_append_fits _ rfl (.tmp 20) (.tmp 22) 26 rfl w1.heap.size 3 i3 1 Try.underlying26 hi3 hy1 w1.heap.size 0 n _ rfl (ho2.alloc _) ⟨w2.heap.size, 0, none⟩ 1 1 [.int .i64 (s : Int)] rfl rfl (cell_one_at _ _ _ _ (size_setCell _ _ _).symm) (one_int _) (by omega) ?_; intro w4 hown4 hgrow4))
  have hm4 : BfsMem n w.heap.size w1.heap.size w ([] ++ [s]) w4 := BfsMem.push ho1 ho3 (by rw [size_setCell]; have := ho3.size; rw [size_setCell] at this; exact this) hQ hown4 hgrow4
  have HM : Hid (BfsMem n w.heap.size w1.heap.size w [s] w4) := hm4
  have HB : Hid (BInv G s [s] 0 0) := bfs_start (by rw [← HN.out]; exact hs)
  clear hm0 hcs hfs ho1 ho2 ho3 hown4 hgrow4 hm4
  generalize w1.heap.size = Q at *
  go_loopw [6, 7] (fun qv hv wr => ∃ (q : List Nat) (h : Nat), h ≤ q.length ∧ q.length ≤ n ∧ hv = .int .i64 h ∧ qv = .slice (some ⟨Q, 0, none⟩) q.length n ∧ BInv G s q h 0 ∧ BfsMem n w.heap.size Q w q wr) (fun _ hv _ => n - (intOf hv).toNat)
  case atStart => exact ⟨[s], 0, by omega, by simp; omega, rfl, rfl, HB.out, HM.out⟩
  case round =>
    obtain ⟨q, h, hhq, hqn, rfl, rfl, hB, hM⟩ := hrel
    have HB2 : Hid (BInv G s q h 0) := hB
    have HM2 : Hid (BfsMem n w.heap.size Q w q wr) := hM
    clear hB hM HB HM
    by_cases hlt : h < q.length
    · obtain ⟨xn, hxn⟩ : ∃ x, q[h]? = some x := ⟨q[h], List.getElem?_eq_getElem hlt⟩
      have hxlt : xn < n := by rw [HN.out]; exact HB2.out.rng xn (List.mem_of_getElem? hxn)
      have hqc := HM2.out.queueAt hxn
      have HX : Hid (q[h]? = some xn) := hxn
      clear hxn
      have hadjl : (adj G xn).length ≤ maxLen := by
        obtain ⟨_, _, _, _, _, hl, _⟩ := HG.out.row (i := xn) (by rw [← HN.out]; exact hxlt)
        exact hl
      unfold maxLen at hadjl
      obtain ⟨x0, ra0, rc0, ea0, hc0, _, _⟩ := (HG.out.keep HM2.out.2.2.1).row (i := xn) (by rw [← HN.out]; exact hxlt)
      subst ea0
      go_wp2
      clear hqc hc0
      go_loopw [6, 9] (fun qv ev wi => ∃ (q : List Nat) (e : Nat), h < q.length ∧ q[h]? = some xn ∧ q.length ≤ n ∧ e ≤ (adj G xn).length ∧ ev = .int .i64 e ∧ qv = .slice (some ⟨Q, 0, none⟩) q.length n ∧ BInv G s q h e ∧ BfsMem n w.heap.size Q w q wi) (fun _ ev _ => (adj G xn).length - (intOf ev).toNat)
      case atStart => exact ⟨q, 0, hlt, HX.out, hqn, by omega, rfl, rfl, HB2.out, HM2.out⟩
      case round =>
        clear HX HB2 HM2
        obtain ⟨q, e, hlt, hxn, hqn, hel, rfl, rfl, hB, hM⟩ := hrel
        have HX : Hid (q[h]? = some xn) := hxn
        have HB2 : Hid (BInv G s q h e) := hB
        have HM2 : Hid (BfsMem n w.heap.size Q w q wr) := hM
        clear hxn hB hM
        obtain ⟨x1, ra, rc, ea, hc, _, hrow⟩ := (HG.out.keep HM2.out.2.2.1).row (i := xn) (by rw [← HN.out]; exact hxlt)
        cases ea
        have HRow : Hid (∀ j t : Nat, (adj G xn)[j]? = some t → ∃ y : Addr, ra = some y ∧ wr.cell? (y.add j) = some (.int .i64 (t : Int))) := hrow
        clear hrow
        by_cases hle : e < (adj G xn).length
        · obtain ⟨t, ht⟩ : ∃ t, (adj G xn)[e]? = some t := ⟨(adj G xn)[e], List.getElem?_eq_getElem hle⟩
          obtain ⟨y, ey, hcy⟩ := HRow.out e t ht
          subst ey
          have htn : t < n := by rw [HN.out]; exact HR.out xn t (List.mem_of_getElem? ht)
          have HT : Hid ((adj G xn)[e]? = some t) := ht
          clear ht
          obtain ⟨hst, hft⟩ := HM2.out.seenAt htn
          by_cases hin : t ∈ q
          · have hd : decide (t ∈ q) = true := decide_eq_true hin
            rw [hd] at hst
            have HN2 : Hid (BInv G s q h (e + 1)) := bfs_skip HB2.out HX.out HT.out hin
            clear hin hd hft
            go_wp2
            go_roundw
            case rel => exact ⟨q, e + 1, hlt, HX.out, hqn, by omega, by go_num, rfl, HN2.out, HM2.out⟩
            case measure => simp [intOf]; omega
          · have hd : decide (t ∈ q) = false := decide_eq_false hin
            rw [hd] at hst
            have hN2 := bfs_push HR.out HB2.out HX.out HT.out hin
            have hlen : q.length + 1 ≤ n := by
              have := nodup_le hN2.nd hN2.rng
              rw [← HN.out] at this
              simpa using this
            have HN2 : Hid (BInv G s (q ++ [t]) h (e + 1)) := hN2
            obtain ⟨ho1, ho2, ho3⟩ := HM2.out.mark t
            have hQ : w.heap.size < Q := HM2.out.2.2.2
            have hX2 : Hid ((q ++ [t])[h]? = some xn) := getElem?_snoc HX.out
            clear hin hd hN2
            go_wp2_with (at_builtin; refine wpList_append_fits _ rfl (.tmp 58) (.tmp 60) 26 rfl Q 3 i3 1 Try.underlying26 hi3 hy1 Q q.length n _ rfl (ho2.alloc _) ⟨wr.heap.size, 0, none⟩ 1 1 [.int .i64 (t : Int)] rfl rfl (cell_one_at _ _ _ _ (size_setCell _ _ _).symm) (one_int _) (by omega) ?_; intro w4 hown4 hgrow4)
            have hm4 : BfsMem n w.heap.size Q w (q ++ [t]) w4 := BfsMem.push ho1 ho3 (by rw [size_setCell]; have := ho3.size; rw [size_setCell] at this; exact this) hQ hown4 hgrow4
            clear hown4 hgrow4 ho1 ho2 ho3
            go_roundw
            case rel => exact ⟨q ++ [t], e + 1, by simp; omega, hX2.out, by simp; omega, by omega, by go_num, by simp, HN2.out, hm4⟩
            case measure => simp [intOf]; omega
        · have hee : e = (adj G xn).length := by omega
          have HN2 : Hid (BInv G s q (h + 1) 0) := bfs_next HB2.out HX.out hee
          clear hee
          go_wp2
          go_roundw
          case rel => exact ⟨q, h + 1, by omega, hqn, by go_num, rfl, HN2.out, HM2.out⟩
          case measure => simp [intOf]; omega
    · have hhe : h = q.length := by omega
      subst hhe
      have HE : Hid (∀ x, x ∈ q ↔ Reach G s x) := bfs_end HB2.out
      go_wp2
      go_ret
      obtain ⟨m1, m2, m3, m4⟩ := HM2.out
      have e := HN.out
      subst e
      exact ⟨⟨q, HE.out, rfl, m1⟩, m3⟩
end Go.Proofs.Qxb6603343a
