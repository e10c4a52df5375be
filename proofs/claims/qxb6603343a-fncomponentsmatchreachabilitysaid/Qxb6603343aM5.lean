import Derived.Test.Qxb6603343aM4
import Derived.Test.Qxb6603343aG4
namespace Go.Proofs.Qxb6603343a
open Go.RowKit
set_option linter.unusedVariables false

theorem Try.info28 : (Try.prog.info? 28).map (fun i => (i.zero, i.size, i.bytes)) = some (some (.slice none 0 0), 1, 24) := by kernel_rfl

/-- One row of the table of reach: node i's, in block b. -/
def ReachRow (G : List (List Nat)) (n i : Nat) (b : Nat) (q : List Nat) (wr : World) : Prop := (∀ t, t ∈ q ↔ Reach G i t) ∧ ∀ t, t < n → wr.cell? ⟨b, t, none⟩ = some (.bool (decide (t ∈ q)))

def TabRel (G : List (List Nat)) (n : Nat) (w : World) (k : Nat) (wr : World) : Prop :=
  ∃ xs : List Value, wr.ownsRow w.heap.size 28 1 (.slice (some ⟨w.heap.size, 0, none⟩) n n) n xs ∧ (∀ i, i < k → ∃ b q, xs[i]? = some (.slice (some ⟨b, 0, none⟩) n n) ∧ w.heap.size < b ∧ b < wr.heap.size ∧ ReachRow G n i b q wr) ∧ Below w.heap.size w wr

theorem tab_start {G : List (List Nat)} {n : Nat} {w w1 : World} {xs : List Value} (h : w1.ownsRow w.heap.size 28 1 (.slice (some ⟨w.heap.size, 0, none⟩) n n) n xs) (hg : w.grownBy w1 none) : TabRel G n w 0 w1 :=
  ⟨xs, h, fun i hi => absurd hi (by omega), (Below.refl _ _).grown hg (Nat.le_refl _) (by simp)⟩

theorem ReachRow.keep {G : List (List Nat)} {n i b : Nat} {q : List Nat} {w w' : World} (h : ReachRow G n i b q w) (hb : w'.heap[b]? = w.heap[b]?) : ReachRow G n i b q w' :=
  ⟨h.1, fun t ht => (World.cell?_of_block (w := w) (a := ⟨b, t, none⟩) hb).trans (h.2 t ht)⟩

/-- Behind a call of 18 at k, in the world wr: the store may be made. -/
theorem tab_at {G : List (List Nat)} {n k : Nat} {w wr w1 : World} (h : TabRel G n w k wr) (hk : k < n) (hb : Below wr.heap.size wr w1) : (∃ u, w1.cell? ⟨w.heap.size, k, none⟩ = some u) ∧ w1.frozen? ⟨w.heap.size, k, none⟩ = false := by
  obtain ⟨xs, h1, _, _⟩ := h
  have hlt : w.heap.size < wr.heap.size := (h1.lt _ rfl).2
  have hl : k < xs.length := by have := h1.1; omega
  refine ⟨⟨xs[k], ?_⟩, ?_⟩
  · rw [hb.cell (p := ⟨w.heap.size, k, none⟩) hlt, h1.cellAt k (by omega), List.getElem?_eq_getElem hl]
  · rw [hb.frozen (p := ⟨w.heap.size, k, none⟩) hlt]; exact h1.frozenAt k

theorem tab_put {G : List (List Nat)} {n k : Nat} {w wr w1 : World} (h : TabRel G n w k wr) (hn : n = G.length) (hk : k < n) {q : List Nat} (hq : ∀ t, t ∈ q ↔ Reach G k t) (ho : w1.ownsRow wr.heap.size 4 1 (.slice (some ⟨wr.heap.size, 0, none⟩) n n) n (seenL n q)) (hb : Below wr.heap.size wr w1) :
    TabRel G n w (k + 1) (w1.setCell ⟨w.heap.size, k, none⟩ (.slice (some ⟨wr.heap.size, 0, none⟩) n n)) := by
  obtain ⟨xs, h1, h2, h3⟩ := h
  have hlt : w.heap.size < wr.heap.size := (h1.lt _ rfl).2
  have h1e : w1.ownsRow w.heap.size 28 1 (.slice (some ⟨w.heap.size, 0, none⟩) n n) n xs :=
    h1.kept (w' := w1) (row := some wr.heap.size) ⟨hb.os, hb.tape, hb.output, hb.size, fun b hb2 hne => hb.block b hb2⟩ (.inr (by show some w.heap.size ≠ some wr.heap.size; intro e; have := Option.some.inj e; omega))
  obtain ⟨s1, s2⟩ := h1e.stored k (.slice (some ⟨wr.heap.size, 0, none⟩) n n)
  have hkl : k < xs.length := by have := h1.1; omega
  have hsz := hb.size
  have hw1 : wr.heap.size < w1.heap.size := (ho.lt _ rfl).2
  refine ⟨_, s1, fun i hi => ?_, (h3.trans (hb.mono (by omega))).setCell (Nat.le_refl _) _⟩
  rw [List.getElem?_set]
  by_cases e : k = i
  · subst e
    refine ⟨wr.heap.size, q, by rw [if_pos rfl, if_pos hkl], hlt, by rw [size_setCell]; exact hw1, hq, fun t ht => ?_⟩
    have o1 := ho.kept s2 (.inr (by show some wr.heap.size ≠ some w.heap.size; intro e; have := Option.some.inj e; omega))
    rw [o1.cellAt t (by omega), seenL_get ht]
  · rw [if_neg e]
    obtain ⟨b, q', e1, e2, e3, e4⟩ := h2 i (by omega)
    refine ⟨b, q', e1, e2, by rw [size_setCell]; omega, e4.keep ?_⟩
    rw [s2.block b (by omega) (by intro e; have := Option.some.inj e; omega)]
    exact hb.block b e3

/-- The whole table, for reading. -/
def Tab (G : List (List Nat)) (n O B2 : Nat) (b : Nat → Nat) (q : Nat → List Nat) (wr : World) : Prop :=
  O < B2 ∧ ∀ i, i < n → wr.cell? ⟨O, i, none⟩ = some (.slice (some ⟨b i, 0, none⟩) n n) ∧ b i < B2 ∧ ReachRow G n i (b i) (q i) wr

theorem tab_end {G : List (List Nat)} {n : Nat} {w wr : World} (h : TabRel G n w n wr) : ∃ b q, Tab G n w.heap.size wr.heap.size b q wr := by
  obtain ⟨xs, h1, h2, h3⟩ := h
  have hlt : w.heap.size < wr.heap.size := (h1.lt _ rfl).2
  have key : ∀ i, ∃ p : Nat × List Nat, i < n → xs[i]? = some (.slice (some ⟨p.1, 0, none⟩) n n) ∧ p.1 < wr.heap.size ∧ ReachRow G n i p.1 p.2 wr := by
    intro i
    by_cases hi : i < n
    · obtain ⟨b, q, e1, _, e3, e4⟩ := h2 i hi
      exact ⟨(b, q), fun _ => ⟨e1, e3, e4⟩⟩
    · exact ⟨(0, []), fun h => absurd h hi⟩
  obtain ⟨f, hf⟩ := Classical.axiomOfChoice key
  refine ⟨fun i => (f i).1, fun i => (f i).2, hlt, fun i hi => ?_⟩
  obtain ⟨e1, e2, e3⟩ := hf i hi
  exact ⟨by rw [h1.cellAt i (by omega)]; exact e1, e2, e3⟩

theorem Tab.keep {G : List (List Nat)} {n O B2 : Nat} {b : Nat → Nat} {q : Nat → List Nat} {w w' : World} (h : Tab G n O B2 b q w) (hb : Below B2 w w') : Tab G n O B2 b q w' :=
  ⟨h.1, fun i hi => ⟨(hb.cell (p := ⟨O, i, none⟩) h.1).trans (h.2 i hi).1, (h.2 i hi).2.1, (h.2 i hi).2.2.keep (hb.block _ (h.2 i hi).2.1)⟩⟩

/-- What a test of the model reads. -/
theorem Tab.two {G : List (List Nat)} {n O B2 : Nat} {b : Nat → Nat} {q : Nat → List Nat} {wr : World} (h : Tab G n O B2 b q wr) {i j : Nat} (hi : i < n) (hj : j < n) :
    wr.cell? ⟨O, i, none⟩ = some (.slice (some ⟨b i, 0, none⟩) n n) ∧ wr.cell? ⟨b i, j, none⟩ = some (.bool (decide (j ∈ q i))) ∧ wr.cell? ⟨O, j, none⟩ = some (.slice (some ⟨b j, 0, none⟩) n n) ∧ wr.cell? ⟨b j, i, none⟩ = some (.bool (decide (i ∈ q j))) ∧
    (j ∈ q i ↔ Reach G i j) ∧ (i ∈ q j ↔ Reach G j i) :=
  ⟨(h.2 i hi).1, (h.2 i hi).2.2.2 j hj, (h.2 j hj).1, (h.2 j hj).2.2.2 i hi, (h.2 i hi).2.2.1 j, (h.2 j hj).2.2.1 i⟩

structure ModelOut (G : List (List Nat)) (w : World) (e : Ending) (w' : World) : Prop where
  res : ∃ v L, e = .returned v ∧ IsComps G L ∧ GraphN w' w'.heap.size v L
  bel : Below w.heap.size w w'

/-- What the model's main loop keeps: L so far, its rows. -/
def WantMem (B2 : Nat) (w2 : World) (wv : Value) (L : List (List Nat)) (wr : World) : Prop :=
  ∃ rvs, wr.ownsRow B2 26 1 wv L.length rvs ∧ RowsAt wr B2 rvs L ∧ Below B2 w2 wr

/-- The comp in hand, its row's blocks from Bc on. -/
def CompMem (B2 Bc : Nat) (w2 : World) (wv : Value) (L : List (List Nat)) (cv : Value) (c : List Nat) (wr : World) : Prop :=
  (∃ rvs, wr.ownsRow B2 26 1 wv L.length rvs ∧ RowsAt wr B2 rvs L ∧ (∀ rv ∈ rvs, ∀ b, rv.ownBlock = some b → b < Bc)) ∧ wr.ownsRow Bc 3 1 cv c.length (ints c) ∧ Below B2 w2 wr ∧ B2 ≤ Bc ∧ Bc ≤ wr.heap.size

theorem comp_start {B2 : Nat} {w2 wr : World} {wv : Value} {L : List (List Nat)} (h : WantMem B2 w2 wv L wr) (hB : B2 ≤ w2.heap.size) : CompMem B2 wr.heap.size w2 wv L (.slice none 0 0) [] wr := by
  obtain ⟨rvs, h1, h2, h3⟩ := h
  exact ⟨⟨rvs, h1, h2, h2.lt⟩, World.ownsRow_nil _ _ _ _, h3, by have := h3.size; omega, Nat.le_refl _⟩

theorem comp_push {B2 Bc : Nat} {w2 wr w4 : World} {wv cv v' : Value} {L : List (List Nat)} {c : List Nat} {o : Obj} {j : Nat} (h : CompMem B2 Bc w2 wv L cv c wr)
    (ho : w4.ownsRow Bc 3 1 v' (c.length + 1) (ints c ++ [.int .i64 (j : Int)])) (hg : (wr.alloc o).grownBy w4 cv.ownBlock) : CompMem B2 Bc w2 wv L v' (c ++ [j]) w4 := by
  obtain ⟨⟨rvs, h1, h2, h3⟩, h4, h5, h6, h7⟩ := h
  have hcb : ∀ b, cv.ownBlock = some b → Bc ≤ b := fun b hb => (h4.lt b hb).1
  have hsz := hg.size
  simp at hsz
  refine ⟨⟨rvs, ?_, ?_, h3⟩, ?_, ?_, h6, by omega⟩
  · exact (h1.alloc o).kept hg (own_ne (h1.alloc o) (h4.alloc o) (by decide))
  · refine (h2.alloc o).kept hg (fun rv hr => ?_)
    cases hrv : rv.ownBlock with
    | none => exact .inl rfl
    | some b =>
      right
      intro e
      have := h3 rv hr b hrv
      have := hcb b e.symm
      omega
  · have e : (c ++ [j]).length = c.length + 1 := by simp
    have e2 : ints (c ++ [j]) = ints c ++ [.int .i64 (j : Int)] := by simp [ints]
    rw [e, e2]; exact ho
  · refine (h5.alloc (by omega) o).grown hg (by simp; omega) (fun k hk => ?_)
    have := hcb k hk; omega

theorem want_push {B2 Bc : Nat} {w2 wr w4 : World} {wv cv v' : Value} {L : List (List Nat)} {c : List Nat} {o : Obj} (h : CompMem B2 Bc w2 wv L cv c wr) (hv : ∃ rvs, wr.ownsRow B2 26 1 wv L.length rvs ∧ RowsAt wr B2 rvs L ∧ w4.ownsRow B2 26 1 v' (L.length + 1) (rvs ++ [cv]))
    (hg : (wr.alloc o).grownBy w4 wv.ownBlock) : WantMem B2 w2 v' (L ++ [c]) w4 := by
  obtain ⟨_, h4, h5, h6, h7⟩ := h
  obtain ⟨rvs, h1, h2, ho⟩ := hv
  have hwb : ∀ b, wv.ownBlock = some b → B2 ≤ b := fun b hb => (h1.lt b hb).1
  refine ⟨rvs ++ [cv], by simpa using ho, ?_, ?_⟩
  · have c1 : (wr.alloc o).ownsRow B2 3 1 cv c.length (ints c) := by
      have := h4.alloc o
      obtain ⟨a, b⟩ := this
      refine ⟨a, ?_⟩
      rcases b with b | ⟨g, cap, cur, b1, b2, b3⟩
      · exact .inl b
      · exact .inr ⟨g, cap, cur, b1, by omega, b3⟩
    refine RowsAt.snoc ((h2.alloc o).kept hg (fun rv hr => ?_)) (c1.kept hg (own_ne c1 (h1.alloc o) (by decide)))
    obtain ⟨c', _, hr2⟩ := (h2.alloc o).mem hr
    exact own_ne hr2 (h1.alloc o) (by decide)
  · refine (h5.alloc (by omega) o).grown hg (by simp; omega) (fun k hk => hwb k hk)

theorem GraphN.wide {w : World} {B B' : Nat} {v : Value} {G : List (List Nat)} (h : GraphN w B v G) (hb : B ≤ B') : GraphN w B' v G := GraphZ.wide h hb

theorem one_slice (a : Option Addr) (n c : Nat) : ∀ u ∈ [Value.slice a n c], u.oneCell' = true := by intro u hu; simp at hu; subst hu; rfl
theorem own_slice {w : World} {B n : Nat} {e : TypeId} {z : Nat} {v : Value} {xs : List Value} (h : w.ownsRow B e z v n xs) : ∃ a m c, v = .slice a m c := by
  rcases h.2 with ⟨a, _⟩ | ⟨g, cap, cur, a, _⟩
  · exact ⟨_, _, _, a⟩
  · exact ⟨_, _, _, a⟩
theorem own_one {w : World} {B n : Nat} {v : Value} {xs : List Value} (h : w.ownsRow B 3 1 v n xs) : ∀ u ∈ [v], u.oneCell' = true := by
  intro u hu
  rw [List.mem_singleton] at hu; subst hu
  rcases h.2 with ⟨a, _⟩ | ⟨g, cap, cur, a, _⟩ <;> rw [a] <;> rfl

set_option maxRecDepth 20000 in
set_option maxHeartbeats 4000000 in
theorem model11 {w : World} {v : Value} {G : List (List Nat)} (hG : GraphN w w.heap.size v G) (hr : InRange G) (hbig : G.length ≤ 1024) :
    Calls Try.prog 11 #[v] w fun e w' => ModelOut G w e w' := by
  obtain ⟨a, c, rfl⟩ := hG.val
  obtain ⟨i0, hi, hz0, hz1, hz2⟩ := info_parts Try.info28
  obtain ⟨i3, hi3, hy0, hy1, hy2⟩ := info_parts Try.info3
  obtain ⟨i26, hi26, hx0, hx1, hx2⟩ := info_parts Try.info26
  obtain ⟨n, hn⟩ : ∃ n, n = G.length := ⟨_, rfl⟩
  have HN : Hid (n = G.length) := hn
  rw [← hn] at hG hbig ⊢
  have HG : Hid (GraphN w w.heap.size (.slice a n c) G) := hG
  have HR : Hid (InRange G) := hr
  clear hG hr hn
  go_enter Try.func11, Try.ntmps11
  go_wp2_with (at_make; refine wpList_make_full _ rfl _ _ 27 rfl w.heap.size 28 i0 (.slice none 0 0) 1 Try.underlying27 hi hz0 hz1 _ _ _ _ n rfl rfl rfl rfl (by rw [hz2]; omega) (by unfold maxLen; omega) (Nat.le_refl _) ?_; intro w1 hown1 hgrow1)
  have HT : Hid (TabRel G n w 0 w1) := tab_start hown1 hgrow1
  clear hown1 hgrow1
  go_loopw [5] (fun kv wr => ∃ k : Nat, k ≤ n ∧ kv = .int .i64 k ∧ TabRel G n w k wr) (fun kv _ => n - (intOf kv).toNat)
  case atStart => exact ⟨0, by omega, rfl, HT.out⟩
  case round =>
    obtain ⟨k, hk, rfl, hT⟩ := hrel
    clear HT
    have HT : Hid (TabRel G n w k wr) := hT
    clear hT
    have hbel : Below w.heap.size w wr := by obtain ⟨_, _, _, h⟩ := HT.out; exact h
    by_cases hlt : k < n
    · have H18 : Hid (Calls Try.prog 18 #[.slice a n c, .int .i64 (k : Int)] wr fun e w' => BfsOut G k wr e w') := reach18 ((HG.out.keep hbel).wide hbel.size) HR.out (by rw [← HN.out]; exact hbig) k (by rw [← HN.out]; exact hlt)
      clear hbel
      go_wp2_with fail
      refine H18.out.mono ?_
      rintro e w1 ⟨⟨q, hq, he, ho⟩, hb1⟩
      rw [← HN.out] at he ho
      subst he
      obtain ⟨⟨u, hu⟩, hf⟩ := tab_at HT.out hlt hb1
      have HP : Hid (TabRel G n w (k + 1) (w1.setCell ⟨w.heap.size, k, none⟩ (.slice (some ⟨wr.heap.size, 0, none⟩) n n))) := tab_put HT.out HN.out hlt hq ho hb1
      clear hq ho hb1
      go_wp2
      go_roundw
      case rel => exact ⟨k + 1, by omega, by go_num, HP.out⟩
      case measure => simp [intOf]; omega
    · have hkn : k = n := by omega
      subst hkn
      obtain ⟨b, q, htab⟩ := tab_end HT.out
      obtain ⟨w2, hw2⟩ : ∃ u : World, u = wr := ⟨_, rfl⟩
      subst hw2
      have HTab : Hid (Tab G k w.heap.size w2.heap.size b q w2) := htab
      have HB2 : Hid (Below w.heap.size w w2) := hbel
      have hO : w.heap.size < w2.heap.size := htab.1
      have HW0 : Hid (WantMem w2.heap.size w2 (.slice none 0 0) [] w2) := ⟨[], World.ownsRow_nil _ _ _ _, RowsAt.nil _ _, Below.refl _ _⟩
      have HM0 : Hid (MInv G 0 []) := minv_start G
      clear htab hbel HT hlt
      go_wp2
      go_loopw [6, 7] (fun wv iv wr => ∃ (i : Nat) (L : List (List Nat)), i ≤ k ∧ iv = .int .i64 i ∧ MInv G i L ∧ WantMem w2.heap.size w2 wv L wr) (fun _ iv _ => k - (intOf iv).toNat)
      case atStart => exact ⟨0, [], by omega, rfl, HM0.out, HW0.out⟩
      case round =>
        obtain ⟨i, L, hik, rfl, hM, hW⟩ := hrel
        have HM : Hid (MInv G i L) := hM
        have HW : Hid (WantMem w2.heap.size w2 u6 L wr) := hW
        have hbr : Below w2.heap.size w2 wr := by obtain ⟨_, _, _, h⟩ := hW; exact h
        clear hM hW HM0 HW0
        by_cases hlt : i < k
        · have HTab2 : Hid (Tab G k w.heap.size w2.heap.size b q wr) := HTab.out.keep hbr
          go_wp2
          go_loop [8, 9] (fun f jv => ∃ j : Nat, j ≤ i ∧ f = .bool true ∧ jv = .int .i64 j ∧ ∀ j', j' < j → ¬ Twoway G i j') (fun _ jv => i - (intOf jv).toNat)
          case atStart => exact ⟨0, by omega, rfl, rfl, fun j hj => absurd hj (by omega)⟩
          case round =>
            obtain ⟨j, hji, rfl, rfl, hno⟩ := hrel
            have HNo : Hid (∀ j', j' < j → ¬ Twoway G i j') := hno
            clear hno
            by_cases hlj : j < i
            · obtain ⟨t1, t2, t3, t4, t5, t6⟩ := HTab2.out.two hlt (by omega : j < k)
              have H5 : Hid (j ∈ q i ↔ Reach G i j) := t5
              have H6 : Hid (i ∈ q j ↔ Reach G j i) := t6
              clear t5 t6
              by_cases d1 : j ∈ q i
              · by_cases d2 : i ∈ q j
                · rw [decide_eq_true d1] at t2
                  rw [decide_eq_true d2] at t4
                  have HN2 : Hid (MInv G (i + 1) L) := minv_skip HM.out (by rw [← HN.out]; exact hlt) hlj ⟨H5.out.1 d1, H6.out.1 d2⟩
                  clear d1 d2
                  go_wp2
                  go_roundw
                  case rel => exact ⟨i + 1, L, by omega, by go_num, HN2.out, HW.out⟩
                  case measure => simp [intOf]; omega
                · rw [decide_eq_true d1] at t2
                  rw [decide_eq_false d2] at t4
                  have HN2 : Hid (∀ j', j' < j + 1 → ¬ Twoway G i j') := fun j' hj' => by
                    by_cases e : j' = j
                    · subst e; exact fun h => d2 (H6.out.2 h.2)
                    · exact HNo.out j' (by omega)
                  clear d1 d2
                  go_wp2
                  go_round
                  case rel => exact ⟨j + 1, by omega, rfl, by go_num, HN2.out⟩
                  case measure => simp [intOf]; omega
              · rw [decide_eq_false d1] at t2
                have HN2 : Hid (∀ j', j' < j + 1 → ¬ Twoway G i j') := fun j' hj' => by
                  by_cases e : j' = j
                  · subst e; exact fun h => d1 (H5.out.2 h.1)
                  · exact HNo.out j' (by omega)
                clear d1
                go_wp2
                go_round
                case rel => exact ⟨j + 1, by omega, rfl, by go_num, HN2.out⟩
                case measure => simp [intOf]; omega
            · have hjj : j = i := by omega
              subst hjj
              have HC0 : Hid (CompMem w2.heap.size wr.heap.size w2 u6 L (.slice none 0 0) [] wr) := comp_start HW.out (Nat.le_refl _)
              have HI0 : Hid (CInv G j j []) := cinv_start G j
              obtain ⟨Bc, hBc⟩ : ∃ B, B = wr.heap.size := ⟨_, rfl⟩
              rw [← hBc] at HC0
              clear hBc hbr
              go_wp2
              go_loopw [10, 11] (fun cv jv wx => ∃ (m : Nat) (cc : List Nat), j ≤ m ∧ m ≤ k ∧ jv = .int .i64 m ∧ CInv G j m cc ∧ CompMem w2.heap.size Bc w2 u6 L cv cc wx) (fun _ jv _ => k - (intOf jv).toNat)
              case atStart => exact ⟨j, [], Nat.le_refl _, by omega, rfl, HI0.out, HC0.out⟩
              case round =>
                obtain ⟨m, cc, hjm, hmk, rfl, hI, hC⟩ := hrel
                have HI : Hid (CInv G j m cc) := hI
                have HC : Hid (CompMem w2.heap.size Bc w2 u6 L u10 cc wr) := hC
                clear hI hC HI0 HC0
                have hbx : Below w2.heap.size w2 wr := HC.out.2.2.1
                have hcl : cc.length ≤ m - j := HI.out.len
                have HTab3 : Hid (Tab G k w.heap.size w2.heap.size b q wr) := HTab.out.keep hbx
                by_cases hlm : m < k
                · obtain ⟨t1, t2, t3, t4, t5, t6⟩ := HTab3.out.two hlt hlm
                  have H5 : Hid (m ∈ q j ↔ Reach G j m) := t5
                  have H6 : Hid (j ∈ q m ↔ Reach G m j) := t6
                  clear t5 t6 hbx
                  by_cases d1 : m ∈ q j
                  · by_cases d2 : j ∈ q m
                    · rw [decide_eq_true d1] at t2
                      rw [decide_eq_true d2] at t4
                      have HN2 : Hid (CInv G j (m + 1) (cc ++ [m])) := cinv_add HI.out hjm ⟨H5.out.1 d1, H6.out.1 d2⟩
                      have hown := HC.out.2.1
                      have hsz : Bc ≤ wr.heap.size := HC.out.2.2.2.2
                      clear d1 d2
                      go_wp2_with (at_builtin; refine wpList_append_own _ rfl (.tmp 77) (.tmp 79) 26 rfl Bc 3 i3 (.int .i64 0) 1 8 Try.underlying26 hi3 hy0 hy1 hy2 rfl (by decide) u10 _ _ rfl (hown.alloc _) ⟨wr.heap.size, 0, none⟩ 1 1 [.int .i64 (m : Int)] rfl rfl (cell_one_at _ _ _ _ rfl) (one_int _) (by unfold maxLen; omega) (by omega) (by simp; omega) ?_; intro v4 w4 hown4 hgrow4 hnil4)
                      have hC4 := comp_push HC.out hown4 hgrow4
                      clear hown hown4 hgrow4 hnil4
                      go_roundw
                      case rel => exact ⟨m + 1, cc ++ [m], by omega, by omega, by go_num, HN2.out, hC4⟩
                      case measure => simp [intOf]; omega
                    · rw [decide_eq_true d1] at t2
                      rw [decide_eq_false d2] at t4
                      have HN2 : Hid (CInv G j (m + 1) cc) := cinv_skip HI.out (fun h => d2 (H6.out.2 h.2))
                      clear d1 d2
                      go_wp2
                      go_roundw
                      case rel => exact ⟨m + 1, cc, by omega, by omega, by go_num, HN2.out, HC.out⟩
                      case measure => simp [intOf]; omega
                  · rw [decide_eq_false d1] at t2
                    have HN2 : Hid (CInv G j (m + 1) cc) := cinv_skip HI.out (fun h => d1 (H5.out.2 h.1))
                    clear d1
                    go_wp2
                    go_roundw
                    case rel => exact ⟨m + 1, cc, by omega, by omega, by go_num, HN2.out, HC.out⟩
                    case measure => simp [intOf]; omega
                · have hmm : m = k := by omega
                  subst hmm
                  have HN2 : Hid (MInv G (j + 1) (L ++ [cc])) := minv_add HM.out (by rw [← HN.out]; exact hlt) HNo.out (by rw [← HN.out]; exact HI.out)
                  have hLl := HM.out.len
                  obtain ⟨rvs, hr1, hr2, hr3⟩ := HC.out.1
                  have hsz : w2.heap.size ≤ wr.heap.size := hbx.size
                  have hone := own_one HC.out.2.1
                  obtain ⟨sa, sn, sc, hsv⟩ := own_slice HC.out.2.1
                  subst hsv
                  clear hbx
                  go_wp2_with (at_builtin; refine wpList_append_own _ rfl (.tmp 81) (.tmp 83) 22 rfl w2.heap.size 26 i26 (.slice none 0 0) 1 24 Try.underlying22 hi26 hx0 hx1 hx2 rfl (by decide) u6 _ _ rfl (hr1.alloc _) ⟨wr.heap.size, 0, none⟩ 1 1 [.slice sa sn sc] rfl rfl (cell_one_at _ _ _ _ rfl) hone (by unfold maxLen; omega) (by omega) (by simp; omega) ?_; intro v4 w4 hown4 hgrow4 hnil4)
                  have hW4 := want_push HC.out ⟨rvs, hr1, hr2, hown4⟩ hgrow4
                  clear hr1 hr2 hr3 hown4 hgrow4 hnil4 hone
                  go_roundw
                  case rel => exact ⟨j + 1, L ++ [cc], by omega, by go_num, HN2.out, hW4⟩
                  case measure => simp [intOf]; omega
        · have hii : i = k := by omega
          subst hii
          clear hbr
          go_wp2
          go_ret
          have e := HN.out
          subst e
          obtain ⟨rvs, hr1, hr2, hr3⟩ := HW.out
          have hcl := HM.out.cls
          refine ⟨⟨_, L, rfl, minv_end HM.out, rows_graph hr1 hr2 (fun c hc => ?_) ?_⟩, HB2.out.trans (hr3.mono HB2.out.size)⟩
          · have := class_len (hcl c hc)
            unfold maxLen; omega
          · have := HM.out.len
            unfold maxLen; omega
end Go.Proofs.Qxb6603343a
