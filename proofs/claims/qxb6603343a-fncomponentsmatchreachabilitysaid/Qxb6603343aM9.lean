import Derived.Test.Qxb6603343aM8
import Derived.Test.Qxb6603343aShelf
import Derived.Sort.OwnSortedInts
namespace Go.Proofs.Qxb6603343a
open Go.RowKit Go.Sort
set_option linter.unusedVariables false

/-! ### 20: slices.Sort at []int -/
structure Sort20 (B : Nat) (v : Value) (c : List Nat) (w : World) (e : Ending) (w' : World) : Prop where
  res : e = .returned (.tuple #[])
  mem : ∃ c' : List Nat, c'.Perm c ∧ c'.Pairwise (· ≤ ·) ∧ w'.ownsRow B 3 1 v c'.length (ints c')
  gr : w.grownBy w' v.ownBlock

theorem ints_map (c : List Nat) : ints c = (c.map (fun x : Nat => (x : Int))).map (Value.int .i64) := by simp [ints]

theorem toNat_back {c : List Nat} {z : List Int} (h : z.Perm (c.map (fun x : Nat => (x : Int)))) : (z.map Int.toNat).Perm c ∧ (z.map Int.toNat).map (fun x : Nat => (x : Int)) = z := by
  constructor
  · have := h.map Int.toNat
    rw [List.map_map] at this
    have e : c.map (Int.toNat ∘ fun x : Nat => (x : Int)) = c := by
      conv => rhs; rw [← List.map_id c]
      exact List.map_congr_left (fun x _ => by simp)
    rw [e] at this; exact this
  · rw [List.map_map]
    conv => rhs; rw [← List.map_id z]
    refine List.map_congr_left (fun x hx => ?_)
    have := h.mem_iff.1 hx
    obtain ⟨y, _, rfl⟩ := List.mem_map.1 this
    simp

theorem sort20 {w : World} {B : Nat} {v : Value} {c : List Nat} (ho : w.ownsRow B 3 1 v c.length (ints c)) (hne : c ≠ []) (hl : c.length ≤ 1024) :
    Calls Try.prog 20 #[v] w fun e w' => Sort20 B v c w e w' := by
  rcases ho.2 with ⟨_, h0⟩ | ⟨g, cap, cur, rfl, hbg, hg, hnc, hcm, hcs, htake⟩
  · exact (hne (List.length_eq_zero_iff.1 h0)).elim
  have hlen : (c.map (fun x : Nat => (x : Int))).length = c.length := List.length_map ..
  have htake2 : cur.toList.take (c.map (fun x : Nat => (x : Int))).length = (c.map (fun x : Nat => (x : Int))).map (Value.int .i64) := by
    rw [hlen, ← ints_map]
    rw [Nat.mul_one] at htake; exact htake
  have hc := Any.slices_Sort_int Try.lays189 g 0 cap (c.map (fun x : Nat => (x : Int))) w (holds_of_blockI hg htake2) (lt_of_block hg) (by rw [hlen]; omega)
  change Calls Try.prog 20 _ _ _ at hc
  rw [hlen] at hc
  refine hc.mono ?_
  rintro e w' ⟨he, n, os, hw⟩
  have hp := List.mergeSort_perm (c.map (fun x : Nat => (x : Int))) (fun x y => decide (x ≤ y))
  have hsd : ((c.map (fun x : Nat => (x : Int))).mergeSort (fun x y => decide (x ≤ y))).Pairwise (fun a b => decide (a ≤ b) = true) := List.pairwise_mergeSort (le := fun x y : Int => decide (x ≤ y)) (fun a b d => by simp; omega) (fun a b => by simp; omega) _
  generalize (c.map (fun x : Nat => (x : Int))).mergeSort (fun x y => decide (x ≤ y)) = z at hp hsd hw
  obtain ⟨b1, b2⟩ := toNat_back hp
  have hzl : z.length = (c.map (fun x : Nat => (x : Int))).length := hp.length_eq
  have hor := ownsRow_sortedI (w := w) (base := B) (g := g) (cap := cap) (n := n) (e := 3) (os := os) (cur := cur) (ss := c.map (fun x : Nat => (x : Int))) (ts := z) hzl hbg hg (by rw [hlen]; exact hnc) hcm hcs
  have hgr := grownBy_sortedI (w := w) (g := g) (n := n) (os := os) z.toArray
  subst hw
  refine ⟨he, ⟨z.map Int.toNat, b1, ?_, ?_⟩, hgr⟩
  · rw [List.pairwise_map]
    refine pairwise_turn ?_ hsd
    intro a b ha hb hab
    have := of_decide_eq_true hab
    omega
  · rw [ints_map, b2, List.length_map, hzl]
    have e3 : z.length = c.length := hzl.trans hlen
    rw [hlen] at hor ⊢
    exact hor

/-! ### 21: slices.SortFunc at [][]int, by the first number -/
theorem heap_sortedG {α : Type} [Inhabited α] {w : World} {g n : Nat} {os : Array Obj} {cur : Array Value} {e : TypeId} {fr : Nat × Nat} (enc : α → Value) (d : Array α) (hb : w.heap[g]? = some (.cells cur e fr)) :
    (grow (putRow enc (Sort.ahead w n) g 0 d) os).heap[g]? = some (.cells (putCells enc 0 d cur) e fr) := by
  have hg : g < w.heap.size := (Array.getElem?_eq_some_iff.1 hb).1
  rw [heap_grow_old _ _ (by simpa using hg)]
  simp [putRow, mapBlock, Sort.ahead, Array.getElem?_modify, hb, onCells]

theorem grownBy_sortedG {α : Type} [Inhabited α] {w : World} {g n : Nat} {os : Array Obj} (enc : α → Value) (d : Array α) : w.grownBy (grow (putRow enc (Sort.ahead w n) g 0 d) os) (some g) := by
  refine ⟨rfl, rfl, rfl, by simp, fun k hk hne => ?_⟩
  rw [heap_grow_old _ _ (by simpa using hk)]
  have : g ≠ k := fun e => hne (by rw [e])
  simp [putRow, mapBlock, Sort.ahead, Array.getElem?_modify, this]

theorem take_putCellsG {α : Type} [Inhabited α] (enc : α → Value) (cur : Array Value) (ts : List α) (h : ts.length ≤ cur.size) : (putCells enc 0 ts.toArray cur).toList.take ts.length = ts.map enc := by
  apply List.ext_getElem?
  intro j
  by_cases hj : j < ts.length
  · rw [List.getElem?_take_of_lt hj, Array.getElem?_toList]
    simp [putCells, hj, show j < cur.size by omega]
  · rw [List.getElem?_take_eq_none (by omega), List.getElem?_eq_none (by simp; omega)]

theorem ownsRow_sortedG {α : Type} [Inhabited α] {w : World} {base g cap n k : Nat} {e : TypeId} {os : Array Obj} {cur : Array Value} (enc : α → Value) {ts : List α} (hl : ts.length = k) (hbase : base ≤ g) (hb : w.heap[g]? = some (.cells cur e (0, 0)))
    (h1 : k ≤ cap) (h2 : cap ≤ maxLen) (h3 : cur.size = cap * 1) :
    (grow (putRow enc (Sort.ahead w n) g 0 ts.toArray) os).ownsRow base e 1 (.slice (some ⟨g, 0, none⟩) k cap) k (ts.map enc) :=
  ⟨by simp [hl], .inr ⟨g, cap, _, rfl, hbase, heap_sortedG enc _ hb, h1, h2, by simp [putCells, h3], by rw [Nat.mul_one, ← hl]; exact take_putCellsG enc cur ts (by omega)⟩⟩

/-- A row's value and its list, in the world w, off the block g. -/
def RowOf (w : World) (B g : Nat) (p : Value × List Nat) : Prop := w.ownsRow B 3 1 p.1 p.2.length (ints p.2) ∧ p.2 ≠ [] ∧ p.2.length ≤ 1024 ∧ p.1.ownBlock ≠ some g ∧ ∀ x ∈ p.2, x < 1024

def headDiff {p : Value × List Nat → Prop} (x y : { q : Value × List Nat // p q }) : Int := (x.1.2.headD 0 : Int) - (y.1.2.headD 0 : Int)

theorem headDiff_lt {p : Value × List Nat → Prop} (x y : { q : Value × List Nat // p q }) : ltOf headDiff x y = decide (x.1.2.headD 0 < y.1.2.headD 0) := by
  unfold ltOf headDiff
  apply decide_eq_decide.2
  omega

theorem headDiff_swo (p : Value × List Nat → Prop) : SWO (ltOf (headDiff (p := p))) where
  irrefl x := by rw [headDiff_lt]; simp
  trans x y z h1 h2 := by rw [headDiff_lt] at *; simp at *; omega
  ntrans x y z h1 h2 := by rw [headDiff_lt] at *; simp at *; omega

theorem row_head {w : World} {B : Nat} {v : Value} {c : List Nat} (ho : w.ownsRow B 3 1 v c.length (ints c)) (hne : c ≠ []) : ∃ b cap, v = .slice (some ⟨b, 0, none⟩) c.length cap ∧ w.cell? ⟨b, 0, none⟩ = some (.int .i64 (c.headD 0 : Int)) ∧ 0 < c.length := by
  have hl : 0 < c.length := List.length_pos_iff.2 hne
  rcases ho.2 with ⟨_, h0⟩ | ⟨g, cap, cur, rfl, _⟩
  · omega
  · refine ⟨g, cap, rfl, ?_, hl⟩
    have := ho.cellAt 0 (by omega)
    rw [this]
    cases c with
    | nil => exact (hne rfl).elim
    | cons a l => rfl

set_option maxHeartbeats 1000000 in
theorem cmp22 {W : World} {B : Nat} {v1 v2 : Value} {c1 c2 : List Nat} (h1 : W.ownsRow B 3 1 v1 c1.length (ints c1)) (h2 : W.ownsRow B 3 1 v2 c2.length (ints c2)) (n1 : c1 ≠ []) (n2 : c2 ≠ []) (l1 : ∀ x ∈ c1, x < 1024) (l2 : ∀ x ∈ c2, x < 1024) (k1 : c1.length ≤ 1024) (k2 : c2.length ≤ 1024) :
    Calls Try.prog 22 #[v1, v2] W fun e w' => e = .returned (.int .i64 ((c1.headD 0 : Int) - (c2.headD 0 : Int))) ∧ ∃ q, w' = W.drewN q := by
  obtain ⟨b1, cap1, rfl, hc1, hp1⟩ := row_head h1 n1
  obtain ⟨b2, cap2, rfl, hc2, hp2⟩ := row_head h2 n2
  have x1 := l1 _ (head_mem n1)
  have x2 := l2 _ (head_mem n2)
  clear h1 h2 l1 l2 n1 n2
  generalize c1.headD 0 = x at *
  generalize c2.headD 0 = y at *
  generalize c1.length = m1 at *
  generalize c2.length = m2 at *
  go_enter Try.func22, Try.ntmps22
  go_wp2
  go_quiet (fail)
  go_wp2
  go_ret
  exact ⟨rfl, nq, rfl⟩

structure Sort21 (B B2 : Nat) (v : Value) (L : List (List Nat)) (w : World) (e : Ending) (w' : World) : Prop where
  res : e = .returned (.tuple #[])
  mem : ∃ (L' : List (List Nat)) (rvs' : List Value), L'.Perm L ∧ L'.Pairwise (fun a b => ¬ b.headD 0 < a.headD 0) ∧ w'.ownsRow B 26 1 v L'.length rvs' ∧ RowsAt w' B2 rvs' L'
  gr : w.grownBy w' v.ownBlock

theorem attach_zip {w : World} {B2 g : Nat} {rvs : List Value} {L : List (List Nat)} (hr : RowsAt w B2 rvs L) (hrow : ∀ rv ∈ rvs, ∀ c ∈ L, w.ownsRow B2 3 1 rv c.length (ints c) → RowOf w B2 g (rv, c)) :
    ∃ D : List { q : Value × List Nat // RowOf w B2 g q }, D.map (fun x => x.1.1) = rvs ∧ D.map (fun x => x.1.2) = L := by
  induction rvs generalizing L with
  | nil =>
    have := hr.1
    cases L with
    | nil => exact ⟨[], rfl, rfl⟩
    | cons a l => simp at this
  | cons rv rs ih =>
    cases L with
    | nil => have := hr.1; simp at this
    | cons c cs =>
      have h0 : w.ownsRow B2 3 1 rv c.length (ints c) := hr.2 0 rv c rfl rfl
      have ht : RowsAt w B2 rs cs := ⟨by have := hr.1; simpa using this, fun k rv' c' h1 h2 => hr.2 (k + 1) rv' c' (by simpa using h1) (by simpa using h2)⟩
      obtain ⟨D, e1, e2⟩ := ih ht (fun rv' h1 c' h2 => hrow rv' (List.mem_cons_of_mem _ h1) c' (List.mem_cons_of_mem _ h2))
      exact ⟨⟨(rv, c), hrow rv (List.mem_cons_self ..) c (List.mem_cons_self ..) h0⟩ :: D, by simp [e1], by simp [e2]⟩

theorem sort21 {w : World} {B B2 : Nat} {v : Value} {L : List (List Nat)} {rvs : List Value} (ho : w.ownsRow B 26 1 v L.length rvs) (hr : RowsAt w B2 rvs L) (hne : ∀ c ∈ L, c ≠ [] ∧ c.length ≤ 1024 ∧ ∀ x ∈ c, x < 1024) (hL : L.length ≤ 1024) :
    Calls Try.prog 21 #[v, .func (.func 22) #[] #[]] w fun e w' => Sort21 B B2 v L w e w' := by
  rcases ho.2 with ⟨rfl, h0⟩ | ⟨g, cap, cur, rfl, hbg, hg, hnc, hcm, hcs, htake⟩
  · have e := List.length_eq_zero_iff.1 h0
    subst e
    have hc := AnyF.slices_SortFunc_none (P := Try.prog) (ρ := Try.sortF_ren) { Try.sortF with } none 0 (.func (.func 22) #[] #[]) w
    change Calls Try.prog 21 _ _ _ at hc
    refine hc.mono ?_
    rintro e w' ⟨he, rfl⟩
    exact ⟨he, ⟨[], rvs, List.Perm.refl _, List.Pairwise.nil, ho, hr⟩, ⟨rfl, rfl, rfl, Nat.le_refl _, fun _ _ _ => rfl⟩⟩
  · by_cases hnil : L = []
    · subst hnil
      have hc := AnyF.slices_SortFunc_none (P := Try.prog) (ρ := Try.sortF_ren) { Try.sortF with } (some ⟨g, 0, none⟩) cap (.func (.func 22) #[] #[]) w
      change Calls Try.prog 21 _ _ _ at hc
      refine hc.mono ?_
      rintro e w' ⟨he, rfl⟩
      exact ⟨he, ⟨[], rvs, List.Perm.refl _, List.Pairwise.nil, ho, hr⟩, ⟨rfl, rfl, rfl, Nat.le_refl _, fun _ _ _ => rfl⟩⟩
    have hrow : ∀ rv ∈ rvs, ∀ c ∈ L, w.ownsRow B2 3 1 rv c.length (ints c) → RowOf w B2 g (rv, c) := fun rv h1 c h2 h3 => by
      refine ⟨h3, (hne c h2).1, (hne c h2).2.1, ?_, (hne c h2).2.2⟩
      rcases own_ne h3 ho (by decide) with a | a
      · show rv.ownBlock ≠ _; rw [a]; intro e; cases e
      · exact a
    obtain ⟨D, e1, e2⟩ := attach_zip hr hrow
    have hDl : D.length = L.length := by rw [← e2, List.length_map]
    have hD0 : D ≠ [] := fun e => hnil (by rw [← e2, e]; rfl)
    letI : Inhabited { q : Value × List Nat // RowOf w B2 g q } := ⟨D.head hD0⟩
    have hH : Holds (fun x : { q : Value × List Nat // RowOf w B2 g q } => x.1.1) w g 0 D.toArray := by
      intro j hj
      have hj' : j < D.length := by simpa using hj
      rw [Nat.zero_add]
      refine ⟨?_, ho.frozenAt j⟩
      rw [ho.cellAt j (by omega), ← e1]
      simp [hj']
    have hone : OneCell (fun x : { q : Value × List Nat // RowOf w B2 g q } => x.1.1) := fun x => own_one x.2.1 _ (List.mem_singleton.2 rfl)
    have hcmp : CmpReads Try.prog 22 #[] (fun x : { q : Value × List Nat // RowOf w B2 g q } => x.1.1) headDiff g 0 D.toArray.size w := by
      intro m os dk hs x y
      have hgr := grownBy_sortedG (w := w) (g := g) (n := m) (os := os) (fun x : { q : Value × List Nat // RowOf w B2 g q } => x.1.1) dk
      exact cmp22 (x.2.1.kept hgr (.inr x.2.2.2.2.1)) (y.2.1.kept hgr (.inr y.2.2.2.2.1)) x.2.2.1 y.2.2.1 x.2.2.2.2.2 y.2.2.2.2.2 x.2.2.2.1 y.2.2.2.1
    have eg : ∀ args w, (callFunc 22 args).run Try.prog w = .ok (.enter 22 args) w := enters_of Try.func22 (by kernel_rfl) rfl
    have hc := Any.slices_SortFunc Try.sortF (fun x : { q : Value × List Nat // RowOf w B2 g q } => x.1.1) hone headDiff (headDiff_swo _) 22 #[] g 0 cap D.toArray w eg hcmp.lays hH (lt_of_block hg) (by simp; omega)
    change Calls Try.prog 21 _ _ _ at hc
    have hsz : D.toArray.size = L.length := by simp [hDl]
    rw [hsz] at hc
    refine hc.mono ?_
    rintro e w' ⟨he, d', n, os, hp, hs, hw⟩
    have hd'l : d'.size = L.length := by rw [hp.1, hsz]
    have hlt : d'.toList.length = L.length := by simp [hd'l]
    have hperm : d'.toList.Perm D := by
      have := hp.2.2
      rw [Array.toList_extract, Array.toList_extract] at this
      have x1 : d'.toList.extract 0 L.length = d'.toList := by rw [← hlt]; simp; exact List.take_of_length_le (by simp)
      have x2 : D.toArray.toList.extract 0 L.length = D := by rw [← hDl]; simp
      rw [x1, x2] at this; exact this
    have hor := ownsRow_sortedG (w := w) (base := B) (g := g) (cap := cap) (n := n) (k := L.length) (e := 26) (os := os) (cur := cur) (fun x : { q : Value × List Nat // RowOf w B2 g q } => x.1.1) (ts := d'.toList) hlt hbg hg hnc hcm hcs
    have hgr := grownBy_sortedG (w := w) (g := g) (n := n) (os := os) (fun x : { q : Value × List Nat // RowOf w B2 g q } => x.1.1) d'
    have hw2 : w' = grow (putRow (fun x : { q : Value × List Nat // RowOf w B2 g q } => x.1.1) (Sort.ahead w n) g 0 d') os := hw
    rw [← hw2] at hgr
    have hor2 : w'.ownsRow B 26 1 (.slice (some ⟨g, 0, none⟩) L.length cap) L.length (d'.toList.map (fun x => x.1.1)) := by rw [hw2]; exact hor
    refine ⟨he, ⟨d'.toList.map (fun x => x.1.2), d'.toList.map (fun x => x.1.1), ?_, ?_, ?_, ?_⟩, hgr⟩
    · have := hperm.map (fun x => x.1.2)
      rw [e2] at this; exact this
    · rw [List.pairwise_map, List.pairwise_iff_getElem]
      intro i j hi hj hij
      have := hs i j (Nat.zero_le _) hij (by omega)
      rw [headDiff_lt] at this
      have hi2 : i < d'.size := by simpa using hi
      have hj2 : j < d'.size := by simpa using hj
      rw [getElem!_pos d' i hi2, getElem!_pos d' j hj2] at this
      have := of_decide_eq_false this
      simpa using this
    · rw [List.length_map, hlt]; exact hor2
    · refine ⟨by simp, fun k rv c h1 h2 => ?_⟩
      rw [List.getElem?_map] at h1 h2
      cases hk : d'.toList[k]? with
      | none => rw [hk] at h1; cases h1
      | some x =>
        rw [hk] at h1 h2
        have y1 := Option.some.inj h1
        have y2 := Option.some.inj h2
        rw [← y1, ← y2]
        exact x.2.1.kept hgr (.inr x.2.2.2.2.1)
end Go.Proofs.Qxb6603343a
