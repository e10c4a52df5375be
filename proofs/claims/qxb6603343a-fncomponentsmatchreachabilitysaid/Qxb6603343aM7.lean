import Derived.Test.Qxb6603343aM5
import Derived.RegionTactic
import Derived.ChangeAlike
namespace Go.Proofs.Qxb6603343a
open Go.RowKit
set_option linter.unusedVariables false

/-! ### append onto a row of the call's own: where the new value lies -/
theorem run_append_where {P : Program} (w : World) (base : Nat) (t ty e : TypeId) (i : TypeInfo) (z : Value) (size bytes : Nat) (ht : P.underlying t = some (.slice e)) (hi : P.info? e = some i) (hz : i.zero = some z)
    (hsize : i.size = size) (hby : i.bytes = bytes) (hzs : z.cells.size = size) (hsz : 0 < size)
    (v : Value) (n : Nat) (xs : List Value) (hown : w.ownsRow base e size v n xs)
    (a : Addr) (m c : Nat) (news : List Value) (hm : 0 < m) (hl : news.length = m * size) (hnews : ∀ j u, news[j]? = some u → w.cell? (a.add j) = some u) (h1 : ∀ u ∈ news, u.oneCell' = true)
    (h63 : n + m ≤ maxLen) (hbytes : (n + m) * bytes ≤ 140737488355328) (hbase : base ≤ w.heap.size) :
    ∃ v' w', (Builtin.append_ #[t, t] ty #[v, .slice (some a) m c]).run P w = .ok v' w' ∧ w'.ownsRow base e size v' (n + m) (xs ++ news) ∧ w.grownBy w' v.ownBlock ∧ (v'.ownBlock = v.ownBlock ∨ v'.ownBlock = some w.heap.size) := by
  obtain ⟨v', w', hr, p1, p2, p3⟩ := run_append_own (P := P) w base t ty e i z size bytes ht hi hz hsize hby hzs hsz v n xs hown a m c news hl hnews h1 h63 hbytes hbase
  refine ⟨v', w', hr, p1, p2, ?_⟩
  subst hsize
  subst hby
  have hsmall : n + m ≤ 9223372036854775807 := by simp only [maxLen] at h63; omega
  rcases hown.2 with ⟨rfl, rfl⟩ | ⟨g, cap, cur, rfl, hbg, hg, hnc, hcm, hcs, htake⟩
  · right
    have hr2 := run_append_nil (P := P) w t ty e i z ht hi hz a m c news hl hnews (by omega) (by omega) (by have hb := hbytes; simp only [Nat.zero_add] at hb; omega)
    rw [hr] at hr2
    injection hr2 with e1 e2
    rw [e1]; rfl
  · by_cases hroom : n + m ≤ cap
    · left
      have hfit : n * i.size + news.length ≤ cur.size := by rw [hl, hcs, ← Nat.add_mul]; exact Nat.mul_le_mul_right _ hroom
      have hr2 := run_append_room (P := P) w t ty e i ht hi g n cap cur hg a m c news hl hnews h1 hroom hfit
      rw [hr] at hr2
      injection hr2 with e1 e2
      rw [e1]; rfl
    · right
      have holds : ∀ j u, xs[j]? = some u → w.cell? ((⟨g, 0, none⟩ : Addr).add j) = some u := hown.cells (g := g) rfl
      have hr2 := run_append_grow (P := P) w t ty e i z ht hi hz ⟨g, 0, none⟩ n cap xs hown.1 holds a m c news hl hnews (by omega) (by omega) (growslice_fits (by omega) hbytes)
      rw [hr] at hr2
      injection hr2 with e1 e2
      rw [e1]; rfl

theorem wpList_append_where {P : Program} (w : World) {ops : Array Oper} {rest : List Oper} {o : Oper} {a : Act} {Q : Exit → Act → World → Prop} (hgd : o.guard = none) (s x : Operand) (t : TypeId)
    (ho : o.op = .call { callee := .builtin .append, args := #[s, x], argTypes := #[t, t] })
    (base : Nat) (e : TypeId) (i : TypeInfo) (z : Value) (size bytes : Nat) (ht : P.underlying t = some (.slice e)) (hi : P.info? e = some i) (hz : i.zero = some z)
    (hsize : i.size = size) (hby : i.bytes = bytes) (hzs : z.cells.size = size) (hsz : 0 < size)
    (v : Value) (n : Nat) (xs : List Value) (hs : a.eval s = v) (hown : w.ownsRow base e size v n xs)
    (ad : Addr) (m c : Nat) (news : List Value) (hm : 0 < m) (hx : a.eval x = .slice (some ad) m c) (hl : news.length = m * size) (hnews : ∀ j u, news[j]? = some u → w.cell? (ad.add j) = some u) (h1 : ∀ u ∈ news, u.oneCell' = true)
    (h63 : n + m ≤ maxLen) (hbytes : (n + m) * bytes ≤ 140737488355328) (hbase : base ≤ w.heap.size)
    (h : ∀ v' w', w'.ownsRow base e size v' (n + m) (xs ++ news) → w.grownBy w' v.ownBlock → (v'.ownBlock = v.ownBlock ∨ v'.ownBlock = some w.heap.size) → wpList P ops Q rest (a.put o.dst v') w') : wpList P ops Q (o :: rest) a w := by
  refine wpList_plain hgd fun K hK => ?_
  obtain ⟨v', w', hr, h2, h3, h4⟩ := run_append_where (P := P) w base t o.type e i z size bytes ht hi hz hsize hby hzs hsz v n xs hown ad m c news hm hl hnews h1 h63 hbytes hbase
  unfold Oper.wp execOp
  simp only [ho, resolve, invoke, builtin, Sem.run_bind, Sem.run_pure, Result.andThen_ok, List.map_toArray, List.map_cons, List.map_nil, hs, hx, hr]
  exact hK _ _ (h v' w' h2 h3 h4)

/-! ### the memory of 'components': eight blocks of its own, and the stack's row -/
structure Env where
  I : Nat
  bI : Nat
  Lw : Nat
  bL : Nat
  O : Nat
  bO : Nat
  bS : Nat
  bN : Nat
  B1 : Nat

def Env.ok (E : Env) (B0 : Nat) : Prop := B0 ≤ E.I ∧ E.I < E.bI ∧ E.bI < E.Lw ∧ E.Lw < E.bL ∧ E.bL < E.O ∧ E.O < E.bO ∧ E.bO < E.bS ∧ E.bS < E.bN ∧ E.bN < E.B1

def arr (f : Nat → Nat) (n : Nat) : Array Value := ((List.range n).map (fun v => Value.int .i64 (f v : Int))).toArray

theorem arr_size (f : Nat → Nat) (n : Nat) : (arr f n).size = n := by simp [arr]
theorem arr_get {f : Nat → Nat} {n x : Nat} (h : x < n) : (arr f n)[x]? = some (.int .i64 (f x : Int)) := by
  simp [arr, h]
theorem arr_set {f : Nat → Nat} {n x k : Nat} : (arr f n).setIfInBounds x (.int .i64 (k : Int)) = arr (upd f x k) n := by
  apply Array.ext
  · simp [arr_size]
  · intro i h1 h2
    have hi : i < n := by simpa [arr_size] using h2
    have e2 : (arr (upd f x k) n)[i]? = some (.int .i64 (upd f x k i : Int)) := arr_get hi
    rw [Array.getElem_setIfInBounds (by rw [arr_size]; exact hi)]
    have e3 : (arr (upd f x k) n)[i] = .int .i64 (upd f x k i : Int) := by
      rw [Array.getElem?_eq_getElem h2] at e2; exact Option.some.inj e2
    rw [e3]
    by_cases e : x = i
    · subst e; rw [if_pos rfl, upd_same]
    · rw [if_neg e, upd_other _ _ (fun h => e h.symm)]
      have e4 : (arr f n)[i]? = some (.int .i64 (f i : Int)) := arr_get hi
      rw [Array.getElem?_eq_getElem (by simpa [arr_size] using hi)] at e4
      exact Option.some.inj e4

structure TMem (E : Env) (n : Nat) (w0 : World) (idx low : Nat → Nat) (on stk : List Nat) (next : Nat) (sv : Value) (wr : World) : Prop where
  ok : E.ok w0.heap.size
  hI : wr.heap[E.I]? = some (.cells (arr idx n) 3 (0, 0))
  hbI : wr.heap[E.bI]? = some (.cells #[.slice (some ⟨E.I, 0, none⟩) n n] 26 (0, 0))
  hL : wr.heap[E.Lw]? = some (.cells (arr low n) 3 (0, 0))
  hbL : wr.heap[E.bL]? = some (.cells #[.slice (some ⟨E.Lw, 0, none⟩) n n] 26 (0, 0))
  hO : wr.heap[E.O]? = some (.cells (seenL n on).toArray 4 (0, 0))
  hbO : wr.heap[E.bO]? = some (.cells #[.slice (some ⟨E.O, 0, none⟩) n n] 28 (0, 0))
  hbS : wr.heap[E.bS]? = some (.cells #[sv] 26 (0, 0))
  hbN : wr.heap[E.bN]? = some (.cells #[.int .i64 (next : Int)] 3 (0, 0))
  own : wr.ownsRow E.B1 3 1 sv stk.length (ints stk)
  bel : Below w0.heap.size w0 wr
  sz : E.B1 ≤ wr.heap.size

/-- What lies from B1 on, but for the stack's row, is as it was. -/
def Kept (B1 : Nat) (sv : Value) (wr w' : World) : Prop := wr.heap.size ≤ w'.heap.size ∧ ∀ b, B1 ≤ b → b < wr.heap.size → sv.ownBlock ≠ some b → w'.heap[b]? = wr.heap[b]?

theorem cell_row {w : World} {b : Nat} {cur : Array Value} {t : TypeId} (h : w.heap[b]? = some (.cells cur t (0, 0))) (x : Nat) : w.cell? ⟨b, x, none⟩ = cur[x]? := cell_of_row w b x cur t (0, 0) h
theorem frozen_row {w : World} {b : Nat} {cur : Array Value} {t : TypeId} (h : w.heap[b]? = some (.cells cur t (0, 0))) (x : Nat) : w.frozen? ⟨b, x, none⟩ = false := frozen_of_row w b x cur t h

section
variable {E : Env} {n : Nat} {w0 : World} {idx low : Nat → Nat} {on stk : List Nat} {next : Nat} {sv : Value} {wr : World}

theorem TMem.cI (h : TMem E n w0 idx low on stk next sv wr) {x : Nat} (hx : x < n) : wr.cell? ⟨E.I, x, none⟩ = some (.int .i64 (idx x : Int)) := by rw [cell_row h.hI, arr_get hx]
theorem TMem.fI (h : TMem E n w0 idx low on stk next sv wr) (x : Nat) : wr.frozen? ⟨E.I, x, none⟩ = false := frozen_row h.hI x
theorem TMem.cbI (h : TMem E n w0 idx low on stk next sv wr) : wr.cell? ⟨E.bI, 0, none⟩ = some (.slice (some ⟨E.I, 0, none⟩) n n) := by rw [cell_row h.hbI]; rfl
theorem TMem.cL (h : TMem E n w0 idx low on stk next sv wr) {x : Nat} (hx : x < n) : wr.cell? ⟨E.Lw, x, none⟩ = some (.int .i64 (low x : Int)) := by rw [cell_row h.hL, arr_get hx]
theorem TMem.fL (h : TMem E n w0 idx low on stk next sv wr) (x : Nat) : wr.frozen? ⟨E.Lw, x, none⟩ = false := frozen_row h.hL x
theorem TMem.cbL (h : TMem E n w0 idx low on stk next sv wr) : wr.cell? ⟨E.bL, 0, none⟩ = some (.slice (some ⟨E.Lw, 0, none⟩) n n) := by rw [cell_row h.hbL]; rfl
theorem TMem.cO (h : TMem E n w0 idx low on stk next sv wr) {x : Nat} (hx : x < n) : wr.cell? ⟨E.O, x, none⟩ = some (.bool (decide (x ∈ on))) := by rw [cell_row h.hO, List.getElem?_toArray, seenL_get hx]
theorem TMem.fO (h : TMem E n w0 idx low on stk next sv wr) (x : Nat) : wr.frozen? ⟨E.O, x, none⟩ = false := frozen_row h.hO x
theorem TMem.cbO (h : TMem E n w0 idx low on stk next sv wr) : wr.cell? ⟨E.bO, 0, none⟩ = some (.slice (some ⟨E.O, 0, none⟩) n n) := by rw [cell_row h.hbO]; rfl
theorem TMem.cbS (h : TMem E n w0 idx low on stk next sv wr) : wr.cell? ⟨E.bS, 0, none⟩ = some sv := by rw [cell_row h.hbS]; rfl
theorem TMem.fbS (h : TMem E n w0 idx low on stk next sv wr) : wr.frozen? ⟨E.bS, 0, none⟩ = false := frozen_row h.hbS 0
theorem TMem.cbN (h : TMem E n w0 idx low on stk next sv wr) : wr.cell? ⟨E.bN, 0, none⟩ = some (.int .i64 (next : Int)) := by rw [cell_row h.hbN]; rfl
theorem TMem.fbN (h : TMem E n w0 idx low on stk next sv wr) : wr.frozen? ⟨E.bN, 0, none⟩ = false := frozen_row h.hbN 0

/-- A step that leaves the eight blocks and the stack's row as they were. -/
theorem TMem.step (h : TMem E n w0 idx low on stk next sv wr) {w' : World} (hs : wr.heap.size ≤ w'.heap.size) (ho : w'.os = wr.os) (ht : w'.tape = wr.tape) (hp : w'.output = wr.output) (hb : ∀ b, b < E.B1 ∨ sv.ownBlock = some b → b < wr.heap.size → w'.heap[b]? = wr.heap[b]?) : TMem E n w0 idx low on stk next sv w' := by
  obtain ⟨o1, o2, o3, o4, o5, o6, o7, o8, o9⟩ := h.ok
  have hsz := h.sz
  have k : ∀ b, b < E.B1 → w'.heap[b]? = wr.heap[b]? := fun b hlt => hb b (.inl hlt) (by omega)
  refine ⟨h.ok, by rw [k _ (by omega)]; exact h.hI, by rw [k _ (by omega)]; exact h.hbI, by rw [k _ (by omega)]; exact h.hL, by rw [k _ (by omega)]; exact h.hbL, by rw [k _ (by omega)]; exact h.hO, by rw [k _ (by omega)]; exact h.hbO, by rw [k _ (by omega)]; exact h.hbS, by rw [k _ (by omega)]; exact h.hbN, ?_, ?_, by omega⟩
  · refine ⟨h.own.1, ?_⟩
    rcases h.own.2 with a | ⟨g, cap, cur, a, b1, b2, b3⟩
    · exact .inl a
    · exact .inr ⟨g, cap, cur, a, b1, by rw [hb g (.inr (by rw [a]; rfl)) (lt_of_block b2)]; exact b2, b3⟩
  · refine h.bel.trans ⟨ho, ht, hp, hs, fun b hlt => k b ?_⟩
    omega

theorem TMem.alloc (h : TMem E n w0 idx low on stk next sv wr) (o : Obj) : TMem E n w0 idx low on stk next sv (wr.alloc o) :=
  h.step (by simp) rfl rfl rfl (fun b _ hb => Below.heap_alloc _ _ _ hb)
theorem TMem.drewN (h : TMem E n w0 idx low on stk next sv wr) (k : Nat) : TMem E n w0 idx low on stk next sv (wr.drewN k) :=
  h.step (Nat.le_refl _) rfl rfl rfl (fun b _ hb => rfl)

theorem TMem.setI (h : TMem E n w0 idx low on stk next sv wr) (x k : Nat) : TMem E n w0 (upd idx x k) low on stk next sv (wr.setCell ⟨E.I, x, none⟩ (.int .i64 (k : Int))) := by
  obtain ⟨o1, o2, o3, o4, o5, o6, o7, o8, o9⟩ := h.ok
  have k2 : ∀ b, b ≠ E.I → (wr.setCell ⟨E.I, x, none⟩ (.int .i64 (k : Int))).heap[b]? = wr.heap[b]? := fun b hb => Below.heap_setCell _ _ _ _ hb
  refine ⟨h.ok, ?_, by rw [k2 _ (by omega)]; exact h.hbI, by rw [k2 _ (by omega)]; exact h.hL, by rw [k2 _ (by omega)]; exact h.hbL, by rw [k2 _ (by omega)]; exact h.hO, by rw [k2 _ (by omega)]; exact h.hbO, by rw [k2 _ (by omega)]; exact h.hbS, by rw [k2 _ (by omega)]; exact h.hbN, ownsRow_setCell_below h.own (by show E.I < E.B1; omega) _, h.bel.setCell (by show w0.heap.size ≤ E.I; omega) _, by rw [size_setCell]; exact h.sz⟩
  rw [heap_setCell_same _ _ _ _ _ _ h.hI, arr_set]

theorem TMem.setL (h : TMem E n w0 idx low on stk next sv wr) (x k : Nat) : TMem E n w0 idx (upd low x k) on stk next sv (wr.setCell ⟨E.Lw, x, none⟩ (.int .i64 (k : Int))) := by
  obtain ⟨o1, o2, o3, o4, o5, o6, o7, o8, o9⟩ := h.ok
  have k2 : ∀ b, b ≠ E.Lw → (wr.setCell ⟨E.Lw, x, none⟩ (.int .i64 (k : Int))).heap[b]? = wr.heap[b]? := fun b hb => Below.heap_setCell _ _ _ _ hb
  refine ⟨h.ok, by rw [k2 _ (by omega)]; exact h.hI, by rw [k2 _ (by omega)]; exact h.hbI, ?_, by rw [k2 _ (by omega)]; exact h.hbL, by rw [k2 _ (by omega)]; exact h.hO, by rw [k2 _ (by omega)]; exact h.hbO, by rw [k2 _ (by omega)]; exact h.hbS, by rw [k2 _ (by omega)]; exact h.hbN, ownsRow_setCell_below h.own (by show E.Lw < E.B1; omega) _, h.bel.setCell (by show w0.heap.size ≤ E.Lw; omega) _, by rw [size_setCell]; exact h.sz⟩
  rw [heap_setCell_same _ _ _ _ _ _ h.hL, arr_set]

theorem TMem.setN (h : TMem E n w0 idx low on stk next sv wr) (k : Nat) : TMem E n w0 idx low on stk k sv (wr.setCell ⟨E.bN, 0, none⟩ (.int .i64 (k : Int))) := by
  obtain ⟨o1, o2, o3, o4, o5, o6, o7, o8, o9⟩ := h.ok
  have k2 : ∀ b, b ≠ E.bN → (wr.setCell ⟨E.bN, 0, none⟩ (.int .i64 (k : Int))).heap[b]? = wr.heap[b]? := fun b hb => Below.heap_setCell _ _ _ _ hb
  exact ⟨h.ok, by rw [k2 _ (by omega)]; exact h.hI, by rw [k2 _ (by omega)]; exact h.hbI, by rw [k2 _ (by omega)]; exact h.hL, by rw [k2 _ (by omega)]; exact h.hbL, by rw [k2 _ (by omega)]; exact h.hO, by rw [k2 _ (by omega)]; exact h.hbO, by rw [k2 _ (by omega)]; exact h.hbS, one_setCell h.hbN, ownsRow_setCell_below h.own (by show E.bN < E.B1; omega) _, h.bel.setCell (by show w0.heap.size ≤ E.bN; omega) _, by rw [size_setCell]; exact h.sz⟩

theorem TMem.setO (h : TMem E n w0 idx low on stk next sv wr) (x : Nat) (b : Bool) {on' : List Nat} (hs : (seenL n on).set x (.bool b) = seenL n on') : TMem E n w0 idx low on' stk next sv (wr.setCell ⟨E.O, x, none⟩ (.bool b)) := by
  obtain ⟨o1, o2, o3, o4, o5, o6, o7, o8, o9⟩ := h.ok
  have k2 : ∀ c, c ≠ E.O → (wr.setCell ⟨E.O, x, none⟩ (.bool b)).heap[c]? = wr.heap[c]? := fun c hb => Below.heap_setCell _ _ _ _ hb
  refine ⟨h.ok, by rw [k2 _ (by omega)]; exact h.hI, by rw [k2 _ (by omega)]; exact h.hbI, by rw [k2 _ (by omega)]; exact h.hL, by rw [k2 _ (by omega)]; exact h.hbL, ?_, by rw [k2 _ (by omega)]; exact h.hbO, by rw [k2 _ (by omega)]; exact h.hbS, by rw [k2 _ (by omega)]; exact h.hbN, ownsRow_setCell_below h.own (by show E.O < E.B1; omega) _, h.bel.setCell (by show w0.heap.size ≤ E.O; omega) _, by rw [size_setCell]; exact h.sz⟩
  rw [heap_setCell_same _ _ _ _ _ _ h.hO]
  have : (seenL n on).toArray.setIfInBounds x (.bool b) = (seenL n on').toArray := by
    rw [List.setIfInBounds_toArray, hs]
  rw [this]

/-- The stack's box is given another value, whose row is owned. -/
theorem TMem.setS (h : TMem E n w0 idx low on stk next sv wr) {sv' : Value} {stk' : List Nat} (ho : wr.ownsRow E.B1 3 1 sv' stk'.length (ints stk')) : TMem E n w0 idx low on stk' next sv' (wr.setCell ⟨E.bS, 0, none⟩ sv') := by
  obtain ⟨o1, o2, o3, o4, o5, o6, o7, o8, o9⟩ := h.ok
  have k2 : ∀ b, b ≠ E.bS → (wr.setCell ⟨E.bS, 0, none⟩ sv').heap[b]? = wr.heap[b]? := fun b hb => Below.heap_setCell _ _ _ _ hb
  exact ⟨h.ok, by rw [k2 _ (by omega)]; exact h.hI, by rw [k2 _ (by omega)]; exact h.hbI, by rw [k2 _ (by omega)]; exact h.hL, by rw [k2 _ (by omega)]; exact h.hbL, by rw [k2 _ (by omega)]; exact h.hO, by rw [k2 _ (by omega)]; exact h.hbO, one_setCell h.hbS, by rw [k2 _ (by omega)]; exact h.hbN, ownsRow_setCell_below ho (by show E.bS < E.B1; omega) _, h.bel.setCell (by show w0.heap.size ≤ E.bS; omega) _, by rw [size_setCell]; exact h.sz⟩

/-- Behind an append onto the stack, ahead of the store of its value: all but the row. -/
theorem TMem.pushed (h : TMem E n w0 idx low on stk next sv wr) {w4 : World} {v4 : Value} {stk' : List Nat} (hg : wr.grownBy w4 sv.ownBlock) (ho : w4.ownsRow E.B1 3 1 v4 stk'.length (ints stk')) : TMem E n w0 idx low on stk' next v4 (w4.setCell ⟨E.bS, 0, none⟩ v4) := by
  obtain ⟨o1, o2, o3, o4, o5, o6, o7, o8, o9⟩ := h.ok
  have hsz := h.sz
  have hs := hg.size
  have hB : ∀ b, sv.ownBlock = some b → E.B1 ≤ b := fun b hb => (h.own.lt b hb).1
  have k1 : ∀ b, b < E.B1 → w4.heap[b]? = wr.heap[b]? := fun b hb => hg.block b (by omega) (fun e => by have := hB b e.symm; omega)
  have k2 : ∀ b, b ≠ E.bS → (w4.setCell ⟨E.bS, 0, none⟩ v4).heap[b]? = w4.heap[b]? := fun b hb => Below.heap_setCell _ _ _ _ hb
  have k : ∀ b, b < E.B1 → b ≠ E.bS → (w4.setCell ⟨E.bS, 0, none⟩ v4).heap[b]? = wr.heap[b]? := fun b h1 h2 => (k2 b h2).trans (k1 b h1)
  refine ⟨h.ok, by rw [k _ (by omega) (by omega)]; exact h.hI, by rw [k _ (by omega) (by omega)]; exact h.hbI, by rw [k _ (by omega) (by omega)]; exact h.hL, by rw [k _ (by omega) (by omega)]; exact h.hbL, by rw [k _ (by omega) (by omega)]; exact h.hO, by rw [k _ (by omega) (by omega)]; exact h.hbO, one_setCell (by rw [k1 _ (by omega)]; exact h.hbS), by rw [k _ (by omega) (by omega)]; exact h.hbN, ownsRow_setCell_below ho (by show E.bS < E.B1; omega) _, ?_, by rw [size_setCell]; omega⟩
  refine (h.bel.trans ⟨hg.os, hg.tape, hg.output, hg.size, fun b hb => k1 b (by omega)⟩).setCell (by show w0.heap.size ≤ E.bS; omega) _
end

theorem Kept.refl (B1 : Nat) (sv : Value) (w : World) : Kept B1 sv w w := ⟨Nat.le_refl _, fun _ _ _ _ => rfl⟩
theorem Kept.setLow {B1 : Nat} {sv : Value} {w w' : World} (h : Kept B1 sv w w') {a : Addr} (ha : a.block < B1) (v : Value) : Kept B1 sv w (w'.setCell a v) :=
  ⟨by rw [size_setCell]; exact h.1, fun b h1 h2 h3 => (Below.heap_setCell _ _ _ _ (by omega)).trans (h.2 b h1 h2 h3)⟩
theorem Kept.alloc {B1 : Nat} {sv : Value} {w w' : World} (h : Kept B1 sv w w') (o : Obj) : Kept B1 sv w (w'.alloc o) :=
  ⟨by have := h.1; simp; omega, fun b h1 h2 h3 => (Below.heap_alloc _ _ _ (by have := h.1; omega)).trans (h.2 b h1 h2 h3)⟩
theorem Kept.drewN {B1 : Nat} {sv : Value} {w w' : World} (h : Kept B1 sv w w') (k : Nat) : Kept B1 sv w (w'.drewN k) := ⟨h.1, h.2⟩
theorem Kept.grown {B1 : Nat} {sv : Value} {w w' w4 : World} (h : Kept B1 sv w w') (hg : w'.grownBy w4 sv.ownBlock) : Kept B1 sv w w4 :=
  ⟨Nat.le_trans h.1 hg.size, fun b h1 h2 h3 => (hg.block b (by have := h.1; omega) (fun e => h3 e.symm)).trans (h.2 b h1 h2 h3)⟩
end Go.Proofs.Qxb6603343a
