import Derived.Test.Qxb6603343aM7
import Derived.Deep.DeepMust
namespace Go.Proofs.Qxb6603343a
open Go.RowKit
set_option linter.unusedVariables false

theorem TMem.drew {E : Env} {n : Nat} {w0 : World} {idx low : Nat → Nat} {on stk : List Nat} {next : Nat} {sv : Value} {wr : World} (h : TMem E n w0 idx low on stk next sv wr) : TMem E n w0 idx low on stk next sv wr.drew :=
  h.step (Nat.le_refl _) rfl rfl rfl (fun b _ hb => rfl)
theorem Kept.drew {B1 : Nat} {sv : Value} {w w' : World} (h : Kept B1 sv w w') : Kept B1 sv w w'.drew := ⟨h.1, h.2⟩

theorem hide {p : Prop} (h : p) : Hid p := h

theorem v1_mk {E : Env} {n : Nat} {w0 : World} {idx low : Nat → Nat} {on stk : List Nat} {next : Nat} {sv : Value} {x : Nat} {wr wA : World} (hT : TMem E n w0 idx low on stk next sv wA) (hK : Kept E.B1 sv wr wA) (hH : wA.heap[wr.heap.size]? = some (.cells #[.int .i64 0, .int .i64 0] 31 (0, 0))) (hI : E.I < E.B1 ∧ E.Lw < E.B1) (hsz : E.B1 ≤ wr.heap.size) :
    (TMem E n w0 (upd idx x next) (upd low x next) on stk next sv ((wA.setCell ⟨E.I, x, none⟩ (.int .i64 (next : Int))).setCell ⟨E.Lw, x, none⟩ (.int .i64 (next : Int))).drew ∧ ((wA.setCell ⟨E.I, x, none⟩ (.int .i64 (next : Int))).setCell ⟨E.Lw, x, none⟩ (.int .i64 (next : Int))).drew.heap[wr.heap.size]? = some (.cells #[.int .i64 0, .int .i64 0] 31 (0, 0)) ∧ Kept E.B1 sv wr ((wA.setCell ⟨E.I, x, none⟩ (.int .i64 (next : Int))).setCell ⟨E.Lw, x, none⟩ (.int .i64 (next : Int))).drew) := by
  refine ⟨((hT.setI x next).setL x next).drew, ?_, ((hK.setLow hI.1 _).setLow hI.2 _).drew⟩
  show ((wA.setCell ⟨E.I, x, none⟩ (.int .i64 (next : Int))).setCell ⟨E.Lw, x, none⟩ (.int .i64 (next : Int))).heap[wr.heap.size]? = _
  rw [Below.heap_setCell _ _ _ _ (by show wr.heap.size ≠ E.Lw; omega), Below.heap_setCell _ _ _ _ (by show wr.heap.size ≠ E.I; omega)]
  exact hH

theorem TMem.setHigh {E : Env} {n : Nat} {w0 : World} {idx low : Nat → Nat} {on stk : List Nat} {next : Nat} {sv : Value} {wr : World} (h : TMem E n w0 idx low on stk next sv wr) {a : Addr} (ha : E.B1 ≤ a.block) (hs : sv.ownBlock ≠ some a.block) (v : Value) : TMem E n w0 idx low on stk next sv (wr.setCell a v) :=
  h.step (by rw [size_setCell]; exact Nat.le_refl _) rfl rfl rfl (fun b hb _ => Below.heap_setCell _ _ _ _ (fun e => by
    rcases hb with hb | hb
    · omega
    · rw [e] at hb; exact hs hb))
theorem Kept.setNew {B1 : Nat} {sv : Value} {w w' : World} (h : Kept B1 sv w w') {a : Addr} (ha : w.heap.size ≤ a.block) (v : Value) : Kept B1 sv w (w'.setCell a v) :=
  ⟨by rw [size_setCell]; exact h.1, fun b h1 h2 h3 => (Below.heap_setCell _ _ _ _ (by omega)).trans (h.2 b h1 h2 h3)⟩

/-- What stands behind an append onto the stack, ahead of the store. -/
theorem TMem.behind {E : Env} {n : Nat} {w0 : World} {idx low : Nat → Nat} {on stk : List Nat} {next : Nat} {sv : Value} {wr w4 : World} (h : TMem E n w0 idx low on stk next sv wr) (hg : wr.grownBy w4 sv.ownBlock) : ∀ b, b < E.B1 → w4.heap[b]? = wr.heap[b]? := fun b hb =>
  hg.block b (by have := h.sz; omega) (fun e => by have := (h.own.lt b e.symm).1; omega)

structure VisitOut (E : Env) (n : Nat) (w0 : World) (idx low : Nat → Nat) (on stk : List Nat) (next : Nat) (sv : Value) (x : Nat) (wr : World) (e : Ending) (w' : World) : Prop where
  res : e = .returned (.agg #[.int .i64 (x : Int), .int .i64 0])
  mem : ∃ sv', TMem E n w0 (upd idx x next) (upd low x next) (on ++ [x]) (stk ++ [x]) (next + 1) sv' w' ∧ (sv'.ownBlock = sv.ownBlock ∨ ∃ b, sv'.ownBlock = some b ∧ wr.heap.size ≤ b)
  kept : Kept E.B1 sv wr w'

/-- Behind the two stores of the region that draws. -/
def V1 (E : Env) (n : Nat) (w0 : World) (idx low : Nat → Nat) (on stk : List Nat) (next : Nat) (sv : Value) (x : Nat) (wr : World) (wc : World) : Prop :=
  TMem E n w0 (upd idx x next) (upd low x next) on stk next sv wc ∧ wc.heap[wr.heap.size]? = some (.cells #[.int .i64 0, .int .i64 0] 31 (0, 0)) ∧ Kept E.B1 sv wr wc

theorem visit_facts {E : Env} {n : Nat} {w0 : World} {idx low : Nat → Nat} {on stk : List Nat} {next : Nat} {sv : Value} {wN w4 : World} {o : Obj} {R x : Nat} (h : TMem E n w0 idx low on stk next sv wN) (hR : wN.heap[R]? = some (.cells #[.int .i64 0, .int .i64 0] 31 (0, 0))) (hs : sv.ownBlock ≠ some R) (hB : E.B1 ≤ R) (hx : x < n) (hg : (wN.alloc o).grownBy w4 sv.ownBlock) :
    (w4.cell? ⟨E.bS, 0, none⟩ = some sv ∧ w4.frozen? ⟨E.bS, 0, none⟩ = false) ∧ w4.cell? ⟨E.bO, 0, none⟩ = some (.slice (some ⟨E.O, 0, none⟩) n n) ∧ (w4.cell? ⟨E.O, x, none⟩ = some (.bool (decide (x ∈ on))) ∧ w4.frozen? ⟨E.O, x, none⟩ = false) ∧
    w4.cell? ⟨R, 0, none⟩ = some (.int .i64 0) ∧ w4.cell? ⟨R, 1, none⟩ = some (.int .i64 0) ∧ w4.frozen? ⟨R, 0, none⟩ = false ∧ w4.frozen? ⟨R, 1, none⟩ = false := by
  obtain ⟨o1, o2, o3, o4, o5, o6, o7, o8, o9⟩ := h.ok
  have ha := h.alloc o
  have k := ha.behind hg
  have hbS := ha.hbS
  have hbO := ha.hbO
  have hO := ha.hO
  rw [← k _ (by omega)] at hbS hbO hO
  have hRs := lt_of_block hR
  have hR4 : w4.heap[R]? = some (.cells #[.int .i64 0, .int .i64 0] 31 (0, 0)) := by
    rw [hg.block R (by simp; omega) (fun e => hs e.symm), Below.heap_alloc _ _ _ hRs]; exact hR
  refine ⟨⟨by rw [cell_row hbS]; rfl, frozen_row hbS 0⟩, by rw [cell_row hbO]; rfl, ⟨by rw [cell_row hO, List.getElem?_toArray, seenL_get hx], frozen_row hO x⟩, by rw [cell_row hR4]; rfl, by rw [cell_row hR4]; rfl, frozen_row hR4 0, frozen_row hR4 1⟩

theorem visit_end {E : Env} {n : Nat} {w0 : World} {idx low idx0 low0 : Nat → Nat} {on stk : List Nat} {next : Nat} {sv v4 : Value} {wr wN w4 : World} {o : Obj} {x : Nat} (h : TMem E n w0 idx low on stk (next + 1) sv wN) (hK : Kept E.B1 sv wr wN) (hs : sv.ownBlock ≠ some wr.heap.size) (hB : E.B1 ≤ wr.heap.size)
    (ho : w4.ownsRow E.B1 3 1 v4 (stk.length + 1) (ints stk ++ [.int .i64 (x : Int)])) (hg : (wN.alloc o).grownBy w4 sv.ownBlock) (hw : v4.ownBlock = sv.ownBlock ∨ v4.ownBlock = some (wN.alloc o).heap.size) (hi : idx = upd idx0 x next) (hl : low = upd low0 x next) :
    VisitOut E n w0 idx0 low0 on stk next sv x wr (.returned (.agg #[.int .i64 (x : Int), .int .i64 0]))
      ((((w4.setCell ⟨E.bS, 0, none⟩ v4).setCell ⟨E.O, x, none⟩ (.bool true)).setCell ⟨wr.heap.size, 0, none⟩ (.int .i64 (x : Int))).setCell ⟨wr.heap.size, 1, none⟩ (.int .i64 0)) := by
  subst hi hl
  obtain ⟨o1, o2, o3, o4, o5, o6, o7, o8, o9⟩ := h.ok
  have hK1 := hK.1
  have e : (stk ++ [x]).length = stk.length + 1 := by simp
  have e2 : ints (stk ++ [x]) = ints stk ++ [.int .i64 (x : Int)] := by simp [ints]
  rw [← e, ← e2] at ho
  have t1 := (h.alloc o).pushed hg ho
  have t2 := t1.setO x true (on' := on ++ [x]) seenL_set
  have hv : v4.ownBlock ≠ some wr.heap.size := by
    rcases hw with a | a
    · rw [a]; exact hs
    · rw [a]
      intro c
      have := Option.some.inj c
      simp at this
      omega
  refine ⟨rfl, ⟨v4, ?_, ?_⟩, ?_⟩
  · exact (t2.setHigh (a := ⟨wr.heap.size, 0, none⟩) hB hv _).setHigh (a := ⟨wr.heap.size, 1, none⟩) hB hv _
  · rcases hw with a | a
    · exact .inl a
    · exact .inr ⟨_, a, by simp; omega⟩
  · exact (((((hK.alloc o).grown hg).setLow (a := ⟨E.bS, 0, none⟩) (by show E.bS < E.B1; omega) _).setLow (a := ⟨E.O, x, none⟩) (by show E.O < E.B1; omega) _).setNew (a := ⟨wr.heap.size, 0, none⟩) (Nat.le_refl _) _).setNew (a := ⟨wr.heap.size, 1, none⟩) (Nat.le_refl _) _

set_option maxRecDepth 20000 in
set_option maxHeartbeats 2000000 in
theorem visit19 {E : Env} {n : Nat} {w0 : World} {idx low : Nat → Nat} {on stk : List Nat} {next : Nat} {sv : Value} {wr : World} (h : TMem E n w0 idx low on stk next sv wr) {x : Nat} (hx : x < n) (hn : n ≤ 1024) (hnx : next ≤ 4096) (hsl : stk.length ≤ n) :
    Calls Try.prog 19 #[.int .i64 (x : Int), .pointer (some ⟨E.bN, 0, none⟩), .pointer (some ⟨E.bI, 0, none⟩), .pointer (some ⟨E.bL, 0, none⟩), .pointer (some ⟨E.bS, 0, none⟩), .pointer (some ⟨E.bO, 0, none⟩)] wr
      fun e w' => VisitOut E n w0 idx low on stk next sv x wr e w' := by
  obtain ⟨i3, hi3, hy0, hy1, hy2⟩ := info_parts Try.info3
  have H : Hid (TMem E n w0 idx low on stk next sv wr) := h
  clear h
  go_enter Try.func19, Try.ntmps19
  go_upto_region 1 with fail
  go_cut [7] (fun s wc => s = .pointer (some ⟨wr.heap.size, 0, none⟩) ∧ V1 E n w0 idx low on stk next sv x wr wc)
  case first =>
    have h := H.out.alloc (.cells #[.int .i64 0, .int .i64 0] 31)
    obtain ⟨o1, o2, o3, o4, o5, o6, o7, o8, o9⟩ := H.out.ok
    have hsz := H.out.sz
    have HK : Hid (Kept E.B1 sv wr (wr.alloc (.cells #[.int .i64 0, .int .i64 0] 31))) := (Kept.refl _ _ _).alloc _
    have HH : Hid ((wr.alloc (.cells #[.int .i64 0, .int .i64 0] 31)).heap[wr.heap.size]? = some (.cells #[.int .i64 0, .int .i64 0] 31 (0, 0))) := heap_alloc_new wr _
    generalize wr.alloc (.cells #[.int .i64 0, .int .i64 0] 31) = wA at *
    have cI := h.cI hx
    have fI := h.fI x
    have cbI := h.cbI
    have cL := h.cL hx
    have fL := h.fL x
    have cbL := h.cbL
    have cbN := h.cbN
    have nIbL : E.I ≠ E.bL := by omega
    have nbLI : E.bL ≠ E.I := by omega
    have nIbN : E.I ≠ E.bN := by omega
    have nbNI : E.bN ≠ E.I := by omega
    have nIbI : E.I ≠ E.bI := by omega
    have nbII : E.bI ≠ E.I := by omega
    have nILw : E.I ≠ E.Lw := by omega
    have nLwbI : E.Lw ≠ E.bI := by omega
    have nbILw : E.bI ≠ E.Lw := by omega
    have nLwbN : E.Lw ≠ E.bN := by omega
    have nbNLw : E.bN ≠ E.Lw := by omega
    have nLwbL : E.Lw ≠ E.bL := by omega
    have nbLLw : E.bL ≠ E.Lw := by omega
    have nLwI : E.Lw ≠ E.I := by omega
    have HT : Hid (TMem E n w0 idx low on stk next sv wA) := h
    have HI : Hid (E.I < E.B1 ∧ E.Lw < E.B1) := by exact ⟨by omega, by omega⟩
    have HZ : Hid (E.B1 ≤ wr.heap.size) := hsz
    clear h H o1 o2 o3 o4 o5 o6 o7 o8 o9 hsz
    go_region
    go_wp2
    go_meet
    case rel => exact ⟨rfl, v1_mk HT.out HK.out HH.out HI.out HZ.out⟩
  case rest =>
    obtain ⟨rfl, h1, h2, h3⟩ := hcut
    have hszr := H.out.sz
    have hsvR : sv.ownBlock ≠ some wr.heap.size := fun e => by have := (H.out.own.lt _ e).2; omega
    have HSR : Hid (sv.ownBlock ≠ some wr.heap.size) := hsvR
    clear H hsvR
    obtain ⟨o1, o2, o3, o4, o5, o6, o7, o8, o9⟩ := h1.ok
    have hsz := h3.1
    have cbN := h1.cbN
    have fbN := h1.fbN
    have hN := h1.setN (next + 1)
    have hN2 : ((next : Nat) : Int) + 1 = ((next + 1 : Nat) : Int) := by omega
    have cbS := h1.cbS
    have nNS : E.bN ≠ E.bS := by omega
    have nSN : E.bS ≠ E.bN := by omega
    have nSbO : E.bS ≠ E.bO := by omega
    have nbOS : E.bO ≠ E.bS := by omega
    have nSO : E.bS ≠ E.O := by omega
    have nOS : E.O ≠ E.bS := by omega
    have nOR : E.O ≠ wr.heap.size := by omega
    have nRO : wr.heap.size ≠ E.O := by omega
    have nSR : E.bS ≠ wr.heap.size := by omega
    have nRS : wr.heap.size ≠ E.bS := by omega
    have H1 : Hid (TMem E n w0 (upd idx x next) (upd low x next) on stk (next + 1) sv (wc.setCell ⟨E.bN, 0, none⟩ (.int .i64 ((next + 1 : Nat) : Int)))) := hN
    rw [← hN2] at H1
    have hown := H1.out.own
    have HK : Hid (Kept E.B1 sv wr (wc.setCell ⟨E.bN, 0, none⟩ (.int .i64 ((next : Int) + 1)))) := h3.setLow (by show E.bN < E.B1; omega) _
    have HR : Hid ((wc.setCell ⟨E.bN, 0, none⟩ (.int .i64 ((next : Int) + 1))).heap[wr.heap.size]? = some (.cells #[.int .i64 0, .int .i64 0] 31 (0, 0))) := by
      show (wc.setCell ⟨E.bN, 0, none⟩ (.int .i64 ((next : Int) + 1))).heap[wr.heap.size]? = _
      rw [Below.heap_setCell _ _ _ _ (by show wr.heap.size ≠ E.bN; omega)]; exact h2
    have hszc : E.B1 ≤ wc.heap.size := h1.sz
    have HO : Hid (E.ok w0.heap.size) := h1.ok
    clear hN hN2 h1 h2 h3 o1 o2 o3 o4 o5 o6 o7 o8 o9 hsz
    have HSZ : Hid (wr.heap.size ≤ wc.heap.size) := by have := HK.out.1; rw [size_setCell] at this; exact this
    go_wp2_with (at_builtin; refine wpList_append_where _ rfl (.tmp 18) (.tmp 20) 26 rfl E.B1 3 i3 (.int .i64 0) 1 8 Try.underlying26 hi3 hy0 hy1 hy2 rfl (by decide) sv _ _ rfl (hown.alloc _) ⟨wc.heap.size, 0, none⟩ 1 1 [.int .i64 (x : Int)] (by decide) rfl rfl (cell_one_at _ _ _ _ (size_setCell _ _ _).symm) (one_int _) (by unfold maxLen; omega) (by omega) (by simp; omega) ?_; intro v4 w4 hown4 hgrow4 hwh4; obtain ⟨sa, sn, sc, hsv⟩ := own_slice hown4; subst hsv; obtain ⟨⟨p1, p2⟩, p3, ⟨p4, p5⟩, p6, p7, p8, p9⟩ := visit_facts H1.out HR.out HSR.out hszr hx hgrow4; have Hown4 := hide hown4; have Hgrow4 := hide hgrow4; have Hwh4 := hide hwh4; clear hown4 hgrow4 hwh4)
    exact bodyPost_ret (v := .agg #[.int .i64 (x : Int), .int .i64 0]) (by simp [results, Try.results19, go_sem, p6, p7]) rfl (visit_end H1.out HK.out HSR.out hszr Hown4.out Hgrow4.out Hwh4.out rfl rfl)
end Go.Proofs.Qxb6603343a
