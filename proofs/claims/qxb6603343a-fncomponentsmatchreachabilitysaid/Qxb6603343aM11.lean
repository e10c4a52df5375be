import Derived.Test.Qxb6603343aM10
namespace Go.Proofs.Qxb6603343a
open Go.RowKit
set_option linter.unusedVariables false

theorem Try.info31 : (Try.prog.info? 31).map (fun i => (i.zero, i.size, i.bytes)) = some (some (.agg #[.int .i64 0, .int .i64 0]), 2, 16) := by kernel_rfl

structure CompOut (G : List (List Nat)) (w : World) (e : Ending) (w' : World) : Prop where
  res : ∃ v L, e = .returned v ∧ IsComps G L ∧ GraphN w' w'.heap.size v L
  bel : Below w.heap.size w w'

theorem own_whole {w : World} {B : Nat} {e : TypeId} {g n : Nat} {xs : List Value} (h : w.ownsRow B e 1 (.slice (some ⟨g, 0, none⟩) n n) n xs) : w.heap[g]? = some (.cells xs.toArray e (0, 0)) := by
  rcases h.2 with ⟨h', _⟩ | ⟨g', cap', cur, h', hb, hg, hnc, hcm, hcs, htake⟩
  · simp at h'
  · simp only [Value.slice.injEq, Option.some.injEq, Addr.mk.injEq, and_true, true_and] at h'
    obtain ⟨rfl, rfl⟩ := h'
    rw [hg]
    have : cur = xs.toArray := by
      rw [← htake, List.take_of_length_le (by simp [hcs])]
    rw [this]

theorem made_zero (n : Nat) : (madeCells (Value.int .i64 0).cells (n * 1)).toList.toArray = arr (fun _ => 0) n := by
  have : (Value.int .i64 0).cells = #[.int .i64 0] := rfl
  rw [this, toList_madeCells_one]
  apply Array.ext
  · simp [arr]
  · intro i h1 h2
    simp [arr]

def initEnv (w w1 w2 w3 : World) : Env := ⟨w.heap.size, w1.heap.size, w1.heap.size + 1, w2.heap.size, w2.heap.size + 1, w3.heap.size, w3.heap.size + 1, w3.heap.size + 1 + 1, w3.heap.size + 1 + 1 + 1⟩

theorem init_mem {n : Nat} {w w1 w2 w3 : World} (h1 : w1.ownsRow w.heap.size 3 1 (.slice (some ⟨w.heap.size, 0, none⟩) n n) n (madeCells (Value.int .i64 0).cells (n * 1)).toList) (g1 : w.grownBy w1 none)
    (h2 : w2.ownsRow (w1.heap.size + 1) 3 1 (.slice (some ⟨w1.heap.size + 1, 0, none⟩) n n) n (madeCells (Value.int .i64 0).cells (n * 1)).toList) (g2 : (w1.alloc (.cells #[.slice (some ⟨w.heap.size, 0, none⟩) n n] 26)).grownBy w2 none)
    (h3 : w3.ownsRow (w2.heap.size + 1) 4 1 (.slice (some ⟨w2.heap.size + 1, 0, none⟩) n n) n (madeCells (Value.bool false).cells (n * 1)).toList) (g3 : (w2.alloc (.cells #[.slice (some ⟨w1.heap.size + 1, 0, none⟩) n n] 26)).grownBy w3 none) :
    RMem (initEnv w w1 w2 w3) n w st0 (.slice none 0 0) (.slice none 0 0) (((w3.alloc (.cells #[.slice (some ⟨w2.heap.size + 1, 0, none⟩) n n] 28)).alloc (.cells #[.slice none 0 0] 26)).alloc (.cells #[.int .i64 1] 3)) := by
  have a1 : w.heap.size < w1.heap.size := (h1.lt _ rfl).2
  have a2 : w1.heap.size + 1 < w2.heap.size := (h2.lt _ rfl).2
  have a3 : w2.heap.size + 1 < w3.heap.size := (h3.lt _ rfl).2
  have s1 : ∀ b, b < w1.heap.size → w2.heap[b]? = w1.heap[b]? := fun b hb => by
    rw [g2.block b (by simp; omega) (by simp), Below.heap_alloc _ _ _ hb]
  have s2 : ∀ b, b < w2.heap.size → w3.heap[b]? = w2.heap[b]? := fun b hb => by
    rw [g3.block b (by simp; omega) (by simp), Below.heap_alloc _ _ _ hb]
  have s3 : ∀ b, b < w3.heap.size → (((w3.alloc (.cells #[.slice (some ⟨w2.heap.size + 1, 0, none⟩) n n] 28)).alloc (.cells #[.slice none 0 0] 26)).alloc (.cells #[.int .i64 1] 3)).heap[b]? = w3.heap[b]? := fun b hb => by
    rw [Below.heap_alloc _ _ _ (by simp; omega), Below.heap_alloc _ _ _ (by simp; omega), Below.heap_alloc _ _ _ hb]
  have e1 := own_whole h1
  have e2 := own_whole h2
  have e3 := own_whole h3
  rw [made_zero] at e1 e2
  rw [made_false] at e3
  have x1 : w2.heap[w1.heap.size]? = some (.cells #[.slice (some ⟨w.heap.size, 0, none⟩) n n] 26 (0, 0)) := by
    rw [g2.block _ (by simp) (by simp)]; exact heap_alloc_new w1 _
  have x2 : w3.heap[w2.heap.size]? = some (.cells #[.slice (some ⟨w1.heap.size + 1, 0, none⟩) n n] 26 (0, 0)) := by
    rw [g3.block _ (by simp) (by simp)]; exact heap_alloc_new w2 _
  have z1 : (w3.alloc (.cells #[.slice (some ⟨w2.heap.size + 1, 0, none⟩) n n] 28)).heap.size = w3.heap.size + 1 := by simp
  have z2 : ((w3.alloc (.cells #[.slice (some ⟨w2.heap.size + 1, 0, none⟩) n n] 28)).alloc (.cells #[.slice none 0 0] 26)).heap.size = w3.heap.size + 1 + 1 := by simp
  have y1 : (((w3.alloc (.cells #[.slice (some ⟨w2.heap.size + 1, 0, none⟩) n n] 28)).alloc (.cells #[.slice none 0 0] 26)).alloc (.cells #[.int .i64 1] 3)).heap[w3.heap.size]? = some (.cells #[.slice (some ⟨w2.heap.size + 1, 0, none⟩) n n] 28 (0, 0)) := by
    rw [Below.heap_alloc _ _ _ (by simp; omega), Below.heap_alloc _ _ _ (by simp)]; exact heap_alloc_new w3 _
  have y2 : (((w3.alloc (.cells #[.slice (some ⟨w2.heap.size + 1, 0, none⟩) n n] 28)).alloc (.cells #[.slice none 0 0] 26)).alloc (.cells #[.int .i64 1] 3)).heap[w3.heap.size + 1]? = some (.cells #[.slice none 0 0] 26 (0, 0)) := by
    rw [Below.heap_alloc _ _ _ (by simp), ← z1]; exact heap_alloc_new _ _
  have y3 : (((w3.alloc (.cells #[.slice (some ⟨w2.heap.size + 1, 0, none⟩) n n] 28)).alloc (.cells #[.slice none 0 0] 26)).alloc (.cells #[.int .i64 1] 3)).heap[w3.heap.size + 1 + 1]? = some (.cells #[.int .i64 1] 3 (0, 0)) := by
    rw [← z2]; exact heap_alloc_new _ _
  have hb : Below w.heap.size w (((w3.alloc (.cells #[.slice (some ⟨w2.heap.size + 1, 0, none⟩) n n] 28)).alloc (.cells #[.slice none 0 0] 26)).alloc (.cells #[.int .i64 1] 3)) := by
    refine ⟨?_, ?_, ?_, by simp; omega, fun b hb => ?_⟩
    · exact g3.os.trans (g2.os.trans g1.os)
    · exact g3.tape.trans (g2.tape.trans g1.tape)
    · exact g3.output.trans (g2.output.trans g1.output)
    · rw [s3 b (by omega), s2 b (by omega), s1 b (by omega), g1.block b hb (by simp)]
  refine ⟨⟨⟨Nat.le_refl _, a1, Nat.lt_succ_self _, by show w1.heap.size + 1 < w2.heap.size; omega, Nat.lt_succ_self _, by show w2.heap.size + 1 < w3.heap.size; omega, Nat.lt_succ_self _, Nat.lt_succ_self _, Nat.lt_succ_self _⟩, ?_, ?_, ?_, ?_, ?_, y1, y2, y3, World.ownsRow_nil _ _ _ _, hb, ?_⟩, ⟨[], World.ownsRow_nil _ _ _ _, RowsAt.nil _ _, fun rv h => (nomatch h), fun rv h => (nomatch h)⟩⟩
  · rw [show (initEnv w w1 w2 w3).I = w.heap.size from rfl, s3 _ (by omega), s2 _ (by omega), s1 _ (by omega)]; exact e1
  · rw [show (initEnv w w1 w2 w3).bI = w1.heap.size from rfl, s3 _ (by omega), s2 _ (by omega)]; exact x1
  · rw [show (initEnv w w1 w2 w3).Lw = w1.heap.size + 1 from rfl, s3 _ (by omega), s2 _ (by omega)]; exact e2
  · rw [show (initEnv w w1 w2 w3).bL = w2.heap.size from rfl, s3 _ (by omega)]; exact x2
  · rw [show (initEnv w w1 w2 w3).O = w2.heap.size + 1 from rfl, s3 _ (by omega)]; exact e3
  · show w3.heap.size + 1 + 1 + 1 ≤ _
    simp

def RootRel (G : List (List Nat)) (E : Env) (n : Nat) (w : World) (cv : Value) (i : Nat) (wr : World) : Prop :=
  ∃ st sv, TInv G st ∧ Room G st ∧ st.nodes = [] ∧ RMem E n w st sv cv wr ∧ ∀ v, v < i → st.idx v ≠ 0

end Go.Proofs.Qxb6603343a
